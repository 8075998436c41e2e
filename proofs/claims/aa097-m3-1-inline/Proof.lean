import JvmDerived
import JvmDerived.Pilot.@@N@@Statement
import JvmDerived.Pilot.@@N@@Code
set_option linter.unusedVariables false
set_option linter.unusedSimpArgs false
namespace Jvm.Pilot.@@N@@
open Jvm Jvm.ClassFile Sem Op Lib Jvm.Free Jvm.Stand Jvm.LawKit Jvm.RoadKit Bundle Jvm.Pilot.@@N@@.Jvm.D
theorem own_go {tb : Tables} {e : Env} {below : List Frame} {A B : State} {P : State → Outcome → Prop} (h : ∀ t, Steps tb e below B t → Steps tb e below A t) (k : ∃ s₂ o, Steps tb e below B s₂ ∧ P s₂ o) : ∃ s₂ o, Steps tb e below A s₂ ∧ P s₂ o := by
  obtain ⟨s₂, o, h1, h2⟩ := k; exact ⟨s₂, o, h _ h1, h2⟩
theorem own_W0 {n W : Nat} (h : 2 * 0 + n = W) : 2 * 0 + n ≤ W := Nat.le_of_eq h
abbrev own_D (b : ByteArray) (L : List (Nat × Instr × Nat)) : Prop := ∀ x ∈ L, decode b x.1 = .ok (x.2.1, x.2.2)
theorem od {c : Code} {b : ByteArray} {L : List (Nat × Instr × Nat)} (h : c.code = b) (D : own_D b L) (k : Nat) {p : Nat} {i : Instr} {n : Nat} (e : L[k]? = some (p, i, n)) : decode c.code p = .ok (i, n) := by
  rw [h]; exact D (p, i, n) (List.mem_of_getElem? e)
theorem own_rV {p : Program} {l : Launch} {e : Env} {R : Room} {s : State} {m : MethodId} {A : Array Value} {below : List Frame} {meth : Method} {c : Code} {s₁ T : State} {locs : List Loc} {cells slots : Nat} {y : MethodName} {S : Spec} {code : ByteArray} {ml : Nat} (Bd : BodyLoose p l y S code ml none e s m A below meth c s₁) (X : Stand p l e R s m A below meth c T locs cells slots) (hx : p.tables.exec = Jvm.exec) {pc : Nat} {Ls : Array Slot} (D : decode c.code pc = .ok (.return_, 1)) {Qx : Option Value → Heap → List Loc → Prop} (hq : Qx none T.heap locs) (h1 : cells ≤ R.cells ∧ slots ≤ R.slots) :
    ∃ s₂ o, Steps p.tables e below (T.setTop (mkF m pc Ls [])) s₂ ∧ s₂.status = .running ∧ Ended s₂ below o ∧ ∃ v L, o = .returned v ∧ Qx v s₂.heap L ∧ FrameEnd s o s₂ L R.cells R.slots := by
  obtain ⟨fs, hr, hrun, hended, hW, hsame⟩ := X.leave (v := none) (fun _ => rfl)
  exact ⟨_, _, X.returnOut hx Bd.returns D hr, hrun, hended, _, _, rfl, hq, ⟨_, rfl⟩, hW, hsame.mono h1.1 h1.2⟩
theorem own_rR {p : Program} {l : Launch} {e : Env} {R : Room} {s : State} {m : MethodId} {A : Array Value} {below : List Frame} {meth : Method} {c : Code} {s₁ T : State} {locs : List Loc} {cells slots : Nat} {y : MethodName} {S : Spec} {code : ByteArray} {ml : Nat} {t : FieldType} (Bd : BodyLoose p l y S code ml (some t) e s m A below meth c s₁) (X : Stand p l e R s m A below meth c T locs cells slots) {f : JFrame} {w : Value} (H : ∀ fs, (∀ (f : JFrame) (acts : List Action), f.method = m → f.locked = none → f.entered = [] → (doReturn e (T.setTop f) acts (some w)).1 = T.setFrames fs) → Steps p.tables e below (T.setTop f) (T.setFrames fs)) {Qx : Option Value → Heap → List Loc → Prop} (hq : Qx (some w) T.heap locs) (h1 : cells ≤ R.cells ∧ slots ≤ R.slots) :
    ∃ s₂ o, Steps p.tables e below (T.setTop f) s₂ ∧ s₂.status = .running ∧ Ended s₂ below o ∧ ∃ v L, o = .returned v ∧ Qx v s₂.heap L ∧ FrameEnd s o s₂ L R.cells R.slots := by
  obtain ⟨fs, hr, hrun, hended, hW, hsame⟩ := X.leave (v := some w) (fun h => by rw [Bd.returns] at h; cases h)
  exact ⟨_, _, H fs hr, hrun, hended, _, _, rfl, hq, ⟨_, rfl⟩, hW, hsame.mono h1.1 h1.2⟩
theorem own_rI {p : Program} {l : Launch} {e : Env} {R : Room} {s : State} {m : MethodId} {A : Array Value} {below : List Frame} {meth : Method} {c : Code} {s₁ T : State} {locs : List Loc} {cells slots : Nat} {y : MethodName} {S : Spec} {code : ByteArray} {ml : Nat} (Bd : BodyLoose p l y S code ml (some .int) e s m A below meth c s₁) (X : Stand p l e R s m A below meth c T locs cells slots) (hx : p.tables.exec = Jvm.exec) {pc : Nat} {Ls : Array Slot} {z : Int32} {rest : List Value} (D : decode c.code pc = .ok (.ireturn, 1)) {Qx : Option Value → Heap → List Loc → Prop} (hq : Qx (some (.int z)) T.heap locs) (h1 : cells ≤ R.cells ∧ slots ≤ R.slots) :
    ∃ s₂ o, Steps p.tables e below (T.setTop (mkF m pc Ls (.int z :: rest))) s₂ ∧ s₂.status = .running ∧ Ended s₂ below o ∧ ∃ v L, o = .returned v ∧ Qx v s₂.heap L ∧ FrameEnd s o s₂ L R.cells R.slots :=
  own_rR Bd X (fun fs hr => retOut X hx Bd.returns rfl (Or.inl ⟨rfl, Or.inl rfl, _, rfl⟩) D hr) hq h1
theorem own_rA {p : Program} {l : Launch} {e : Env} {R : Room} {s : State} {m : MethodId} {A : Array Value} {below : List Frame} {meth : Method} {c : Code} {s₁ T : State} {locs : List Loc} {cells slots : Nat} {y : MethodName} {S : Spec} {code : ByteArray} {ml : Nat} {t : FieldType} {w : Value} (Bd : BodyLoose p l y S code ml (some t) e s m A below meth c s₁) (X : Stand p l e R s m A below meth c T locs cells slots) (hx : p.tables.exec = Jvm.exec) (hn : narrow t w = w) (ht : t.isReference = true) (hf : w.isRef = true) {pc : Nat} {Ls : Array Slot} {rest : List Value} (D : decode c.code pc = .ok (.areturn, 1)) {Qx : Option Value → Heap → List Loc → Prop} (hq : Qx (some w) T.heap locs) (h1 : cells ≤ R.cells ∧ slots ≤ R.slots) :
    ∃ s₂ o, Steps p.tables e below (T.setTop (mkF m pc Ls (w :: rest))) s₂ ∧ s₂.status = .running ∧ Ended s₂ below o ∧ ∃ v L, o = .returned v ∧ Qx v s₂.heap L ∧ FrameEnd s o s₂ L R.cells R.slots :=
  own_rR Bd X (fun fs hr => retOut X hx Bd.returns hn (Or.inr (Or.inr (Or.inr (Or.inr ⟨rfl, ht, hf⟩)))) D hr) hq h1
theorem own_rN {p : Program} {l : Launch} {e : Env} {R : Room} {s : State} {m : MethodId} {A : Array Value} {below : List Frame} {meth : Method} {c : Code} {s₁ T : State} {locs : List Loc} {cells slots : Nat} {y : MethodName} {S : Spec} {code : ByteArray} {ml : Nat} {t : FieldType} {w : Int32} (Bd : BodyLoose p l y S code ml (some t) e s m A below meth c s₁) (X : Stand p l e R s m A below meth c T locs cells slots) (hx : p.tables.exec = Jvm.exec) (ht : t = .boolean ∨ t = .byte ∨ t = .char ∨ t = .short) {pc : Nat} {Ls : Array Slot} {z : Int32} (hw : nar t z = w) {rest : List Value} (D : decode c.code pc = .ok (.ireturn, 1)) {Qx : Option Value → Heap → List Loc → Prop} (hq : Qx (some (.int w)) T.heap locs) (h1 : cells ≤ R.cells ∧ slots ≤ R.slots) :
    ∃ s₂ o, Steps p.tables e below (T.setTop (mkF m pc Ls (.int z :: rest))) s₂ ∧ s₂.status = .running ∧ Ended s₂ below o ∧ ∃ v L, o = .returned v ∧ Qx v s₂.heap L ∧ FrameEnd s o s₂ L R.cells R.slots := by
  subst hw
  exact own_rR Bd X (fun fs hr => retN X hx Bd.returns ht D hr) hq h1
abbrev own_R (a b c d : Nat) : Room := { frames := a, cells := b, slots := c, locals := d }
abbrev own_HW (a0 : Array Value) (Z : State) : Prop := ∀ d ∈ tables_1, d.before a0 Z = true
abbrev own_M (l : Launch) (Z : State) (y : MethodName) (code : ByteArray) (ml : Nat) (ret : Option FieldType) (ws : List Jvm.Cond) (R : Room) (A : Array Value) (h0 : Heap) (Qx : Option Value → Heap → List Loc → Prop) : Prop :=
  MetFree l y (head1 (Jvm.Cond.code y code ml ret :: ws) R) (fun a U => a = A ∧ Z.Warmed39 U.vm ∧ U.heap = h0) (fun _ _ _ _ _ => True) (fun _ U o U' => ∃ v L, o = .returned v ∧ Qx v U'.heap L ∧ FrameEnd U o U' L R.cells R.slots)
theorem own_b {l : Launch} {Z : State} {y : MethodName} {code : ByteArray} {ml : Nat} {ret : Option FieldType} {ws : List Jvm.Cond} {R : Room} {A : Array Value} {h0 : Heap} {Qx : Option Value → Heap → List Loc → Prop} {own : String} (ho : y.cls = own) (hx : plainFor y = true) {fr : MethodId → JFrame} (ef : ∀ m, entryFrame m A ml = fr m) (n0 : Nat)
    (body : ∀ p e s m below meth c s₁, BodyLoose p l y (head1 (Jvm.Cond.code y code ml ret :: ws) R) code ml ret e s m A below meth c s₁ → Z.Warmed39 s.vm → p.tables.exec = Jvm.exec → c.code = code → c.maxLocals = ml → s.vm.findClass own = some m.cls → Stand p l e R s m A below meth c s₁ [] 0 0 → s₁.heap = h0 → Fr n0 [] → ∃ s₂ o, Steps p.tables e below (s₁.setTop (fr m)) s₂ ∧ s₂.status = .running ∧ Ended s₂ below o ∧ ∃ v L, o = .returned v ∧ Qx v s₂.heap L ∧ FrameEnd s o s₂ L R.cells R.slots) : own_M l Z y code ml ret ws R A h0 Qx := by
  refine MetFree.of_bodySF hx hisR ?_
  intro p e s m args below meth c s₁ Bd hml0 hP hK
  obtain ⟨rfl, hZ, hh⟩ := hP
  have k := body p e s m below meth c s₁ Bd hZ Bd.exec Bd.bytes hml0 (by rw [← ho]; exact findClass_of_methodNamed Bd.named) (Stand.of_body Bd) (by rw [← hh, Bd.state]; rfl) (Fr.nil n0)
  exact own_go (fun t k => castTop (ef m) k) k
abbrev yN0 : MethodName := ⟨"java/lang/StringUTF16", "putChar", "([BII)V"⟩
abbrev yN1 : MethodName := ⟨"java/lang/StringUTF16", "getChar", "([BI)C"⟩
abbrev yN2 : MethodName := ⟨"java/lang/StringUTF16", "compress", "([CI[BII)I"⟩
abbrev yN3 : MethodName := ⟨"java/lang/StringUTF16", "newBytesLength", "(I)I"⟩
abbrev yN4 : MethodName := ⟨"java/lang/StringUTF16", "newBytesFor", "(I)[B"⟩
abbrev yN5 : MethodName := ⟨"java/lang/StringUTF16", "toBytes", "([CII)[B"⟩
abbrev yN6 : MethodName := ⟨"java/lang/StringUTF16", "coderFromArrayLen", "([BI)B"⟩
abbrev yN7 : MethodName := ⟨"java/lang/StringUTF16", "compress", "([CII)[B"⟩
abbrev yN8 : MethodName := ⟨"java/lang/String", "<init>", "([CIILjava/lang/Void;)V"⟩
abbrev yN9 : MethodName := ⟨"java/lang/String", "<init>", "([C)V"⟩
abbrev yN10 : MethodName := ⟨"com/example/cicada/cicada/NamesIsValidPinLaw", "make", "(ICCCC)Ljava/lang/String;"⟩
abbrev yN11 : MethodName := ⟨"java/lang/String", "coder", "()B"⟩
abbrev yN12 : MethodName := ⟨"java/lang/String", "length", "()I"⟩
abbrev yN13 : MethodName := ⟨"java/lang/String", "isLatin1", "()Z"⟩
abbrev yN14 : MethodName := ⟨"java/lang/String", "isEmpty", "()Z"⟩
abbrev yN15 : MethodName := ⟨"jdk/internal/util/Preconditions", "checkIndex", "(IILjava/util/function/BiFunction;)I"⟩
abbrev yN16 : MethodName := ⟨"java/lang/String", "checkIndex", "(II)V"⟩
abbrev yN17 : MethodName := ⟨"java/lang/StringLatin1", "charAt", "([BI)C"⟩
abbrev yN18 : MethodName := ⟨"java/lang/StringUTF16", "length", "([B)I"⟩
abbrev yN19 : MethodName := ⟨"java/lang/StringUTF16", "checkIndex", "(I[B)V"⟩
abbrev yN20 : MethodName := ⟨"java/lang/StringUTF16", "charAt", "([BI)C"⟩
abbrev yN21 : MethodName := ⟨"java/lang/String", "charAt", "(I)C"⟩
abbrev yN22 : MethodName := ⟨"com/example/cicada/cicada/Names", "isAllowed", "(C)Z"⟩
abbrev yN23 : MethodName := ⟨"com/example/cicada/cicada/NamesIsValidPinLaw", "allowed", "(C)Z"⟩
abbrev yN24 : MethodName := ⟨"com/example/cicada/cicada/Names", "allAllowed", "(Ljava/lang/String;)Z"⟩
abbrev yN25 : MethodName := ⟨"com/example/cicada/cicada/Names", "isValid", "(Ljava/lang/String;)Z"⟩
abbrev yN26 : MethodName := ⟨"com/example/cicada/cicada/NamesIsValidPinLaw", "draw", "(I)C"⟩
abbrev yN27 : MethodName := ⟨"java/lang/AbstractStringBuilder", "<init>", "(I)V"⟩
abbrev yN28 : MethodName := ⟨"java/lang/StringBuilder", "<init>", "()V"⟩
abbrev yN29 : MethodName := ⟨"java/lang/AbstractStringBuilder", "isLatin1", "()Z"⟩
abbrev yN30 : MethodName := ⟨"java/lang/Math", "max", "(II)I"⟩
abbrev yN31 : MethodName := ⟨"java/lang/Math", "min", "(II)I"⟩
abbrev yN32 : MethodName := ⟨"jdk/internal/util/ArraysSupport", "newLength", "(III)I"⟩
abbrev yN33 : MethodName := ⟨"java/lang/AbstractStringBuilder", "newCapacity", "(I)I"⟩
abbrev yN34 : MethodName := ⟨"java/util/Arrays", "copyOf", "([BI)[B"⟩
abbrev yN35 : MethodName := ⟨"java/lang/AbstractStringBuilder", "ensureCapacityInternal", "(I)V"⟩
abbrev yN36 : MethodName := ⟨"jdk/internal/util/Preconditions", "checkFromIndexSize", "(IIILjava/util/function/BiFunction;)I"⟩
abbrev yN37 : MethodName := ⟨"java/lang/String", "checkBoundsOffCount", "(III)I"⟩
abbrev yN38 : MethodName := ⟨"java/lang/StringUTF16", "checkBoundsOffCount", "(II[B)V"⟩
abbrev yN39 : MethodName := ⟨"java/lang/StringUTF16", "inflate", "([BI[BII)V"⟩
abbrev yN40 : MethodName := ⟨"java/lang/StringLatin1", "inflate", "([BI[BII)V"⟩
abbrev yN41 : MethodName := ⟨"java/lang/String", "getBytes", "([BIB)V"⟩
abbrev yN42 : MethodName := ⟨"java/lang/AbstractStringBuilder", "inflateIfNeededFor", "(Ljava/lang/String;)V"⟩
abbrev yN43 : MethodName := ⟨"java/lang/AbstractStringBuilder", "inflate", "()V"⟩
abbrev yN44 : MethodName := ⟨"java/lang/AbstractStringBuilder", "putStringAt", "(ILjava/lang/String;)V"⟩
abbrev yN45 : MethodName := ⟨"java/lang/AbstractStringBuilder", "append", "(Ljava/lang/String;)Ljava/lang/AbstractStringBuilder;"⟩
abbrev yN46 : MethodName := ⟨"java/lang/StringBuilder", "append", "(Ljava/lang/String;)Ljava/lang/StringBuilder;"⟩
abbrev yN47 : MethodName := ⟨"java/lang/AbstractStringBuilder", "getValue", "()[B"⟩
abbrev yN48 : MethodName := ⟨"java/lang/AbstractStringBuilder", "length", "()I"⟩
abbrev yN49 : MethodName := ⟨"java/lang/StringBuilder", "length", "()I"⟩
abbrev yN50 : MethodName := ⟨"java/util/Arrays", "checkLength", "(II)V"⟩
abbrev yN51 : MethodName := ⟨"java/util/Arrays", "copyOfRangeByte", "([BII)[B"⟩
abbrev yN52 : MethodName := ⟨"java/util/Arrays", "copyOfRange", "([BII)[B"⟩
abbrev yN53 : MethodName := ⟨"java/lang/String", "<init>", "(Ljava/lang/AbstractStringBuilder;Ljava/lang/Void;)V"⟩
abbrev yN54 : MethodName := ⟨"java/lang/String", "<init>", "(Ljava/lang/StringBuilder;)V"⟩
abbrev yN55 : MethodName := ⟨"java/lang/StringBuilder", "toString", "()Ljava/lang/String;"⟩
abbrev yN56 : MethodName := ⟨"com/example/cicada/cicada/Names", "deadLetterTopic", "(Ljava/lang/String;Ljava/lang/String;)Ljava/lang/String;"⟩
theorem dc48 : own_D jdk_52_method_4_code [(0, .getstatic 44, 3), (3, .ifCond .ne 25, 3), (28, .iload_n 1, 1), (29, .iconst 1, 1), (30, .ishl, 1), (31, .istore_n 1, 1), (32, .aload_n 0, 1), (33, .iload_n 1, 1), (34, .iinc 1 1, 3), (37, .iload_n 2, 1), (38, .getstatic 59, 3), (41, .ishr, 1), (42, .i2b, 1), (43, .bastore, 1), (44, .aload_n 0, 1), (45, .iload_n 1, 1), (46, .iload_n 2, 1), (47, .getstatic 63, 3), (50, .ishr, 1), (51, .i2b, 1), (52, .bastore, 1), (53, .return_, 1)] := by decide +kernel
theorem dc49 : own_D jdk_52_method_5_code [(0, .getstatic 44, 3), (3, .ifCond .ne 25, 3), (28, .iload_n 1, 1), (29, .iconst 1, 1), (30, .ishl, 1), (31, .istore_n 1, 1), (32, .aload_n 0, 1), (33, .iload_n 1, 1), (34, .iinc 1 1, 3), (37, .baload, 1), (38, .sipush 255, 3), (41, .iand, 1), (42, .getstatic 59, 3), (45, .ishl, 1), (46, .aload_n 0, 1), (47, .iload_n 1, 1), (48, .baload, 1), (49, .sipush 255, 3), (52, .iand, 1), (53, .getstatic 63, 3), (56, .ishl, 1), (57, .ior, 1), (58, .i2c, 1), (59, .ireturn, 1)] := by decide +kernel
theorem dc10 : own_D jdk_52_method_21_code [(0, .iconst 0, 1), (1, .istore 5, 2), (3, .iload 5, 2), (5, .iload 4, 2), (7, .if_icmp .ge 37, 3), (10, .aload_n 0, 1), (11, .iload_n 1, 1), (12, .caload, 1), (13, .istore 6, 2), (15, .iload 6, 2), (17, .sipush 255, 3), (20, .if_icmp .le 6, 3), (23, .iload 5, 2), (25, .ireturn, 1), (26, .aload_n 2, 1), (27, .iload_n 3, 1), (28, .iload 6, 2), (30, .i2b, 1), (31, .bastore, 1), (32, .iinc 1 1, 3), (35, .iinc 3 1, 3), (38, .iinc 5 1, 3), (41, .goto (-38), 3), (44, .iload 4, 2), (46, .ireturn, 1)] := by decide +kernel
theorem dc47 : own_D jdk_52_method_3_code [(0, .iload_n 0, 1), (1, .ifCond .ge 11, 3), (12, .iload_n 0, 1), (13, .ldc 20, 2), (15, .if_icmp .lt 40, 3), (55, .iload_n 0, 1), (56, .iconst 1, 1), (57, .ishl, 1), (58, .ireturn, 1)] := by decide +kernel
theorem dc46 : own_D jdk_52_method_2_code [(0, .iload_n 0, 1), (1, .invokestatic 11, 3), (4, .newarray .byte, 2), (6, .areturn, 1)] := by decide +kernel
theorem dc45 : own_D jdk_52_method_14_code [(0, .iload_n 2, 1), (1, .invokestatic 107, 3), (4, .astore_n 3, 1), (5, .iconst 0, 1), (6, .istore 4, 2), (8, .iload 4, 2), (10, .iload_n 2, 1), (11, .if_icmp .ge 21, 3), (14, .aload_n 3, 1), (15, .iload 4, 2), (17, .aload_n 0, 1), (18, .iload_n 1, 1), (19, .caload, 1), (20, .invokestatic 111, 3), (23, .iinc 1 1, 3), (26, .iinc 4 1, 3), (29, .goto (-21), 3), (32, .aload_n 3, 1), (33, .areturn, 1)] := by decide +kernel
theorem dc11 : own_D jdk_52_method_15_code [(0, .iload_n 1, 1), (1, .aload_n 0, 1), (2, .arraylength, 1), (3, .isub, 1), (4, .bipush 31, 2), (6, .iushr, 1), (7, .i2b, 1), (8, .ireturn, 1)] := by decide +kernel
theorem dc9 : own_D jdk_52_method_16_code [(0, .iload_n 2, 1), (1, .newarray .byte, 2), (3, .astore_n 3, 1), (4, .aload_n 0, 1), (5, .iload_n 1, 1), (6, .aload_n 3, 1), (7, .iconst 0, 1), (8, .iload_n 2, 1), (9, .invokestatic 115, 3), (12, .istore 4, 2), (14, .iload 4, 2), (16, .iload_n 2, 1), (17, .if_icmp .eq 40, 3), (20, .aload_n 0, 1), (21, .iload_n 1, 1), (22, .iload_n 2, 1), (23, .invokestatic 119, 3), (26, .astore 5, 2), (28, .aload 5, 2), (30, .iload 4, 2), (32, .invokestatic 71, 3), (35, .sipush 255, 3), (38, .if_icmp .gt 16, 3), (54, .aload 5, 2), (56, .areturn, 1), (57, .aload_n 3, 1), (58, .areturn, 1)] := by decide +kernel
theorem dc4 : own_D jdk_42_method_149_code [(0, .aload_n 0, 1), (1, .invokespecial 1, 3), (4, .iload_n 3, 1), (5, .ifCond .ne 22, 3), (27, .getstatic 38, 3), (30, .ifCond .eq 28, 3), (33, .aload_n 1, 1), (34, .iload_n 2, 1), (35, .iload_n 3, 1), (36, .invokestatic 177, 3), (39, .astore 5, 2), (41, .aload_n 0, 1), (42, .aload 5, 2), (44, .iload_n 3, 1), (45, .invokestatic 47, 3), (48, .putfield 15, 3), (51, .aload_n 0, 1), (52, .aload 5, 2), (54, .putfield 9, 3), (57, .return_, 1), (8, .aload_n 0, 1), (9, .ldc 7, 2), (11, .getfield 9, 3), (14, .putfield 9, 3), (17, .aload_n 0, 1), (18, .ldc 7, 2), (20, .getfield 15, 3), (23, .putfield 15, 3), (26, .return_, 1)] := by decide +kernel
theorem dc3 : own_D jdk_42_method_3_code [(0, .aload_n 0, 1), (1, .aload_n 1, 1), (2, .iconst 0, 1), (3, .aload_n 1, 1), (4, .arraylength, 1), (5, .aconst_null, 1), (6, .invokespecial 27, 3), (9, .return_, 1)] := by decide +kernel
theorem dc2 : own_D method_4_code [(0, .iload_n 0, 1), (1, .ifCond .ne 14, 3), (15, .iload_n 0, 1), (16, .iconst 1, 1), (17, .if_icmp .ne 23, 3), (40, .iload_n 0, 1), (41, .iconst 2, 1), (42, .if_icmp .ne 28, 3), (70, .iload_n 0, 1), (71, .iconst 3, 1), (72, .if_icmp .ne 33, 3), (105, .iconst 4, 1), (106, .newarray .char, 2), (108, .astore 5, 2), (110, .aload 5, 2), (112, .iconst 0, 1), (113, .iload_n 1, 1), (114, .castore, 1), (115, .aload 5, 2), (117, .iconst 1, 1), (118, .iload_n 2, 1), (119, .castore, 1), (120, .aload 5, 2), (122, .iconst 2, 1), (123, .iload_n 3, 1), (124, .castore, 1), (125, .aload 5, 2), (127, .iconst 3, 1), (128, .iload 4, 2), (130, .castore, 1), (131, .new 7, 3), (134, .dup, 1), (135, .aload 5, 2), (137, .invokespecial 9, 3), (140, .areturn, 1), (75, .iconst 3, 1), (76, .newarray .char, 2), (78, .astore 5, 2), (80, .aload 5, 2), (82, .iconst 0, 1), (83, .iload_n 1, 1), (84, .castore, 1), (85, .aload 5, 2), (87, .iconst 1, 1), (88, .iload_n 2, 1), (89, .castore, 1), (90, .aload 5, 2), (92, .iconst 2, 1), (93, .iload_n 3, 1), (94, .castore, 1), (95, .new 7, 3), (98, .dup, 1), (99, .aload 5, 2), (101, .invokespecial 9, 3), (104, .areturn, 1), (45, .iconst 2, 1), (46, .newarray .char, 2), (48, .astore 5, 2), (50, .aload 5, 2), (52, .iconst 0, 1), (53, .iload_n 1, 1), (54, .castore, 1), (55, .aload 5, 2), (57, .iconst 1, 1), (58, .iload_n 2, 1), (59, .castore, 1), (60, .new 7, 3), (63, .dup, 1), (64, .aload 5, 2), (66, .invokespecial 9, 3), (69, .areturn, 1), (20, .iconst 1, 1), (21, .newarray .char, 2), (23, .astore 5, 2), (25, .aload 5, 2), (27, .iconst 0, 1), (28, .iload_n 1, 1), (29, .castore, 1), (30, .new 7, 3), (33, .dup, 1), (34, .aload 5, 2), (36, .invokespecial 9, 3), (39, .areturn, 1), (4, .new 7, 3), (7, .dup, 1), (8, .iconst 0, 1), (9, .newarray .char, 2), (11, .invokespecial 9, 3), (14, .areturn, 1)] := by decide +kernel
theorem dc13 : own_D jdk_42_method_152_code [(0, .getstatic 38, 3), (3, .ifCond .eq 10, 3), (6, .aload_n 0, 1), (7, .getfield 15, 3), (10, .goto 4, 3), (14, .ireturn, 1)] := by decide +kernel
theorem dc12 : own_D jdk_42_method_54_code [(0, .aload_n 0, 1), (1, .getfield 9, 3), (4, .arraylength, 1), (5, .aload_n 0, 1), (6, .invokevirtual 335, 3), (9, .ishr, 1), (10, .ireturn, 1)] := by decide +kernel
theorem dc16 : own_D jdk_42_method_154_code [(0, .getstatic 38, 3), (3, .ifCond .eq 14, 3), (6, .aload_n 0, 1), (7, .getfield 15, 3), (10, .ifCond .ne 7, 3), (13, .iconst 1, 1), (14, .goto 4, 3), (18, .ireturn, 1), (17, .iconst 0, 1)] := by decide +kernel
theorem dc7 : own_D jdk_42_method_55_code [(0, .aload_n 0, 1), (1, .getfield 9, 3), (4, .arraylength, 1), (5, .ifCond .ne 7, 3), (8, .iconst 1, 1), (9, .goto 4, 3), (13, .ireturn, 1), (12, .iconst 0, 1)] := by decide +kernel
theorem dc19 : own_D jdk_41_method_11_code [(0, .iload_n 0, 1), (1, .ifCond .lt 8, 3), (4, .iload_n 0, 1), (5, .iload_n 1, 1), (6, .if_icmp .lt 10, 3), (16, .iload_n 0, 1), (17, .ireturn, 1)] := by decide +kernel
theorem dc18 : own_D jdk_42_method_155_code [(0, .iload_n 0, 1), (1, .iload_n 1, 1), (2, .getstatic 1053, 3), (5, .invokestatic 1059, 3), (8, .pop, 1), (9, .return_, 1)] := by decide +kernel
theorem dc17 : own_D jdk_43_method_2_code [(0, .iload_n 1, 1), (1, .aload_n 0, 1), (2, .arraylength, 1), (3, .invokestatic 9, 3), (6, .aload_n 0, 1), (7, .iload_n 1, 1), (8, .baload, 1), (9, .sipush 255, 3), (12, .iand, 1), (13, .i2c, 1), (14, .ireturn, 1)] := by decide +kernel
theorem dc52 : own_D jdk_52_method_6_code [(0, .aload_n 0, 1), (1, .arraylength, 1), (2, .iconst 1, 1), (3, .ishr, 1), (4, .ireturn, 1)] := by decide +kernel
theorem dc51 : own_D jdk_52_method_91_code [(0, .iload_n 0, 1), (1, .aload_n 1, 1), (2, .invokestatic 48, 3), (5, .invokestatic 414, 3), (8, .return_, 1)] := by decide +kernel
theorem dc50 : own_D jdk_52_method_83_code [(0, .iload_n 1, 1), (1, .aload_n 0, 1), (2, .invokestatic 67, 3), (5, .aload_n 0, 1), (6, .iload_n 1, 1), (7, .invokestatic 71, 3), (10, .ireturn, 1)] := by decide +kernel
theorem dc15 : own_D jdk_42_method_56_code [(0, .aload_n 0, 1), (1, .invokevirtual 492, 3), (4, .ifCond .eq 12, 3), (7, .aload_n 0, 1), (8, .getfield 9, 3), (11, .iload_n 1, 1), (12, .invokestatic 495, 3), (15, .ireturn, 1), (16, .aload_n 0, 1), (17, .getfield 9, 3), (20, .iload_n 1, 1), (21, .invokestatic 498, 3), (24, .ireturn, 1)] := by decide +kernel
theorem dc20 : own_D prog_1_method_7_code [(54, .iconst 1, 1), (55, .goto 4, 3), (59, .ireturn, 1), (36, .iload_n 0, 1), (37, .bipush 46, 2), (39, .if_icmp .eq 15, 3), (42, .iload_n 0, 1), (43, .bipush 95, 2), (45, .if_icmp .eq 9, 3), (48, .iload_n 0, 1), (49, .bipush 45, 2), (51, .if_icmp .ne 7, 3), (58, .iconst 0, 1), (24, .iload_n 0, 1), (25, .bipush 48, 2), (27, .if_icmp .lt 9, 3), (30, .iload_n 0, 1), (31, .bipush 57, 2), (33, .if_icmp .le 21, 3), (12, .iload_n 0, 1), (13, .bipush 97, 2), (15, .if_icmp .lt 9, 3), (18, .iload_n 0, 1), (19, .bipush 122, 2), (21, .if_icmp .le 33, 3), (0, .iload_n 0, 1), (1, .bipush 65, 2), (3, .if_icmp .lt 9, 3), (6, .iload_n 0, 1), (7, .bipush 90, 2), (9, .if_icmp .le 45, 3)] := by decide +kernel
theorem dc8 : own_D method_3_code [(60, .iconst 1, 1), (61, .goto 4, 3), (65, .ireturn, 1), (42, .iload_n 0, 1), (43, .bipush 46, 2), (45, .if_icmp .eq 15, 3), (48, .iload_n 0, 1), (49, .bipush 95, 2), (51, .if_icmp .eq 9, 3), (54, .iload_n 0, 1), (55, .bipush 45, 2), (57, .if_icmp .ne 7, 3), (64, .iconst 0, 1), (28, .iload_n 0, 1), (29, .bipush 48, 2), (31, .if_icmp .lt 11, 3), (34, .iload_n 0, 1), (35, .bipush 57, 2), (37, .if_icmp .gt 5, 3), (40, .iconst 1, 1), (41, .ireturn, 1), (14, .iload_n 0, 1), (15, .bipush 97, 2), (17, .if_icmp .lt 11, 3), (20, .iload_n 0, 1), (21, .bipush 122, 2), (23, .if_icmp .gt 5, 3), (26, .iconst 1, 1), (27, .ireturn, 1), (0, .iload_n 0, 1), (1, .bipush 65, 2), (3, .if_icmp .lt 11, 3), (6, .iload_n 0, 1), (7, .bipush 90, 2), (9, .if_icmp .gt 5, 3), (12, .iconst 1, 1), (13, .ireturn, 1)] := by decide +kernel
theorem dc14 : own_D prog_1_method_6_code [(0, .iconst 0, 1), (1, .istore_n 1, 1), (2, .iload_n 1, 1), (3, .aload_n 0, 1), (4, .invokevirtual 13, 3), (7, .if_icmp .ge 22, 3), (10, .aload_n 0, 1), (11, .iload_n 1, 1), (12, .invokevirtual 55, 3), (15, .invokestatic 59, 3), (18, .ifCond .ne 5, 3), (21, .iconst 0, 1), (22, .ireturn, 1), (23, .iinc 1 1, 3), (26, .goto (-24), 3), (29, .iconst 1, 1), (30, .ireturn, 1)] := by decide +kernel
theorem dc6 : own_D prog_1_method_2_code [(0, .aload_n 0, 1), (1, .ifnull 30, 3), (31, .iconst 0, 1), (32, .ireturn, 1), (4, .aload_n 0, 1), (5, .invokevirtual 7, 3), (8, .ifCond .ne 23, 3), (11, .aload_n 0, 1), (12, .invokevirtual 13, 3), (15, .bipush 100, 2), (17, .if_icmp .gt 14, 3), (20, .aload_n 0, 1), (21, .invokestatic 19, 3), (24, .ifCond .eq 7, 3), (27, .iconst 1, 1), (28, .goto 4, 3)] := by decide +kernel
theorem dc1 : own_D method_2_code [(0, .iload_n 0, 1), (1, .bipush 16, 2), (3, .iushr, 1), (4, .iconst 1, 1), (5, .iand, 1), (6, .ifCond .eq 6, 3), (12, .iload_n 0, 1), (13, .bipush 127, 2), (15, .iand, 1), (16, .i2c, 1), (17, .ireturn, 1), (9, .iload_n 0, 1), (10, .i2c, 1), (11, .ireturn, 1)] := by decide +kernel
theorem dc23 : own_D jdk_68_method_2_code [(0, .aload_n 0, 1), (1, .invokespecial 3, 3), (4, .getstatic 18, 3), (7, .ifCond .eq 18, 3), (10, .aload_n 0, 1), (11, .iload_n 1, 1), (12, .newarray .byte, 2), (14, .putfield 15, 3), (17, .aload_n 0, 1), (18, .iconst 0, 1), (19, .putfield 22, 3), (22, .goto 16, 3), (38, .return_, 1)] := by decide +kernel
theorem dc22 : own_D jdk_67_method_1_code [(0, .aload_n 0, 1), (1, .bipush 16, 2), (3, .invokespecial 1, 3), (6, .return_, 1)] := by decide +kernel
theorem dc41 : own_D jdk_68_method_68_code [(0, .getstatic 18, 3), (3, .ifCond .eq 14, 3), (6, .aload_n 0, 1), (7, .getfield 22, 3), (10, .ifCond .ne 7, 3), (13, .iconst 1, 1), (14, .goto 4, 3), (18, .ireturn, 1), (17, .iconst 0, 1)] := by decide +kernel
theorem dc29 : own_D jdk_29_method_65_code [(0, .iload_n 0, 1), (1, .iload_n 1, 1), (2, .if_icmp .lt 7, 3), (5, .iload_n 0, 1), (6, .goto 4, 3), (10, .ireturn, 1), (9, .iload_n 1, 1)] := by decide +kernel
theorem dc31 : own_D jdk_29_method_69_code [(0, .iload_n 0, 1), (1, .iload_n 1, 1), (2, .if_icmp .gt 7, 3), (5, .iload_n 0, 1), (6, .goto 4, 3), (10, .ireturn, 1), (9, .iload_n 1, 1)] := by decide +kernel
theorem dc28 : own_D jdk_48_method_27_code [(0, .iload_n 0, 1), (1, .iload_n 1, 1), (2, .iload_n 2, 1), (3, .invokestatic 194, 3), (6, .iadd, 1), (7, .istore_n 3, 1), (8, .iconst 0, 1), (9, .iload_n 3, 1), (10, .if_icmp .ge 11, 3), (13, .iload_n 3, 1), (14, .ldc 200, 2), (16, .if_icmp .gt 5, 3), (19, .iload_n 3, 1), (20, .ireturn, 1)] := by decide +kernel
theorem dc27 : own_D jdk_68_method_10_code [(0, .aload_n 0, 1), (1, .getfield 15, 3), (4, .arraylength, 1), (5, .istore_n 2, 1), (6, .iload_n 1, 1), (7, .aload_n 0, 1), (8, .getfield 22, 3), (11, .ishl, 1), (12, .istore_n 3, 1), (13, .iload_n 3, 1), (14, .iload_n 2, 1), (15, .isub, 1), (16, .istore 4, 2), (18, .iload_n 2, 1), (19, .iload 4, 2), (21, .iload_n 2, 1), (22, .iconst 2, 1), (23, .aload_n 0, 1), (24, .getfield 22, 3), (27, .ishl, 1), (28, .iadd, 1), (29, .invokestatic 114, 3), (32, .istore 5, 2), (34, .iload 5, 2), (36, .ldc 39, 2), (38, .if_icmp .ne 13, 3), (51, .iload 5, 2), (53, .aload_n 0, 1), (54, .getfield 22, 3), (57, .ishr, 1), (58, .ireturn, 1)] := by decide +kernel
theorem dc30 : own_D jdk_65_method_121_code [(0, .iload_n 1, 1), (1, .aload_n 0, 1), (2, .arraylength, 1), (3, .if_icmp .ne 11, 3), (14, .iload_n 1, 1), (15, .newarray .byte, 2), (17, .astore_n 2, 1), (18, .aload_n 0, 1), (19, .iconst 0, 1), (20, .aload_n 2, 1), (21, .iconst 0, 1), (22, .aload_n 0, 1), (23, .arraylength, 1), (24, .iload_n 1, 1), (25, .invokestatic 304, 3), (28, .invokestatic 150, 3), (31, .aload_n 2, 1), (32, .areturn, 1)] := by decide +kernel
theorem dc26 : own_D jdk_68_method_9_code [(0, .aload_n 0, 1), (1, .getfield 15, 3), (4, .arraylength, 1), (5, .aload_n 0, 1), (6, .getfield 22, 3), (9, .ishr, 1), (10, .istore_n 2, 1), (11, .iload_n 1, 1), (12, .iload_n 2, 1), (13, .isub, 1), (14, .ifCond .le 24, 3), (17, .aload_n 0, 1), (18, .aload_n 0, 1), (19, .getfield 15, 3), (22, .aload_n 0, 1), (23, .iload_n 1, 1), (24, .invokevirtual 104, 3), (27, .aload_n 0, 1), (28, .getfield 22, 3), (31, .ishl, 1), (32, .invokestatic 108, 3), (35, .putfield 15, 3), (38, .return_, 1)] := by decide +kernel
theorem dc58 : own_D jdk_41_method_13_code [(0, .iload_n 2, 1), (1, .iload_n 0, 1), (2, .ior, 1), (3, .iload_n 1, 1), (4, .ior, 1), (5, .ifCond .lt 10, 3), (8, .iload_n 1, 1), (9, .iload_n 2, 1), (10, .iload_n 0, 1), (11, .isub, 1), (12, .if_icmp .le 11, 3), (23, .iload_n 0, 1), (24, .ireturn, 1)] := by decide +kernel
theorem dc57 : own_D jdk_42_method_157_code [(0, .iload_n 0, 1), (1, .iload_n 1, 1), (2, .iload_n 2, 1), (3, .getstatic 1053, 3), (6, .invokestatic 1065, 3), (9, .ireturn, 1)] := by decide +kernel
theorem dc56 : own_D jdk_52_method_94_code [(0, .iload_n 0, 1), (1, .iload_n 1, 1), (2, .aload_n 2, 1), (3, .invokestatic 48, 3), (6, .invokestatic 419, 3), (9, .pop, 1), (10, .return_, 1)] := by decide +kernel
theorem dc55 : own_D jdk_52_method_86_code [(0, .iload_n 3, 1), (1, .iload 4, 2), (3, .aload_n 2, 1), (4, .invokestatic 173, 3), (7, .iconst 0, 1), (8, .istore 5, 2), (10, .iload 5, 2), (12, .iload 4, 2), (14, .if_icmp .ge 27, 3), (17, .aload_n 2, 1), (18, .iload_n 3, 1), (19, .iinc 3 1, 3), (22, .aload_n 0, 1), (23, .iload_n 1, 1), (24, .iinc 1 1, 3), (27, .baload, 1), (28, .sipush 255, 3), (31, .iand, 1), (32, .invokestatic 111, 3), (35, .iinc 5 1, 3), (38, .goto (-28), 3), (41, .return_, 1)] := by decide +kernel
theorem dc54 : own_D jdk_43_method_50_code [(0, .aload_n 0, 1), (1, .iload_n 1, 1), (2, .aload_n 2, 1), (3, .iload_n 3, 1), (4, .iload 4, 2), (6, .invokestatic 240, 3), (9, .return_, 1)] := by decide +kernel
theorem dc34 : own_D jdk_42_method_147_code [(0, .aload_n 0, 1), (1, .invokevirtual 335, 3), (4, .iload_n 3, 1), (5, .if_icmp .ne 23, 3), (8, .aload_n 0, 1), (9, .getfield 9, 3), (12, .iconst 0, 1), (13, .aload_n 1, 1), (14, .iload_n 2, 1), (15, .iload_n 3, 1), (16, .ishl, 1), (17, .aload_n 0, 1), (18, .getfield 9, 3), (21, .arraylength, 1), (22, .invokestatic 212, 3), (25, .goto 18, 3), (43, .return_, 1), (28, .aload_n 0, 1), (29, .getfield 9, 3), (32, .iconst 0, 1), (33, .aload_n 1, 1), (34, .iload_n 2, 1), (35, .aload_n 0, 1), (36, .getfield 9, 3), (39, .arraylength, 1), (40, .invokestatic 106, 3)] := by decide +kernel
theorem dc33 : own_D jdk_68_method_71_code [(0, .getstatic 18, 3), (3, .ifCond .eq 18, 3), (6, .aload_n 0, 1), (7, .getfield 22, 3), (10, .aload_n 1, 1), (11, .invokevirtual 40, 3), (14, .if_icmp .eq 7, 3), (21, .return_, 1), (17, .aload_n 0, 1), (18, .invokevirtual 195, 3)] := by decide +kernel
theorem dc53 : own_D jdk_68_method_11_code [(0, .aload_n 0, 1), (1, .invokevirtual 83, 3), (4, .ifCond .ne 4, 3), (7, .return_, 1), (8, .aload_n 0, 1), (9, .getfield 15, 3), (12, .arraylength, 1), (13, .invokestatic 26, 3), (16, .astore_n 1, 1), (17, .aload_n 0, 1), (18, .getfield 15, 3), (21, .iconst 0, 1), (22, .aload_n 1, 1), (23, .iconst 0, 1), (24, .aload_n 0, 1), (25, .getfield 79, 3), (28, .invokestatic 125, 3), (31, .aload_n 0, 1), (32, .aload_n 1, 1), (33, .putfield 15, 3), (36, .aload_n 0, 1), (37, .iconst 1, 1), (38, .putfield 22, 3), (41, .return_, 1)] := by decide +kernel
theorem dc32 : own_D jdk_68_method_73_code [(0, .aload_n 0, 1), (1, .aload_n 2, 1), (2, .invokevirtual 397, 3), (5, .aload_n 2, 1), (6, .aload_n 0, 1), (7, .getfield 15, 3), (10, .iload_n 1, 1), (11, .aload_n 0, 1), (12, .getfield 22, 3), (15, .invokevirtual 399, 3), (18, .return_, 1)] := by decide +kernel
theorem dc25 : own_D jdk_68_method_22_code [(0, .aload_n 1, 1), (1, .ifnonnull 8, 3), (9, .aload_n 1, 1), (10, .invokevirtual 32, 3), (13, .istore_n 2, 1), (14, .aload_n 0, 1), (15, .aload_n 0, 1), (16, .getfield 79, 3), (19, .iload_n 2, 1), (20, .iadd, 1), (21, .invokevirtual 100, 3), (24, .aload_n 0, 1), (25, .aload_n 0, 1), (26, .getfield 79, 3), (29, .aload_n 1, 1), (30, .invokevirtual 208, 3), (33, .aload_n 0, 1), (34, .dup, 1), (35, .getfield 79, 3), (38, .iload_n 2, 1), (39, .iadd, 1), (40, .putfield 79, 3), (43, .aload_n 0, 1), (44, .areturn, 1)] := by decide +kernel
theorem dc24 : own_D jdk_67_method_7_code [(0, .aload_n 0, 1), (1, .aload_n 1, 1), (2, .invokespecial 29, 3), (5, .pop, 1), (6, .aload_n 0, 1), (7, .areturn, 1)] := by decide +kernel
theorem dc38 : own_D jdk_68_method_64_code [(0, .aload_n 0, 1), (1, .getfield 15, 3), (4, .areturn, 1)] := by decide +kernel
theorem dc40 : own_D jdk_68_method_6_code [(0, .aload_n 0, 1), (1, .getfield 79, 3), (4, .ireturn, 1)] := by decide +kernel
theorem dc39 : own_D jdk_67_method_93_code [(0, .aload_n 0, 1), (1, .invokespecial 343, 3), (4, .ireturn, 1)] := by decide +kernel
theorem dc44 : own_D jdk_65_method_131_code [(0, .iload_n 1, 1), (1, .iload_n 0, 1), (2, .if_icmp .ge 35, 3), (37, .return_, 1)] := by decide +kernel
theorem dc43 : own_D jdk_65_method_133_code [(0, .iload_n 1, 1), (1, .iload_n 2, 1), (2, .invokestatic 343, 3), (5, .iload_n 2, 1), (6, .iload_n 1, 1), (7, .isub, 1), (8, .istore_n 3, 1), (9, .iload_n 3, 1), (10, .newarray .byte, 2), (12, .astore 4, 2), (14, .aload_n 0, 1), (15, .iload_n 1, 1), (16, .aload 4, 2), (18, .iconst 0, 1), (19, .aload_n 0, 1), (20, .arraylength, 1), (21, .iload_n 1, 1), (22, .isub, 1), (23, .iload_n 3, 1), (24, .invokestatic 304, 3), (27, .invokestatic 150, 3), (30, .aload 4, 2), (32, .areturn, 1)] := by decide +kernel
theorem dc42 : own_D jdk_65_method_132_code [(0, .iload_n 1, 1), (1, .ifCond .ne 9, 3), (4, .iload_n 2, 1), (5, .aload_n 0, 1), (6, .arraylength, 1), (7, .if_icmp .eq 10, 3), (10, .aload_n 0, 1), (11, .iload_n 1, 1), (12, .iload_n 2, 1), (13, .invokestatic 339, 3), (16, .areturn, 1)] := by decide +kernel
theorem dc37 : own_D jdk_42_method_150_code [(0, .aload_n 0, 1), (1, .invokespecial 1, 3), (4, .aload_n 1, 1), (5, .invokevirtual 552, 3), (8, .astore_n 3, 1), (9, .aload_n 1, 1), (10, .invokevirtual 549, 3), (13, .istore 4, 2), (15, .aload_n 1, 1), (16, .invokevirtual 1047, 3), (19, .ifCond .eq 22, 3), (22, .aload_n 0, 1), (23, .iconst 0, 1), (24, .putfield 15, 3), (27, .aload_n 0, 1), (28, .aload_n 3, 1), (29, .iconst 0, 1), (30, .iload 4, 2), (32, .invokestatic 54, 3), (35, .putfield 9, 3), (38, .goto 59, 3), (97, .return_, 1), (41, .getstatic 38, 3), (44, .ifCond .eq 35, 3), (47, .aload_n 1, 1), (48, .getfield 1048, 3), (51, .ifCond .eq 28, 3), (79, .aload_n 0, 1), (80, .iconst 1, 1), (81, .putfield 15, 3), (84, .aload_n 0, 1), (85, .aload_n 3, 1), (86, .iconst 0, 1), (87, .iload 4, 2), (89, .iconst 1, 1), (90, .ishl, 1), (91, .invokestatic 54, 3), (94, .putfield 9, 3)] := by decide +kernel
theorem dc36 : own_D jdk_42_method_53_code [(0, .aload_n 0, 1), (1, .aload_n 1, 1), (2, .aconst_null, 1), (3, .invokespecial 489, 3), (6, .return_, 1)] := by decide +kernel
theorem dc35 : own_D jdk_67_method_42_code [(0, .new 18, 3), (3, .dup, 1), (4, .aload_n 0, 1), (5, .invokespecial 137, 3), (8, .areturn, 1)] := by decide +kernel
theorem dc21 : own_D prog_1_method_4_code [(0, .new 30, 3), (3, .dup, 1), (4, .invokespecial 32, 3), (7, .aload_n 0, 1), (8, .invokevirtual 33, 3), (11, .ldc 37, 2), (13, .invokevirtual 33, 3), (16, .aload_n 1, 1), (17, .invokevirtual 33, 3), (20, .ldc 39, 2), (22, .invokevirtual 33, 3), (25, .invokevirtual 41, 3), (28, .areturn, 1)] := by decide +kernel
theorem pn_0 : plainName "java/lang/StringUTF16" = true := by first | (simp [plainName, overriddenIn]; done) | decide +kernel
theorem pd_0 : parseMethodDescriptor "(I)I" = some ⟨[.int], some .int⟩ := by decide +kernel
theorem pd_1 : parseMethodDescriptor "(I)[B" = some ⟨[.int], some (.array .byte)⟩ := by decide +kernel
theorem pd_2 : parseMethodDescriptor "([BII)V" = some ⟨[(.array .byte), .int, .int], none⟩ := by decide +kernel
theorem pd_3 : parseMethodDescriptor "([CI[BII)I" = some ⟨[(.array .char), .int, (.array .byte), .int, .int], some .int⟩ := by decide +kernel
theorem pd_4 : parseMethodDescriptor "([CII)[B" = some ⟨[(.array .char), .int, .int], some (.array .byte)⟩ := by decide +kernel
theorem pd_5 : parseMethodDescriptor "([BI)C" = some ⟨[(.array .byte), .int], some .char⟩ := by decide +kernel
theorem pd_6 : parseMethodDescriptor "([BI)B" = some ⟨[(.array .byte), .int], some .byte⟩ := by decide +kernel
theorem pn_1 : plainName "java/lang/String" = true := by first | (simp [plainName, overriddenIn]; done) | decide +kernel
theorem pd_7 : parseMethodDescriptor "([CIILjava/lang/Void;)V" = some ⟨[(.array .char), .int, .int, (.object "java/lang/Void")], none⟩ := by decide +kernel
theorem pd_8 : parseMethodDescriptor "([C)V" = some ⟨[(.array .char)], none⟩ := by decide +kernel
theorem pn_2 : plainName "com/example/cicada/cicada/NamesIsValidPinLaw" = true := by first | (simp [plainName, overriddenIn]; done) | decide +kernel
theorem pd_9 : parseMethodDescriptor "()B" = some ⟨[], some .byte⟩ := by decide +kernel
theorem pn_3 : plainName "jdk/internal/util/Preconditions" = true := by first | (simp [plainName, overriddenIn]; done) | decide +kernel
theorem pd_10 : parseMethodDescriptor "(IILjava/util/function/BiFunction;)I" = some ⟨[.int, .int, (.object "java/util/function/BiFunction")], some .int⟩ := by decide +kernel
theorem pd_11 : parseMethodDescriptor "(II)V" = some ⟨[.int, .int], none⟩ := by decide +kernel
theorem pn_4 : plainName "java/lang/StringLatin1" = true := by first | (simp [plainName, overriddenIn]; done) | decide +kernel
theorem pd_12 : parseMethodDescriptor "([B)I" = some ⟨[(.array .byte)], some .int⟩ := by decide +kernel
theorem pd_13 : parseMethodDescriptor "(I[B)V" = some ⟨[.int, (.array .byte)], none⟩ := by decide +kernel
theorem pd_14 : parseMethodDescriptor "()Z" = some ⟨[], some .boolean⟩ := by decide +kernel
theorem pn_5 : plainName "com/example/cicada/cicada/Names" = true := by first | (simp [plainName, overriddenIn]; done) | decide +kernel
theorem pd_15 : parseMethodDescriptor "()I" = some ⟨[], some .int⟩ := by decide +kernel
theorem pd_16 : parseMethodDescriptor "(I)C" = some ⟨[.int], some .char⟩ := by decide +kernel
theorem pd_17 : parseMethodDescriptor "(C)Z" = some ⟨[.char], some .boolean⟩ := by decide +kernel
theorem pd_18 : parseMethodDescriptor "(Ljava/lang/String;)Z" = some ⟨[(.object "java/lang/String")], some .boolean⟩ := by decide +kernel
theorem pn_6 : plainName "java/lang/AbstractStringBuilder" = true := by first | (simp [plainName, overriddenIn]; done) | decide +kernel
theorem pd_19 : parseMethodDescriptor "(I)V" = some ⟨[.int], none⟩ := by decide +kernel
theorem pn_7 : plainName "java/lang/StringBuilder" = true := by first | (simp [plainName, overriddenIn]; done) | decide +kernel
theorem pd_20 : parseMethodDescriptor "(II)I" = some ⟨[.int, .int], some .int⟩ := by decide +kernel
theorem pn_8 : plainName "jdk/internal/util/ArraysSupport" = true := by first | (simp [plainName, overriddenIn]; done) | decide +kernel
theorem pd_21 : parseMethodDescriptor "(III)I" = some ⟨[.int, .int, .int], some .int⟩ := by decide +kernel
theorem pn_9 : plainName "java/util/Arrays" = true := by first | (simp [plainName, overriddenIn]; done) | decide +kernel
theorem pd_22 : parseMethodDescriptor "([BI)[B" = some ⟨[(.array .byte), .int], some (.array .byte)⟩ := by decide +kernel
theorem pd_23 : parseMethodDescriptor "(IIILjava/util/function/BiFunction;)I" = some ⟨[.int, .int, .int, (.object "java/util/function/BiFunction")], some .int⟩ := by decide +kernel
theorem pd_24 : parseMethodDescriptor "(II[B)V" = some ⟨[.int, .int, (.array .byte)], none⟩ := by decide +kernel
theorem pd_25 : parseMethodDescriptor "([BI[BII)V" = some ⟨[(.array .byte), .int, (.array .byte), .int, .int], none⟩ := by decide +kernel
theorem pd_26 : parseMethodDescriptor "()V" = some ⟨[], none⟩ := by decide +kernel
theorem pd_27 : parseMethodDescriptor "(Ljava/lang/String;)V" = some ⟨[(.object "java/lang/String")], none⟩ := by decide +kernel
theorem pd_28 : parseMethodDescriptor "([BIB)V" = some ⟨[(.array .byte), .int, .byte], none⟩ := by decide +kernel
theorem pd_29 : parseMethodDescriptor "(ILjava/lang/String;)V" = some ⟨[.int, (.object "java/lang/String")], none⟩ := by decide +kernel
theorem pd_30 : parseMethodDescriptor "(Ljava/lang/String;)Ljava/lang/AbstractStringBuilder;" = some ⟨[(.object "java/lang/String")], some (.object "java/lang/AbstractStringBuilder")⟩ := by decide +kernel
theorem pd_31 : parseMethodDescriptor "([BII)[B" = some ⟨[(.array .byte), .int, .int], some (.array .byte)⟩ := by decide +kernel
theorem pd_32 : parseMethodDescriptor "()[B" = some ⟨[], some (.array .byte)⟩ := by decide +kernel
theorem pd_33 : parseMethodDescriptor "(Ljava/lang/AbstractStringBuilder;Ljava/lang/Void;)V" = some ⟨[(.object "java/lang/AbstractStringBuilder"), (.object "java/lang/Void")], none⟩ := by decide +kernel
theorem pd_34 : parseMethodDescriptor "(Ljava/lang/StringBuilder;)V" = some ⟨[(.object "java/lang/StringBuilder")], none⟩ := by decide +kernel
theorem pd_35 : parseMethodDescriptor "(Ljava/lang/String;)Ljava/lang/StringBuilder;" = some ⟨[(.object "java/lang/String")], some (.object "java/lang/StringBuilder")⟩ := by decide +kernel
theorem pd_36 : parseMethodDescriptor "()Ljava/lang/String;" = some ⟨[], some (.object "java/lang/String")⟩ := by decide +kernel
theorem pd_37 : parseMethodDescriptor "(ICCCC)Ljava/lang/String;" = some ⟨[.int, .char, .char, .char, .char], some (.object "java/lang/String")⟩ := by decide +kernel
theorem pd_38 : parseMethodDescriptor "(Ljava/lang/String;Ljava/lang/String;)Ljava/lang/String;" = some ⟨[(.object "java/lang/String"), (.object "java/lang/String")], some (.object "java/lang/String")⟩ := by decide +kernel
abbrev oP : String := "ABCDEFGHIJklmnopqrst0123456789uvwxyzUVWXYZ_-.ab.cd0123456789abcdefghijABCDEFGHIJklmnopqrst-_"
abbrev jA : String := "java/lang/AbstractStringBuilder"
abbrev jB : String := "java/lang/StringBuilder"
abbrev jS : String := "java/lang/String"
abbrev jL : String := "com/example/cicada/cicada/NamesIsValidPinLaw"
abbrev jN : String := "com/example/cicada/cicada/Names"
abbrev jU : String := "java/lang/StringUTF16"
abbrev jX : String := "java/lang/StringLatin1"
abbrev jP : String := "jdk/internal/util/Preconditions"
abbrev jY : String := "java/util/Arrays"
abbrev jV : String := "jdk/internal/util/ArraysSupport"
abbrev jM : String := "java/lang/Math"
abbrev jZ : String := "java/lang/System"
theorem own_w {Z : State} {a0 : Array Value} (hw : ∀ d ∈ tables_1, d.before a0 Z = true) (i : Nat) {d : Jvm.Cond} (h : tables_1[i]? = some d) : d.before a0 Z = true := hw _ (List.mem_of_getElem? h)
theorem otd : (372 : Int32).toInt = ((2 * 186 : Nat) : Int) := rfl
theorem ot0 : (0 : Int32).toInt = ((0 : Nat) : Int) := rfl
theorem ot16 : (16 : Int32).toInt = ((16 : Nat) : Int) := rfl
theorem ot92 : (92 : Int32).toInt = ((92 : Nat) : Int) := rfl
theorem ot186 : (186 : Int32).toInt = ((186 : Nat) : Int) := rfl
theorem ot93 : (93 : Int32).toInt = ((93 : Nat) : Int) := rfl
theorem ot1 : (1 : Int32).toInt = ((1 : Nat) : Int) := rfl
theorem ot372 : (372 : Int32).toInt = ((372 : Nat) : Int) := rfl
theorem ot4 : (4 : Int32).toInt = ((4 : Nat) : Int) := rfl
theorem ot2 : (2 : Int32).toInt = ((2 : Nat) : Int) := rfl
theorem ot3 : (3 : Int32).toInt = ((3 : Nat) : Int) := rfl
theorem own_eqint {args : Array Value} {s : State} {t : Term} {k : Int32} (h : (Jvm.Cond.eq t (Term.int k)).value args s none s [] = some true) : t.eval args s none [] s = some (.int k) := by
  simp only [Cond.value, Term.eval] at h
  cases ht : t.eval args s none [] s with
  | none => simp [ht] at h
  | some x => cases x <;> simp [ht] at h ⊢; exact h
theorem own_safeS {Z : State} {EL : List (String × Nat)} {vm : Vm} {h : Heap} {x : Addr} (hal : Z.vm.Alike vm) (F : Fld Z h x jS "value" "[B" .null) (E : Exa Z h x jS) : Safe Z EL vm h x := fun B => by
  obtain ⟨p, -, u, a, -, q, -, G, rfl | rfl⟩ := B
  · obtain ⟨cell, cf, k, i, f, h1, h2, h3, h4, h5, h6, h7⟩ := F
    cases (show h[q.sa]? = some q.sC from G.ha).symm.trans h1
    obtain ⟨cS, ⟨⟨s1, s2, s3, ⟨cv, kv, iv, s4, s4'⟩, -, s6, s7, s8, s9⟩, -⟩, -⟩ := G
    obtain ⟨k', e⟩ := ff_back (U := Wst Z vm h) hal s4
    cases h2.symm.trans e
    cases h7.symm.trans s8
  · obtain ⟨cell, k, e1, e2, e3, -, -⟩ := E
    cases (show h[q.sd]? = some q.SA from G.hd).symm.trans e1
    obtain ⟨cS, -, -, f, -⟩ := G
    have f' : Z.vm.findClass "[B" = some q.SA.cls := by rw [← hal.findClass]; exact f
    obtain ⟨k1, q1, q2⟩ := Vm.findClass_spec f'
    obtain ⟨k2, q3, q4⟩ := Vm.findClass_spec e2
    cases q1.symm.trans q3
    exact absurd (q2.symm.trans q4) (by decide)
theorem own_staK {Z : State} {h h' : Heap} {C n d : String} {v : Value} {ws : List Addr} (F : Sta Z h C n d v) (K : Keep h h' ws) (hn : ∀ x ∈ ws, ∀ cell : Cell, h[x]? = some cell → cell.vm.isStatics = false) : Sta Z h' C n d v := by
  obtain ⟨cf, i, k, f, st, cell, h1, h2, h3, h4, h5, h6, h7⟩ := F
  exact ⟨cf, i, k, f, st, cell, h1, h2, h3, h4, K.2.1 _ _ h5 (fun hm => by have := hn _ hm _ h5; rw [h6] at this; cases this), h6, h7⟩
theorem own_nsE {Z : State} {h : Heap} {a : Addr} {C : String} (E : Exa Z h a C) : ∀ cell : Cell, h[a]? = some cell → cell.vm.isStatics = false := fun cell q => by
  obtain ⟨c, k, e1, -, -, e4, -⟩ := E
  cases e1.symm.trans q
  exact e4
theorem own_nsV {Z : State} {h : Heap} {a : Addr} {k : ClassId} {ty : FieldType} {z : Int32} {vs : List Value} {dv : Value} (F : Arv Z h a k ty z vs dv) : ∀ cell : Cell, h[a]? = some cell → cell.vm.isStatics = false := fun cell q => by
  obtain ⟨c, A, -⟩ := F
  cases A.1.symm.trans q
  have h1 := A.2.1.1
  cases hv : cell.vm with
  | statics y => exact absurd hv (h1 y)
  | _ => rfl
theorem own_extK {h h' : Heap} (K : Keep h h' []) : Ext h h' := ⟨K.1, fun a c q => K.2.1 a c q (by simp)⟩
theorem own_c255 (x : Int32) : ¬ ((255 : Int32) < nar .char ((x &&& (255 : Int32)).toUInt32.toUInt16.toUInt32.toInt32)) := by
  have h := c_and x 255 (by decide)
  have e : (255 : Int32).toInt = 255 := rfl
  rw [e] at h
  have h1 := c_i2c (x &&& (255 : Int32))
  have h2 := c_i2c ((x &&& (255 : Int32)).toUInt32.toUInt16.toUInt32.toInt32)
  rw [Int32.lt_iff_toInt_lt, e]
  show ¬ (255 < ((x &&& (255 : Int32)).toUInt32.toUInt16.toUInt32.toInt32.toUInt32.toUInt16.toUInt32.toInt32).toInt)
  omega
theorem own_and3 (x : Int32) : (x &&& (3 : Int32)) = (0 : Int32) ∨ (x &&& (3 : Int32)) = (1 : Int32) ∨ (x &&& (3 : Int32)) = (2 : Int32) ∨ (x &&& (3 : Int32)) = (3 : Int32) := by
  have h := c_and x 3 (by decide)
  have e : (3 : Int32).toInt = 3 := rfl
  rw [e] at h
  simp only [← Int32.toInt_inj]
  simp only [Int32.reduceToInt]
  omega
theorem own_emp {s : State} {args : Array Value} {t : Term} {a : Addr} {ty : FieldType} {dv : Value} (hf : Fit s) (ev : t.eval args s none [] s = some (.ref a)) (ha : (Jvm.Cond.arrayOf t ty).value args s none s [] = some true) (hl : (Jvm.Cond.eq (Term.length t) (Term.int (0 : Int32))).value args s none s [] = some true) : ∃ k, Arv s s.heap a k ty (0 : Int32) [] dv := by
  obtain ⟨cl, A⟩ := Arr.start ev ha
  have hlen := own_eqint hl
  obtain ⟨b, cell, e1, e2, e3⟩ := Term.length_spec hlen
  cases ev.symm.trans e1
  have hcl : cell = cl := by
    simp only [State.arrayAt?, Option.bind_eq_bind, A.1, Option.bind_some] at e2
    grind
  subst hcl
  have h31 := Jvm.Free.SBG.length_lt ev e2 hlen
  injection e3 with e3
  exact ⟨cell.cls, Arv.start hf A h31 e3.symm (by decide) rfl trivial⟩
def own_vs (t : String) : List Value := t.toList.map (fun c => Value.int (Jvm.Lit.byteI c.toNat.toUInt16))
theorem own_ht (t : String) (h : ∀ c ∈ t.toList, c.toNat < 256) : (∀ c ∈ t.toList, c.toNat < 256) ∧ t.toList.map (fun c => Value.int (Jvm.Lit.byteI c.toNat.toUInt16)) = own_vs t := ⟨h, rfl⟩
theorem own_vl (t : String) (n : Nat) {z : Int32} (h : z.toNatClampNeg = n) (h2 : t.toList.length = n) : z.toNatClampNeg = (own_vs t).length := by rw [h, own_vs, List.length_map, h2]

def own_I (ns : List Int32) : List Value := ns.map Value.int
theorem own_lenI (ns : List Int32) : (own_I ns).length = ns.length := by simp [own_I]
theorem own_getI (ns : List Int32) (i : Nat) : (own_I ns).getD i (.int 0) = .int (ns.getD i 0) := by
  simp only [own_I, List.getD_eq_getElem?_getD, List.getElem?_map]
  cases ns[i]? <;> rfl
theorem own_getI2 {j x : Nat} (ns : List Int32) (h : j = x) : (own_I ns).getD j (.int 0) = .int (ns.getD x 0) := by rw [h]; exact own_getI ns x
theorem own_setI (ns : List Int32) (i : Nat) (v : Int32) : (own_I ns).set i (.int v) = own_I (ns.set i v) := by simp only [own_I, List.map_set]
theorem own_arvI {Z : State} {h : Heap} {a : Addr} {k : ClassId} {ty : FieldType} {z : Int32} {ns : List Int32} {i : Nat} {v : Int32} {d : Value} (F : Arv Z h a k ty z ((own_I ns).set i (.int v)) d) : Arv Z h a k ty z (own_I (ns.set i v)) d := by rw [← own_setI]; exact F
theorem own_newI {Z : State} {h : Heap} {a : Addr} {k : ClassId} {ty : FieldType} {z : Int32} {n : Nat} (F : Arv Z h a k ty z [] (.int 0)) : Arv Z h a k ty z (own_I (List.replicate n 0)) (.int 0) :=
  F.pad fun i => by
    have e : own_I (List.replicate n 0) = [] ++ List.replicate n (.int 0) := by simp [own_I]
    rw [e]; exact pad_rep [] (.int 0) n i
theorem own_jn {j : Int32} {k : Nat} (h : j.toInt = k) : j.toNatClampNeg = k := by simp only [Int32.toNatClampNeg, h]; omega
theorem own_jb {j z : Int32} {k m : Nat} (h : j.toInt = k) (hz : z.toInt = m) (q : k < m) : ¬ j < 0 ∧ j < z := by
  have e : (0 : Int32).toInt = 0 := rfl
  rw [Int32.lt_iff_toInt_lt, Int32.lt_iff_toInt_lt, e]; omega
theorem own_ix0 (p : Int32) (i : Nat) (h : p.toInt = i) (hi : i < 1024) : ((4 : Int32) * p).toInt = ((4 * i : Nat) : Int) := by
  have a := c_imul 4 p
  have b := rng32 ((4 : Int32) * p)
  have e : (4 : Int32).toInt = 4 := rfl
  rw [e] at a
  omega
theorem own_ixc (j c : Int32) (i k : Nat) (h : j.toInt = i) (hc : c.toInt = k) (hi : i < 4096) (hk : k < 4) : (j + c).toInt = ((i + k : Nat) : Int) := by
  have a := c_iadd j c
  have b := rng32 (j + c)
  omega
theorem own_l1 (c : Int32) (h0 : 0 ≤ c.toInt) (h1 : c.toInt < 256) : nar .char (((c.toInt8.toInt32.toInt8.toInt32) &&& (255 : Int32)).toUInt32.toUInt16.toUInt32.toInt32) = c := by
  rw [← Int32.toInt_inj]
  have a := c_i2b c
  have b := c_i2b (c.toInt8.toInt32)
  have d := c_mask (c.toInt8.toInt32.toInt8.toInt32) 255 8 (by decide) (by decide)
  have e := c_i2c ((c.toInt8.toInt32.toInt8.toInt32) &&& (255 : Int32))
  have f := c_i2c (((c.toInt8.toInt32.toInt8.toInt32) &&& (255 : Int32)).toUInt32.toUInt16.toUInt32.toInt32)
  show ((((c.toInt8.toInt32.toInt8.toInt32) &&& (255 : Int32)).toUInt32.toUInt16.toUInt32.toInt32).toUInt32.toUInt16.toUInt32.toInt32).toInt = _
  have d' : ((c.toInt8.toInt32.toInt8.toInt32) &&& (255 : Int32)).toInt = (c.toInt8.toInt32.toInt8.toInt32).toInt % 256 := d
  omega
theorem own_u16 (c : Int32) (h0 : 0 ≤ c.toInt) (h1 : c.toInt < 65536) : nar .char ((((((c >>> ((0 : Int32) &&& 31)).toInt8.toInt32).toInt8.toInt32) &&& (255 : Int32)) <<< ((0 : Int32) &&& 31)) ||| (((((c >>> ((8 : Int32) &&& 31)).toInt8.toInt32).toInt8.toInt32) &&& (255 : Int32)) <<< ((8 : Int32) &&& 31))).toUInt32.toUInt16.toUInt32.toInt32 = c := by
  rw [← Int32.toInt_inj]
  have s0 := c_ishr c 0 0 (by decide)
  have s8 := c_ishr c 8 8 (by decide)
  generalize c >>> ((0 : Int32) &&& 31) = x0 at *
  generalize c >>> ((8 : Int32) &&& 31) = x8 at *
  have a0 := c_i2b x0
  have b0 := c_i2b (x0.toInt8.toInt32)
  have a8 := c_i2b x8
  have b8 := c_i2b (x8.toInt8.toInt32)
  generalize (x0.toInt8.toInt32).toInt8.toInt32 = y0 at *
  generalize (x8.toInt8.toInt32).toInt8.toInt32 = y8 at *
  have d0 : (y0 &&& (255 : Int32)).toInt = y0.toInt % 256 := c_mask y0 255 8 (by decide) (by decide)
  have d8 : (y8 &&& (255 : Int32)).toInt = y8.toInt % 256 := c_mask y8 255 8 (by decide) (by decide)
  generalize y0 &&& (255 : Int32) = z0 at *
  generalize y8 &&& (255 : Int32) = z8 at *
  have t0 := c_ishl z0 0 0 (by decide)
  have t8 := c_ishl z8 8 8 (by decide)
  generalize z0 <<< ((0 : Int32) &&& 31) = w0 at *
  generalize z8 <<< ((8 : Int32) &&& 31) = w8 at *
  have r0 := rng32 w0
  have r8 := rng32 w8
  have o := c_or' w0 w8 8 (by decide) 256 (by decide)
  have ro := rng32 (w0 ||| w8)
  generalize w0 ||| w8 = v at *
  have e := c_i2c v
  have f := c_i2c (v.toUInt32.toUInt16.toUInt32.toInt32)
  show ((v.toUInt32.toUInt16.toUInt32.toInt32).toUInt32.toUInt16.toUInt32.toInt32).toInt = _
  simp only [Nat.reducePow] at s0 s8 t0 t8
  omega
def own_lo (c : Int32) : Int32 := (((c >>> ((0 : Int32) &&& 31)).toInt8.toInt32).toInt8.toInt32)
def own_hi (c : Int32) : Int32 := (((c >>> ((8 : Int32) &&& 31)).toInt8.toInt32).toInt8.toInt32)
def own_gc (a b : Int32) : Int32 := nar .char (((a &&& (255 : Int32)) <<< ((0 : Int32) &&& 31)) ||| ((b &&& (255 : Int32)) <<< ((8 : Int32) &&& 31))).toUInt32.toUInt16.toUInt32.toInt32
theorem own_gu (c : Int32) (h : 0 ≤ c.toInt ∧ c.toInt < 65536) : own_gc (own_lo c) (own_hi c) = c := own_u16 c h.1 h.2
def own_b8 (c : Int32) : Int32 := (c.toInt8.toInt32.toInt8.toInt32)
def own_g8 (b : Int32) : Int32 := nar .char ((b &&& (255 : Int32)).toUInt32.toUInt16.toUInt32.toInt32)
theorem own_gl (c : Int32) (h : 0 ≤ c.toInt ∧ c.toInt < 65536) (q : ¬ (255 : Int32) < c) : own_g8 (own_b8 c) = c := own_l1 c h.1 (by
  have e : (255 : Int32).toInt = 255 := rfl
  rw [Int32.lt_iff_toInt_lt, e] at q; omega)
theorem own_sh1 {i : Int32} {ii : Nat} (h : i.toInt = (ii : Int)) (hs : ii < 100000) : (i <<< ((1 : Int32) &&& 31)).toInt = ((2 * ii : Nat) : Int) := by
  have a := c_ishl i 1 1 (by decide)
  have r := rng32 (i <<< ((1 : Int32) &&& 31))
  simp only [Nat.reducePow] at a
  omega
theorem own_sh2 {i : Int32} {ii : Nat} (h : i.toInt = (ii : Int)) (hs : ii < 100000) : ((i <<< ((1 : Int32) &&& 31)) + (1 : Int32)).toInt = ((2 * ii + 1 : Nat) : Int) := by
  have a := own_sh1 h hs
  have b := c_iadd (i <<< ((1 : Int32) &&& 31)) 1
  have r := rng32 ((i <<< ((1 : Int32) &&& 31)) + 1)
  have e : (1 : Int32).toInt = 1 := rfl
  rw [e] at b
  omega
theorem own_inc {i : Int32} {j : Nat} (h : i.toInt = (j : Int)) (hs : j < 1000000) : (i + (1 : Int32)).toInt = ((j + 1 : Nat) : Int) := by
  have a := c_iadd i 1
  have r := rng32 (i + 1)
  have e : (1 : Int32).toInt = 1 := rfl
  rw [e] at a
  omega
theorem own_ltn {i z : Int32} {j m : Nat} (h : i.toInt = (j : Int)) (hz : z.toInt = (m : Int)) (q : i < z) : j < m := by
  rw [Int32.lt_iff_toInt_lt] at q; omega
theorem own_gen {i z : Int32} {j m : Nat} (h : i.toInt = (j : Int)) (hz : z.toInt = (m : Int)) (q : ¬ i < z) : m ≤ j := by
  rw [Int32.lt_iff_toInt_lt] at q; omega
theorem own_gset (ys : List Int32) (j t : Nat) (v : Int32) (h : j < ys.length) : (ys.set j v).getD t 0 = if t = j then v else ys.getD t 0 := by
  simp only [List.getD_eq_getElem?_getD, List.getElem?_set]
  by_cases q : t = j
  · subst q; simp [h]
  · simp [q, Ne.symm q]
def own_cpI (cl ys : List Int32) (j : Nat) : Prop := ∀ q, q < j → ¬ (255 : Int32) < cl.getD q 0 ∧ ys.getD q 0 = own_b8 (cl.getD q 0)
theorem own_cp0 (cl ys : List Int32) : own_cpI cl ys 0 := fun q h => absurd h (Nat.not_lt_zero _)
theorem own_cps {cl ys : List Int32} {j : Nat} (h : own_cpI cl ys j) (hl : j < ys.length) (hc : ¬ (255 : Int32) < cl.getD j 0) : own_cpI cl (ys.set j (own_b8 (cl.getD j 0))) (j + 1) := fun q hq => by
  rw [own_gset _ _ _ _ hl]
  by_cases e : q = j
  · subst e; rw [if_pos rfl]; exact ⟨hc, rfl⟩
  · rw [if_neg e]; exact h q (by omega)
def own_tbI (cl ys : List Int32) (j : Nat) : Prop := ∀ q, q < j → ys.getD (2 * q) 0 = own_lo (cl.getD q 0) ∧ ys.getD (2 * q + 1) 0 = own_hi (cl.getD q 0)
theorem own_tb0 (cl ys : List Int32) : own_tbI cl ys 0 := fun q h => absurd h (Nat.not_lt_zero _)
theorem own_tbs {cl ys : List Int32} {j : Nat} (h : own_tbI cl ys j) (hl : 2 * j + 1 < ys.length) : own_tbI cl ((ys.set (2 * j) (own_lo (cl.getD j 0))).set (2 * j + 1) (own_hi (cl.getD j 0))) (j + 1) := fun q hq => by
  rw [own_gset _ _ _ _ (by rw [List.length_set]; omega), own_gset _ _ _ _ (by omega), own_gset _ _ _ _ (by rw [List.length_set]; omega), own_gset _ _ _ _ (by omega)]
  by_cases e : q = j
  · subst e
    rw [if_neg (by omega), if_pos rfl, if_pos rfl]; exact ⟨rfl, rfl⟩
  · rw [if_neg (by omega), if_neg (by omega), if_neg (by omega), if_neg (by omega)]; exact h q (by omega)
theorem own_nn {z : Int32} {m : Nat} (h : z.toInt = (m : Int)) : ¬ z < (0 : Int32) := by
  have e : (0 : Int32).toInt = 0 := rfl
  rw [Int32.lt_iff_toInt_lt, e]; omega
theorem own_lt31 {z : Int32} {m : Nat} (h : z.toInt = (m : Int)) (hs : m < 100000) : z < (1073741823 : Int32) := by
  have e : (1073741823 : Int32).toInt = 1073741823 := rfl
  rw [Int32.lt_iff_toInt_lt, e]; omega
theorem own_capn {z : Int32} {m c : Nat} (h : z.toInt = (m : Int)) (hc : m ≤ c) : z.toNatClampNeg ≤ c := by rw [own_jn h]; exact hc
theorem own_wz {w z : Int32} {j m : Nat} (hw : w.toInt = (j : Int)) (hz : z.toInt = (m : Int)) (e : j = m) : w = z := by rw [← Int32.toInt_inj]; omega
theorem own_wnz {w z : Int32} {j m : Nat} (hw : w.toInt = (j : Int)) (hz : z.toInt = (m : Int)) (e : j < m) : ¬ w = z := by rw [← Int32.toInt_inj]; omega
theorem own_jall {cl : List Int32} {jn mm : Nat} (h1 : jn ≤ mm) (h5 : jn < mm → (255 : Int32) < cl.getD jn 0) (hall : ∀ q, q < mm → ¬ (255 : Int32) < cl.getD q 0) : jn = mm := by
  rcases Nat.lt_or_ge jn mm with h | h
  · exact absurd (h5 h) (hall jn h)
  · omega
theorem own_jex {cl ys : List Int32} {jn mm : Nat} (h1 : jn ≤ mm) (hp : own_cpI cl ys jn) (hex : ∃ q, q < mm ∧ (255 : Int32) < cl.getD q 0) : jn < mm := by
  rcases Nat.lt_or_ge jn mm with h | h
  · exact h
  · obtain ⟨q, h2, h3⟩ := hex
    exact absurd h3 (hp q (by omega)).1
theorem own_g255 {a b c : Int32} (h : a = own_lo c ∧ b = own_hi c) (hb : 0 ≤ c.toInt ∧ c.toInt < 65536) (hc : (255 : Int32) < c) : (255 : Int32) < own_gc a b := by rw [h.1, h.2, own_gu c hb]; exact hc
theorem own_cf0 (z : Int32) : (nar .byte ((((z - z).toUInt32 >>> ((31 : Int32) &&& 31).toUInt32).toInt32).toInt8.toInt32)) = (0 : Int32) := by
  have e : z - z = 0 := Int32.sub_self z
  rw [e]; decide
theorem own_cf1 {z : Int32} {m : Nat} (h : z.toInt = (m : Int)) (hp : 0 < m) (hs : m ≤ 186) : (nar .byte ((((z - (z <<< ((1 : Int32) &&& 31))).toUInt32 >>> ((31 : Int32) &&& 31).toUInt32).toInt32).toInt8.toInt32)) = (1 : Int32) := by
  have a := own_sh1 h (by omega)
  have b := c_isub z (z <<< ((1 : Int32) &&& 31))
  have r := rng32 (z - (z <<< ((1 : Int32) &&& 31)))
  have d := c_iushr (z - (z <<< ((1 : Int32) &&& 31))) 31 31 (by decide) (by decide)
  simp only [Nat.reducePow] at d
  have e : ((((z - (z <<< ((1 : Int32) &&& 31))).toUInt32 >>> ((31 : Int32) &&& 31).toUInt32).toInt32)) = (1 : Int32) := by
    rw [← Int32.toInt_inj, d]
    have e1 : (1 : Int32).toInt = 1 := rfl
    rw [e1]; omega
  rw [e]; decide
theorem own_nz {z : Int32} {m : Nat} (h : z.toInt = (m : Int)) (hp : 0 < m) : ¬ z = (0 : Int32) := by
  have e : (0 : Int32).toInt = 0 := rfl
  rw [← Int32.toInt_inj, e]; omega
def own_SI (Z : State) (h : Heap) : Prop := Sta Z h jP "SIOOBE_FORMATTER" "Ljava/util/function/BiFunction;" .null ∨ ∃ a : Addr, Sta Z h jP "SIOOBE_FORMATTER" "Ljava/util/function/BiFunction;" (.ref a)
theorem own_SI.ext {Z : State} {h h' : Heap} (F : own_SI Z h) (E : Ext h h') : own_SI Z h' := F.imp (fun q => q.ext E) fun ⟨a, q⟩ => ⟨a, q.ext E⟩
theorem own_SI.wr {Z : State} {h h' : Heap} {a : Addr} {sl : Nat} {v : Value} (F : own_SI Z h) (W : Wr h h' a sl v) : own_SI Z h' := F.imp (fun q => q.wr W) fun ⟨a, q⟩ => ⟨a, q.wr W⟩
theorem own_SIK {Z : State} {h h' : Heap} {ws : List Addr} (F : own_SI Z h) (K : Keep h h' ws) (hn : ∀ x ∈ ws, ∀ cell : Cell, h[x]? = some cell → cell.vm.isStatics = false) : own_SI Z h' := F.imp (fun q => own_staK q K hn) fun ⟨a, q⟩ => ⟨a, own_staK q K hn⟩
theorem own_ciL {i z : Int32} {j m : Nat} (h : i.toInt = (j : Int)) (hz : z.toInt = (m : Int)) (q : j < m) : i < z := by rw [Int32.lt_iff_toInt_lt]; omega
theorem own_nnc (x : Int32) : nar .char (nar .char x) = nar .char x := by
  rw [← Int32.toInt_inj]
  have a := c_i2c x
  have b := c_i2c (x.toUInt32.toUInt16.toUInt32.toInt32)
  show ((x.toUInt32.toUInt16.toUInt32.toInt32).toUInt32.toUInt16.toUInt32.toInt32).toInt = (x.toUInt32.toUInt16.toUInt32.toInt32).toInt
  omega
theorem own_ncc (a b : Int32) : nar .char (own_gc a b) = own_gc a b := own_nnc _
theorem own_nc8 (a : Int32) : nar .char (own_g8 a) = own_g8 a := own_nnc _

abbrev own_r (a b c : Int32) : Prop := ¬ c < a ∧ ¬ b < c
def own_ia (c : Int32) : Int32 := if own_r 65 90 c ∨ own_r 97 122 c ∨ own_r 48 57 c ∨ c = 46 ∨ c = 95 ∨ c = 45 then (1 : Int32) else (0 : Int32)
theorem own_ia1 {c : Int32} (h : own_r 65 90 c ∨ own_r 97 122 c ∨ own_r 48 57 c ∨ c = 46 ∨ c = 95 ∨ c = 45) : own_ia c = 1 := by unfold own_ia; rw [if_pos h]
theorem own_ia0 {c : Int32} (h1 : ¬ own_r 65 90 c) (h2 : ¬ own_r 97 122 c) (h3 : ¬ own_r 48 57 c) (h4 : ¬ c = 46) (h5 : ¬ c = 95) (h6 : ¬ c = 45) : own_ia c = 0 := by
  unfold own_ia; rw [if_neg fun h => by rcases h with h | h | h | h | h | h <;> contradiction]
def own_all (cs : List Int32) : Int32 := if (∀ q, q < cs.length → own_ia (cs.getD q 0) ≠ 0) then (1 : Int32) else (0 : Int32)
theorem own_all0 {cs : List Int32} {j m : Nat} (hl : cs.length = m) (hj : j < m) (h : own_ia (cs.getD j 0) = 0) : (some (.int 0) : Option Value) = some (.int (own_all cs)) := by
  unfold own_all
  rw [if_neg fun q => q j (by omega) h]
theorem own_all1 {cs : List Int32} {j m : Nat} (hl : cs.length = m) (hj : m ≤ j) (h : ∀ q, q < j → own_ia (cs.getD q 0) ≠ 0) : (some (.int 1) : Option Value) = some (.int (own_all cs)) := by
  unfold own_all
  rw [if_pos fun q hq => h q (by omega)]
theorem own_alls {cs : List Int32} {j : Nat} (h : ∀ q, q < j → own_ia (cs.getD q 0) ≠ 0) (hj : own_ia (cs.getD j 0) ≠ 0) : ∀ q, q < j + 1 → own_ia (cs.getD q 0) ≠ 0 := fun q hq => by
  by_cases e : q = j
  · subst e; exact hj
  · exact h q (by omega)
theorem own_allm (cs : List Int32) : (∀ q, q < cs.length → own_ia (cs.getD q 0) ≠ 0) ↔ ∀ c ∈ cs, own_ia c ≠ 0 := by
  constructor
  · intro h c hc
    obtain ⟨i, hi, rfl⟩ := List.getElem_of_mem hc
    have := h i hi
    rwa [List.getD_eq_getElem?_getD, List.getElem?_eq_getElem hi] at this
  · intro h q hq
    rw [List.getD_eq_getElem?_getD, List.getElem?_eq_getElem hq]
    exact h _ (List.getElem_mem hq)
theorem own_all01 (cs : List Int32) : own_all cs = 0 ∨ own_all cs = 1 := by
  unfold own_all; split
  · exact Or.inr rfl
  · exact Or.inl rfl
theorem own_alle (cs : List Int32) : own_all cs ≠ 0 ↔ ∀ c ∈ cs, own_ia c ≠ 0 := by
  rw [← own_allm]; unfold own_all
  split <;> simp_all
def own_iv (cs : List Int32) : Int32 := if cs.length = 0 then 0 else if 100 < cs.length then 0 else own_all cs
theorem own_ivA {P Q cl : List Int32} (hP : ∀ c ∈ P, own_ia c ≠ 0) (hQ : ∀ c ∈ Q, own_ia c ≠ 0) : own_all (P ++ (cl ++ Q)) = own_all cl := by
  have e : own_all (P ++ (cl ++ Q)) ≠ 0 ↔ own_all cl ≠ 0 := by
    rw [own_alle, own_alle]
    constructor
    · intro h c hc; exact h c (by simp [hc])
    · intro h c hc
      rcases List.mem_append.mp hc with q | q
      · exact hP c q
      · rcases List.mem_append.mp q with q | q
        · exact h c q
        · exact hQ c q
  rcases own_all01 (P ++ (cl ++ Q)) with h1 | h1 <;> rcases own_all01 cl with h2 | h2
  · rw [h1, h2]
  · exact absurd h1 (e.mpr (by rw [h2]; decide))
  · exact absurd h2 (e.mp (by rw [h1]; decide))
  · rw [h1, h2]

def own_cp (as xs : List Int32) (sp dp nn : Nat) : List Int32 := xs.take dp ++ (List.range nn).map (fun i => as.getD (sp + i) 0) ++ xs.drop (dp + nn)
theorem own_cpl {as xs : List Int32} {sp dp nn : Nat} (h : dp + nn ≤ xs.length) : (own_cp as xs sp dp nn).length = xs.length := by
  simp only [own_cp, List.length_append, List.length_take, List.length_map, List.length_range, List.length_drop]; omega
theorem own_cpg {as xs : List Int32} {sp dp nn : Nat} (h : dp + nn ≤ xs.length) (t : Nat) : (own_cp as xs sp dp nn).getD t 0 = if t < dp then xs.getD t 0 else if t < dp + nn then as.getD (sp + (t - dp)) 0 else xs.getD t 0 := by
  unfold own_cp
  have l1 : (xs.take dp).length = dp := by rw [List.length_take]; omega
  have l2 : ((List.range nn).map (fun i => as.getD (sp + i) 0)).length = nn := by simp
  by_cases h1 : t < dp
  · rw [if_pos h1, List.getD_eq_getElem?_getD, List.append_assoc, List.getElem?_append_left (by omega), List.getElem?_take_of_lt h1, ← List.getD_eq_getElem?_getD]
  · rw [if_neg h1]
    by_cases h2 : t < dp + nn
    · rw [if_pos h2, List.getD_eq_getElem?_getD, List.getElem?_append_left (by rw [List.length_append]; omega), List.getElem?_append_right (by omega), l1, List.getElem?_map, List.getElem?_range (by omega)]; rfl
    · rw [if_neg h2, List.getD_eq_getElem?_getD, List.getElem?_append_right (by rw [List.length_append]; omega), List.length_append, l1, l2, List.getElem?_drop, show dp + nn + (t - (dp + nn)) = t by omega, ← List.getD_eq_getElem?_getD]
theorem own_cpq {as xs : List Int32} {nn : Nat} (h : nn ≤ xs.length) : ∀ q, q < nn → (own_cp as xs 0 0 nn).getD q 0 = as.getD q 0 := fun q hq => by
  rw [own_cpg (by omega), if_neg (by omega), if_pos (by omega)]; simp
theorem own_apl (A B : List Int32) (q : Nat) (h : q < A.length) : (A ++ B).getD q 0 = A.getD q 0 := by
  rw [List.getD_eq_getElem?_getD, List.getElem?_append_left h, ← List.getD_eq_getElem?_getD]
theorem own_apr (A B : List Int32) (k q : Nat) (h : k = A.length + q) : (A ++ B).getD k 0 = B.getD q 0 := by
  subst h
  rw [List.getD_eq_getElem?_getD, List.getElem?_append_right (by omega), Nat.add_sub_cancel_left, ← List.getD_eq_getElem?_getD]
theorem own_ac4 {a b z : Int32} {A B M : Nat} (h1 : a.toInt = (A : Int)) (h2 : b.toInt = (B : Int)) (h3 : z.toInt = (M : Int)) (h : A + B ≤ M) : a.toNatClampNeg + b.toNatClampNeg ≤ z.toNatClampNeg := by rw [own_jn h1, own_jn h2, own_jn h3]; exact h
theorem own_acl {a b : Int32} {A B M : Nat} {xs : List Int32} (h1 : a.toInt = (A : Int)) (h2 : b.toInt = (B : Int)) (h3 : xs.length = M) (h : A + B ≤ M) : a.toNatClampNeg + b.toNatClampNeg ≤ (own_I xs).length := by rw [own_jn h1, own_jn h2, own_lenI, h3]; exact h
theorem own_cpV {Z : State} {h : Heap} {b : Addr} {k : ClassId} {ty : FieldType} {z : Int32} {as xs : List Int32} {sp dp nn : Int32} {SP DP NN : Nat} {d : Value} (h1 : sp.toInt = (SP : Int)) (h2 : dp.toInt = (DP : Int)) (h3 : nn.toInt = (NN : Int)) (F : Arv Z h b k ty z ((own_I xs).take dp.toNatClampNeg ++ (List.range nn.toNatClampNeg).map (fun i => (own_I as).getD (sp.toNatClampNeg + i) (.int 0)) ++ (own_I xs).drop (dp.toNatClampNeg + nn.toNatClampNeg)) d) : Arv Z h b k ty z (own_I (own_cp as xs SP DP NN)) d := by
  rw [own_jn h1, own_jn h2, own_jn h3] at F
  have e : own_I (own_cp as xs SP DP NN) = (own_I xs).take DP ++ (List.range NN).map (fun i => (own_I as).getD (SP + i) (.int 0)) ++ (own_I xs).drop (DP + NN) := by
    simp only [own_getI]
    unfold own_I own_cp
    rw [List.map_append, List.map_append, List.map_take, List.map_drop, List.map_map]
    rfl
  rw [e]; exact F
def own_bs (t : String) : List Int32 := t.toList.map (fun c => Jvm.Lit.byteI c.toNat.toUInt16)
theorem own_arvS {Z : State} {h : Heap} {b : Addr} {k : ClassId} {ty : FieldType} {z : Int32} {t : String} {d : Value} (F : Arv Z h b k ty z (own_vs t) d) : Arv Z h b k ty z (own_I (own_bs t)) d := by
  have e : own_vs t = own_I (own_bs t) := by
    unfold own_vs own_I own_bs
    induction t.toList with
    | nil => rfl
    | cons a r ih => simp only [List.map_cons, ih]
  rw [← e]; exact F
theorem own_g8e (b : Int32) : own_g8 b = b &&& (255 : Int32) := by
  rw [← Int32.toInt_inj]
  have d : (b &&& (255 : Int32)).toInt = b.toInt % 256 := c_mask b 255 8 (by decide) (by decide)
  have e := c_i2c (b &&& (255 : Int32))
  have f := c_i2c ((b &&& (255 : Int32)).toUInt32.toUInt16.toUInt32.toInt32)
  show ((((b &&& (255 : Int32)).toUInt32.toUInt16.toUInt32.toInt32)).toUInt32.toUInt16.toUInt32.toInt32).toInt = _
  omega
theorem own_g8b (b : Int32) : 0 ≤ (b &&& (255 : Int32)).toInt ∧ (b &&& (255 : Int32)).toInt < 65536 := by
  have d : (b &&& (255 : Int32)).toInt = b.toInt % 256 := c_mask b 255 8 (by decide) (by decide)
  omega
theorem own_nf {args : Array Value} {s : State} {C : String} {y y0 : MethodName} (hs : (Cond.selects C y0 y0).before args s = true) (h0 : y0.cls = y.cls) : NotFace s y := fun r0 h => by
  obtain ⟨c2, r2, m2, q1, q2, q3, q4, kP, hkP, hkPi⟩ := Cond.selects_spec hs
  have e1 := findClass_of_methodNamed q3
  have e2 := findClass_of_methodNamed h
  rw [h0] at e1
  have e3 := Option.some.inj (e1.symm.trans e2)
  exact ⟨kP, e3 ▸ hkP, hkPi⟩
theorem own_selp {s : State} {args : Array Value} {C : String} {y y0 : MethodName} (hs : (Cond.selects C y0 y0).before args s = true) (h0 : y0.cls = y.cls) (hp : s.PrivateAt y) (hi : (Cond.instanceMethod y).before args s = true) (hy : y.cls ≠ "java/lang/invoke/MethodHandle" ∧ y.cls ≠ "java/lang/invoke/VarHandle") : (Cond.selects y.cls y y).before args s = true := by
  obtain ⟨c2, r2, m2, -, -, q3, -, kP, hkP, hkPi⟩ := Cond.selects_spec hs
  exact selects_self_of_private (h0 ▸ findClass_of_methodNamed q3) hkP hkPi hp hi hy
theorem own_same {s : State} {args : Array Value} {C : String} {y y0 : MethodName} (hs : (Cond.selects C y0 y0).before args s = true) (h0 : y0.cls = y.cls) (hi : (Cond.instanceMethod y).before args s = true) (hy : y.cls ≠ "java/lang/invoke/MethodHandle" ∧ y.cls ≠ "java/lang/invoke/VarHandle") : (Cond.sameMethod y.cls y.cls y.name y.desc).before args s = true := by
  obtain ⟨c2, r2, m2, -, -, q3, -, kP, hkP, hkPi⟩ := Cond.selects_spec hs
  obtain ⟨mk, methM, hnamed, hmethM, -, -⟩ := Cond.instanceMethod_spec hi
  have hfound := State.methodFound?_of_named hnamed hy
  have hc : s.vm.findClass y.cls = some m2.cls := h0 ▸ findClass_of_methodNamed q3
  have hnamed' : s.methodNamed? ⟨y.cls, y.name, y.desc⟩ = some mk := hnamed
  simp only [Cond.before, Cond.holds, Cond.value, hc, hfound, hnamed', hkP]
  simp [hkPi]
theorem own_sub0 (z : Int32) : z - (0 : Int32) = z := by
  rw [← Int32.toInt_inj]
  have a := c_isub z 0
  have r := rng32 z
  have r2 := rng32 (z - 0)
  have e : (0 : Int32).toInt = 0 := rfl
  omega
theorem own_shl0 {i : Int32} {k : Nat} (h : i.toInt = (k : Int)) : (i <<< ((0 : Int32) &&& 31)).toInt = (k : Int) := by
  have a := c_ishl i 0 0 (by decide)
  have r := rng32 i
  have r2 := rng32 (i <<< ((0 : Int32) &&& 31))
  simp only [Nat.reducePow] at a
  omega
theorem own_addn {a b : Int32} {m n : Nat} (h1 : a.toInt = (m : Int)) (h2 : b.toInt = (n : Int)) (hs : m + n < 1000000) : (a + b).toInt = ((m + n : Nat) : Int) := by
  have q := c_iadd a b
  have r := rng32 (a + b)
  omega
theorem own_or3 {a b c : Int32} {A B C : Nat} (h1 : a.toInt = (A : Int)) (h2 : b.toInt = (B : Int)) (h3 : c.toInt = (C : Int)) : ¬ ((a ||| b) ||| c) < (0 : Int32) := by
  have q := (c_orS a b).1 (by omega) (by omega)
  have r := (c_orS (a ||| b) c).1 q (by omega)
  have e : (0 : Int32).toInt = 0 := rfl
  rw [Int32.lt_iff_toInt_lt, e]; omega
theorem own_sbn {zl ix zn : Int32} {md ck nn : Nat} (h1 : zl.toInt = (md : Int)) (h2 : ix.toInt = (ck : Int)) (h3 : zn.toInt = (nn : Int)) (h : ck + nn ≤ md) : ¬ (zl - ix) < zn := by
  have q := c_isub zl ix
  have r := rng32 (zl - ix)
  have r2 := rng32 zl
  rw [Int32.lt_iff_toInt_lt]; omega
theorem own_le0 {zt : Int32} {t : Nat} (h : zt.toInt = (t : Int)) (hs : t ≤ 186) : ¬ (0 : Int32) < (zt - (186 : Int32)) := by
  have q := c_isub zt 186
  have r := rng32 (zt - 186)
  have e : (0 : Int32).toInt = 0 := rfl
  have e2 : (186 : Int32).toInt = 186 := rfl
  rw [Int32.lt_iff_toInt_lt, e]; omega
def own_L (ns chl : List Int32) (k : Nat) : Prop := ∀ q, q < k → own_g8 (ns.getD q 0) = chl.getD q 0
def own_U (ns chl : List Int32) (k : Nat) : Prop := ∀ q, q < k → own_gc (ns.getD (2 * q) 0) (ns.getD (2 * q + 1) 0) = chl.getD q 0
theorem own_L0 (ns chl : List Int32) : own_L ns chl 0 := fun q h => absurd h (Nat.not_lt_zero _)
theorem own_U0 (ns chl : List Int32) : own_U ns chl 0 := fun q h => absurd h (Nat.not_lt_zero _)
theorem own_LL {ys xs chl : List Int32} {k mm : Nat} (h : ∀ q, q < mm → ys.getD q 0 = xs.getD q 0) (hp : own_L xs chl k) (hk : k ≤ mm) : own_L ys chl k := fun q hq => by rw [h q (by omega)]; exact hp q hq
theorem own_UU {ys xs chl : List Int32} {k mm : Nat} (h : ∀ q, q < mm → ys.getD q 0 = xs.getD q 0) (hp : own_U xs chl k) (hk : 2 * k ≤ mm) : own_U ys chl k := fun q hq => by rw [h (2 * q) (by omega), h (2 * q + 1) (by omega)]; exact hp q hq
theorem own_Lc {us xs chl : List Int32} {ck nn : Nat} (hp : own_L xs chl ck) (hl : ck + nn ≤ xs.length) (hs : ∀ q, q < nn → own_g8 (us.getD q 0) = chl.getD (ck + q) 0) : own_L (own_cp us xs 0 ck nn) chl (ck + nn) := fun q hq => by
  rw [own_cpg hl]
  by_cases h : q < ck
  · rw [if_pos h]; exact hp q h
  · rw [if_neg h, if_pos hq, Nat.zero_add, hs (q - ck) (by omega), show ck + (q - ck) = q by omega]
theorem own_Uc {us xs chl : List Int32} {ck nn : Nat} (hp : own_U xs chl ck) (hl : 2 * ck + 2 * nn ≤ xs.length) (hs : ∀ q, q < nn → own_gc (us.getD (2 * q) 0) (us.getD (2 * q + 1) 0) = chl.getD (ck + q) 0) : own_U (own_cp us xs 0 (2 * ck) (2 * nn)) chl (ck + nn) := fun q hq => by
  rw [own_cpg hl, own_cpg hl]
  by_cases h : q < ck
  · rw [if_pos (by omega), if_pos (by omega)]; exact hp q h
  · rw [if_neg (by omega), if_pos (by omega), if_neg (by omega), if_pos (by omega), show 0 + (2 * q - 2 * ck) = 2 * (q - ck) by omega, show 0 + (2 * q + 1 - 2 * ck) = 2 * (q - ck) + 1 by omega, hs (q - ck) (by omega), show ck + (q - ck) = q by omega]
theorem own_Us {yq chl : List Int32} {b : Int32} {k : Nat} (hp : own_U yq chl k) (hl : 2 * k + 1 < yq.length) (hb : own_g8 b = chl.getD k 0) : own_U ((yq.set (2 * k) (own_lo (b &&& (255 : Int32)))).set (2 * k + 1) (own_hi (b &&& (255 : Int32)))) chl (k + 1) := fun q hq => by
  rw [own_gset _ _ _ _ (by rw [List.length_set]; omega), own_gset _ _ _ _ (by omega), own_gset _ _ _ _ (by rw [List.length_set]; omega), own_gset _ _ _ _ (by omega)]
  by_cases e : q = k
  · subst e
    rw [if_neg (by omega), if_pos rfl, if_pos rfl, own_gu _ (own_g8b b), ← own_g8e]; exact hb
  · rw [if_neg (by omega), if_neg (by omega), if_neg (by omega), if_neg (by omega)]; exact hp q (by omega)
def own_cs (t : String) : List Int32 := (own_bs t).map own_g8
theorem own_csg (t : String) (q : Nat) : own_g8 ((own_bs t).getD q 0) = (own_cs t).getD q 0 := by
  simp only [own_cs, List.getD_eq_getElem?_getD, List.getElem?_map]
  cases (own_bs t)[q]? with
  | none => decide
  | some v => rfl
theorem own_csl (t : String) {n : Nat} (h : t.toList.length = n) : (own_cs t).length = n := by simp only [own_cs, own_bs, List.length_map, h]
theorem own_lP : (own_cs oP).length = 92 := own_csl _ (by decide)
theorem own_lD : (own_cs ".").length = 1 := own_csl _ (by decide)
theorem own_lQ : (own_cs ".dlq").length = 4 := own_csl _ (by decide)
def own_full (cl : List Int32) : List Int32 := (own_cs oP ++ own_cs ".") ++ (cl ++ own_cs ".dlq")
theorem own_lPD : (own_cs oP ++ own_cs ".").length = 93 := by rw [List.length_append, own_lP, own_lD]
theorem own_sP (cl : List Int32) : ∀ q, q < 92 → own_g8 ((own_bs oP).getD q 0) = (own_full cl).getD (0 + q) 0 := fun q hq => by
  unfold own_full
  rw [own_csg, Nat.zero_add, own_apl _ _ q (by rw [own_lPD]; omega), own_apl _ _ q (by rw [own_lP]; omega)]
theorem own_sD (cl : List Int32) : ∀ q, q < 1 → own_g8 ((own_bs ".").getD q 0) = (own_full cl).getD (92 + q) 0 := fun q hq => by
  unfold own_full
  rw [own_csg, own_apl _ _ (92 + q) (by rw [own_lPD]; omega), own_apr _ _ (92 + q) q (by rw [own_lP])]
theorem own_sS {cl : List Int32} {nn : Nat} {f : Nat → Int32} (hl : cl.length = nn) (h : ∀ q, q < nn → f q = cl.getD q 0) : ∀ q, q < nn → f q = (own_full cl).getD (93 + q) 0 := fun q hq => by
  unfold own_full
  rw [own_apr _ _ (93 + q) q (by rw [own_lPD]), own_apl _ _ q (by omega)]; exact h q hq
theorem own_sQ {cl : List Int32} {nn : Nat} (hl : cl.length = nn) : ∀ q, q < 4 → own_g8 ((own_bs ".dlq").getD q 0) = (own_full cl).getD (93 + nn + q) 0 := fun q hq => by
  unfold own_full
  rw [own_csg, own_apr _ _ (93 + nn + q) (nn + q) (by rw [own_lPD]; omega), own_apr _ _ (nn + q) q (by omega)]
theorem own_fl {cl : List Int32} {nn : Nat} (hl : cl.length = nn) : (own_full cl).length = 93 + nn + 4 := by
  unfold own_full; rw [List.length_append, own_lPD, List.length_append, own_lQ, hl]; omega
theorem own_fa (cl : List Int32) : own_all (own_full cl) = own_all cl := own_ivA (by decide +kernel) (by decide +kernel)
theorem own_fin0 {cl : List Int32} (h : own_all cl = 0) : own_iv (own_full cl) = 0 := by
  unfold own_iv; split
  · rfl
  · split
    · rfl
    · rw [own_fa]; exact h
theorem own_fin1 {cl : List Int32} {nn : Nat} (hl : cl.length = nn) (h : 100 < 97 + nn) : own_iv (own_full cl) = 0 := by
  unfold own_iv; rw [own_fl hl, if_neg (by omega), if_pos (by omega)]
theorem own_fin2 {cl : List Int32} {nn : Nat} (hl : cl.length = nn) (h : 97 + nn ≤ 100) (ha : ¬ own_all cl = 0) : own_iv (own_full cl) = 1 := by
  unfold own_iv; rw [own_fl hl, if_neg (by omega), if_neg (by omega), own_fa]
  rcases own_all01 cl with q | q
  · exact absurd q ha
  · exact q
theorem own_fin3 {cl : List Int32} (h : cl.length = 0) : own_iv cl = 0 := by unfold own_iv; rw [if_pos h]
theorem own_fin4 {cl : List Int32} {nn : Nat} (hl : cl.length = nn) (h1 : 0 < nn) (h4 : nn ≤ 4) : own_iv cl = own_all cl := by unfold own_iv; rw [hl, if_neg (by omega), if_neg (by omega)]
def own_ST (cv zq zk : Int32) (mm : Nat) (cl ys : List Int32) : Prop := ((0 : Int32) = cv ∧ zk = zq ∧ ys.length = mm ∧ own_cpI cl ys mm) ∨ ((1 : Int32) = cv ∧ (zk <<< ((1 : Int32) &&& 31)) = zq ∧ ys.length = 2 * mm ∧ own_tbI cl ys mm)
def own_cl (nn : Nat) (c0 c1 c2 c3 : Int32) : List Int32 := ([c0, c1, c2, c3].take nn).map (nar .char)
theorem own_cll {nn : Nat} {c0 c1 c2 c3 : Int32} (h : nn ≤ 4) : (own_cl nn c0 c1 c2 c3).length = nn := by
  simp only [own_cl, List.length_map, List.length_take, List.length_cons, List.length_nil]; omega
theorem own_nb (L : List Int32) (q : Nat) : 0 ≤ ((L.map (nar .char)).getD q 0).toInt ∧ ((L.map (nar .char)).getD q 0).toInt < 65536 := by
  rw [List.getD_eq_getElem?_getD, List.getElem?_map]
  cases L[q]? with
  | none => exact ⟨by decide, by decide⟩
  | some v =>
    have h := c_i2c v
    show 0 ≤ (v.toUInt32.toUInt16.toUInt32.toInt32).toInt ∧ (v.toUInt32.toUInt16.toUInt32.toInt32).toInt < 65536
    omega
theorem own_srL {nn : Nat} {c0 c1 c2 c3 : Int32} {ys : List Int32} (h : own_cpI (own_cl nn c0 c1 c2 c3) ys nn) : ∀ q, q < nn → own_g8 (ys.getD q 0) = (own_cl nn c0 c1 c2 c3).getD q 0 := fun q hq => by
  rw [(h q hq).2]; exact own_gl _ (own_nb _ q) (h q hq).1
theorem own_srU {nn : Nat} {c0 c1 c2 c3 : Int32} {ys : List Int32} (h : own_tbI (own_cl nn c0 c1 c2 c3) ys nn) : ∀ q, q < nn → own_gc (ys.getD (2 * q) 0) (ys.getD (2 * q + 1) 0) = (own_cl nn c0 c1 c2 c3).getD q 0 := fun q hq => by
  rw [(h q hq).1, (h q hq).2]; exact own_gu _ (own_nb _ q)
theorem own_ok1 {cs : List Int32} (h : ∀ c ∈ cs, ¬ own_ia c = (0 : Int32)) : (1 : Int32) = own_all cs := ((own_all01 cs).resolve_left ((own_alle cs).mpr h)).symm
theorem own_ok0 {cs : List Int32} {c : Int32} (hm : c ∈ cs) (h : own_ia c = (0 : Int32)) : (0 : Int32) = own_all cs := ((own_all01 cs).resolve_right fun q => (own_alle cs).mp (by rw [q]; decide) c hm h).symm
theorem own_97 {n5 : Int32} {nn : Nat} (h : n5.toInt = (nn : Int)) (h4 : nn ≤ 4) : ((97 : Int32) + n5).toInt = ((97 + nn : Nat) : Int) := own_addn (rfl : (97 : Int32).toInt = ((97 : Nat) : Int)) h (by omega)
theorem own_98 {n5 : Int32} {nn : Nat} (h : n5.toInt = (nn : Int)) (h4 : nn ≤ 4) (q : (100 : Int32) < ((97 : Int32) + n5)) : 100 < 97 + nn := by
  have a := own_97 h h4
  have e : (100 : Int32).toInt = 100 := rfl
  rw [Int32.lt_iff_toInt_lt, e, a] at q; omega
theorem own_99 {n5 : Int32} {nn : Nat} (h : n5.toInt = (nn : Int)) (h4 : nn ≤ 4) (q : ¬ (100 : Int32) < ((97 : Int32) + n5)) : 97 + nn ≤ 100 := by
  have a := own_97 h h4
  have e : (100 : Int32).toInt = 100 := rfl
  rw [Int32.lt_iff_toInt_lt, e, a] at q; omega
theorem own_n1 {n5 : Int32} {nn : Nat} (h : n5.toInt = (nn : Int)) (h1 : 0 < nn) : ¬ n5 < (1 : Int32) := by
  have e : (1 : Int32).toInt = 1 := rfl
  rw [Int32.lt_iff_toInt_lt, e]; omega
theorem own_shu {n5 : Int32} {nn : Nat} (h : n5.toInt = (nn : Int)) (h4 : nn ≤ 4) : ((n5 <<< ((1 : Int32) &&& 31)) >>> ((1 : Int32) &&& 31)) = n5 := by
  rw [← Int32.toInt_inj]
  have a := own_sh1 h (by omega)
  have b := c_ishr (n5 <<< ((1 : Int32) &&& 31)) 1 1 (by decide)
  simp only [Nat.reducePow] at b
  rw [b, a, h]; omega
theorem own_rem5 (x : Int32) : ((x &&& (7 : Int32)) % (5 : Int32)) = (0 : Int32) ∨ ((x &&& (7 : Int32)) % (5 : Int32)) = (1 : Int32) ∨ ((x &&& (7 : Int32)) % (5 : Int32)) = (2 : Int32) ∨ ((x &&& (7 : Int32)) % (5 : Int32)) = (3 : Int32) ∨ ((x &&& (7 : Int32)) % (5 : Int32)) = (4 : Int32) := by
  have h1 := (c_and x 7 (by decide)).1
  have h2 := (c_irem (x &&& (7 : Int32)) 5 5 rfl).1 h1
  have h3 : 0 ≤ ((x &&& (7 : Int32)) % (5 : Int32)).toInt := by rw [h2]; omega
  have h4 : ((x &&& (7 : Int32)) % (5 : Int32)).toInt < 5 := by rw [h2]; omega
  simp only [← Int32.toInt_inj]
  simp only [Int32.reduceToInt]
  omega

theorem own_wS {Z : State} {a0 : Array Value} (hw : ∀ d ∈ tables_1, d.before a0 Z = true) : ∀ a ∈ Bundle.stringAtoms, a.before a0 Z = true := fun a ha => by
  simp only [Bundle.stringAtoms, List.mem_cons, List.not_mem_nil, or_false] at ha
  rcases ha with rfl | rfl | rfl | rfl | rfl | rfl | rfl
  · exact hw _ (List.mem_of_getElem? (i := 9) rfl)
  · exact hw _ (List.mem_of_getElem? (i := 8) rfl)
  · exact hw _ (List.mem_of_getElem? (i := 22) rfl)
  · exact hw _ (List.mem_of_getElem? (i := 23) rfl)
  · exact hw _ (List.mem_of_getElem? (i := 24) rfl)
  · exact hw _ (List.mem_of_getElem? (i := 25) rfl)
  · exact hw _ (List.mem_of_getElem? (i := 26) rfl)
def Qpch (Z : State) (br : Addr) (ix cc : Int32) (kb : ClassId) (zb : Int32) (ns : List Int32) (ii mm : Nat) (h0 : Heap) (n0 : Nat) (v : Option Value) (h : Heap) (L : List Loc) : Prop := v = none ∧ Fr n0 L ∧ Keep h0 h [br] ∧ Arv Z h br kb .byte zb (own_I ((ns.set (2 * ii) (own_lo cc)).set (2 * ii + 1) (own_hi cc))) (.int 0)
theorem efpch (m : MethodId) (x0 : Addr) (x1 : Int32) (x2 : Int32) : entryFrame m #[(.ref x0), (.int x1), (.int x2)] 3 = mkF m 0 #[.val (.ref x0), .val (.int x1), .val (.int x2)] [] := by first | (simp [entryFrame, mkF, argsToLocals, Value.category]; done) | rfl
set_option maxRecDepth 65536 in
set_option maxHeartbeats 40000000 in
theorem pch (l : Launch) (Z : State) (a0 : Array Value) (hw : own_HW a0 Z) (ws : List Jvm.Cond) (br : Addr) (ix cc : Int32) (kb : ClassId) (zb : Int32) (ns : List Int32) (ii mm : Nat) (h0 : Heap) (n0 : Nat) (Z0 : n0 ≤ h0.size) (P0 : Arv Z h0 br kb .byte zb (own_I ns) (.int 0)) (P1 : Sta Z h0 jU "$assertionsDisabled" "Z" (.int 1)) (P2 : Sta Z h0 jU "HI_BYTE_SHIFT" "I" (.int 0)) (P3 : Sta Z h0 jU "LO_BYTE_SHIFT" "I" (.int 8)) (g_br : n0 ≤ br) (hi : ix.toInt = (ii : Int)) (hs : ii < 100000) (hm : zb.toInt = (mm : Int)) (hlt : 2 * ii + 1 < mm) (hl : ns.length = mm) :
    own_M l Z yN0 jdk_52_method_4_code 3 none ws (own_R 0 0 0 0) #[(.ref br), (.int ix), (.int cc)] h0 (Qpch Z br ix cc kb zb ns ii mm h0 n0) := by
  refine own_b (own := jU) rfl (plainFor_of_name pn_0) (fun m => efpch m br ix cc) n0 fun p e s m below meth c s₁ Bd hZ hx hby hml hown X0 e0 N0 => ?_
  have K0 : Keep h0 h0 [br] := Keep.refl h0 _
  obtain ⟨T1, X1, e1, st1⟩ := getS2 X0 hx hZ hown (host := "") (Or.inl (own_w hw 227 rfl)) Via.refl e0 P1 (g := (mkF m 0 #[.val (.ref br), .val (.int ix), .val (.int cc)] [])) rfl (od hby dc48 0 rfl)
  refine own_go st1 ?_
  refine own_go (B := T1.setTop (mkF m 38 #[.val (.ref br), .val (.int ((ix <<< ((1 : Int32) &&& 31)) + (1 : Int32))), .val (.int cc)] [(.int cc), (.int (ix <<< ((1 : Int32) &&& 31))), (.ref br)])) (fun t k => ?_) ?_
  · refine XS.ifYes X1.here hx rfl (pc0 := 3) (pc' := 28) rfl (od hby dc48 1 rfl) rfl ((if0 _ _).trans (feq (by decide : ¬ ((1 : Int32) = (0 : Int32)))).2) (by decide) (by decide) ?_
    refine XS.iloadN X1.here hx rfl (od hby dc48 2 rfl) rfl ?_
    refine XS.iconst X1.here hx rfl (od hby dc48 3 rfl) ?_
    refine XS.ishl X1.here hx rfl (od hby dc48 4 rfl) rfl ?_
    refine XS.istoreN X1.here hx rfl (od hby dc48 5 rfl) rfl (l' := #[.val (.ref br), .val (.int (ix <<< ((1 : Int32) &&& 31))), .val (.int cc)]) rfl ?_
    refine XS.aloadN X1.here hx rfl (od hby dc48 6 rfl) rfl rfl ?_
    refine XS.iloadN X1.here hx rfl (od hby dc48 7 rfl) rfl ?_
    refine XS.iinc X1.here hx rfl (od hby dc48 8 rfl) rfl (l' := #[.val (.ref br), .val (.int ((ix <<< ((1 : Int32) &&& 31)) + (1 : Int32))), .val (.int cc)]) rfl ?_
    refine XS.iloadN X1.here hx rfl (od hby dc48 9 rfl) rfl ?_
    exact k
  obtain ⟨T3, X3, e3, st3⟩ := getS2 X1 hx hZ hown (host := "") (Or.inl (own_w hw 228 rfl)) Via.refl e1 P2 (g := (mkF m 38 #[.val (.ref br), .val (.int ((ix <<< ((1 : Int32) &&& 31)) + (1 : Int32))), .val (.int cc)] [(.int cc), (.int (ix <<< ((1 : Int32) &&& 31))), (.ref br)])) rfl (od hby dc48 10 rfl)
  refine own_go st3 ?_
  refine own_go (B := T3.setTop (mkF m 43 #[.val (.ref br), .val (.int ((ix <<< ((1 : Int32) &&& 31)) + (1 : Int32))), .val (.int cc)] [(.int ((cc >>> ((0 : Int32) &&& 31)).toInt8.toInt32)), (.int (ix <<< ((1 : Int32) &&& 31))), (.ref br)])) (fun t k => ?_) ?_
  · refine XS.ishr X3.here hx rfl (od hby dc48 11 rfl) rfl ?_
    refine XS.i2b X3.here hx rfl (od hby dc48 12 rfl) rfl ?_
    exact k
  obtain ⟨cl4, Ar4, q4, S4, M4, Ha4, G4⟩ := P0
  have hin4 : ¬ ((ix <<< ((1 : Int32) &&& 31)) < 0 ∨ cl4.slots.size ≤ ((ix <<< ((1 : Int32) &&& 31))).toNatClampNeg) := inb_of S4 (own_jb (k := (2 * ii)) (m := mm) (own_sh1 hi hs) hm (by omega))
  obtain ⟨T4, h4, X4, e4, W4, st4⟩ := stB X3 hx hZ e3 Ar4 (j := (ix <<< ((1 : Int32) &&& 31))) hin4 (g := (mkF m 43 #[.val (.ref br), .val (.int ((ix <<< ((1 : Int32) &&& 31)) + (1 : Int32))), .val (.int cc)] [(.int ((cc >>> ((0 : Int32) &&& 31)).toInt8.toInt32)), (.int (ix <<< ((1 : Int32) &&& 31))), (.ref br)])) rfl rfl (od hby dc48 13 rfl)
  have Q7 := P3.wr W4
  have U4 : Arv Z h4 br kb .byte zb (own_I (ns.set (2 * ii) (((cc >>> ((0 : Int32) &&& 31)).toInt8.toInt32).toInt8.toInt32))) (.int 0) := own_arvI (Arv.set Ar4 q4 S4 M4 Ha4 G4 (fits_nar_byte _) W4 (2 * ii) (own_jn (own_sh1 hi hs)) (by simp only [own_lenI, List.length_set]; omega))
  have N4 := Fr.snoc X4 N0 g_br
  have K4 := K0.wr W4 (Or.inl (List.mem_of_getElem? (i := 0) rfl))
  refine own_go st4 ?_
  refine own_go (B := T4.setTop (mkF m 47 #[.val (.ref br), .val (.int ((ix <<< ((1 : Int32) &&& 31)) + (1 : Int32))), .val (.int cc)] [(.int cc), (.int ((ix <<< ((1 : Int32) &&& 31)) + (1 : Int32))), (.ref br)])) (fun t k => ?_) ?_
  · refine XS.aloadN X4.here hx rfl (od hby dc48 14 rfl) rfl rfl ?_
    refine XS.iloadN X4.here hx rfl (od hby dc48 15 rfl) rfl ?_
    refine XS.iloadN X4.here hx rfl (od hby dc48 16 rfl) rfl ?_
    exact k
  obtain ⟨T8, X8, e8, st8⟩ := getS2 X4 hx hZ hown (host := "") (Or.inl (own_w hw 229 rfl)) Via.refl e4 Q7 (g := (mkF m 47 #[.val (.ref br), .val (.int ((ix <<< ((1 : Int32) &&& 31)) + (1 : Int32))), .val (.int cc)] [(.int cc), (.int ((ix <<< ((1 : Int32) &&& 31)) + (1 : Int32))), (.ref br)])) rfl (od hby dc48 17 rfl)
  refine own_go st8 ?_
  refine own_go (B := T8.setTop (mkF m 52 #[.val (.ref br), .val (.int ((ix <<< ((1 : Int32) &&& 31)) + (1 : Int32))), .val (.int cc)] [(.int ((cc >>> ((8 : Int32) &&& 31)).toInt8.toInt32)), (.int ((ix <<< ((1 : Int32) &&& 31)) + (1 : Int32))), (.ref br)])) (fun t k => ?_) ?_
  · refine XS.ishr X8.here hx rfl (od hby dc48 18 rfl) rfl ?_
    refine XS.i2b X8.here hx rfl (od hby dc48 19 rfl) rfl ?_
    exact k
  obtain ⟨cl9, Ar9, q9, S9, M9, Ha9, G9⟩ := U4
  have hin9 : ¬ (((ix <<< ((1 : Int32) &&& 31)) + (1 : Int32)) < 0 ∨ cl9.slots.size ≤ (((ix <<< ((1 : Int32) &&& 31)) + (1 : Int32))).toNatClampNeg) := inb_of S9 (own_jb (k := (2 * ii + 1)) (m := mm) (own_sh2 hi hs) hm (by omega))
  obtain ⟨T9, h9, X9, e9, W9, st9⟩ := stB X8 hx hZ e8 Ar9 (j := ((ix <<< ((1 : Int32) &&& 31)) + (1 : Int32))) hin9 (g := (mkF m 52 #[.val (.ref br), .val (.int ((ix <<< ((1 : Int32) &&& 31)) + (1 : Int32))), .val (.int cc)] [(.int ((cc >>> ((8 : Int32) &&& 31)).toInt8.toInt32)), (.int ((ix <<< ((1 : Int32) &&& 31)) + (1 : Int32))), (.ref br)])) rfl rfl (od hby dc48 20 rfl)
  have U9 : Arv Z h9 br kb .byte zb (own_I ((ns.set (2 * ii) (((cc >>> ((0 : Int32) &&& 31)).toInt8.toInt32).toInt8.toInt32)).set (2 * ii + 1) (((cc >>> ((8 : Int32) &&& 31)).toInt8.toInt32).toInt8.toInt32))) (.int 0) := own_arvI (Arv.set Ar9 q9 S9 M9 Ha9 G9 (fits_nar_byte _) W9 (2 * ii + 1) (own_jn (own_sh2 hi hs)) (by simp only [own_lenI, List.length_set]; omega))
  have N9 := Fr.snoc X9 N4 g_br
  have K9 := K4.wr W9 (Or.inl (List.mem_of_getElem? (i := 0) rfl))
  refine own_go st9 ?_
  exact own_rV Bd X9 hx (od hby dc48 21 rfl) (by rw [e9]; exact ⟨rfl, N9, K9, U9⟩) (by decide)
def Qgch (Z : State) (br : Addr) (ix : Int32) (kb : ClassId) (zb : Int32) (ns : List Int32) (ii mm : Nat) (h0 : Heap) (n0 : Nat) (v : Option Value) (h : Heap) (L : List Loc) : Prop := v = some (.int (own_gc (ns.getD (2 * ii) 0) (ns.getD (2 * ii + 1) 0))) ∧ Fr n0 L ∧ h = h0
theorem efgch (m : MethodId) (x0 : Addr) (x1 : Int32) : entryFrame m #[(.ref x0), (.int x1)] 2 = mkF m 0 #[.val (.ref x0), .val (.int x1)] [] := by first | (simp [entryFrame, mkF, argsToLocals, Value.category]; done) | rfl
set_option maxRecDepth 65536 in
set_option maxHeartbeats 40000000 in
theorem gch (l : Launch) (Z : State) (a0 : Array Value) (hw : own_HW a0 Z) (ws : List Jvm.Cond) (br : Addr) (ix : Int32) (kb : ClassId) (zb : Int32) (ns : List Int32) (ii mm : Nat) (h0 : Heap) (n0 : Nat) (Z0 : n0 ≤ h0.size) (P0 : Arv Z h0 br kb .byte zb (own_I ns) (.int 0)) (P1 : Sta Z h0 jU "$assertionsDisabled" "Z" (.int 1)) (P2 : Sta Z h0 jU "HI_BYTE_SHIFT" "I" (.int 0)) (P3 : Sta Z h0 jU "LO_BYTE_SHIFT" "I" (.int 8)) (hi : ix.toInt = (ii : Int)) (hs : ii < 100000) (hm : zb.toInt = (mm : Int)) (hlt : 2 * ii + 1 < mm) (hl : ns.length = mm) :
    own_M l Z yN1 jdk_52_method_5_code 2 (some .char) ws (own_R 0 0 0 0) #[(.ref br), (.int ix)] h0 (Qgch Z br ix kb zb ns ii mm h0 n0) := by
  refine own_b (own := jU) rfl (plainFor_of_name pn_0) (fun m => efgch m br ix) n0 fun p e s m below meth c s₁ Bd hZ hx hby hml hown X0 e0 N0 => ?_
  obtain ⟨T13, X13, e13, st13⟩ := getS2 X0 hx hZ hown (host := "") (Or.inl (own_w hw 227 rfl)) Via.refl e0 P1 (g := (mkF m 0 #[.val (.ref br), .val (.int ix)] [])) rfl (od hby dc49 0 rfl)
  refine own_go st13 ?_
  refine own_go (B := T13.setTop (mkF m 37 #[.val (.ref br), .val (.int ((ix <<< ((1 : Int32) &&& 31)) + (1 : Int32)))] [(.int (ix <<< ((1 : Int32) &&& 31))), (.ref br)])) (fun t k => ?_) ?_
  · refine XS.ifYes X13.here hx rfl (pc0 := 3) (pc' := 28) rfl (od hby dc49 1 rfl) rfl ((if0 _ _).trans (feq (by decide : ¬ ((1 : Int32) = (0 : Int32)))).2) (by decide) (by decide) ?_
    refine XS.iloadN X13.here hx rfl (od hby dc49 2 rfl) rfl ?_
    refine XS.iconst X13.here hx rfl (od hby dc49 3 rfl) ?_
    refine XS.ishl X13.here hx rfl (od hby dc49 4 rfl) rfl ?_
    refine XS.istoreN X13.here hx rfl (od hby dc49 5 rfl) rfl (l' := #[.val (.ref br), .val (.int (ix <<< ((1 : Int32) &&& 31)))]) rfl ?_
    refine XS.aloadN X13.here hx rfl (od hby dc49 6 rfl) rfl rfl ?_
    refine XS.iloadN X13.here hx rfl (od hby dc49 7 rfl) rfl ?_
    refine XS.iinc X13.here hx rfl (od hby dc49 8 rfl) rfl (l' := #[.val (.ref br), .val (.int ((ix <<< ((1 : Int32) &&& 31)) + (1 : Int32)))]) rfl ?_
    exact k
  obtain ⟨cl15, Ar15, q15, S15, M15, Ha15, G15⟩ := id P0
  have hin15 : ¬ ((ix <<< ((1 : Int32) &&& 31)) < 0 ∨ cl15.slots.size ≤ ((ix <<< ((1 : Int32) &&& 31))).toNatClampNeg) := inb_of S15 (own_jb (k := (2 * ii)) (m := mm) (own_sh1 hi hs) hm (by omega))
  refine own_go (X13.baloadBytes hx (j := (ix <<< ((1 : Int32) &&& 31))) (v := (.int (ns.getD (2 * ii) 0))) (by rw [e13]; exact Ar15.1) (State.isArrayOf_alike hZ.alike Ar15.2.1) Ar15.2.2 hin15 (Has.at Ha15 hin15 (own_getI2 _ (own_jn (own_sh1 hi hs)))) (g := (mkF m 37 #[.val (.ref br), .val (.int ((ix <<< ((1 : Int32) &&& 31)) + (1 : Int32)))] [(.int (ix <<< ((1 : Int32) &&& 31))), (.ref br)])) rfl rfl (od hby dc49 9 rfl)) ?_
  refine own_go (B := T13.setTop (mkF m 42 #[.val (.ref br), .val (.int ((ix <<< ((1 : Int32) &&& 31)) + (1 : Int32)))] [(.int ((ns.getD (2 * ii) 0) &&& (255 : Int32)))])) (fun t k => ?_) ?_
  · refine XS.sipush X13.here hx rfl (od hby dc49 10 rfl) ?_
    refine XS.iand X13.here hx rfl (od hby dc49 11 rfl) rfl ?_
    exact k
  obtain ⟨T16, X16, e16, st16⟩ := getS2 X13 hx hZ hown (host := "") (Or.inl (own_w hw 228 rfl)) Via.refl e13 P2 (g := (mkF m 42 #[.val (.ref br), .val (.int ((ix <<< ((1 : Int32) &&& 31)) + (1 : Int32)))] [(.int ((ns.getD (2 * ii) 0) &&& (255 : Int32)))])) rfl (od hby dc49 12 rfl)
  refine own_go st16 ?_
  refine own_go (B := T16.setTop (mkF m 48 #[.val (.ref br), .val (.int ((ix <<< ((1 : Int32) &&& 31)) + (1 : Int32)))] [(.int ((ix <<< ((1 : Int32) &&& 31)) + (1 : Int32))), (.ref br), (.int (((ns.getD (2 * ii) 0) &&& (255 : Int32)) <<< ((0 : Int32) &&& 31)))])) (fun t k => ?_) ?_
  · refine XS.ishl X16.here hx rfl (od hby dc49 13 rfl) rfl ?_
    refine XS.aloadN X16.here hx rfl (od hby dc49 14 rfl) rfl rfl ?_
    refine XS.iloadN X16.here hx rfl (od hby dc49 15 rfl) rfl ?_
    exact k
  obtain ⟨cl17, Ar17, q17, S17, M17, Ha17, G17⟩ := id P0
  have hin17 : ¬ (((ix <<< ((1 : Int32) &&& 31)) + (1 : Int32)) < 0 ∨ cl17.slots.size ≤ (((ix <<< ((1 : Int32) &&& 31)) + (1 : Int32))).toNatClampNeg) := inb_of S17 (own_jb (k := (2 * ii + 1)) (m := mm) (own_sh2 hi hs) hm (by omega))
  refine own_go (X16.baloadBytes hx (j := ((ix <<< ((1 : Int32) &&& 31)) + (1 : Int32))) (v := (.int (ns.getD (2 * ii + 1) 0))) (by rw [e16]; exact Ar17.1) (State.isArrayOf_alike hZ.alike Ar17.2.1) Ar17.2.2 hin17 (Has.at Ha17 hin17 (own_getI2 _ (own_jn (own_sh2 hi hs)))) (g := (mkF m 48 #[.val (.ref br), .val (.int ((ix <<< ((1 : Int32) &&& 31)) + (1 : Int32)))] [(.int ((ix <<< ((1 : Int32) &&& 31)) + (1 : Int32))), (.ref br), (.int (((ns.getD (2 * ii) 0) &&& (255 : Int32)) <<< ((0 : Int32) &&& 31)))])) rfl rfl (od hby dc49 16 rfl)) ?_
  refine own_go (B := T16.setTop (mkF m 53 #[.val (.ref br), .val (.int ((ix <<< ((1 : Int32) &&& 31)) + (1 : Int32)))] [(.int ((ns.getD (2 * ii + 1) 0) &&& (255 : Int32))), (.int (((ns.getD (2 * ii) 0) &&& (255 : Int32)) <<< ((0 : Int32) &&& 31)))])) (fun t k => ?_) ?_
  · refine XS.sipush X16.here hx rfl (od hby dc49 17 rfl) ?_
    refine XS.iand X16.here hx rfl (od hby dc49 18 rfl) rfl ?_
    exact k
  obtain ⟨T18, X18, e18, st18⟩ := getS2 X16 hx hZ hown (host := "") (Or.inl (own_w hw 229 rfl)) Via.refl e16 P3 (g := (mkF m 53 #[.val (.ref br), .val (.int ((ix <<< ((1 : Int32) &&& 31)) + (1 : Int32)))] [(.int ((ns.getD (2 * ii + 1) 0) &&& (255 : Int32))), (.int (((ns.getD (2 * ii) 0) &&& (255 : Int32)) <<< ((0 : Int32) &&& 31)))])) rfl (od hby dc49 19 rfl)
  refine own_go st18 ?_
  refine own_go (B := T18.setTop (mkF m 59 #[.val (.ref br), .val (.int ((ix <<< ((1 : Int32) &&& 31)) + (1 : Int32)))] [(.int (((((ns.getD (2 * ii) 0) &&& (255 : Int32)) <<< ((0 : Int32) &&& 31)) ||| (((ns.getD (2 * ii + 1) 0) &&& (255 : Int32)) <<< ((8 : Int32) &&& 31))).toUInt32.toUInt16.toUInt32.toInt32))])) (fun t k => ?_) ?_
  · refine XS.ishl X18.here hx rfl (od hby dc49 20 rfl) rfl ?_
    refine XS.ior X18.here hx rfl (od hby dc49 21 rfl) rfl ?_
    refine XS.i2c X18.here hx rfl (od hby dc49 22 rfl) rfl ?_
    exact k
  exact own_rN (w := (nar .char (((((ns.getD (2 * ii) 0) &&& (255 : Int32)) <<< ((0 : Int32) &&& 31)) ||| (((ns.getD (2 * ii + 1) 0) &&& (255 : Int32)) <<< ((8 : Int32) &&& 31))).toUInt32.toUInt16.toUInt32.toInt32))) Bd X18 hx (by simp) rfl (od hby dc49 23 rfl) (by rw [e18]; exact ⟨rfl, N0, rfl⟩) (by decide)
def Qcm5 (Z : State) (ar br : Addr) (zk : Int32) (ka kb : ClassId) (cl xs : List Int32) (mm : Nat) (h0 : Heap) (n0 : Nat) (v : Option Value) (h : Heap) (L : List Loc) : Prop := ∃ wv : Int32, ∃ jn : Nat, ∃ ys : List Int32, v = some (.int wv) ∧ Fr n0 L ∧ Keep h0 h [br] ∧ Arv Z h br kb .byte zk (own_I ys) (.int 0) ∧ (wv.toInt = (jn : Int)) ∧ (jn ≤ mm) ∧ (ys.length = mm) ∧ (own_cpI cl ys jn) ∧ (jn < mm → (255 : Int32) < cl.getD jn 0)
theorem efcm5 (m : MethodId) (x0 : Addr) (x2 : Addr) (x4 : Int32) : entryFrame m #[(.ref x0), (.int 0), (.ref x2), (.int 0), (.int x4)] 7 = mkF m 0 #[.val (.ref x0), .val (.int 0), .val (.ref x2), .val (.int 0), .val (.int x4), .unset, .unset] [] := by first | (simp [entryFrame, mkF, argsToLocals, Value.category]; done) | rfl
set_option maxRecDepth 65536 in
set_option maxHeartbeats 40000000 in
theorem cm5 (l : Launch) (Z : State) (a0 : Array Value) (hw : own_HW a0 Z) (ws : List Jvm.Cond) (ar br : Addr) (zk : Int32) (ka kb : ClassId) (cl xs : List Int32) (mm : Nat) (h0 : Heap) (n0 : Nat) (Z0 : n0 ≤ h0.size) (P0 : Arv Z h0 ar ka .char zk (own_I cl) (.int 0)) (P1 : Arv Z h0 br kb .byte zk (own_I xs) (.int 0)) (g_br : n0 ≤ br) (ne_ar_br : ar ≠ br) (hm : zk.toInt = (mm : Int)) (hs : mm < 100000) (hcl : cl.length = mm) (hxl : xs.length = mm) :
    own_M l Z yN2 jdk_52_method_21_code 7 (some .int) ws (own_R 0 0 0 0) #[(.ref ar), (.int 0), (.ref br), (.int 0), (.int zk)] h0 (Qcm5 Z ar br zk ka kb cl xs mm h0 n0) := by
  refine own_b (own := jU) rfl (plainFor_of_name pn_0) (fun m => efcm5 m ar br zk) n0 fun p e s m below meth c s₁ Bd hZ hx hby hml hown X0 e0 N0 => ?_
  have K0 : Keep h0 h0 [br] := Keep.refl h0 _
  refine own_go (B := s₁.setTop (mkF m 3 #[.val (.ref ar), .val (.int 0), .val (.ref br), .val (.int 0), .val (.int zk), .val (.int 0), .unset] [])) (fun t k => ?_) ?_
  · refine XS.iconst X0.here hx rfl (od hby dc10 0 rfl) ?_
    refine XS.istore X0.here hx rfl (od hby dc10 1 rfl) rfl (l' := #[.val (.ref ar), .val (.int 0), .val (.ref br), .val (.int 0), .val (.int zk), .val (.int 0), .unset]) rfl ?_
    exact k
  have loop19 : ∀ (N : Nat) (i1 : Int32) (i3 : Int32) (i5 : Int32) (jq : Nat) (yq : List Int32) (sl6 : Slot) (Tq19 : State) (Lq19 : List Loc) (hq19 : Heap), (mm - jq) < N → i1.toInt = (jq : Int) → i3.toInt = (jq : Int) → i5.toInt = (jq : Int) → jq ≤ mm → yq.length = mm → own_cpI cl yq jq → (sl6 = .unset ∨ ∃ w9, sl6 = .val (.int w9)) → Stand p l e (own_R 0 0 0 0) s m #[(.ref ar), (.int 0), (.ref br), (.int 0), (.int zk)] below meth c Tq19 Lq19 0 0 → Tq19.heap = hq19 → Fr n0 Lq19 → (Arv Z hq19 ar ka .char zk (own_I cl) (.int 0)) → (Arv Z hq19 br kb .byte zk (own_I yq) (.int 0)) → (n0 ≤ hq19.size) → (Keep h0 hq19 [br]) → ∃ s₂ o, Steps p.tables e below (Tq19.setTop (mkF m 3 #[.val (.ref ar), .val (.int i1), .val (.ref br), .val (.int i3), .val (.int zk), .val (.int i5), sl6] [])) s₂ ∧ s₂.status = .running ∧ Ended s₂ below o ∧ ∃ v L, o = .returned v ∧ Qcm5 Z ar br zk ka kb cl xs mm h0 n0 v s₂.heap L ∧ FrameEnd s o s₂ L (own_R 0 0 0 0).cells (own_R 0 0 0 0).slots := by
    intro N
    induction N with
    | zero => intro i1 i3 i5 jq yq sl6 Tq19 Lq19 hq19 hmu; exact absurd hmu (Nat.not_lt_zero _)
    | succ N ih =>
      intro i1 i3 i5 jq yq sl6 Tq19 Lq19 hq19 hmu q1 q3 q5 qm qy qp h_sl6 Xq19 eq19 Nq19 Fq19_0 Fq19_1 Zq19 Kq19
      refine own_go (B := Tq19.setTop (mkF m 7 #[.val (.ref ar), .val (.int i1), .val (.ref br), .val (.int i3), .val (.int zk), .val (.int i5), sl6] [(.int zk), (.int i5)])) (fun t k => ?_) ?_
      · refine XS.iload Xq19.here hx rfl (od hby dc10 2 rfl) rfl ?_
        refine XS.iload Xq19.here hx rfl (od hby dc10 3 rfl) rfl ?_
        exact k
      by_cases hc7_20 : i5 < zk
      · refine own_go (B := Tq19.setTop (mkF m 10 #[.val (.ref ar), .val (.int i1), .val (.ref br), .val (.int i3), .val (.int zk), .val (.int i5), sl6] [])) (fun t k => ?_) ?_
        · refine XS.icmpNo Xq19.here hx rfl (od hby dc10 4 rfl) rfl (tlt hc7_20).2.1 ?_
          exact k
        have qlt : jq < mm := own_ltn q5 hm (by first | exact hc7_20 | (have := hc7_20; simpa using this))
        refine own_go (B := Tq19.setTop (mkF m 12 #[.val (.ref ar), .val (.int i1), .val (.ref br), .val (.int i3), .val (.int zk), .val (.int i5), sl6] [(.int i1), (.ref ar)])) (fun t k => ?_) ?_
        · refine XS.aloadN Xq19.here hx rfl (od hby dc10 5 rfl) rfl rfl ?_
          refine XS.iloadN Xq19.here hx rfl (od hby dc10 6 rfl) rfl ?_
          exact k
        obtain ⟨cl21, Ar21, q21, S21, M21, Ha21, G21⟩ := id Fq19_0
        have hin21 : ¬ (i1 < 0 ∨ cl21.slots.size ≤ (i1).toNatClampNeg) := inb_of S21 (own_jb q1 hm qlt)
        refine own_go (Xq19.caload hx (j := i1) (v := (.int (cl.getD (jq) 0))) (by rw [eq19]; exact Ar21.1) (State.isArrayOf_alike hZ.alike Ar21.2.1) Ar21.2.2 hin21 (Has.at Ha21 hin21 (own_getI2 _ (own_jn q1))) (g := (mkF m 12 #[.val (.ref ar), .val (.int i1), .val (.ref br), .val (.int i3), .val (.int zk), .val (.int i5), sl6] [(.int i1), (.ref ar)])) rfl rfl (od hby dc10 7 rfl)) ?_
        refine own_go (B := Tq19.setTop (mkF m 20 #[.val (.ref ar), .val (.int i1), .val (.ref br), .val (.int i3), .val (.int zk), .val (.int i5), .val (.int (cl.getD (jq) 0))] [(.int 255), (.int (cl.getD (jq) 0))])) (fun t k => ?_) ?_
        · refine XS.istore Xq19.here hx rfl (od hby dc10 8 rfl) rfl (l' := #[.val (.ref ar), .val (.int i1), .val (.ref br), .val (.int i3), .val (.int zk), .val (.int i5), .val (.int (cl.getD (jq) 0))]) (by rcases h_sl6 with h9 | ⟨w9, h9⟩ <;> rw [h9] <;> rfl) ?_
          refine XS.iload Xq19.here hx rfl (od hby dc10 9 rfl) rfl ?_
          refine XS.sipush Xq19.here hx rfl (od hby dc10 10 rfl) ?_
          exact k
        by_cases hc20_22 : (255 : Int32) < (cl.getD (jq) 0)
        · refine own_go (B := Tq19.setTop (mkF m 23 #[.val (.ref ar), .val (.int i1), .val (.ref br), .val (.int i3), .val (.int zk), .val (.int i5), .val (.int (cl.getD (jq) 0))] [])) (fun t k => ?_) ?_
          · refine XS.icmpNo Xq19.here hx rfl (od hby dc10 11 rfl) rfl (tlt hc20_22).2.2.2 ?_
            exact k
          refine own_go (B := Tq19.setTop (mkF m 25 #[.val (.ref ar), .val (.int i1), .val (.ref br), .val (.int i3), .val (.int zk), .val (.int i5), .val (.int (cl.getD (jq) 0))] [(.int i5)])) (fun t k => ?_) ?_
          · refine XS.iload Xq19.here hx rfl (od hby dc10 12 rfl) rfl ?_
            exact k
          exact own_rI Bd Xq19 hx (od hby dc10 13 rfl) (by rw [eq19]; exact ⟨i5, jq, yq, rfl, Nq19, Kq19, Fq19_1, q5, qm, qy, qp, fun _ => hc20_22⟩) (by decide)
        · refine own_go (B := Tq19.setTop (mkF m 26 #[.val (.ref ar), .val (.int i1), .val (.ref br), .val (.int i3), .val (.int zk), .val (.int i5), .val (.int (cl.getD (jq) 0))] [])) (fun t k => ?_) ?_
          · refine XS.icmpYes Xq19.here hx rfl (pc0 := 20) (pc' := 26) rfl (od hby dc10 11 rfl) rfl (flt hc20_22).2.2.2 (by decide) (by decide) ?_
            exact k
          have hle : ¬ (255 : Int32) < cl.getD jq 0 := hc20_22
          refine own_go (B := Tq19.setTop (mkF m 31 #[.val (.ref ar), .val (.int i1), .val (.ref br), .val (.int i3), .val (.int zk), .val (.int i5), .val (.int (cl.getD (jq) 0))] [(.int ((cl.getD (jq) 0).toInt8.toInt32)), (.int i3), (.ref br)])) (fun t k => ?_) ?_
          · refine XS.aloadN Xq19.here hx rfl (od hby dc10 14 rfl) rfl rfl ?_
            refine XS.iloadN Xq19.here hx rfl (od hby dc10 15 rfl) rfl ?_
            refine XS.iload Xq19.here hx rfl (od hby dc10 16 rfl) rfl ?_
            refine XS.i2b Xq19.here hx rfl (od hby dc10 17 rfl) rfl ?_
            exact k
          obtain ⟨cl23, Ar23, q23, S23, M23, Ha23, G23⟩ := Fq19_1
          have hin23 : ¬ (i3 < 0 ∨ cl23.slots.size ≤ (i3).toNatClampNeg) := inb_of S23 (own_jb q3 hm qlt)
          obtain ⟨T23, h23, X23, e23, W23, st23⟩ := stB Xq19 hx hZ eq19 Ar23 (j := i3) hin23 (g := (mkF m 31 #[.val (.ref ar), .val (.int i1), .val (.ref br), .val (.int i3), .val (.int zk), .val (.int i5), .val (.int (cl.getD (jq) 0))] [(.int ((cl.getD (jq) 0).toInt8.toInt32)), (.int i3), (.ref br)])) rfl rfl (od hby dc10 18 rfl)
          have Q24 := Fq19_0.other W23 ne_ar_br
          have U23 : Arv Z h23 br kb .byte zk (own_I (yq.set (jq) (((cl.getD (jq) 0).toInt8.toInt32).toInt8.toInt32))) (.int 0) := own_arvI (Arv.set Ar23 q23 S23 M23 Ha23 G23 (fits_nar_byte _) W23 (jq) (own_jn q3) (by rw [own_lenI, qy]; exact qlt))
          have Z23 : n0 ≤ h23.size := Nat.le_trans Zq19 (Keep.of_wr W23).1
          have N23 := Fr.snoc X23 Nq19 g_br
          have K23 := Kq19.wr W23 (Or.inl (List.mem_of_getElem? (i := 0) rfl))
          refine own_go st23 ?_
          refine own_go (B := T23.setTop (mkF m 3 #[.val (.ref ar), .val (.int (i1 + (1 : Int32))), .val (.ref br), .val (.int (i3 + (1 : Int32))), .val (.int zk), .val (.int (i5 + (1 : Int32))), .val (.int (cl.getD (jq) 0))] [])) (fun t k => ?_) ?_
          · refine XS.iinc X23.here hx rfl (od hby dc10 19 rfl) rfl (l' := #[.val (.ref ar), .val (.int (i1 + (1 : Int32))), .val (.ref br), .val (.int i3), .val (.int zk), .val (.int i5), .val (.int (cl.getD (jq) 0))]) rfl ?_
            refine XS.iinc X23.here hx rfl (od hby dc10 20 rfl) rfl (l' := #[.val (.ref ar), .val (.int (i1 + (1 : Int32))), .val (.ref br), .val (.int (i3 + (1 : Int32))), .val (.int zk), .val (.int i5), .val (.int (cl.getD (jq) 0))]) rfl ?_
            refine XS.iinc X23.here hx rfl (od hby dc10 21 rfl) rfl (l' := #[.val (.ref ar), .val (.int (i1 + (1 : Int32))), .val (.ref br), .val (.int (i3 + (1 : Int32))), .val (.int zk), .val (.int (i5 + (1 : Int32))), .val (.int (cl.getD (jq) 0))]) rfl ?_
            refine XS.goto X23.here hx rfl (pc0 := 41) (pc' := 3) rfl (od hby dc10 22 rfl) (by decide) (by decide) ?_
            exact k
          exact ih ((i1 + (1 : Int32))) ((i3 + (1 : Int32))) ((i5 + (1 : Int32))) (jq + 1) (yq.set (jq) (own_b8 (cl.getD jq 0))) (.val (.int (cl.getD (jq) 0))) T23 _ h23 (by omega) (own_inc q1 (by omega)) (own_inc q3 (by omega)) (own_inc q5 (by omega)) (by omega) (by rw [List.length_set]; exact qy) (own_cps qp (by omega) hle) (Or.inr ⟨_, rfl⟩) X23 e23 N23 Q24 U23 Z23 K23
      · refine own_go (B := Tq19.setTop (mkF m 44 #[.val (.ref ar), .val (.int i1), .val (.ref br), .val (.int i3), .val (.int zk), .val (.int i5), sl6] [])) (fun t k => ?_) ?_
        · refine XS.icmpYes Xq19.here hx rfl (pc0 := 7) (pc' := 44) rfl (od hby dc10 4 rfl) rfl (flt hc7_20).2.1 (by decide) (by decide) ?_
          exact k
        refine own_go (B := Tq19.setTop (mkF m 46 #[.val (.ref ar), .val (.int i1), .val (.ref br), .val (.int i3), .val (.int zk), .val (.int i5), sl6] [(.int zk)])) (fun t k => ?_) ?_
        · refine XS.iload Xq19.here hx rfl (od hby dc10 23 rfl) rfl ?_
          exact k
        exact own_rI Bd Xq19 hx (od hby dc10 24 rfl) (by rw [eq19]; exact ⟨zk, mm, yq, rfl, Nq19, Kq19, Fq19_1, hm, Nat.le_refl _, qy, (by have := own_gen q5 hm hc7_20; have e9 : jq = mm := (by omega); rw [e9] at qp; exact qp), fun q => absurd q (Nat.lt_irrefl _)⟩) (by decide)
  exact loop19 _ ((0 : Int32)) ((0 : Int32)) ((0 : Int32)) (0) (xs) (.unset) s₁ _ h0 (Nat.lt_succ_self _) (rfl) (rfl) (rfl) (Nat.zero_le _) (hxl) (own_cp0 _ _) (Or.inl rfl) X0 e0 N0 P0 P1 Z0 K0
def Qnbl (Z : State) (zk : Int32) (mm : Nat) (h0 : Heap) (n0 : Nat) (v : Option Value) (h : Heap) (L : List Loc) : Prop := v = some (.int (zk <<< ((1 : Int32) &&& 31))) ∧ Fr n0 L ∧ h = h0
theorem efnbl (m : MethodId) (x0 : Int32) : entryFrame m #[(.int x0)] 1 = mkF m 0 #[.val (.int x0)] [] := by first | (simp [entryFrame, mkF, argsToLocals, Value.category]; done) | rfl
set_option maxRecDepth 65536 in
set_option maxHeartbeats 40000000 in
theorem nbl (l : Launch) (Z : State) (a0 : Array Value) (hw : own_HW a0 Z) (ws : List Jvm.Cond) (zk : Int32) (mm : Nat) (h0 : Heap) (n0 : Nat) (Z0 : n0 ≤ h0.size) (hm : zk.toInt = (mm : Int)) (hs : mm ≤ 186) :
    own_M l Z yN3 jdk_52_method_3_code 1 (some .int) ws (own_R 0 0 0 0) #[(.int zk)] h0 (Qnbl Z zk mm h0 n0) := by
  refine own_b (own := jU) rfl (plainFor_of_name pn_0) (fun m => efnbl m zk) n0 fun p e s m below meth c s₁ Bd hZ hx hby hml hown X0 e0 N0 => ?_
  refine own_go (B := s₁.setTop (mkF m 1 #[.val (.int zk)] [(.int zk)])) (fun t k => ?_) ?_
  · refine XS.iloadN X0.here hx rfl (od hby dc47 0 rfl) rfl ?_
    exact k
  have hc1_25 : ¬ (zk < (0 : Int32)) := (own_nn hm)
  refine own_go (B := s₁.setTop (mkF m 15 #[.val (.int zk)] [(.int 1073741823), (.int zk)])) (fun t k => ?_) ?_
  · refine XS.ifYes X0.here hx rfl (pc0 := 1) (pc' := 12) rfl (od hby dc47 1 rfl) rfl ((if0 _ _).trans (flt hc1_25).2.1) (by decide) (by decide) ?_
    refine XS.iloadN X0.here hx rfl (od hby dc47 2 rfl) rfl ?_
    refine X0.ldcInt hx hown (mvT hZ (own_w hw 223 rfl)) (g := (mkF m 13 #[.val (.int zk)] [(.int zk)])) rfl (od hby dc47 3 rfl) _ ?_
    exact k
  have hc15_26 : (zk < (1073741823 : Int32)) := (own_lt31 hm (by omega))
  refine own_go (B := s₁.setTop (mkF m 58 #[.val (.int zk)] [(.int (zk <<< ((1 : Int32) &&& 31)))])) (fun t k => ?_) ?_
  · refine XS.icmpYes X0.here hx rfl (pc0 := 15) (pc' := 55) rfl (od hby dc47 4 rfl) rfl (tlt hc15_26).1 (by decide) (by decide) ?_
    refine XS.iloadN X0.here hx rfl (od hby dc47 5 rfl) rfl ?_
    refine XS.iconst X0.here hx rfl (od hby dc47 6 rfl) ?_
    refine XS.ishl X0.here hx rfl (od hby dc47 7 rfl) rfl ?_
    exact k
  exact own_rI Bd X0 hx (od hby dc47 8 rfl) (by rw [e0]; exact ⟨rfl, N0, rfl⟩) (by decide)
def Qnbf (Z : State) (zk : Int32) (mm : Nat) (h0 : Heap) (n0 : Nat) (v : Option Value) (h : Heap) (L : List Loc) : Prop := ∃ br : Addr, ∃ kb : ClassId, v = some (.ref br) ∧ Fr n0 L ∧ Keep h0 h [] ∧ h0.size ≤ br ∧ Arv Z h br kb .byte (zk <<< ((1 : Int32) &&& 31)) (own_I (List.replicate (2 * mm) 0)) (.int 0)
theorem efnbf (m : MethodId) (x0 : Int32) : entryFrame m #[(.int x0)] 1 = mkF m 0 #[.val (.int x0)] [] := by first | (simp [entryFrame, mkF, argsToLocals, Value.category]; done) | rfl
set_option maxRecDepth 65536 in
set_option maxHeartbeats 40000000 in
theorem nbf (l : Launch) (Z : State) (a0 : Array Value) (hw : own_HW a0 Z) (ws : List Jvm.Cond) (zk : Int32) (mm : Nat) (h0 : Heap) (n0 : Nat) (Z0 : n0 ≤ h0.size) (hm : zk.toInt = (mm : Int)) (hs : mm ≤ 186) :
    own_M l Z yN4 jdk_52_method_2_code 1 (some (.array .byte)) ws (own_R 1 1 372 12) #[(.int zk)] h0 (Qnbf Z zk mm h0 n0) := by
  refine own_b (own := jU) rfl (plainFor_of_name pn_0) (fun m => efnbf m zk) n0 fun p e s m below meth c s₁ Bd hZ hx hby hml hown X0 e0 N0 => ?_
  have K0 : Keep h0 h0 [] := Keep.refl h0 _
  refine own_go (B := s₁.setTop (mkF m 1 #[.val (.int zk)] [(.int zk)])) (fun t k => ?_) ?_
  · refine XS.iloadN X0.here hx rfl (od hby dc46 0 rfl) rfl ?_
    exact k
  obtain ⟨_, _, ⟨T27, L27, k27, n27⟩, -, X27, ⟨Lc27, hQ27, l27, y27, z27⟩, st27⟩ := Jvm.LawKit.callS X0 hx (y := yN3) hown (mvT hZ (own_w hw 220 rfl)) (mvT hZ (own_w hw 221 rfl)) (mvT hZ (own_w hw 44 rfl)) (mvT hZ (own_w hw 222 rfl)) (by decide) (backOf (W := 0) (nbl l Z a0 hw [] zk mm h0 n0 Z0 hm hs) hZ (own_w hw 222 rfl) (own_w hw 44 rfl) (by decide) (by decide)) (g := (mkF m 1 #[.val (.int zk)] [(.int zk)])) rfl (by rw [hml]; rfl) (argsL := [(.int zk)]) (rest := []) (lenOf pd_0 rfl) rfl (own_W0 rfl) (od hby dc46 1 rfl) (fun _ _ => ⟨rfl, e0, (by decide : 0 + 0 ≤ _), (by decide : 0 + 0 ≤ _)⟩)
  dsimp only [Pt.U, Pt.locs, Pt.cells, Pt.slots] at X27 l27 y27 z27 st27 hQ27
  subst l27 y27 z27
  obtain ⟨rfl, Nq27, e27⟩ := hQ27
  have N27 := Fr.app N0 Nq27
  refine own_go (B := T27.setTop (mkF m 4 #[.val (.int zk)] [(.int (zk <<< ((1 : Int32) &&& 31)))])) st27 ?_
  obtain ⟨T28, h28, k28, X28, e28, E28, A28, st28⟩ := newP X27 hx hZ (own_w hw 22 rfl) e27 (g := (mkF m 4 #[.val (.int zk)] [(.int (zk <<< ((1 : Int32) &&& 31)))])) rfl (od hby dc46 2 rfl) rfl (own_nn (own_sh1 hm (by omega))) (cap := 372) (own_capn (own_sh1 hm (by omega)) (by omega)) (by decide) (by decide) (by decide)
  obtain ⟨b28, g28⟩ : ∃ z, z = h0.size := ⟨_, rfl⟩
  rw [← g28] at A28 st28
  have sz28 : h0.size ≤ b28 := Nat.le_trans K0.1 (Nat.le_of_eq g28.symm)
  have K28 := K0.ext E28
  have V28 : Arv Z h28 b28 k28 .byte (zk <<< ((1 : Int32) &&& 31)) (own_I (List.replicate (2 * mm) 0)) (.int 0) := own_newI (Arv.new A28 (own_nn (own_sh1 hm (by omega))))
  refine own_go st28 ?_
  exact own_rA Bd X28 hx rfl rfl rfl (od hby dc46 3 rfl) (by rw [e28]; exact ⟨b28, k28, rfl, N27, K28, sz28, V28⟩) (by decide)
def Qtby (Z : State) (ar : Addr) (zk : Int32) (ka : ClassId) (cl : List Int32) (mm : Nat) (h0 : Heap) (n0 : Nat) (v : Option Value) (h : Heap) (L : List Loc) : Prop := ∃ br : Addr, ∃ kb : ClassId, ∃ ys : List Int32, v = some (.ref br) ∧ Fr n0 L ∧ Keep h0 h [] ∧ h0.size ≤ br ∧ Arv Z h br kb .byte (zk <<< ((1 : Int32) &&& 31)) (own_I ys) (.int 0) ∧ (ys.length = 2 * mm) ∧ (own_tbI cl ys mm)
theorem eftby (m : MethodId) (x0 : Addr) (x2 : Int32) : entryFrame m #[(.ref x0), (.int 0), (.int x2)] 5 = mkF m 0 #[.val (.ref x0), .val (.int 0), .val (.int x2), .unset, .unset] [] := by first | (simp [entryFrame, mkF, argsToLocals, Value.category]; done) | rfl
set_option maxRecDepth 65536 in
set_option maxHeartbeats 40000000 in
theorem tby (l : Launch) (Z : State) (a0 : Array Value) (hw : own_HW a0 Z) (ws : List Jvm.Cond) (ar : Addr) (zk : Int32) (ka : ClassId) (cl : List Int32) (mm : Nat) (h0 : Heap) (n0 : Nat) (Z0 : n0 ≤ h0.size) (P0 : Arv Z h0 ar ka .char zk (own_I cl) (.int 0)) (P1 : Sta Z h0 jU "$assertionsDisabled" "Z" (.int 1)) (P2 : Sta Z h0 jU "HI_BYTE_SHIFT" "I" (.int 0)) (P3 : Sta Z h0 jU "LO_BYTE_SHIFT" "I" (.int 8)) (hm : zk.toInt = (mm : Int)) (hs : mm ≤ 186) (hcl : cl.length = mm) :
    own_M l Z yN5 jdk_52_method_14_code 5 (some (.array .byte)) ws (own_R 2 1 372 24) #[(.ref ar), (.int 0), (.int zk)] h0 (Qtby Z ar zk ka cl mm h0 n0) := by
  refine own_b (own := jU) rfl (plainFor_of_name pn_0) (fun m => eftby m ar zk) n0 fun p e s m below meth c s₁ Bd hZ hx hby hml hown X0 e0 N0 => ?_
  have K0 : Keep h0 h0 [] := Keep.refl h0 _
  refine own_go (B := s₁.setTop (mkF m 1 #[.val (.ref ar), .val (.int 0), .val (.int zk), .unset, .unset] [(.int zk)])) (fun t k => ?_) ?_
  · refine XS.iloadN X0.here hx rfl (od hby dc45 0 rfl) rfl ?_
    exact k
  obtain ⟨_, _, ⟨T29, L29, k29, n29⟩, -, X29, ⟨Lc29, hQ29, l29, y29, z29⟩, st29⟩ := Jvm.LawKit.callS X0 hx (y := yN4) hown (mvT hZ (own_w hw 217 rfl)) (mvT hZ (own_w hw 218 rfl)) (mvT hZ (own_w hw 44 rfl)) (mvT hZ (own_w hw 219 rfl)) (by decide) (backOf (W := 0) (nbf l Z a0 hw [] zk mm h0 n0 Z0 hm hs) hZ (own_w hw 219 rfl) (own_w hw 44 rfl) (by decide) (by decide)) (g := (mkF m 1 #[.val (.ref ar), .val (.int 0), .val (.int zk), .unset, .unset] [(.int zk)])) rfl (by rw [hml]; rfl) (argsL := [(.int zk)]) (rest := []) (lenOf pd_1 rfl) rfl (own_W0 rfl) (od hby dc45 1 rfl) (fun _ _ => ⟨rfl, e0, (by decide : 0 + 1 ≤ _), (by decide : 0 + 372 ≤ _)⟩)
  dsimp only [Pt.U, Pt.locs, Pt.cells, Pt.slots] at X29 l29 y29 z29 st29 hQ29
  subst l29 y29 z29
  obtain ⟨br_29, kb_29, rfl, Nq29, Kq29, sq_br_29, U29_0⟩ := hQ29
  have ne_ar_br_29 : ar ≠ br_29 := Nat.ne_of_lt (Nat.lt_of_lt_of_le P0.lt sq_br_29)
  have low_br_29 : n0 ≤ br_29 := Nat.le_trans Z0 sq_br_29
  have sz_br_29 : h0.size ≤ br_29 := Nat.le_trans K0.1 sq_br_29
  have Q30 := P0.keep Kq29 nin0
  have Q31 := own_staK P1 Kq29 ns0
  have Q32 := own_staK P2 Kq29 ns0
  have Q33 := own_staK P3 Kq29 ns0
  have Z29 : n0 ≤ T29.heap.size := Nat.le_trans Z0 Kq29.1
  have K29 : Keep h0 T29.heap [] := K0.trans Kq29 all0
  have N29 := Fr.app N0 Nq29
  refine own_go (B := T29.setTop (mkF m 4 #[.val (.ref ar), .val (.int 0), .val (.int zk), .unset, .unset] [(.ref br_29)])) st29 ?_
  refine own_go (B := T29.setTop (mkF m 8 #[.val (.ref ar), .val (.int 0), .val (.int zk), .val (.ref br_29), .val (.int 0)] [])) (fun t k => ?_) ?_
  · refine XS.astoreN X29.here hx rfl (od hby dc45 2 rfl) rfl rfl (l' := #[.val (.ref ar), .val (.int 0), .val (.int zk), .val (.ref br_29), .unset]) rfl ?_
    refine XS.iconst X29.here hx rfl (od hby dc45 3 rfl) ?_
    refine XS.istore X29.here hx rfl (od hby dc45 4 rfl) rfl (l' := #[.val (.ref ar), .val (.int 0), .val (.int zk), .val (.ref br_29), .val (.int 0)]) rfl ?_
    exact k
  have loop34 : ∀ (N : Nat) (i1 : Int32) (i4 : Int32) (jq : Nat) (yq : List Int32) (Tq34 : State) (Lq34 : List Loc) (hq34 : Heap), (mm - jq) < N → i1.toInt = (jq : Int) → i4.toInt = (jq : Int) → jq ≤ mm → yq.length = 2 * mm → own_tbI cl yq jq → Stand p l e (own_R 2 1 372 24) s m #[(.ref ar), (.int 0), (.int zk)] below meth c Tq34 Lq34 1 372 → Tq34.heap = hq34 → Fr n0 Lq34 → (Arv Z hq34 ar ka .char zk (own_I cl) (.int 0)) → (Sta Z hq34 jU "$assertionsDisabled" "Z" (.int 1)) → (Sta Z hq34 jU "HI_BYTE_SHIFT" "I" (.int 0)) → (Sta Z hq34 jU "LO_BYTE_SHIFT" "I" (.int 8)) → (Arv Z hq34 br_29 kb_29 .byte (zk <<< ((1 : Int32) &&& 31)) (own_I yq) (.int 0)) → (n0 ≤ hq34.size) → (Keep h0 hq34 []) → ∃ s₂ o, Steps p.tables e below (Tq34.setTop (mkF m 8 #[.val (.ref ar), .val (.int i1), .val (.int zk), .val (.ref br_29), .val (.int i4)] [])) s₂ ∧ s₂.status = .running ∧ Ended s₂ below o ∧ ∃ v L, o = .returned v ∧ Qtby Z ar zk ka cl mm h0 n0 v s₂.heap L ∧ FrameEnd s o s₂ L (own_R 2 1 372 24).cells (own_R 2 1 372 24).slots := by
    intro N
    induction N with
    | zero => intro i1 i4 jq yq Tq34 Lq34 hq34 hmu; exact absurd hmu (Nat.not_lt_zero _)
    | succ N ih =>
      intro i1 i4 jq yq Tq34 Lq34 hq34 hmu q1 q4 qm qy qp Xq34 eq34 Nq34 Fq34_0 Fq34_1 Fq34_2 Fq34_3 Fq34_4 Zq34 Kq34
      refine own_go (B := Tq34.setTop (mkF m 11 #[.val (.ref ar), .val (.int i1), .val (.int zk), .val (.ref br_29), .val (.int i4)] [(.int zk), (.int i4)])) (fun t k => ?_) ?_
      · refine XS.iload Xq34.here hx rfl (od hby dc45 5 rfl) rfl ?_
        refine XS.iloadN Xq34.here hx rfl (od hby dc45 6 rfl) rfl ?_
        exact k
      by_cases hc11_35 : i4 < zk
      · refine own_go (B := Tq34.setTop (mkF m 14 #[.val (.ref ar), .val (.int i1), .val (.int zk), .val (.ref br_29), .val (.int i4)] [])) (fun t k => ?_) ?_
        · refine XS.icmpNo Xq34.here hx rfl (od hby dc45 7 rfl) rfl (tlt hc11_35).2.1 ?_
          exact k
        have qlt : jq < mm := own_ltn q4 hm hc11_35
        refine own_go (B := Tq34.setTop (mkF m 19 #[.val (.ref ar), .val (.int i1), .val (.int zk), .val (.ref br_29), .val (.int i4)] [(.int i1), (.ref ar), (.int i4), (.ref br_29)])) (fun t k => ?_) ?_
        · refine XS.aloadN Xq34.here hx rfl (od hby dc45 8 rfl) rfl rfl ?_
          refine XS.iload Xq34.here hx rfl (od hby dc45 9 rfl) rfl ?_
          refine XS.aloadN Xq34.here hx rfl (od hby dc45 10 rfl) rfl rfl ?_
          refine XS.iloadN Xq34.here hx rfl (od hby dc45 11 rfl) rfl ?_
          exact k
        obtain ⟨cl36, Ar36, q36, S36, M36, Ha36, G36⟩ := id Fq34_0
        have hin36 : ¬ (i1 < 0 ∨ cl36.slots.size ≤ (i1).toNatClampNeg) := inb_of S36 (own_jb q1 hm qlt)
        refine own_go (Xq34.caload hx (j := i1) (v := (.int (cl.getD (jq) 0))) (by rw [eq34]; exact Ar36.1) (State.isArrayOf_alike hZ.alike Ar36.2.1) Ar36.2.2 hin36 (Has.at Ha36 hin36 (own_getI2 _ (own_jn q1))) (g := (mkF m 19 #[.val (.ref ar), .val (.int i1), .val (.int zk), .val (.ref br_29), .val (.int i4)] [(.int i1), (.ref ar), (.int i4), (.ref br_29)])) rfl rfl (od hby dc45 12 rfl)) ?_
        obtain ⟨_, _, ⟨T37, L37, k37, n37⟩, -, X37, ⟨Lc37, hQ37, l37, y37, z37⟩, st37⟩ := Jvm.LawKit.callS Xq34 hx (y := yN0) hown (mvT hZ (own_w hw 224 rfl)) (mvT hZ (own_w hw 225 rfl)) (mvT hZ (own_w hw 44 rfl)) (mvT hZ (own_w hw 226 rfl)) (by decide) (backOf (W := 0) (pch l Z a0 hw [] br_29 i4 (cl.getD (jq) 0) kb_29 (zk <<< ((1 : Int32) &&& 31)) yq jq (2 * mm) hq34 n0 Zq34 Fq34_4 Fq34_1 Fq34_2 Fq34_3 low_br_29 q4 (by omega) (own_sh1 hm (by omega)) (by omega) qy) hZ (own_w hw 226 rfl) (own_w hw 44 rfl) (by decide) (by decide)) (g := (mkF m 20 #[.val (.ref ar), .val (.int i1), .val (.int zk), .val (.ref br_29), .val (.int i4)] [(.int (cl.getD (jq) 0)), (.int i4), (.ref br_29)])) rfl (by rw [hml]; rfl) (argsL := [(.ref br_29), (.int i4), (.int (cl.getD (jq) 0))]) (rest := []) (lenOf pd_2 rfl) rfl (own_W0 rfl) (od hby dc45 13 rfl) (fun _ _ => ⟨rfl, eq34, (by decide : 1 + 0 ≤ _), (by decide : 372 + 0 ≤ _)⟩)
        dsimp only [Pt.U, Pt.locs, Pt.cells, Pt.slots] at X37 l37 y37 z37 st37 hQ37
        subst l37 y37 z37
        obtain ⟨rfl, Nq37, Kq37, U37_0⟩ := hQ37
        have Q38 := Fq34_0.keep Kq37 (ninS ne_ar_br_29 nin0)
        have Q39 := own_staK Fq34_1 Kq37 (nsS (own_nsV Fq34_4) ns0)
        have Q40 := own_staK Fq34_2 Kq37 (nsS (own_nsV Fq34_4) ns0)
        have Q41 := own_staK Fq34_3 Kq37 (nsS (own_nsV Fq34_4) ns0)
        have Z37 : n0 ≤ T37.heap.size := Nat.le_trans Zq34 Kq37.1
        have K37 : Keep h0 T37.heap [] := Kq34.trans Kq37 (allS (Or.inr sz_br_29) all0)
        have N37 := Fr.app Nq34 Nq37
        refine own_go (B := T37.setTop (mkF m 23 #[.val (.ref ar), .val (.int i1), .val (.int zk), .val (.ref br_29), .val (.int i4)] [])) st37 ?_
        refine own_go (B := T37.setTop (mkF m 8 #[.val (.ref ar), .val (.int (i1 + (1 : Int32))), .val (.int zk), .val (.ref br_29), .val (.int (i4 + (1 : Int32)))] [])) (fun t k => ?_) ?_
        · refine XS.iinc X37.here hx rfl (od hby dc45 14 rfl) rfl (l' := #[.val (.ref ar), .val (.int (i1 + (1 : Int32))), .val (.int zk), .val (.ref br_29), .val (.int i4)]) rfl ?_
          refine XS.iinc X37.here hx rfl (od hby dc45 15 rfl) rfl (l' := #[.val (.ref ar), .val (.int (i1 + (1 : Int32))), .val (.int zk), .val (.ref br_29), .val (.int (i4 + (1 : Int32)))]) rfl ?_
          refine XS.goto X37.here hx rfl (pc0 := 29) (pc' := 8) rfl (od hby dc45 16 rfl) (by decide) (by decide) ?_
          exact k
        exact ih ((i1 + (1 : Int32))) ((i4 + (1 : Int32))) (jq + 1) (((yq.set (2 * jq) (own_lo (cl.getD (jq) 0))).set (2 * jq + 1) (own_hi (cl.getD (jq) 0)))) T37 _ T37.heap (by omega) (own_inc q1 (by omega)) (own_inc q4 (by omega)) (by omega) (by rw [List.length_set, List.length_set]; exact qy) (own_tbs qp (by omega)) X37 rfl N37 Q38 Q39 Q40 Q41 U37_0 Z37 K37
      · refine own_go (B := Tq34.setTop (mkF m 32 #[.val (.ref ar), .val (.int i1), .val (.int zk), .val (.ref br_29), .val (.int i4)] [])) (fun t k => ?_) ?_
        · refine XS.icmpYes Xq34.here hx rfl (pc0 := 11) (pc' := 32) rfl (od hby dc45 7 rfl) rfl (flt hc11_35).2.1 (by decide) (by decide) ?_
          exact k
        refine own_go (B := Tq34.setTop (mkF m 33 #[.val (.ref ar), .val (.int i1), .val (.int zk), .val (.ref br_29), .val (.int i4)] [(.ref br_29)])) (fun t k => ?_) ?_
        · refine XS.aloadN Xq34.here hx rfl (od hby dc45 17 rfl) rfl rfl ?_
          exact k
        exact own_rA Bd Xq34 hx rfl rfl rfl (od hby dc45 18 rfl) (by rw [eq34]; exact ⟨br_29, kb_29, yq, rfl, Nq34, Kq34, sz_br_29, Fq34_4, qy, (by have := own_gen q4 hm hc11_35; have e9 : jq = mm := (by omega); rw [e9] at qp; exact qp)⟩) (by decide)
  exact loop34 _ ((0 : Int32)) ((0 : Int32)) (0) ((List.replicate (2 * mm) 0)) T29 _ T29.heap (Nat.lt_succ_self _) (rfl) (rfl) (Nat.zero_le _) (List.length_replicate) (own_tb0 _ _) X29 rfl N29 Q30 Q31 Q32 Q33 U29_0 Z29 K29
def Qcfa (Z : State) (br : Addr) (zk : Int32) (kb : ClassId) (zb : Int32) (ns : List Int32) (h0 : Heap) (n0 : Nat) (v : Option Value) (h : Heap) (L : List Loc) : Prop := v = some (.int (nar .byte ((((zk - zb).toUInt32 >>> ((31 : Int32) &&& 31).toUInt32).toInt32).toInt8.toInt32))) ∧ Fr n0 L ∧ h = h0
theorem efcfa (m : MethodId) (x0 : Addr) (x1 : Int32) : entryFrame m #[(.ref x0), (.int x1)] 2 = mkF m 0 #[.val (.ref x0), .val (.int x1)] [] := by first | (simp [entryFrame, mkF, argsToLocals, Value.category]; done) | rfl
set_option maxRecDepth 65536 in
set_option maxHeartbeats 40000000 in
theorem cfa (l : Launch) (Z : State) (a0 : Array Value) (hw : own_HW a0 Z) (ws : List Jvm.Cond) (br : Addr) (zk : Int32) (kb : ClassId) (zb : Int32) (ns : List Int32) (h0 : Heap) (n0 : Nat) (Z0 : n0 ≤ h0.size) (P0 : Arv Z h0 br kb .byte zb (own_I ns) (.int 0)) :
    own_M l Z yN6 jdk_52_method_15_code 2 (some .byte) ws (own_R 0 0 0 0) #[(.ref br), (.int zk)] h0 (Qcfa Z br zk kb zb ns h0 n0) := by
  refine own_b (own := jU) rfl (plainFor_of_name pn_0) (fun m => efcfa m br zk) n0 fun p e s m below meth c s₁ Bd hZ hx hby hml hown X0 e0 N0 => ?_
  refine own_go (B := s₁.setTop (mkF m 2 #[.val (.ref br), .val (.int zk)] [(.ref br), (.int zk)])) (fun t k => ?_) ?_
  · refine XS.iloadN X0.here hx rfl (od hby dc11 0 rfl) rfl ?_
    refine XS.aloadN X0.here hx rfl (od hby dc11 1 rfl) rfl rfl ?_
    exact k
  obtain ⟨cl42, Ar42, q42, S42, M42, Ha42, G42⟩ := id P0
  refine own_go (B := s₁.setTop (mkF m 3 #[.val (.ref br), .val (.int zk)] [(.int zb), (.int zk)])) (fun t k => ?_) ?_
  · refine X0.arraylength hx (by rw [e0]; exact Ar42.1) (State.isArrayOf_alike hZ.alike Ar42.2.1) (g := (mkF m 2 #[.val (.ref br), .val (.int zk)] [(.ref br), (.int zk)])) rfl rfl (od hby dc11 2 rfl) _ ?_
    rw [len_of S42 M42]
    exact k
  refine own_go (B := s₁.setTop (mkF m 8 #[.val (.ref br), .val (.int zk)] [(.int ((((zk - zb).toUInt32 >>> ((31 : Int32) &&& 31).toUInt32).toInt32).toInt8.toInt32))])) (fun t k => ?_) ?_
  · refine XS.isub X0.here hx rfl (od hby dc11 3 rfl) rfl ?_
    refine XS.bipush X0.here hx rfl (od hby dc11 4 rfl) ?_
    refine XS.iushr X0.here hx rfl (od hby dc11 5 rfl) rfl ?_
    refine XS.i2b X0.here hx rfl (od hby dc11 6 rfl) rfl ?_
    exact k
  exact own_rN (w := (nar .byte ((((zk - zb).toUInt32 >>> ((31 : Int32) &&& 31).toUInt32).toInt32).toInt8.toInt32))) Bd X0 hx (by simp) rfl (od hby dc11 7 rfl) (by rw [e0]; exact ⟨rfl, N0, rfl⟩) (by decide)
def Qcm3U (Z : State) (ar : Addr) (zk : Int32) (ka : ClassId) (cl : List Int32) (mm : Nat) (h0 : Heap) (n0 : Nat) (v : Option Value) (h : Heap) (L : List Loc) : Prop := ∃ br : Addr, ∃ kb : ClassId, ∃ ys : List Int32, v = some (.ref br) ∧ Fr n0 L ∧ Keep h0 h [] ∧ h0.size ≤ br ∧ Arv Z h br kb .byte (zk <<< ((1 : Int32) &&& 31)) (own_I ys) (.int 0) ∧ (ys.length = 2 * mm) ∧ (own_tbI cl ys mm)
theorem efcm3U (m : MethodId) (x0 : Addr) (x2 : Int32) : entryFrame m #[(.ref x0), (.int 0), (.int x2)] 6 = mkF m 0 #[.val (.ref x0), .val (.int 0), .val (.int x2), .unset, .unset, .unset] [] := by first | (simp [entryFrame, mkF, argsToLocals, Value.category]; done) | rfl
set_option maxRecDepth 65536 in
set_option maxHeartbeats 40000000 in
theorem cm3U (l : Launch) (Z : State) (a0 : Array Value) (hw : own_HW a0 Z) (ws : List Jvm.Cond) (ar : Addr) (zk : Int32) (ka : ClassId) (cl : List Int32) (mm : Nat) (h0 : Heap) (n0 : Nat) (Z0 : n0 ≤ h0.size) (P0 : Arv Z h0 ar ka .char zk (own_I cl) (.int 0)) (P1 : Sta Z h0 jU "$assertionsDisabled" "Z" (.int 1)) (P2 : Sta Z h0 jU "HI_BYTE_SHIFT" "I" (.int 0)) (P3 : Sta Z h0 jU "LO_BYTE_SHIFT" "I" (.int 8)) (hm : zk.toInt = (mm : Int)) (hs : mm ≤ 4) (hp : 0 < mm) (hcl : cl.length = mm) (hex : ∃ q, q < mm ∧ (255 : Int32) < cl.getD q 0) (hbnd : ∀ q, q < mm → 0 ≤ (cl.getD q 0).toInt ∧ (cl.getD q 0).toInt < 65536) :
    own_M l Z yN7 jdk_52_method_16_code 6 (some (.array .byte)) ws (own_R 3 2 376 40) #[(.ref ar), (.int 0), (.int zk)] h0 (Qcm3U Z ar zk ka cl mm h0 n0) := by
  refine own_b (own := jU) rfl (plainFor_of_name pn_0) (fun m => efcm3U m ar zk) n0 fun p e s m below meth c s₁ Bd hZ hx hby hml hown X0 e0 N0 => ?_
  have K0 : Keep h0 h0 [] := Keep.refl h0 _
  refine own_go (B := s₁.setTop (mkF m 1 #[.val (.ref ar), .val (.int 0), .val (.int zk), .unset, .unset, .unset] [(.int zk)])) (fun t k => ?_) ?_
  · refine XS.iloadN X0.here hx rfl (od hby dc9 0 rfl) rfl ?_
    exact k
  obtain ⟨T43, h43, k43, X43, e43, E43, A43, st43⟩ := newP X0 hx hZ (own_w hw 22 rfl) e0 (g := (mkF m 1 #[.val (.ref ar), .val (.int 0), .val (.int zk), .unset, .unset, .unset] [(.int zk)])) rfl (od hby dc9 1 rfl) rfl (own_nn hm) (cap := 4) (own_capn hm hs) (by decide) (by decide) (by decide)
  obtain ⟨b43, g43⟩ : ∃ z, z = h0.size := ⟨_, rfl⟩
  rw [← g43] at A43 st43
  have ne43_ar : ar ≠ b43 := Nat.ne_of_lt (Nat.lt_of_lt_of_le P0.lt (Nat.le_of_eq g43.symm))
  have low43 : n0 ≤ b43 := Nat.le_trans Z0 (Nat.le_of_eq g43.symm)
  have sz43 : h0.size ≤ b43 := Nat.le_trans K0.1 (Nat.le_of_eq g43.symm)
  have Q44 := P0.ext E43
  have Q45 := P1.ext E43
  have Q46 := P2.ext E43
  have Q47 := P3.ext E43
  have Z43 : n0 ≤ h43.size := Nat.le_trans Z0 E43.1
  have K43 := K0.ext E43
  have V43 : Arv Z h43 b43 k43 .byte zk (own_I (List.replicate (mm) 0)) (.int 0) := own_newI (Arv.new A43 (own_nn hm))
  refine own_go st43 ?_
  refine own_go (B := T43.setTop (mkF m 9 #[.val (.ref ar), .val (.int 0), .val (.int zk), .val (.ref b43), .unset, .unset] [(.int zk), (.int 0), (.ref b43), (.int 0), (.ref ar)])) (fun t k => ?_) ?_
  · refine XS.astoreN X43.here hx rfl (od hby dc9 2 rfl) rfl rfl (l' := #[.val (.ref ar), .val (.int 0), .val (.int zk), .val (.ref b43), .unset, .unset]) rfl ?_
    refine XS.aloadN X43.here hx rfl (od hby dc9 3 rfl) rfl rfl ?_
    refine XS.iloadN X43.here hx rfl (od hby dc9 4 rfl) rfl ?_
    refine XS.aloadN X43.here hx rfl (od hby dc9 5 rfl) rfl rfl ?_
    refine XS.iconst X43.here hx rfl (od hby dc9 6 rfl) ?_
    refine XS.iloadN X43.here hx rfl (od hby dc9 7 rfl) rfl ?_
    exact k
  obtain ⟨_, _, ⟨T48, L48, k48, n48⟩, -, X48, ⟨Lc48, hQ48, l48, y48, z48⟩, st48⟩ := Jvm.LawKit.callS X43 hx (y := yN2) hown (mvT hZ (own_w hw 46 rfl)) (mvT hZ (own_w hw 47 rfl)) (mvT hZ (own_w hw 44 rfl)) (mvT hZ (own_w hw 48 rfl)) (by decide) (backOf (W := 0) (cm5 l Z a0 hw [] ar b43 zk ka k43 cl (List.replicate (mm) 0) mm h43 n0 Z43 Q44 V43 low43 ne43_ar hm (by omega) hcl List.length_replicate) hZ (own_w hw 48 rfl) (own_w hw 44 rfl) (by decide) (by decide)) (g := (mkF m 9 #[.val (.ref ar), .val (.int 0), .val (.int zk), .val (.ref b43), .unset, .unset] [(.int zk), (.int 0), (.ref b43), (.int 0), (.ref ar)])) rfl (by rw [hml]; rfl) (argsL := [(.ref ar), (.int 0), (.ref b43), (.int 0), (.int zk)]) (rest := []) (lenOf pd_3 rfl) rfl (own_W0 rfl) (od hby dc9 8 rfl) (fun _ _ => ⟨rfl, e43, (by decide : 1 + 0 ≤ _), (by decide : 4 + 0 ≤ _)⟩)
  dsimp only [Pt.U, Pt.locs, Pt.cells, Pt.slots] at X48 l48 y48 z48 st48 hQ48
  subst l48 y48 z48
  obtain ⟨wv_48, jn_48, ys_48, rfl, Nq48, Kq48, U48_0, Pq48_0, Pq48_1, Pq48_2, Pq48_3, Pq48_4⟩ := hQ48
  have Q49 := Q44.keep Kq48 (ninS ne43_ar nin0)
  have Q50 := own_staK Q45 Kq48 (nsS (own_nsV V43) ns0)
  have Q51 := own_staK Q46 Kq48 (nsS (own_nsV V43) ns0)
  have Q52 := own_staK Q47 Kq48 (nsS (own_nsV V43) ns0)
  have Z48 : n0 ≤ T48.heap.size := Nat.le_trans Z43 Kq48.1
  have K48 : Keep h0 T48.heap [] := K43.trans Kq48 (allS (Or.inr sz43) all0)
  have N48 := Fr.app N0 Nq48
  refine own_go (B := T48.setTop (mkF m 12 #[.val (.ref ar), .val (.int 0), .val (.int zk), .val (.ref b43), .unset, .unset] [(.int wv_48)])) st48 ?_
  refine own_go (B := T48.setTop (mkF m 17 #[.val (.ref ar), .val (.int 0), .val (.int zk), .val (.ref b43), .val (.int wv_48), .unset] [(.int zk), (.int wv_48)])) (fun t k => ?_) ?_
  · refine XS.istore X48.here hx rfl (od hby dc9 9 rfl) rfl (l' := #[.val (.ref ar), .val (.int 0), .val (.int zk), .val (.ref b43), .val (.int wv_48), .unset]) rfl ?_
    refine XS.iload X48.here hx rfl (od hby dc9 10 rfl) rfl ?_
    refine XS.iloadN X48.here hx rfl (od hby dc9 11 rfl) rfl ?_
    exact k
  have hc17_53 : ¬ (wv_48 = zk) := (own_wnz Pq48_0 hm (own_jex Pq48_1 Pq48_3 hex))
  refine own_go (B := T48.setTop (mkF m 23 #[.val (.ref ar), .val (.int 0), .val (.int zk), .val (.ref b43), .val (.int wv_48), .unset] [(.int zk), (.int 0), (.ref ar)])) (fun t k => ?_) ?_
  · refine XS.icmpNo X48.here hx rfl (od hby dc9 12 rfl) rfl (feq hc17_53).1 ?_
    refine XS.aloadN X48.here hx rfl (od hby dc9 13 rfl) rfl rfl ?_
    refine XS.iloadN X48.here hx rfl (od hby dc9 14 rfl) rfl ?_
    refine XS.iloadN X48.here hx rfl (od hby dc9 15 rfl) rfl ?_
    exact k
  obtain ⟨_, _, ⟨T54, L54, k54, n54⟩, -, X54, ⟨Lc54, hQ54, l54, y54, z54⟩, st54⟩ := Jvm.LawKit.callS X48 hx (y := yN5) hown (mvT hZ (own_w hw 214 rfl)) (mvT hZ (own_w hw 215 rfl)) (mvT hZ (own_w hw 44 rfl)) (mvT hZ (own_w hw 216 rfl)) (by decide) (backOf (W := 0) (tby l Z a0 hw [] ar zk ka cl mm T48.heap n0 Z48 Q49 Q50 Q51 Q52 hm (by omega) hcl) hZ (own_w hw 216 rfl) (own_w hw 44 rfl) (by decide) (by decide)) (g := (mkF m 23 #[.val (.ref ar), .val (.int 0), .val (.int zk), .val (.ref b43), .val (.int wv_48), .unset] [(.int zk), (.int 0), (.ref ar)])) rfl (by rw [hml]; rfl) (argsL := [(.ref ar), (.int 0), (.int zk)]) (rest := []) (lenOf pd_4 rfl) rfl (own_W0 rfl) (od hby dc9 16 rfl) (fun _ _ => ⟨rfl, rfl, (by decide : 1 + 1 ≤ _), (by decide : 4 + 372 ≤ _)⟩)
  dsimp only [Pt.U, Pt.locs, Pt.cells, Pt.slots] at X54 l54 y54 z54 st54 hQ54
  subst l54 y54 z54
  obtain ⟨br_54, kb_54, ys_54, rfl, Nq54, Kq54, sq_br_54, U54_0, Pq54_0, Pq54_1⟩ := hQ54
  have sz_br_54 : h0.size ≤ br_54 := Nat.le_trans K48.1 sq_br_54
  have Q56 := own_staK Q50 Kq54 ns0
  have Q57 := own_staK Q51 Kq54 ns0
  have Q58 := own_staK Q52 Kq54 ns0
  have Z54 : n0 ≤ T54.heap.size := Nat.le_trans Z48 Kq54.1
  have K54 : Keep h0 T54.heap [] := K48.trans Kq54 all0
  have N54 := Fr.app N48 Nq54
  refine own_go (B := T54.setTop (mkF m 26 #[.val (.ref ar), .val (.int 0), .val (.int zk), .val (.ref b43), .val (.int wv_48), .unset] [(.ref br_54)])) st54 ?_
  refine own_go (B := T54.setTop (mkF m 32 #[.val (.ref ar), .val (.int 0), .val (.int zk), .val (.ref b43), .val (.int wv_48), .val (.ref br_54)] [(.int wv_48), (.ref br_54)])) (fun t k => ?_) ?_
  · refine XS.astore X54.here hx rfl (od hby dc9 17 rfl) rfl rfl (l' := #[.val (.ref ar), .val (.int 0), .val (.int zk), .val (.ref b43), .val (.int wv_48), .val (.ref br_54)]) rfl ?_
    refine XS.aload X54.here hx rfl (od hby dc9 18 rfl) rfl rfl ?_
    refine XS.iload X54.here hx rfl (od hby dc9 19 rfl) rfl ?_
    exact k
  obtain ⟨_, _, ⟨T60, L60, k60, n60⟩, -, X60, ⟨Lc60, hQ60, l60, y60, z60⟩, st60⟩ := Jvm.LawKit.callS X54 hx (y := yN1) hown (mvT hZ (own_w hw 230 rfl)) (mvT hZ (own_w hw 231 rfl)) (mvT hZ (own_w hw 44 rfl)) (mvT hZ (own_w hw 232 rfl)) (by decide) (backOf (W := 0) (gch l Z a0 hw [] br_54 wv_48 kb_54 (zk <<< ((1 : Int32) &&& 31)) ys_54 jn_48 (2 * mm) T54.heap n0 Z54 U54_0 Q56 Q57 Q58 Pq48_0 (by have := Pq48_1; omega) (own_sh1 hm (by omega)) (by have := own_jex Pq48_1 Pq48_3 hex; omega) Pq54_0) hZ (own_w hw 232 rfl) (own_w hw 44 rfl) (by decide) (by decide)) (g := (mkF m 32 #[.val (.ref ar), .val (.int 0), .val (.int zk), .val (.ref b43), .val (.int wv_48), .val (.ref br_54)] [(.int wv_48), (.ref br_54)])) rfl (by rw [hml]; rfl) (argsL := [(.ref br_54), (.int wv_48)]) (rest := []) (lenOf pd_5 rfl) rfl (own_W0 rfl) (od hby dc9 20 rfl) (fun _ _ => ⟨rfl, rfl, (by decide : 2 + 0 ≤ _), (by decide : 376 + 0 ≤ _)⟩)
  dsimp only [Pt.U, Pt.locs, Pt.cells, Pt.slots] at X60 l60 y60 z60 st60 hQ60
  subst l60 y60 z60
  obtain ⟨rfl, Nq60, e60⟩ := hQ60
  have N60 := Fr.app N54 Nq60
  refine own_go (B := T60.setTop (mkF m 35 #[.val (.ref ar), .val (.int 0), .val (.int zk), .val (.ref b43), .val (.int wv_48), .val (.ref br_54)] [(.int (own_gc (ys_54.getD (2 * jn_48) 0) (ys_54.getD (2 * jn_48 + 1) 0)))])) st60 ?_
  refine own_go (B := T60.setTop (mkF m 38 #[.val (.ref ar), .val (.int 0), .val (.int zk), .val (.ref b43), .val (.int wv_48), .val (.ref br_54)] [(.int 255), (.int (own_gc (ys_54.getD (2 * jn_48) 0) (ys_54.getD (2 * jn_48 + 1) 0)))])) (fun t k => ?_) ?_
  · refine XS.sipush X60.here hx rfl (od hby dc9 21 rfl) ?_
    exact k
  have hc38_61 : ((255 : Int32) < (own_gc (ys_54.getD (2 * jn_48) 0) (ys_54.getD (2 * jn_48 + 1) 0))) := (own_g255 (Pq54_1 _ (own_jex Pq48_1 Pq48_3 hex)) (hbnd _ (own_jex Pq48_1 Pq48_3 hex)) (Pq48_4 (own_jex Pq48_1 Pq48_3 hex)))
  refine own_go (B := T60.setTop (mkF m 56 #[.val (.ref ar), .val (.int 0), .val (.int zk), .val (.ref b43), .val (.int wv_48), .val (.ref br_54)] [(.ref br_54)])) (fun t k => ?_) ?_
  · refine XS.icmpYes X60.here hx rfl (pc0 := 38) (pc' := 54) rfl (od hby dc9 22 rfl) rfl (tlt hc38_61).2.2.1 (by decide) (by decide) ?_
    refine XS.aload X60.here hx rfl (od hby dc9 23 rfl) rfl rfl ?_
    exact k
  exact own_rA Bd X60 hx rfl rfl rfl (od hby dc9 24 rfl) (by rw [e60]; exact ⟨br_54, kb_54, ys_54, rfl, N60, K54, sz_br_54, U54_0, Pq54_0, Pq54_1⟩) (by decide)
def QinVU (Z : State) (oo ar : Addr) (zk : Int32) (ka : ClassId) (cl : List Int32) (mm : Nat) (cs : Int32) (h0 : Heap) (n0 : Nat) (v : Option Value) (h : Heap) (L : List Loc) : Prop := ∃ br : Addr, ∃ kb : ClassId, ∃ ys : List Int32, v = none ∧ Fr n0 L ∧ Keep h0 h [oo] ∧ h0.size ≤ br ∧ oo ≠ br ∧ Fld Z h oo jS "value" "[B" (.ref br) ∧ Fld Z h oo jS "coder" "B" (.int 1) ∧ Arv Z h br kb .byte (zk <<< ((1 : Int32) &&& 31)) (own_I ys) (.int 0) ∧ (ys.length = 2 * mm) ∧ (own_tbI cl ys mm)
theorem efinVU (m : MethodId) (x0 : Addr) (x1 : Addr) (x3 : Int32) : entryFrame m #[(.ref x0), (.ref x1), (.int 0), (.int x3), .null] 6 = mkF m 0 #[.val (.ref x0), .val (.ref x1), .val (.int 0), .val (.int x3), .val .null, .unset] [] := by first | (simp [entryFrame, mkF, argsToLocals, Value.category]; done) | rfl
set_option maxRecDepth 65536 in
set_option maxHeartbeats 40000000 in
theorem inVU (l : Launch) (Z : State) (a0 : Array Value) (hw : own_HW a0 Z) (ws : List Jvm.Cond) (oo ar : Addr) (zk : Int32) (ka : ClassId) (cl : List Int32) (mm : Nat) (cs : Int32) (h0 : Heap) (n0 : Nat) (Z0 : n0 ≤ h0.size) (P0 : Exa Z h0 oo jS) (P1 : Fld Z h0 oo jS "value" "[B" .null) (P2 : Fld Z h0 oo jS "coder" "B" (.int 0)) (P3 : Arv Z h0 ar ka .char zk (own_I cl) (.int 0)) (P4 : Sta Z h0 jS "COMPACT_STRINGS" "Z" (.int cs)) (P5 : Sta Z h0 jU "$assertionsDisabled" "Z" (.int 1)) (P6 : Sta Z h0 jU "HI_BYTE_SHIFT" "I" (.int 0)) (P7 : Sta Z h0 jU "LO_BYTE_SHIFT" "I" (.int 8)) (g_oo : n0 ≤ oo) (ne_oo_ar : oo ≠ ar) (hm : zk.toInt = (mm : Int)) (hs : mm ≤ 4) (hp : 0 < mm) (hcl : cl.length = mm) (hex : ∃ q, q < mm ∧ (255 : Int32) < cl.getD q 0) (hbnd : ∀ q, q < mm → 0 ≤ (cl.getD q 0).toInt ∧ (cl.getD q 0).toInt < 65536) (hcs : cs ≠ (0 : Int32)) :
    own_M l Z yN8 jdk_42_method_149_code 6 none ws (own_R 4 2 376 57) #[(.ref oo), (.ref ar), (.int 0), (.int zk), .null] h0 (QinVU Z oo ar zk ka cl mm cs h0 n0) := by
  refine own_b (own := jS) rfl (plainFor_of_name pn_1) (fun m => efinVU m oo ar zk) n0 fun p e s m below meth c s₁ Bd hZ hx hby hml hown X0 e0 N0 => ?_
  have hnm := (name_of_methodNamed Bd.named Bd.method).1
  have K0 : Keep h0 h0 [oo] := Keep.refl h0 _
  refine own_go (B := s₁.setTop (mkF m 1 #[.val (.ref oo), .val (.ref ar), .val (.int 0), .val (.int zk), .val .null, .unset] [(.ref oo)])) (fun t k => ?_) ?_
  · refine XS.aloadN X0.here hx rfl (od hby dc4 0 rfl) rfl rfl ?_
    exact k
  obtain ⟨T62, X62, e62, st62⟩ := initO X0 hx hZ hown (own_w hw 18 rfl) (own_w hw 19 rfl) (own_w hw 20 rfl) e0 (g := (mkF m 1 #[.val (.ref oo), .val (.ref ar), .val (.int 0), .val (.int zk), .val .null, .unset] [(.ref oo)])) rfl (by rw [hml]; rfl) rfl (od hby dc4 1 rfl) (by decide) (W := 0) (own_W0 rfl) (by decide)
  refine own_go st62 ?_
  refine own_go (B := T62.setTop (mkF m 5 #[.val (.ref oo), .val (.ref ar), .val (.int 0), .val (.int zk), .val .null, .unset] [(.int zk)])) (fun t k => ?_) ?_
  · refine XS.iloadN X62.here hx rfl (od hby dc4 2 rfl) rfl ?_
    exact k
  have hc5_63 : ¬ (zk = (0 : Int32)) := (own_nz hm hp)
  refine own_go (B := T62.setTop (mkF m 27 #[.val (.ref oo), .val (.ref ar), .val (.int 0), .val (.int zk), .val .null, .unset] [])) (fun t k => ?_) ?_
  · refine XS.ifYes X62.here hx rfl (pc0 := 5) (pc' := 27) rfl (od hby dc4 3 rfl) rfl ((if0 _ _).trans (feq hc5_63).2) (by decide) (by decide) ?_
    exact k
  obtain ⟨T64, X64, e64, st64⟩ := getS2 X62 hx hZ hown (host := "") (Or.inl (own_w hw 41 rfl)) Via.refl e62 P4 (g := (mkF m 27 #[.val (.ref oo), .val (.ref ar), .val (.int 0), .val (.int zk), .val .null, .unset] [])) rfl (od hby dc4 4 rfl)
  refine own_go st64 ?_
  have hc30_65 : ¬ (cs = (0 : Int32)) := hcs
  refine own_go (B := T64.setTop (mkF m 36 #[.val (.ref oo), .val (.ref ar), .val (.int 0), .val (.int zk), .val .null, .unset] [(.int zk), (.int 0), (.ref ar)])) (fun t k => ?_) ?_
  · refine XS.ifNo X64.here hx rfl (od hby dc4 5 rfl) rfl ((if0 _ _).trans (feq hc30_65).1) ?_
    refine XS.aloadN X64.here hx rfl (od hby dc4 6 rfl) rfl rfl ?_
    refine XS.iloadN X64.here hx rfl (od hby dc4 7 rfl) rfl ?_
    refine XS.iloadN X64.here hx rfl (od hby dc4 8 rfl) rfl ?_
    exact k
  obtain ⟨_, _, ⟨T66, L66, k66, n66⟩, -, X66, ⟨Lc66, hQ66, l66, y66, z66⟩, st66⟩ := Jvm.LawKit.callS X64 hx (y := yN7) hown (mvT hZ (own_w hw 42 rfl)) (mvT hZ (own_w hw 43 rfl)) (mvT hZ (own_w hw 44 rfl)) (mvT hZ (own_w hw 45 rfl)) (by decide) (backOf (W := 0) (cm3U l Z a0 hw [] ar zk ka cl mm h0 n0 Z0 P3 P5 P6 P7 hm hs hp hcl hex hbnd) hZ (own_w hw 45 rfl) (own_w hw 44 rfl) (by decide) (by decide)) (g := (mkF m 36 #[.val (.ref oo), .val (.ref ar), .val (.int 0), .val (.int zk), .val .null, .unset] [(.int zk), (.int 0), (.ref ar)])) rfl (by rw [hml]; rfl) (argsL := [(.ref ar), (.int 0), (.int zk)]) (rest := []) (lenOf pd_4 rfl) rfl (own_W0 rfl) (od hby dc4 9 rfl) (fun _ _ => ⟨rfl, e64, (by decide : 0 + 2 ≤ _), (by decide : 0 + 376 ≤ _)⟩)
  dsimp only [Pt.U, Pt.locs, Pt.cells, Pt.slots] at X66 l66 y66 z66 st66 hQ66
  subst l66 y66 z66
  obtain ⟨br_66, kb_66, ys_66, rfl, Nq66, Kq66, sq_br_66, U66_0, Pq66_0, Pq66_1⟩ := hQ66
  have ne_oo_br_66 : oo ≠ br_66 := Nat.ne_of_lt (Nat.lt_of_lt_of_le P0.lt sq_br_66)
  have sz_br_66 : h0.size ≤ br_66 := Nat.le_trans K0.1 sq_br_66
  have Q67 := P0.keep Kq66
  have Q68 := P1.keep Kq66 nin0
  have Q69 := P2.keep Kq66 nin0
  have Z66 : n0 ≤ T66.heap.size := Nat.le_trans Z0 Kq66.1
  have K66 : Keep h0 T66.heap [oo] := K0.trans Kq66 all0
  have N66 := Fr.app N0 Nq66
  refine own_go (B := T66.setTop (mkF m 39 #[.val (.ref oo), .val (.ref ar), .val (.int 0), .val (.int zk), .val .null, .unset] [(.ref br_66)])) st66 ?_
  refine own_go (B := T66.setTop (mkF m 45 #[.val (.ref oo), .val (.ref ar), .val (.int 0), .val (.int zk), .val .null, .val (.ref br_66)] [(.int zk), (.ref br_66), (.ref oo)])) (fun t k => ?_) ?_
  · refine XS.astore X66.here hx rfl (od hby dc4 10 rfl) rfl rfl (l' := #[.val (.ref oo), .val (.ref ar), .val (.int 0), .val (.int zk), .val .null, .val (.ref br_66)]) rfl ?_
    refine XS.aloadN X66.here hx rfl (od hby dc4 11 rfl) rfl rfl ?_
    refine XS.aload X66.here hx rfl (od hby dc4 12 rfl) rfl rfl ?_
    refine XS.iloadN X66.here hx rfl (od hby dc4 13 rfl) rfl ?_
    exact k
  obtain ⟨_, _, ⟨T75, L75, k75, n75⟩, -, X75, ⟨Lc75, hQ75, l75, y75, z75⟩, st75⟩ := Jvm.LawKit.callS X66 hx (y := yN6) hown (mvT hZ (own_w hw 49 rfl)) (mvT hZ (own_w hw 50 rfl)) (mvT hZ (own_w hw 44 rfl)) (mvT hZ (own_w hw 51 rfl)) (by decide) (backOf (W := 1) (cfa l Z a0 hw [] br_66 zk kb_66 (zk <<< ((1 : Int32) &&& 31)) ys_66 T66.heap n0 Z66 U66_0) hZ (own_w hw 51 rfl) (own_w hw 44 rfl) (by decide) (by decide)) (g := (mkF m 45 #[.val (.ref oo), .val (.ref ar), .val (.int 0), .val (.int zk), .val .null, .val (.ref br_66)] [(.int zk), (.ref br_66), (.ref oo)])) rfl (by rw [hml]; rfl) (argsL := [(.ref br_66), (.int zk)]) (rest := [(.ref oo)]) (lenOf pd_6 rfl) rfl (own_W0 rfl) (od hby dc4 14 rfl) (fun _ _ => ⟨rfl, rfl, (by decide : 2 + 0 ≤ _), (by decide : 376 + 0 ≤ _)⟩)
  dsimp only [Pt.U, Pt.locs, Pt.cells, Pt.slots] at X75 l75 y75 z75 st75 hQ75
  subst l75 y75 z75
  obtain ⟨rfl, Nq75, e75⟩ := hQ75
  have N75 := Fr.app N66 Nq75
  refine own_go (B := T75.setTop (mkF m 48 #[.val (.ref oo), .val (.ref ar), .val (.int 0), .val (.int zk), .val .null, .val (.ref br_66)] [(.int (nar .byte ((((zk - (zk <<< ((1 : Int32) &&& 31))).toUInt32 >>> ((31 : Int32) &&& 31).toUInt32).toInt32).toInt8.toInt32))), (.ref oo)])) st75 ?_
  rw [own_cf1 hm hp (by omega)]
  obtain ⟨T76, h76, X76, e76, W76, st76⟩ := putFN (v' := (.int 1)) X75 hx hZ hown (own_w hw 28 rfl) Via.refl e75 Q69 Q67 (Or.inr ⟨(own_w hw 24 rfl), rfl, hnm⟩) (own_w hw 8 rfl) (ty := .byte) (by decide) rfl rfl (g := (mkF m 48 #[.val (.ref oo), .val (.ref ar), .val (.int 0), .val (.int zk), .val .null, .val (.ref br_66)] [(.int 1), (.ref oo)])) rfl rfl (od hby dc4 15 rfl)
  have Q77 := Q67.wr W76
  have Q78 := Q68.other W76 (Or.inr (slot_ne (Or.inr (own_w hw 23 rfl)) (Or.inr (own_w hw 24 rfl)) (by decide) (t := (.array .byte)) (t' := .byte) (by decide) (by decide)))
  have Q84 := U66_0.other W76 (Ne.symm ne_oo_br_66)
  have U76 : Fld Z h76 oo jS "coder" "B" (.int 1) := Q69.same W76
  have N76 := Fr.snoc X76 N75 g_oo
  have K76 := K66.wr W76 (Or.inl (List.mem_of_getElem? (i := 0) rfl))
  refine own_go st76 ?_
  refine own_go (B := T76.setTop (mkF m 54 #[.val (.ref oo), .val (.ref ar), .val (.int 0), .val (.int zk), .val .null, .val (.ref br_66)] [(.ref br_66), (.ref oo)])) (fun t k => ?_) ?_
  · refine XS.aloadN X76.here hx rfl (od hby dc4 16 rfl) rfl rfl ?_
    refine XS.aload X76.here hx rfl (od hby dc4 17 rfl) rfl rfl ?_
    exact k
  obtain ⟨T85, h85, X85, e85, W85, st85⟩ := putF X76 hx hZ hown (host := "") (Or.inl (own_w hw 27 rfl)) Via.refl e76 Q78 Q77 (Or.inr ⟨(own_w hw 23 rfl), rfl, hnm⟩) (own_w hw 8 rfl) (ty := (.array .byte)) (by decide) rfl rfl (g := (mkF m 54 #[.val (.ref oo), .val (.ref ar), .val (.int 0), .val (.int zk), .val .null, .val (.ref br_66)] [(.ref br_66), (.ref oo)])) rfl rfl (od hby dc4 18 rfl)
  have Q92 := Q84.other W85 (Ne.symm ne_oo_br_66)
  have Q93 := U76.other W85 (Or.inr (slot_ne (Or.inr (own_w hw 24 rfl)) (Or.inr (own_w hw 23 rfl)) (by decide) (t := .byte) (t' := (.array .byte)) (by decide) (by decide)))
  have U85 : Fld Z h85 oo jS "value" "[B" (.ref br_66) := Q78.same W85
  have N85 := Fr.snoc X85 N76 g_oo
  have K85 := K76.wr W85 (Or.inl (List.mem_of_getElem? (i := 0) rfl))
  refine own_go st85 ?_
  exact own_rV Bd X85 hx (od hby dc4 19 rfl) (by rw [e85]; exact ⟨br_66, kb_66, ys_66, rfl, N85, K85, sz_br_66, ne_oo_br_66, U85, Q93, Q92, Pq66_0, Pq66_1⟩) (by decide)
def QinCU (Z : State) (oo ar : Addr) (zk : Int32) (ka : ClassId) (cl : List Int32) (mm : Nat) (cs : Int32) (h0 : Heap) (n0 : Nat) (v : Option Value) (h : Heap) (L : List Loc) : Prop := ∃ br : Addr, ∃ kb : ClassId, ∃ ys : List Int32, v = none ∧ Fr n0 L ∧ Keep h0 h [oo] ∧ h0.size ≤ br ∧ oo ≠ br ∧ Fld Z h oo jS "value" "[B" (.ref br) ∧ Fld Z h oo jS "coder" "B" (.int 1) ∧ Arv Z h br kb .byte (zk <<< ((1 : Int32) &&& 31)) (own_I ys) (.int 0) ∧ (ys.length = 2 * mm) ∧ (own_tbI cl ys mm)
theorem efinCU (m : MethodId) (x0 : Addr) (x1 : Addr) : entryFrame m #[(.ref x0), (.ref x1)] 2 = mkF m 0 #[.val (.ref x0), .val (.ref x1)] [] := by first | (simp [entryFrame, mkF, argsToLocals, Value.category]; done) | rfl
set_option maxRecDepth 65536 in
set_option maxHeartbeats 40000000 in
theorem inCU (l : Launch) (Z : State) (a0 : Array Value) (hw : own_HW a0 Z) (ws : List Jvm.Cond) (oo ar : Addr) (zk : Int32) (ka : ClassId) (cl : List Int32) (mm : Nat) (cs : Int32) (h0 : Heap) (n0 : Nat) (Z0 : n0 ≤ h0.size) (P0 : Exa Z h0 oo jS) (P1 : Fld Z h0 oo jS "value" "[B" .null) (P2 : Fld Z h0 oo jS "coder" "B" (.int 0)) (P3 : Arv Z h0 ar ka .char zk (own_I cl) (.int 0)) (P4 : Sta Z h0 jS "COMPACT_STRINGS" "Z" (.int cs)) (P5 : Sta Z h0 jU "$assertionsDisabled" "Z" (.int 1)) (P6 : Sta Z h0 jU "HI_BYTE_SHIFT" "I" (.int 0)) (P7 : Sta Z h0 jU "LO_BYTE_SHIFT" "I" (.int 8)) (g_oo : n0 ≤ oo) (ne_oo_ar : oo ≠ ar) (hm : zk.toInt = (mm : Int)) (hs : mm ≤ 4) (hp : 0 < mm) (hcl : cl.length = mm) (hex : ∃ q, q < mm ∧ (255 : Int32) < cl.getD q 0) (hbnd : ∀ q, q < mm → 0 ≤ (cl.getD q 0).toInt ∧ (cl.getD q 0).toInt < 65536) (hcs : cs ≠ (0 : Int32)) :
    own_M l Z yN9 jdk_42_method_3_code 2 none ws (own_R 5 2 376 74) #[(.ref oo), (.ref ar)] h0 (QinCU Z oo ar zk ka cl mm cs h0 n0) := by
  refine own_b (own := jS) rfl (plainFor_of_name pn_1) (fun m => efinCU m oo ar) n0 fun p e s m below meth c s₁ Bd hZ hx hby hml hown X0 e0 N0 => ?_
  have K0 : Keep h0 h0 [oo] := Keep.refl h0 _
  refine own_go (B := s₁.setTop (mkF m 4 #[.val (.ref oo), .val (.ref ar)] [(.ref ar), (.int 0), (.ref ar), (.ref oo)])) (fun t k => ?_) ?_
  · refine XS.aloadN X0.here hx rfl (od hby dc3 0 rfl) rfl rfl ?_
    refine XS.aloadN X0.here hx rfl (od hby dc3 1 rfl) rfl rfl ?_
    refine XS.iconst X0.here hx rfl (od hby dc3 2 rfl) ?_
    refine XS.aloadN X0.here hx rfl (od hby dc3 3 rfl) rfl rfl ?_
    exact k
  obtain ⟨cl94, Ar94, q94, S94, M94, Ha94, G94⟩ := id P3
  refine own_go (B := s₁.setTop (mkF m 5 #[.val (.ref oo), .val (.ref ar)] [(.int zk), (.int 0), (.ref ar), (.ref oo)])) (fun t k => ?_) ?_
  · refine X0.arraylength hx (by rw [e0]; exact Ar94.1) (State.isArrayOf_alike hZ.alike Ar94.2.1) (g := (mkF m 4 #[.val (.ref oo), .val (.ref ar)] [(.ref ar), (.int 0), (.ref ar), (.ref oo)])) rfl rfl (od hby dc3 4 rfl) _ ?_
    rw [len_of S94 M94]
    exact k
  refine own_go (B := s₁.setTop (mkF m 6 #[.val (.ref oo), .val (.ref ar)] [.null, (.int zk), (.int 0), (.ref ar), (.ref oo)])) (fun t k => ?_) ?_
  · refine XS.aconstNull X0.here hx rfl (od hby dc3 5 rfl) ?_
    exact k
  obtain ⟨_, _, ⟨T95, L95, k95, n95⟩, -, X95, ⟨Lc95, hQ95, l95, y95, z95⟩, st95⟩ := X0.specialBack hx (y := yN8) rfl hown (mvT hZ (own_w hw 14 rfl)) (mvT hZ (own_w hw 15 rfl)) (mvT hZ (own_w hw 17 rfl)) (by decide) (backOf (W := 0) (inVU l Z a0 hw [] oo ar zk ka cl mm cs h0 n0 Z0 P0 P1 P2 P3 P4 P5 P6 P7 g_oo ne_oo_ar hm hs hp hcl hex hbnd hcs) hZ (own_w hw 17 rfl) (own_w hw 9 rfl) (by decide) (by decide)) (g := (mkF m 6 #[.val (.ref oo), .val (.ref ar)] [.null, (.int zk), (.int 0), (.ref ar), (.ref oo)])) rfl (by rw [hml]; rfl) (Steps.refl _) (a := oo) (argsL := [(.ref ar), (.int 0), (.int zk), .null]) (rest := []) (lenOf pd_7 rfl) rfl (own_W0 rfl) (od hby dc3 6 rfl) (fun _ _ => ⟨rfl, e0, (by decide : 0 + 2 ≤ _), (by decide : 0 + 376 ≤ _)⟩)
  dsimp only [Pt.U, Pt.locs, Pt.cells, Pt.slots] at X95 l95 y95 z95 st95 hQ95
  subst l95 y95 z95
  obtain ⟨br_95, kb_95, ys_95, rfl, Nq95, Kq95, sq_br_95, pq95_0, U95_0, U95_1, U95_2, Pq95_0, Pq95_1⟩ := hQ95
  have ne_oo_br_95 : oo ≠ br_95 := Nat.ne_of_lt (Nat.lt_of_lt_of_le P0.lt sq_br_95)
  have sz_br_95 : h0.size ≤ br_95 := Nat.le_trans K0.1 sq_br_95
  have K95 : Keep h0 T95.heap [oo] := K0.trans Kq95 (allS (Or.inl (List.mem_of_getElem? (i := 0) rfl)) all0)
  have N95 := Fr.app N0 Nq95
  refine own_go (B := T95.setTop (mkF m 9 #[.val (.ref oo), .val (.ref ar)] [])) (fun t k => st95.trans k) ?_
  exact own_rV Bd X95 hx (od hby dc3 7 rfl) ⟨br_95, kb_95, ys_95, rfl, N95, K95, sz_br_95, ne_oo_br_95, U95_0, U95_1, U95_2, Pq95_0, Pq95_1⟩ (by decide)
def Qcm3L (Z : State) (ar : Addr) (zk : Int32) (ka : ClassId) (cl : List Int32) (mm : Nat) (h0 : Heap) (n0 : Nat) (v : Option Value) (h : Heap) (L : List Loc) : Prop := ∃ br : Addr, ∃ kb : ClassId, ∃ ys : List Int32, v = some (.ref br) ∧ Fr n0 L ∧ Keep h0 h [] ∧ h0.size ≤ br ∧ Arv Z h br kb .byte zk (own_I ys) (.int 0) ∧ (ys.length = mm) ∧ (own_cpI cl ys mm)
theorem efcm3L (m : MethodId) (x0 : Addr) (x2 : Int32) : entryFrame m #[(.ref x0), (.int 0), (.int x2)] 6 = mkF m 0 #[.val (.ref x0), .val (.int 0), .val (.int x2), .unset, .unset, .unset] [] := by first | (simp [entryFrame, mkF, argsToLocals, Value.category]; done) | rfl
set_option maxRecDepth 65536 in
set_option maxHeartbeats 40000000 in
theorem cm3L (l : Launch) (Z : State) (a0 : Array Value) (hw : own_HW a0 Z) (ws : List Jvm.Cond) (ar : Addr) (zk : Int32) (ka : ClassId) (cl : List Int32) (mm : Nat) (h0 : Heap) (n0 : Nat) (Z0 : n0 ≤ h0.size) (P0 : Arv Z h0 ar ka .char zk (own_I cl) (.int 0)) (hm : zk.toInt = (mm : Int)) (hs : mm ≤ 4) (hp : 0 < mm) (hcl : cl.length = mm) (hall : ∀ q, q < mm → ¬ (255 : Int32) < cl.getD q 0) :
    own_M l Z yN7 jdk_52_method_16_code 6 (some (.array .byte)) ws (own_R 1 1 4 18) #[(.ref ar), (.int 0), (.int zk)] h0 (Qcm3L Z ar zk ka cl mm h0 n0) := by
  refine own_b (own := jU) rfl (plainFor_of_name pn_0) (fun m => efcm3L m ar zk) n0 fun p e s m below meth c s₁ Bd hZ hx hby hml hown X0 e0 N0 => ?_
  have K0 : Keep h0 h0 [] := Keep.refl h0 _
  refine own_go (B := s₁.setTop (mkF m 1 #[.val (.ref ar), .val (.int 0), .val (.int zk), .unset, .unset, .unset] [(.int zk)])) (fun t k => ?_) ?_
  · refine XS.iloadN X0.here hx rfl (od hby dc9 0 rfl) rfl ?_
    exact k
  obtain ⟨T102, h102, k102, X102, e102, E102, A102, st102⟩ := newP X0 hx hZ (own_w hw 22 rfl) e0 (g := (mkF m 1 #[.val (.ref ar), .val (.int 0), .val (.int zk), .unset, .unset, .unset] [(.int zk)])) rfl (od hby dc9 1 rfl) rfl (own_nn hm) (cap := 4) (own_capn hm hs) (by decide) (by decide) (by decide)
  obtain ⟨b102, g102⟩ : ∃ z, z = h0.size := ⟨_, rfl⟩
  rw [← g102] at A102 st102
  have ne102_ar : ar ≠ b102 := Nat.ne_of_lt (Nat.lt_of_lt_of_le P0.lt (Nat.le_of_eq g102.symm))
  have low102 : n0 ≤ b102 := Nat.le_trans Z0 (Nat.le_of_eq g102.symm)
  have sz102 : h0.size ≤ b102 := Nat.le_trans K0.1 (Nat.le_of_eq g102.symm)
  have Q103 := P0.ext E102
  have Z102 : n0 ≤ h102.size := Nat.le_trans Z0 E102.1
  have K102 := K0.ext E102
  have V102 : Arv Z h102 b102 k102 .byte zk (own_I (List.replicate (mm) 0)) (.int 0) := own_newI (Arv.new A102 (own_nn hm))
  refine own_go st102 ?_
  refine own_go (B := T102.setTop (mkF m 9 #[.val (.ref ar), .val (.int 0), .val (.int zk), .val (.ref b102), .unset, .unset] [(.int zk), (.int 0), (.ref b102), (.int 0), (.ref ar)])) (fun t k => ?_) ?_
  · refine XS.astoreN X102.here hx rfl (od hby dc9 2 rfl) rfl rfl (l' := #[.val (.ref ar), .val (.int 0), .val (.int zk), .val (.ref b102), .unset, .unset]) rfl ?_
    refine XS.aloadN X102.here hx rfl (od hby dc9 3 rfl) rfl rfl ?_
    refine XS.iloadN X102.here hx rfl (od hby dc9 4 rfl) rfl ?_
    refine XS.aloadN X102.here hx rfl (od hby dc9 5 rfl) rfl rfl ?_
    refine XS.iconst X102.here hx rfl (od hby dc9 6 rfl) ?_
    refine XS.iloadN X102.here hx rfl (od hby dc9 7 rfl) rfl ?_
    exact k
  obtain ⟨_, _, ⟨T104, L104, k104, n104⟩, -, X104, ⟨Lc104, hQ104, l104, y104, z104⟩, st104⟩ := Jvm.LawKit.callS X102 hx (y := yN2) hown (mvT hZ (own_w hw 46 rfl)) (mvT hZ (own_w hw 47 rfl)) (mvT hZ (own_w hw 44 rfl)) (mvT hZ (own_w hw 48 rfl)) (by decide) (backOf (W := 0) (cm5 l Z a0 hw [] ar b102 zk ka k102 cl (List.replicate (mm) 0) mm h102 n0 Z102 Q103 V102 low102 ne102_ar hm (by omega) hcl List.length_replicate) hZ (own_w hw 48 rfl) (own_w hw 44 rfl) (by decide) (by decide)) (g := (mkF m 9 #[.val (.ref ar), .val (.int 0), .val (.int zk), .val (.ref b102), .unset, .unset] [(.int zk), (.int 0), (.ref b102), (.int 0), (.ref ar)])) rfl (by rw [hml]; rfl) (argsL := [(.ref ar), (.int 0), (.ref b102), (.int 0), (.int zk)]) (rest := []) (lenOf pd_3 rfl) rfl (own_W0 rfl) (od hby dc9 8 rfl) (fun _ _ => ⟨rfl, e102, (by decide : 1 + 0 ≤ _), (by decide : 4 + 0 ≤ _)⟩)
  dsimp only [Pt.U, Pt.locs, Pt.cells, Pt.slots] at X104 l104 y104 z104 st104 hQ104
  subst l104 y104 z104
  obtain ⟨wv_104, jn_104, ys_104, rfl, Nq104, Kq104, U104_0, Pq104_0, Pq104_1, Pq104_2, Pq104_3, Pq104_4⟩ := hQ104
  have K104 : Keep h0 T104.heap [] := K102.trans Kq104 (allS (Or.inr sz102) all0)
  have N104 := Fr.app N0 Nq104
  refine own_go (B := T104.setTop (mkF m 12 #[.val (.ref ar), .val (.int 0), .val (.int zk), .val (.ref b102), .unset, .unset] [(.int wv_104)])) st104 ?_
  refine own_go (B := T104.setTop (mkF m 17 #[.val (.ref ar), .val (.int 0), .val (.int zk), .val (.ref b102), .val (.int wv_104), .unset] [(.int zk), (.int wv_104)])) (fun t k => ?_) ?_
  · refine XS.istore X104.here hx rfl (od hby dc9 9 rfl) rfl (l' := #[.val (.ref ar), .val (.int 0), .val (.int zk), .val (.ref b102), .val (.int wv_104), .unset]) rfl ?_
    refine XS.iload X104.here hx rfl (od hby dc9 10 rfl) rfl ?_
    refine XS.iloadN X104.here hx rfl (od hby dc9 11 rfl) rfl ?_
    exact k
  have hc17_106 : (wv_104 = zk) := (own_wz Pq104_0 hm (own_jall Pq104_1 Pq104_4 hall))
  refine own_go (B := T104.setTop (mkF m 58 #[.val (.ref ar), .val (.int 0), .val (.int zk), .val (.ref b102), .val (.int wv_104), .unset] [(.ref b102)])) (fun t k => ?_) ?_
  · refine XS.icmpYes X104.here hx rfl (pc0 := 17) (pc' := 57) rfl (od hby dc9 12 rfl) rfl (teq hc17_106).1 (by decide) (by decide) ?_
    refine XS.aloadN X104.here hx rfl (od hby dc9 25 rfl) rfl rfl ?_
    exact k
  exact own_rA Bd X104 hx rfl rfl rfl (od hby dc9 26 rfl) ⟨b102, k102, ys_104, rfl, N104, K104, sz102, U104_0, Pq104_2, (own_jall Pq104_1 Pq104_4 hall ▸ Pq104_3)⟩ (by decide)
def QinVL (Z : State) (oo ar : Addr) (zk : Int32) (ka : ClassId) (cl : List Int32) (mm : Nat) (cs : Int32) (h0 : Heap) (n0 : Nat) (v : Option Value) (h : Heap) (L : List Loc) : Prop := ∃ br : Addr, ∃ kb : ClassId, ∃ ys : List Int32, v = none ∧ Fr n0 L ∧ Keep h0 h [oo] ∧ h0.size ≤ br ∧ oo ≠ br ∧ Fld Z h oo jS "value" "[B" (.ref br) ∧ Fld Z h oo jS "coder" "B" (.int 0) ∧ Arv Z h br kb .byte zk (own_I ys) (.int 0) ∧ (ys.length = mm) ∧ (own_cpI cl ys mm)
theorem efinVL (m : MethodId) (x0 : Addr) (x1 : Addr) (x3 : Int32) : entryFrame m #[(.ref x0), (.ref x1), (.int 0), (.int x3), .null] 6 = mkF m 0 #[.val (.ref x0), .val (.ref x1), .val (.int 0), .val (.int x3), .val .null, .unset] [] := by first | (simp [entryFrame, mkF, argsToLocals, Value.category]; done) | rfl
set_option maxRecDepth 65536 in
set_option maxHeartbeats 40000000 in
theorem inVL (l : Launch) (Z : State) (a0 : Array Value) (hw : own_HW a0 Z) (ws : List Jvm.Cond) (oo ar : Addr) (zk : Int32) (ka : ClassId) (cl : List Int32) (mm : Nat) (cs : Int32) (h0 : Heap) (n0 : Nat) (Z0 : n0 ≤ h0.size) (P0 : Exa Z h0 oo jS) (P1 : Fld Z h0 oo jS "value" "[B" .null) (P2 : Fld Z h0 oo jS "coder" "B" (.int 0)) (P3 : Arv Z h0 ar ka .char zk (own_I cl) (.int 0)) (P4 : Sta Z h0 jS "COMPACT_STRINGS" "Z" (.int cs)) (g_oo : n0 ≤ oo) (ne_oo_ar : oo ≠ ar) (hm : zk.toInt = (mm : Int)) (hs : mm ≤ 4) (hp : 0 < mm) (hcl : cl.length = mm) (hall : ∀ q, q < mm → ¬ (255 : Int32) < cl.getD q 0) (hcs : cs ≠ (0 : Int32)) :
    own_M l Z yN8 jdk_42_method_149_code 6 none ws (own_R 2 1 4 35) #[(.ref oo), (.ref ar), (.int 0), (.int zk), .null] h0 (QinVL Z oo ar zk ka cl mm cs h0 n0) := by
  refine own_b (own := jS) rfl (plainFor_of_name pn_1) (fun m => efinVL m oo ar zk) n0 fun p e s m below meth c s₁ Bd hZ hx hby hml hown X0 e0 N0 => ?_
  have hnm := (name_of_methodNamed Bd.named Bd.method).1
  have K0 : Keep h0 h0 [oo] := Keep.refl h0 _
  refine own_go (B := s₁.setTop (mkF m 1 #[.val (.ref oo), .val (.ref ar), .val (.int 0), .val (.int zk), .val .null, .unset] [(.ref oo)])) (fun t k => ?_) ?_
  · refine XS.aloadN X0.here hx rfl (od hby dc4 0 rfl) rfl rfl ?_
    exact k
  obtain ⟨T107, X107, e107, st107⟩ := initO X0 hx hZ hown (own_w hw 18 rfl) (own_w hw 19 rfl) (own_w hw 20 rfl) e0 (g := (mkF m 1 #[.val (.ref oo), .val (.ref ar), .val (.int 0), .val (.int zk), .val .null, .unset] [(.ref oo)])) rfl (by rw [hml]; rfl) rfl (od hby dc4 1 rfl) (by decide) (W := 0) (own_W0 rfl) (by decide)
  refine own_go st107 ?_
  refine own_go (B := T107.setTop (mkF m 5 #[.val (.ref oo), .val (.ref ar), .val (.int 0), .val (.int zk), .val .null, .unset] [(.int zk)])) (fun t k => ?_) ?_
  · refine XS.iloadN X107.here hx rfl (od hby dc4 2 rfl) rfl ?_
    exact k
  have hc5_108 : ¬ (zk = (0 : Int32)) := (own_nz hm hp)
  refine own_go (B := T107.setTop (mkF m 27 #[.val (.ref oo), .val (.ref ar), .val (.int 0), .val (.int zk), .val .null, .unset] [])) (fun t k => ?_) ?_
  · refine XS.ifYes X107.here hx rfl (pc0 := 5) (pc' := 27) rfl (od hby dc4 3 rfl) rfl ((if0 _ _).trans (feq hc5_108).2) (by decide) (by decide) ?_
    exact k
  obtain ⟨T109, X109, e109, st109⟩ := getS2 X107 hx hZ hown (host := "") (Or.inl (own_w hw 41 rfl)) Via.refl e107 P4 (g := (mkF m 27 #[.val (.ref oo), .val (.ref ar), .val (.int 0), .val (.int zk), .val .null, .unset] [])) rfl (od hby dc4 4 rfl)
  refine own_go st109 ?_
  have hc30_110 : ¬ (cs = (0 : Int32)) := hcs
  refine own_go (B := T109.setTop (mkF m 36 #[.val (.ref oo), .val (.ref ar), .val (.int 0), .val (.int zk), .val .null, .unset] [(.int zk), (.int 0), (.ref ar)])) (fun t k => ?_) ?_
  · refine XS.ifNo X109.here hx rfl (od hby dc4 5 rfl) rfl ((if0 _ _).trans (feq hc30_110).1) ?_
    refine XS.aloadN X109.here hx rfl (od hby dc4 6 rfl) rfl rfl ?_
    refine XS.iloadN X109.here hx rfl (od hby dc4 7 rfl) rfl ?_
    refine XS.iloadN X109.here hx rfl (od hby dc4 8 rfl) rfl ?_
    exact k
  obtain ⟨_, _, ⟨T111, L111, k111, n111⟩, -, X111, ⟨Lc111, hQ111, l111, y111, z111⟩, st111⟩ := Jvm.LawKit.callS X109 hx (y := yN7) hown (mvT hZ (own_w hw 42 rfl)) (mvT hZ (own_w hw 43 rfl)) (mvT hZ (own_w hw 44 rfl)) (mvT hZ (own_w hw 45 rfl)) (by decide) (backOf (W := 0) (cm3L l Z a0 hw [] ar zk ka cl mm h0 n0 Z0 P3 hm hs hp hcl hall) hZ (own_w hw 45 rfl) (own_w hw 44 rfl) (by decide) (by decide)) (g := (mkF m 36 #[.val (.ref oo), .val (.ref ar), .val (.int 0), .val (.int zk), .val .null, .unset] [(.int zk), (.int 0), (.ref ar)])) rfl (by rw [hml]; rfl) (argsL := [(.ref ar), (.int 0), (.int zk)]) (rest := []) (lenOf pd_4 rfl) rfl (own_W0 rfl) (od hby dc4 9 rfl) (fun _ _ => ⟨rfl, e109, (by decide : 0 + 1 ≤ _), (by decide : 0 + 4 ≤ _)⟩)
  dsimp only [Pt.U, Pt.locs, Pt.cells, Pt.slots] at X111 l111 y111 z111 st111 hQ111
  subst l111 y111 z111
  obtain ⟨br_111, kb_111, ys_111, rfl, Nq111, Kq111, sq_br_111, U111_0, Pq111_0, Pq111_1⟩ := hQ111
  have ne_oo_br_111 : oo ≠ br_111 := Nat.ne_of_lt (Nat.lt_of_lt_of_le P0.lt sq_br_111)
  have sz_br_111 : h0.size ≤ br_111 := Nat.le_trans K0.1 sq_br_111
  have Q112 := P0.keep Kq111
  have Q113 := P1.keep Kq111 nin0
  have Q114 := P2.keep Kq111 nin0
  have Z111 : n0 ≤ T111.heap.size := Nat.le_trans Z0 Kq111.1
  have K111 : Keep h0 T111.heap [oo] := K0.trans Kq111 all0
  have N111 := Fr.app N0 Nq111
  refine own_go (B := T111.setTop (mkF m 39 #[.val (.ref oo), .val (.ref ar), .val (.int 0), .val (.int zk), .val .null, .unset] [(.ref br_111)])) st111 ?_
  refine own_go (B := T111.setTop (mkF m 45 #[.val (.ref oo), .val (.ref ar), .val (.int 0), .val (.int zk), .val .null, .val (.ref br_111)] [(.int zk), (.ref br_111), (.ref oo)])) (fun t k => ?_) ?_
  · refine XS.astore X111.here hx rfl (od hby dc4 10 rfl) rfl rfl (l' := #[.val (.ref oo), .val (.ref ar), .val (.int 0), .val (.int zk), .val .null, .val (.ref br_111)]) rfl ?_
    refine XS.aloadN X111.here hx rfl (od hby dc4 11 rfl) rfl rfl ?_
    refine XS.aload X111.here hx rfl (od hby dc4 12 rfl) rfl rfl ?_
    refine XS.iloadN X111.here hx rfl (od hby dc4 13 rfl) rfl ?_
    exact k
  obtain ⟨_, _, ⟨T117, L117, k117, n117⟩, -, X117, ⟨Lc117, hQ117, l117, y117, z117⟩, st117⟩ := Jvm.LawKit.callS X111 hx (y := yN6) hown (mvT hZ (own_w hw 49 rfl)) (mvT hZ (own_w hw 50 rfl)) (mvT hZ (own_w hw 44 rfl)) (mvT hZ (own_w hw 51 rfl)) (by decide) (backOf (W := 1) (cfa l Z a0 hw [] br_111 zk kb_111 zk ys_111 T111.heap n0 Z111 U111_0) hZ (own_w hw 51 rfl) (own_w hw 44 rfl) (by decide) (by decide)) (g := (mkF m 45 #[.val (.ref oo), .val (.ref ar), .val (.int 0), .val (.int zk), .val .null, .val (.ref br_111)] [(.int zk), (.ref br_111), (.ref oo)])) rfl (by rw [hml]; rfl) (argsL := [(.ref br_111), (.int zk)]) (rest := [(.ref oo)]) (lenOf pd_6 rfl) rfl (own_W0 rfl) (od hby dc4 14 rfl) (fun _ _ => ⟨rfl, rfl, (by decide : 1 + 0 ≤ _), (by decide : 4 + 0 ≤ _)⟩)
  dsimp only [Pt.U, Pt.locs, Pt.cells, Pt.slots] at X117 l117 y117 z117 st117 hQ117
  subst l117 y117 z117
  obtain ⟨rfl, Nq117, e117⟩ := hQ117
  have N117 := Fr.app N111 Nq117
  refine own_go (B := T117.setTop (mkF m 48 #[.val (.ref oo), .val (.ref ar), .val (.int 0), .val (.int zk), .val .null, .val (.ref br_111)] [(.int (nar .byte ((((zk - zk).toUInt32 >>> ((31 : Int32) &&& 31).toUInt32).toInt32).toInt8.toInt32))), (.ref oo)])) st117 ?_
  rw [own_cf0]
  obtain ⟨T118, h118, X118, e118, W118, st118⟩ := putFN (v' := (.int 0)) X117 hx hZ hown (own_w hw 28 rfl) Via.refl e117 Q114 Q112 (Or.inr ⟨(own_w hw 24 rfl), rfl, hnm⟩) (own_w hw 8 rfl) (ty := .byte) (by decide) rfl rfl (g := (mkF m 48 #[.val (.ref oo), .val (.ref ar), .val (.int 0), .val (.int zk), .val .null, .val (.ref br_111)] [(.int 0), (.ref oo)])) rfl rfl (od hby dc4 15 rfl)
  have Q119 := Q112.wr W118
  have Q120 := Q113.other W118 (Or.inr (slot_ne (Or.inr (own_w hw 23 rfl)) (Or.inr (own_w hw 24 rfl)) (by decide) (t := (.array .byte)) (t' := .byte) (by decide) (by decide)))
  have Q123 := U111_0.other W118 (Ne.symm ne_oo_br_111)
  have U118 : Fld Z h118 oo jS "coder" "B" (.int 0) := Q114.same W118
  have N118 := Fr.snoc X118 N117 g_oo
  have K118 := K111.wr W118 (Or.inl (List.mem_of_getElem? (i := 0) rfl))
  refine own_go st118 ?_
  refine own_go (B := T118.setTop (mkF m 54 #[.val (.ref oo), .val (.ref ar), .val (.int 0), .val (.int zk), .val .null, .val (.ref br_111)] [(.ref br_111), (.ref oo)])) (fun t k => ?_) ?_
  · refine XS.aloadN X118.here hx rfl (od hby dc4 16 rfl) rfl rfl ?_
    refine XS.aload X118.here hx rfl (od hby dc4 17 rfl) rfl rfl ?_
    exact k
  obtain ⟨T124, h124, X124, e124, W124, st124⟩ := putF X118 hx hZ hown (host := "") (Or.inl (own_w hw 27 rfl)) Via.refl e118 Q120 Q119 (Or.inr ⟨(own_w hw 23 rfl), rfl, hnm⟩) (own_w hw 8 rfl) (ty := (.array .byte)) (by decide) rfl rfl (g := (mkF m 54 #[.val (.ref oo), .val (.ref ar), .val (.int 0), .val (.int zk), .val .null, .val (.ref br_111)] [(.ref br_111), (.ref oo)])) rfl rfl (od hby dc4 18 rfl)
  have Q128 := Q123.other W124 (Ne.symm ne_oo_br_111)
  have Q129 := U118.other W124 (Or.inr (slot_ne (Or.inr (own_w hw 24 rfl)) (Or.inr (own_w hw 23 rfl)) (by decide) (t := .byte) (t' := (.array .byte)) (by decide) (by decide)))
  have U124 : Fld Z h124 oo jS "value" "[B" (.ref br_111) := Q120.same W124
  have N124 := Fr.snoc X124 N118 g_oo
  have K124 := K118.wr W124 (Or.inl (List.mem_of_getElem? (i := 0) rfl))
  refine own_go st124 ?_
  exact own_rV Bd X124 hx (od hby dc4 19 rfl) (by rw [e124]; exact ⟨br_111, kb_111, ys_111, rfl, N124, K124, sz_br_111, ne_oo_br_111, U124, Q129, Q128, Pq111_0, Pq111_1⟩) (by decide)
def QinCL (Z : State) (oo ar : Addr) (zk : Int32) (ka : ClassId) (cl : List Int32) (mm : Nat) (cs : Int32) (h0 : Heap) (n0 : Nat) (v : Option Value) (h : Heap) (L : List Loc) : Prop := ∃ br : Addr, ∃ kb : ClassId, ∃ ys : List Int32, v = none ∧ Fr n0 L ∧ Keep h0 h [oo] ∧ h0.size ≤ br ∧ oo ≠ br ∧ Fld Z h oo jS "value" "[B" (.ref br) ∧ Fld Z h oo jS "coder" "B" (.int 0) ∧ Arv Z h br kb .byte zk (own_I ys) (.int 0) ∧ (ys.length = mm) ∧ (own_cpI cl ys mm)
theorem efinCL (m : MethodId) (x0 : Addr) (x1 : Addr) : entryFrame m #[(.ref x0), (.ref x1)] 2 = mkF m 0 #[.val (.ref x0), .val (.ref x1)] [] := by first | (simp [entryFrame, mkF, argsToLocals, Value.category]; done) | rfl
set_option maxRecDepth 65536 in
set_option maxHeartbeats 40000000 in
theorem inCL (l : Launch) (Z : State) (a0 : Array Value) (hw : own_HW a0 Z) (ws : List Jvm.Cond) (oo ar : Addr) (zk : Int32) (ka : ClassId) (cl : List Int32) (mm : Nat) (cs : Int32) (h0 : Heap) (n0 : Nat) (Z0 : n0 ≤ h0.size) (P0 : Exa Z h0 oo jS) (P1 : Fld Z h0 oo jS "value" "[B" .null) (P2 : Fld Z h0 oo jS "coder" "B" (.int 0)) (P3 : Arv Z h0 ar ka .char zk (own_I cl) (.int 0)) (P4 : Sta Z h0 jS "COMPACT_STRINGS" "Z" (.int cs)) (g_oo : n0 ≤ oo) (ne_oo_ar : oo ≠ ar) (hm : zk.toInt = (mm : Int)) (hs : mm ≤ 4) (hp : 0 < mm) (hcl : cl.length = mm) (hall : ∀ q, q < mm → ¬ (255 : Int32) < cl.getD q 0) (hcs : cs ≠ (0 : Int32)) :
    own_M l Z yN9 jdk_42_method_3_code 2 none ws (own_R 5 2 376 74) #[(.ref oo), (.ref ar)] h0 (QinCL Z oo ar zk ka cl mm cs h0 n0) := by
  refine own_b (own := jS) rfl (plainFor_of_name pn_1) (fun m => efinCL m oo ar) n0 fun p e s m below meth c s₁ Bd hZ hx hby hml hown X0 e0 N0 => ?_
  have K0 : Keep h0 h0 [oo] := Keep.refl h0 _
  refine own_go (B := s₁.setTop (mkF m 4 #[.val (.ref oo), .val (.ref ar)] [(.ref ar), (.int 0), (.ref ar), (.ref oo)])) (fun t k => ?_) ?_
  · refine XS.aloadN X0.here hx rfl (od hby dc3 0 rfl) rfl rfl ?_
    refine XS.aloadN X0.here hx rfl (od hby dc3 1 rfl) rfl rfl ?_
    refine XS.iconst X0.here hx rfl (od hby dc3 2 rfl) ?_
    refine XS.aloadN X0.here hx rfl (od hby dc3 3 rfl) rfl rfl ?_
    exact k
  obtain ⟨cl130, Ar130, q130, S130, M130, Ha130, G130⟩ := id P3
  refine own_go (B := s₁.setTop (mkF m 5 #[.val (.ref oo), .val (.ref ar)] [(.int zk), (.int 0), (.ref ar), (.ref oo)])) (fun t k => ?_) ?_
  · refine X0.arraylength hx (by rw [e0]; exact Ar130.1) (State.isArrayOf_alike hZ.alike Ar130.2.1) (g := (mkF m 4 #[.val (.ref oo), .val (.ref ar)] [(.ref ar), (.int 0), (.ref ar), (.ref oo)])) rfl rfl (od hby dc3 4 rfl) _ ?_
    rw [len_of S130 M130]
    exact k
  refine own_go (B := s₁.setTop (mkF m 6 #[.val (.ref oo), .val (.ref ar)] [.null, (.int zk), (.int 0), (.ref ar), (.ref oo)])) (fun t k => ?_) ?_
  · refine XS.aconstNull X0.here hx rfl (od hby dc3 5 rfl) ?_
    exact k
  obtain ⟨_, _, ⟨T131, L131, k131, n131⟩, -, X131, ⟨Lc131, hQ131, l131, y131, z131⟩, st131⟩ := X0.specialBack hx (y := yN8) rfl hown (mvT hZ (own_w hw 14 rfl)) (mvT hZ (own_w hw 15 rfl)) (mvT hZ (own_w hw 17 rfl)) (by decide) (backOf (W := 0) (inVL l Z a0 hw [] oo ar zk ka cl mm cs h0 n0 Z0 P0 P1 P2 P3 P4 g_oo ne_oo_ar hm hs hp hcl hall hcs) hZ (own_w hw 17 rfl) (own_w hw 9 rfl) (by decide) (by decide)) (g := (mkF m 6 #[.val (.ref oo), .val (.ref ar)] [.null, (.int zk), (.int 0), (.ref ar), (.ref oo)])) rfl (by rw [hml]; rfl) (Steps.refl _) (a := oo) (argsL := [(.ref ar), (.int 0), (.int zk), .null]) (rest := []) (lenOf pd_7 rfl) rfl (own_W0 rfl) (od hby dc3 6 rfl) (fun _ _ => ⟨rfl, e0, (by decide : 0 + 1 ≤ _), (by decide : 0 + 4 ≤ _)⟩)
  dsimp only [Pt.U, Pt.locs, Pt.cells, Pt.slots] at X131 l131 y131 z131 st131 hQ131
  subst l131 y131 z131
  obtain ⟨br_131, kb_131, ys_131, rfl, Nq131, Kq131, sq_br_131, pq131_0, U131_0, U131_1, U131_2, Pq131_0, Pq131_1⟩ := hQ131
  have ne_oo_br_131 : oo ≠ br_131 := Nat.ne_of_lt (Nat.lt_of_lt_of_le P0.lt sq_br_131)
  have sz_br_131 : h0.size ≤ br_131 := Nat.le_trans K0.1 sq_br_131
  have K131 : Keep h0 T131.heap [oo] := K0.trans Kq131 (allS (Or.inl (List.mem_of_getElem? (i := 0) rfl)) all0)
  have N131 := Fr.app N0 Nq131
  refine own_go (B := T131.setTop (mkF m 9 #[.val (.ref oo), .val (.ref ar)] [])) (fun t k => st131.trans k) ?_
  exact own_rV Bd X131 hx (od hby dc3 7 rfl) ⟨br_131, kb_131, ys_131, rfl, N131, K131, sz_br_131, ne_oo_br_131, U131_0, U131_1, U131_2, Pq131_0, Pq131_1⟩ (by decide)
def QinC (Z : State) (oo ar : Addr) (zk : Int32) (ka : ClassId) (cl : List Int32) (mm : Nat) (cs : Int32) (h0 : Heap) (n0 : Nat) (v : Option Value) (h : Heap) (L : List Loc) : Prop := ∃ br : Addr, ∃ kb : ClassId, ∃ zq : Int32, ∃ cv : Int32, ∃ ys : List Int32, v = none ∧ Fr n0 L ∧ Keep h0 h [oo] ∧ h0.size ≤ br ∧ oo ≠ br ∧ Fld Z h oo jS "value" "[B" (.ref br) ∧ Fld Z h oo jS "coder" "B" (.int cv) ∧ Arv Z h br kb .byte zq (own_I ys) (.int 0) ∧ (own_ST cv zq zk mm cl ys)
set_option maxRecDepth 65536 in
theorem inC (l : Launch) (Z : State) (a0 : Array Value) (hw : own_HW a0 Z) (ws : List Jvm.Cond) (oo ar : Addr) (zk : Int32) (ka : ClassId) (cl : List Int32) (mm : Nat) (cs : Int32) (h0 : Heap) (n0 : Nat) (Z0 : n0 ≤ h0.size) (P0 : Exa Z h0 oo jS) (P1 : Fld Z h0 oo jS "value" "[B" .null) (P2 : Fld Z h0 oo jS "coder" "B" (.int 0)) (P3 : Arv Z h0 ar ka .char zk (own_I cl) (.int 0)) (P4 : Sta Z h0 jS "COMPACT_STRINGS" "Z" (.int cs)) (P5 : Sta Z h0 jU "$assertionsDisabled" "Z" (.int 1)) (P6 : Sta Z h0 jU "HI_BYTE_SHIFT" "I" (.int 0)) (P7 : Sta Z h0 jU "LO_BYTE_SHIFT" "I" (.int 8)) (g_oo : n0 ≤ oo) (ne_oo_ar : oo ≠ ar) (hm : zk.toInt = (mm : Int)) (hs : mm ≤ 4) (hp : 0 < mm) (hcl : cl.length = mm) (hbnd : ∀ q, q < mm → 0 ≤ (cl.getD q 0).toInt ∧ (cl.getD q 0).toInt < 65536) (hcs : cs ≠ (0 : Int32)) :
    own_M l Z yN9 jdk_42_method_3_code 2 none ws (own_R 5 2 376 74) #[(.ref oo), (.ref ar)] h0 (QinC Z oo ar zk ka cl mm cs h0 n0) := by
  by_cases hall : ∀ q, q < mm → ¬ (255 : Int32) < cl.getD q 0
  · refine (inCL l Z a0 hw ws oo ar zk ka cl mm cs h0 n0 Z0 P0 P1 P2 P3 P4 g_oo ne_oo_ar hm hs hp hcl hall hcs).mono (fun _ _ h => h) (fun _ _ _ _ _ h => h) ?_
    rintro a U o U' - ⟨v, L, ho, ⟨br, kb, ys, hv, hF, hK, hsz, hne, f1, f2, f3, p1, p2⟩, hE⟩
    exact ⟨v, L, ho, ⟨br, kb, _, _, ys, hv, hF, hK, hsz, hne, f1, f2, f3, Or.inl ⟨rfl, rfl, p1, p2⟩⟩, hE⟩
  · have hex : ∃ q, q < mm ∧ (255 : Int32) < cl.getD q 0 := by
      apply Classical.byContradiction
      intro hn
      exact hall fun q h1 h2 => hn ⟨q, h1, h2⟩
    refine (inCU l Z a0 hw ws oo ar zk ka cl mm cs h0 n0 Z0 P0 P1 P2 P3 P4 P5 P6 P7 g_oo ne_oo_ar hm hs hp hcl hex hbnd hcs).mono (fun _ _ h => h) (fun _ _ _ _ _ h => h) ?_
    rintro a U o U' - ⟨v, L, ho, ⟨br, kb, ys, hv, hF, hK, hsz, hne, f1, f2, f3, p1, p2⟩, hE⟩
    exact ⟨v, L, ho, ⟨br, kb, _, _, ys, hv, hF, hK, hsz, hne, f1, f2, f3, Or.inr ⟨rfl, rfl, p1, p2⟩⟩, hE⟩
def Qmk_4 (Z : State) (c0 c1 c2 c3 cs : Int32) (h0 : Heap) (n0 : Nat) (v : Option Value) (h : Heap) (L : List Loc) : Prop := ∃ rr : Addr, ∃ br : Addr, ∃ kb : ClassId, ∃ zq : Int32, ∃ cv : Int32, ∃ ys : List Int32, v = some (.ref rr) ∧ Fr n0 L ∧ Keep h0 h [] ∧ h0.size ≤ rr ∧ h0.size ≤ br ∧ rr ≠ br ∧ Exa Z h rr jS ∧ Fld Z h rr jS "value" "[B" (.ref br) ∧ Fld Z h rr jS "coder" "B" (.int cv) ∧ Arv Z h br kb .byte zq (own_I ys) (.int 0) ∧ (own_ST cv zq (4 : Int32) 4 [(nar .char c0), (nar .char c1), (nar .char c2), (nar .char c3)] ys)
theorem efmk_4 (m : MethodId) (x1 : Int32) (x2 : Int32) (x3 : Int32) (x4 : Int32) : entryFrame m #[(.int 4), (.int x1), (.int x2), (.int x3), (.int x4)] 6 = mkF m 0 #[.val (.int 4), .val (.int x1), .val (.int x2), .val (.int x3), .val (.int x4), .unset] [] := by first | (simp [entryFrame, mkF, argsToLocals, Value.category]; done) | rfl
set_option maxRecDepth 65536 in
set_option maxHeartbeats 40000000 in
theorem mk_4 (l : Launch) (Z : State) (a0 : Array Value) (hw : own_HW a0 Z) (ws : List Jvm.Cond) (c0 c1 c2 c3 cs : Int32) (h0 : Heap) (n0 : Nat) (Z0 : n0 ≤ h0.size) (P0 : Sta Z h0 jS "COMPACT_STRINGS" "Z" (.int cs)) (P1 : Sta Z h0 jU "$assertionsDisabled" "Z" (.int 1)) (P2 : Sta Z h0 jU "HI_BYTE_SHIFT" "I" (.int 0)) (P3 : Sta Z h0 jU "LO_BYTE_SHIFT" "I" (.int 8)) (hcs : cs ≠ (0 : Int32)) :
    own_M l Z yN10 method_4_code 6 (some (.object jS)) ws (own_R 6 4 384 88) #[(.int 4), (.int c0), (.int c1), (.int c2), (.int c3)] h0 (Qmk_4 Z c0 c1 c2 c3 cs h0 n0) := by
  refine own_b (own := jL) rfl (plainFor_of_name pn_2) (fun m => efmk_4 m c0 c1 c2 c3) n0 fun p e s m below meth c s₁ Bd hZ hx hby hml hown X0 e0 N0 => ?_
  have K0 : Keep h0 h0 [] := Keep.refl h0 _
  refine own_go (B := s₁.setTop (mkF m 106 #[.val (.int 4), .val (.int c0), .val (.int c1), .val (.int c2), .val (.int c3), .unset] [(.int 4)])) (fun t k => ?_) ?_
  · refine XS.iloadN X0.here hx rfl (od hby dc2 0 rfl) rfl ?_
    refine XS.ifYes X0.here hx rfl (pc0 := 1) (pc' := 15) rfl (od hby dc2 1 rfl) rfl ((if0 _ _).trans (feq (by decide : ¬ ((4 : Int32) = (0 : Int32)))).2) (by decide) (by decide) ?_
    refine XS.iloadN X0.here hx rfl (od hby dc2 2 rfl) rfl ?_
    refine XS.iconst X0.here hx rfl (od hby dc2 3 rfl) ?_
    refine XS.icmpYes X0.here hx rfl (pc0 := 17) (pc' := 40) rfl (od hby dc2 4 rfl) rfl (feq (by decide : ¬ ((4 : Int32) = (1 : Int32)))).2 (by decide) (by decide) ?_
    refine XS.iloadN X0.here hx rfl (od hby dc2 5 rfl) rfl ?_
    refine XS.iconst X0.here hx rfl (od hby dc2 6 rfl) ?_
    refine XS.icmpYes X0.here hx rfl (pc0 := 42) (pc' := 70) rfl (od hby dc2 7 rfl) rfl (feq (by decide : ¬ ((4 : Int32) = (2 : Int32)))).2 (by decide) (by decide) ?_
    refine XS.iloadN X0.here hx rfl (od hby dc2 8 rfl) rfl ?_
    refine XS.iconst X0.here hx rfl (od hby dc2 9 rfl) ?_
    refine XS.icmpYes X0.here hx rfl (pc0 := 72) (pc' := 105) rfl (od hby dc2 10 rfl) rfl (feq (by decide : ¬ ((4 : Int32) = (3 : Int32)))).2 (by decide) (by decide) ?_
    refine XS.iconst X0.here hx rfl (od hby dc2 11 rfl) ?_
    exact k
  obtain ⟨T139, h139, k139, X139, e139, E139, A139, st139⟩ := newP X0 hx hZ (own_w hw 10 rfl) e0 (g := (mkF m 106 #[.val (.int 4), .val (.int c0), .val (.int c1), .val (.int c2), .val (.int c3), .unset] [(.int 4)])) rfl (od hby dc2 12 rfl) rfl (by decide) (cap := 4) (by decide) (by decide) (by decide) (by decide)
  obtain ⟨b139, g139⟩ : ∃ z, z = h0.size := ⟨_, rfl⟩
  rw [← g139] at A139 st139
  have low139 : n0 ≤ b139 := Nat.le_trans Z0 (Nat.le_of_eq g139.symm)
  have sz139 : h0.size ≤ b139 := Nat.le_trans K0.1 (Nat.le_of_eq g139.symm)
  have Q140 := P0.ext E139
  have Q141 := P1.ext E139
  have Q142 := P2.ext E139
  have Q143 := P3.ext E139
  have Z139 : n0 ≤ h139.size := Nat.le_trans Z0 E139.1
  have K139 := K0.ext E139
  have V139 : Arv Z h139 b139 k139 .char (4 : Int32) [(.int 0), (.int 0), (.int 0), (.int 0)] (.int 0) := (Arv.new A139 (by decide)).pad (pad_rep [] (.int 0) 4)
  refine own_go st139 ?_
  refine own_go (B := T139.setTop (mkF m 114 #[.val (.int 4), .val (.int c0), .val (.int c1), .val (.int c2), .val (.int c3), .val (.ref b139)] [(.int c0), (.int 0), (.ref b139)])) (fun t k => ?_) ?_
  · refine XS.astore X139.here hx rfl (od hby dc2 13 rfl) rfl rfl (l' := #[.val (.int 4), .val (.int c0), .val (.int c1), .val (.int c2), .val (.int c3), .val (.ref b139)]) rfl ?_
    refine XS.aload X139.here hx rfl (od hby dc2 14 rfl) rfl rfl ?_
    refine XS.iconst X139.here hx rfl (od hby dc2 15 rfl) ?_
    refine XS.iloadN X139.here hx rfl (od hby dc2 16 rfl) rfl ?_
    exact k
  obtain ⟨cl144, Ar144, q144, S144, M144, Ha144, G144⟩ := V139
  have hin144 : ¬ ((0 : Int32) < 0 ∨ cl144.slots.size ≤ ((0 : Int32)).toNatClampNeg) := inb_of S144 ⟨by decide, by decide⟩
  obtain ⟨T144, h144, X144, e144, W144, st144⟩ := stC X139 hx hZ e139 Ar144 (j := (0 : Int32)) hin144 (g := (mkF m 114 #[.val (.int 4), .val (.int c0), .val (.int c1), .val (.int c2), .val (.int c3), .val (.ref b139)] [(.int c0), (.int 0), (.ref b139)])) rfl rfl (od hby dc2 17 rfl)
  have Q145 := Q140.wr W144
  have Q146 := Q141.wr W144
  have Q147 := Q142.wr W144
  have Q148 := Q143.wr W144
  have U144 : Arv Z h144 b139 k139 .char (4 : Int32) [(.int (nar .char c0)), (.int 0), (.int 0), (.int 0)] (.int 0) := Arv.set Ar144 q144 S144 M144 Ha144 G144 (fits_nar_char _) W144 0 rfl (Nat.le_of_ble_eq_true rfl)
  have Z144 : n0 ≤ h144.size := Nat.le_trans Z139 (Keep.of_wr W144).1
  have N144 := Fr.snoc X144 N0 low139
  have K144 := K139.wr W144 (Or.inr sz139)
  refine own_go st144 ?_
  refine own_go (B := T144.setTop (mkF m 119 #[.val (.int 4), .val (.int c0), .val (.int c1), .val (.int c2), .val (.int c3), .val (.ref b139)] [(.int c1), (.int 1), (.ref b139)])) (fun t k => ?_) ?_
  · refine XS.aload X144.here hx rfl (od hby dc2 18 rfl) rfl rfl ?_
    refine XS.iconst X144.here hx rfl (od hby dc2 19 rfl) ?_
    refine XS.iloadN X144.here hx rfl (od hby dc2 20 rfl) rfl ?_
    exact k
  obtain ⟨cl149, Ar149, q149, S149, M149, Ha149, G149⟩ := U144
  have hin149 : ¬ ((1 : Int32) < 0 ∨ cl149.slots.size ≤ ((1 : Int32)).toNatClampNeg) := inb_of S149 ⟨by decide, by decide⟩
  obtain ⟨T149, h149, X149, e149, W149, st149⟩ := stC X144 hx hZ e144 Ar149 (j := (1 : Int32)) hin149 (g := (mkF m 119 #[.val (.int 4), .val (.int c0), .val (.int c1), .val (.int c2), .val (.int c3), .val (.ref b139)] [(.int c1), (.int 1), (.ref b139)])) rfl rfl (od hby dc2 21 rfl)
  have Q150 := Q145.wr W149
  have Q151 := Q146.wr W149
  have Q152 := Q147.wr W149
  have Q153 := Q148.wr W149
  have U149 : Arv Z h149 b139 k139 .char (4 : Int32) [(.int (nar .char c0)), (.int (nar .char c1)), (.int 0), (.int 0)] (.int 0) := Arv.set Ar149 q149 S149 M149 Ha149 G149 (fits_nar_char _) W149 1 rfl (Nat.le_of_ble_eq_true rfl)
  have Z149 : n0 ≤ h149.size := Nat.le_trans Z144 (Keep.of_wr W149).1
  have N149 := Fr.snoc X149 N144 low139
  have K149 := K144.wr W149 (Or.inr sz139)
  refine own_go st149 ?_
  refine own_go (B := T149.setTop (mkF m 124 #[.val (.int 4), .val (.int c0), .val (.int c1), .val (.int c2), .val (.int c3), .val (.ref b139)] [(.int c2), (.int 2), (.ref b139)])) (fun t k => ?_) ?_
  · refine XS.aload X149.here hx rfl (od hby dc2 22 rfl) rfl rfl ?_
    refine XS.iconst X149.here hx rfl (od hby dc2 23 rfl) ?_
    refine XS.iloadN X149.here hx rfl (od hby dc2 24 rfl) rfl ?_
    exact k
  obtain ⟨cl154, Ar154, q154, S154, M154, Ha154, G154⟩ := U149
  have hin154 : ¬ ((2 : Int32) < 0 ∨ cl154.slots.size ≤ ((2 : Int32)).toNatClampNeg) := inb_of S154 ⟨by decide, by decide⟩
  obtain ⟨T154, h154, X154, e154, W154, st154⟩ := stC X149 hx hZ e149 Ar154 (j := (2 : Int32)) hin154 (g := (mkF m 124 #[.val (.int 4), .val (.int c0), .val (.int c1), .val (.int c2), .val (.int c3), .val (.ref b139)] [(.int c2), (.int 2), (.ref b139)])) rfl rfl (od hby dc2 25 rfl)
  have Q155 := Q150.wr W154
  have Q156 := Q151.wr W154
  have Q157 := Q152.wr W154
  have Q158 := Q153.wr W154
  have U154 : Arv Z h154 b139 k139 .char (4 : Int32) [(.int (nar .char c0)), (.int (nar .char c1)), (.int (nar .char c2)), (.int 0)] (.int 0) := Arv.set Ar154 q154 S154 M154 Ha154 G154 (fits_nar_char _) W154 2 rfl (Nat.le_of_ble_eq_true rfl)
  have Z154 : n0 ≤ h154.size := Nat.le_trans Z149 (Keep.of_wr W154).1
  have N154 := Fr.snoc X154 N149 low139
  have K154 := K149.wr W154 (Or.inr sz139)
  refine own_go st154 ?_
  refine own_go (B := T154.setTop (mkF m 130 #[.val (.int 4), .val (.int c0), .val (.int c1), .val (.int c2), .val (.int c3), .val (.ref b139)] [(.int c3), (.int 3), (.ref b139)])) (fun t k => ?_) ?_
  · refine XS.aload X154.here hx rfl (od hby dc2 26 rfl) rfl rfl ?_
    refine XS.iconst X154.here hx rfl (od hby dc2 27 rfl) ?_
    refine XS.iload X154.here hx rfl (od hby dc2 28 rfl) rfl ?_
    exact k
  obtain ⟨cl159, Ar159, q159, S159, M159, Ha159, G159⟩ := U154
  have hin159 : ¬ ((3 : Int32) < 0 ∨ cl159.slots.size ≤ ((3 : Int32)).toNatClampNeg) := inb_of S159 ⟨by decide, by decide⟩
  obtain ⟨T159, h159, X159, e159, W159, st159⟩ := stC X154 hx hZ e154 Ar159 (j := (3 : Int32)) hin159 (g := (mkF m 130 #[.val (.int 4), .val (.int c0), .val (.int c1), .val (.int c2), .val (.int c3), .val (.ref b139)] [(.int c3), (.int 3), (.ref b139)])) rfl rfl (od hby dc2 29 rfl)
  have Q160 := Q155.wr W159
  have Q161 := Q156.wr W159
  have Q162 := Q157.wr W159
  have Q163 := Q158.wr W159
  have U159 : Arv Z h159 b139 k139 .char (4 : Int32) [(.int (nar .char c0)), (.int (nar .char c1)), (.int (nar .char c2)), (.int (nar .char c3))] (.int 0) := Arv.set Ar159 q159 S159 M159 Ha159 G159 (fits_nar_char _) W159 3 rfl (Nat.le_of_ble_eq_true rfl)
  have Z159 : n0 ≤ h159.size := Nat.le_trans Z154 (Keep.of_wr W159).1
  have N159 := Fr.snoc X159 N154 low139
  have K159 := K154.wr W159 (Or.inr sz139)
  refine own_go st159 ?_
  obtain ⟨T164, h164, X164, e164, E164, A164, D164, -, st164⟩ := newO X159 hx hZ hown (own_w hw 7 rfl) (own_w hw 8 rfl) (own_w hw 9 rfl) e159 (g := (mkF m 131 #[.val (.int 4), .val (.int c0), .val (.int c1), .val (.int c2), .val (.int c3), .val (.ref b139)] [])) rfl (od hby dc2 30 rfl) (by decide) (by decide)
  obtain ⟨b164, g164⟩ : ∃ z, z = h159.size := ⟨_, rfl⟩
  rw [← g164] at A164 D164 st164
  have ne164_b139 : b139 ≠ b164 := Nat.ne_of_lt (Nat.lt_of_lt_of_le U159.lt (Nat.le_of_eq g164.symm))
  have low164 : n0 ≤ b164 := Nat.le_trans Z159 (Nat.le_of_eq g164.symm)
  have sz164 : h0.size ≤ b164 := Nat.le_trans K159.1 (Nat.le_of_eq g164.symm)
  have Q165 := Q160.ext E164
  have Q166 := Q161.ext E164
  have Q167 := Q162.ext E164
  have Q168 := Q163.ext E164
  have Q169 := U159.ext E164
  have Z164 : n0 ≤ h164.size := Nat.le_trans Z159 E164.1
  have K164 := K159.ext E164
  have D164_value_String : Fld Z h164 b164 jS "value" "[B" .null := D164 (Or.inr (own_w hw 23 rfl)) (ty := (.array .byte)) (by decide)
  have D164_coder_String : Fld Z h164 b164 jS "coder" "B" (.int 0) := D164 (Or.inr (own_w hw 24 rfl)) (ty := .byte) (by decide)
  refine own_go st164 ?_
  refine own_go (B := T164.setTop (mkF m 137 #[.val (.int 4), .val (.int c0), .val (.int c1), .val (.int c2), .val (.int c3), .val (.ref b139)] [(.ref b139), (.ref b164), (.ref b164)])) (fun t k => ?_) ?_
  · refine XS.dup X164.here hx rfl (od hby dc2 31 rfl) rfl rfl ?_
    refine XS.aload X164.here hx rfl (od hby dc2 32 rfl) rfl rfl ?_
    exact k
  obtain ⟨_, _, ⟨T170, L170, k170, n170⟩, -, X170, ⟨Lc170, hQ170, l170, y170, z170⟩, st170⟩ := X164.specialBack hx (y := yN9) rfl hown (mvT hZ (own_w hw 11 rfl)) (mvT hZ (own_w hw 12 rfl)) (mvT hZ (own_w hw 13 rfl)) (by decide) (backOf (W := 1) (inC l Z a0 hw [] b164 b139 (4 : Int32) k139 [(nar .char c0), (nar .char c1), (nar .char c2), (nar .char c3)] 4 cs h164 n0 Z164 A164 D164_value_String D164_coder_String Q169 Q165 Q166 Q167 Q168 low164 (Ne.symm ne164_b139) rfl (by decide) (by decide) rfl (fun q _ => own_nb [c0, c1, c2, c3] q) hcs) hZ (own_w hw 13 rfl) (own_w hw 9 rfl) (by decide) (by decide)) (g := (mkF m 137 #[.val (.int 4), .val (.int c0), .val (.int c1), .val (.int c2), .val (.int c3), .val (.ref b139)] [(.ref b139), (.ref b164), (.ref b164)])) rfl (by rw [hml]; rfl) (Steps.refl _) (a := b164) (argsL := [(.ref b139)]) (rest := [(.ref b164)]) (lenOf pd_8 rfl) rfl (own_W0 rfl) (od hby dc2 33 rfl) (fun _ _ => ⟨rfl, e164, (by decide : 2 + 2 ≤ _), (by decide : 8 + 376 ≤ _)⟩)
  dsimp only [Pt.U, Pt.locs, Pt.cells, Pt.slots] at X170 l170 y170 z170 st170 hQ170
  subst l170 y170 z170
  obtain ⟨br_170, kb_170, zq_170, cv_170, ys_170, rfl, Nq170, Kq170, sq_br_170, pq170_0, U170_0, U170_1, U170_2, Pq170_0⟩ := hQ170
  have ne_b164_br_170 : b164 ≠ br_170 := Nat.ne_of_lt (Nat.lt_of_lt_of_le A164.lt sq_br_170)
  have sz_br_170 : h0.size ≤ br_170 := Nat.le_trans K164.1 sq_br_170
  have Q176 := A164.keep Kq170
  have K170 : Keep h0 T170.heap [] := K164.trans Kq170 (allS (Or.inr sz164) all0)
  have N170 := Fr.app N159 Nq170
  refine own_go (B := T170.setTop (mkF m 140 #[.val (.int 4), .val (.int c0), .val (.int c1), .val (.int c2), .val (.int c3), .val (.ref b139)] [(.ref b164)])) (fun t k => st170.trans k) ?_
  exact own_rA Bd X170 hx rfl rfl rfl (od hby dc2 34 rfl) ⟨b164, br_170, kb_170, zq_170, cv_170, ys_170, rfl, N170, K170, sz164, sz_br_170, ne_b164_br_170, Q176, U170_0, U170_1, U170_2, Pq170_0⟩ (by decide)
def Qmk_3 (Z : State) (c0 c1 c2 c3 cs : Int32) (h0 : Heap) (n0 : Nat) (v : Option Value) (h : Heap) (L : List Loc) : Prop := ∃ rr : Addr, ∃ br : Addr, ∃ kb : ClassId, ∃ zq : Int32, ∃ cv : Int32, ∃ ys : List Int32, v = some (.ref rr) ∧ Fr n0 L ∧ Keep h0 h [] ∧ h0.size ≤ rr ∧ h0.size ≤ br ∧ rr ≠ br ∧ Exa Z h rr jS ∧ Fld Z h rr jS "value" "[B" (.ref br) ∧ Fld Z h rr jS "coder" "B" (.int cv) ∧ Arv Z h br kb .byte zq (own_I ys) (.int 0) ∧ (own_ST cv zq (3 : Int32) 3 [(nar .char c0), (nar .char c1), (nar .char c2)] ys)
theorem efmk_3 (m : MethodId) (x1 : Int32) (x2 : Int32) (x3 : Int32) (x4 : Int32) : entryFrame m #[(.int 3), (.int x1), (.int x2), (.int x3), (.int x4)] 6 = mkF m 0 #[.val (.int 3), .val (.int x1), .val (.int x2), .val (.int x3), .val (.int x4), .unset] [] := by first | (simp [entryFrame, mkF, argsToLocals, Value.category]; done) | rfl
set_option maxRecDepth 65536 in
set_option maxHeartbeats 40000000 in
theorem mk_3 (l : Launch) (Z : State) (a0 : Array Value) (hw : own_HW a0 Z) (ws : List Jvm.Cond) (c0 c1 c2 c3 cs : Int32) (h0 : Heap) (n0 : Nat) (Z0 : n0 ≤ h0.size) (P0 : Sta Z h0 jS "COMPACT_STRINGS" "Z" (.int cs)) (P1 : Sta Z h0 jU "$assertionsDisabled" "Z" (.int 1)) (P2 : Sta Z h0 jU "HI_BYTE_SHIFT" "I" (.int 0)) (P3 : Sta Z h0 jU "LO_BYTE_SHIFT" "I" (.int 8)) (hcs : cs ≠ (0 : Int32)) :
    own_M l Z yN10 method_4_code 6 (some (.object jS)) ws (own_R 6 4 384 88) #[(.int 3), (.int c0), (.int c1), (.int c2), (.int c3)] h0 (Qmk_3 Z c0 c1 c2 c3 cs h0 n0) := by
  refine own_b (own := jL) rfl (plainFor_of_name pn_2) (fun m => efmk_3 m c0 c1 c2 c3) n0 fun p e s m below meth c s₁ Bd hZ hx hby hml hown X0 e0 N0 => ?_
  have K0 : Keep h0 h0 [] := Keep.refl h0 _
  refine own_go (B := s₁.setTop (mkF m 76 #[.val (.int 3), .val (.int c0), .val (.int c1), .val (.int c2), .val (.int c3), .unset] [(.int 3)])) (fun t k => ?_) ?_
  · refine XS.iloadN X0.here hx rfl (od hby dc2 0 rfl) rfl ?_
    refine XS.ifYes X0.here hx rfl (pc0 := 1) (pc' := 15) rfl (od hby dc2 1 rfl) rfl ((if0 _ _).trans (feq (by decide : ¬ ((3 : Int32) = (0 : Int32)))).2) (by decide) (by decide) ?_
    refine XS.iloadN X0.here hx rfl (od hby dc2 2 rfl) rfl ?_
    refine XS.iconst X0.here hx rfl (od hby dc2 3 rfl) ?_
    refine XS.icmpYes X0.here hx rfl (pc0 := 17) (pc' := 40) rfl (od hby dc2 4 rfl) rfl (feq (by decide : ¬ ((3 : Int32) = (1 : Int32)))).2 (by decide) (by decide) ?_
    refine XS.iloadN X0.here hx rfl (od hby dc2 5 rfl) rfl ?_
    refine XS.iconst X0.here hx rfl (od hby dc2 6 rfl) ?_
    refine XS.icmpYes X0.here hx rfl (pc0 := 42) (pc' := 70) rfl (od hby dc2 7 rfl) rfl (feq (by decide : ¬ ((3 : Int32) = (2 : Int32)))).2 (by decide) (by decide) ?_
    refine XS.iloadN X0.here hx rfl (od hby dc2 8 rfl) rfl ?_
    refine XS.iconst X0.here hx rfl (od hby dc2 9 rfl) ?_
    refine XS.icmpNo X0.here hx rfl (od hby dc2 10 rfl) rfl (teq (rfl : (3 : Int32) = (3 : Int32))).2 ?_
    refine XS.iconst X0.here hx rfl (od hby dc2 35 rfl) ?_
    exact k
  obtain ⟨T181, h181, k181, X181, e181, E181, A181, st181⟩ := newP X0 hx hZ (own_w hw 10 rfl) e0 (g := (mkF m 76 #[.val (.int 3), .val (.int c0), .val (.int c1), .val (.int c2), .val (.int c3), .unset] [(.int 3)])) rfl (od hby dc2 36 rfl) rfl (by decide) (cap := 3) (by decide) (by decide) (by decide) (by decide)
  obtain ⟨b181, g181⟩ : ∃ z, z = h0.size := ⟨_, rfl⟩
  rw [← g181] at A181 st181
  have low181 : n0 ≤ b181 := Nat.le_trans Z0 (Nat.le_of_eq g181.symm)
  have sz181 : h0.size ≤ b181 := Nat.le_trans K0.1 (Nat.le_of_eq g181.symm)
  have Q182 := P0.ext E181
  have Q183 := P1.ext E181
  have Q184 := P2.ext E181
  have Q185 := P3.ext E181
  have Z181 : n0 ≤ h181.size := Nat.le_trans Z0 E181.1
  have K181 := K0.ext E181
  have V181 : Arv Z h181 b181 k181 .char (3 : Int32) [(.int 0), (.int 0), (.int 0)] (.int 0) := (Arv.new A181 (by decide)).pad (pad_rep [] (.int 0) 3)
  refine own_go st181 ?_
  refine own_go (B := T181.setTop (mkF m 84 #[.val (.int 3), .val (.int c0), .val (.int c1), .val (.int c2), .val (.int c3), .val (.ref b181)] [(.int c0), (.int 0), (.ref b181)])) (fun t k => ?_) ?_
  · refine XS.astore X181.here hx rfl (od hby dc2 37 rfl) rfl rfl (l' := #[.val (.int 3), .val (.int c0), .val (.int c1), .val (.int c2), .val (.int c3), .val (.ref b181)]) rfl ?_
    refine XS.aload X181.here hx rfl (od hby dc2 38 rfl) rfl rfl ?_
    refine XS.iconst X181.here hx rfl (od hby dc2 39 rfl) ?_
    refine XS.iloadN X181.here hx rfl (od hby dc2 40 rfl) rfl ?_
    exact k
  obtain ⟨cl186, Ar186, q186, S186, M186, Ha186, G186⟩ := V181
  have hin186 : ¬ ((0 : Int32) < 0 ∨ cl186.slots.size ≤ ((0 : Int32)).toNatClampNeg) := inb_of S186 ⟨by decide, by decide⟩
  obtain ⟨T186, h186, X186, e186, W186, st186⟩ := stC X181 hx hZ e181 Ar186 (j := (0 : Int32)) hin186 (g := (mkF m 84 #[.val (.int 3), .val (.int c0), .val (.int c1), .val (.int c2), .val (.int c3), .val (.ref b181)] [(.int c0), (.int 0), (.ref b181)])) rfl rfl (od hby dc2 41 rfl)
  have Q187 := Q182.wr W186
  have Q188 := Q183.wr W186
  have Q189 := Q184.wr W186
  have Q190 := Q185.wr W186
  have U186 : Arv Z h186 b181 k181 .char (3 : Int32) [(.int (nar .char c0)), (.int 0), (.int 0)] (.int 0) := Arv.set Ar186 q186 S186 M186 Ha186 G186 (fits_nar_char _) W186 0 rfl (Nat.le_of_ble_eq_true rfl)
  have Z186 : n0 ≤ h186.size := Nat.le_trans Z181 (Keep.of_wr W186).1
  have N186 := Fr.snoc X186 N0 low181
  have K186 := K181.wr W186 (Or.inr sz181)
  refine own_go st186 ?_
  refine own_go (B := T186.setTop (mkF m 89 #[.val (.int 3), .val (.int c0), .val (.int c1), .val (.int c2), .val (.int c3), .val (.ref b181)] [(.int c1), (.int 1), (.ref b181)])) (fun t k => ?_) ?_
  · refine XS.aload X186.here hx rfl (od hby dc2 42 rfl) rfl rfl ?_
    refine XS.iconst X186.here hx rfl (od hby dc2 43 rfl) ?_
    refine XS.iloadN X186.here hx rfl (od hby dc2 44 rfl) rfl ?_
    exact k
  obtain ⟨cl191, Ar191, q191, S191, M191, Ha191, G191⟩ := U186
  have hin191 : ¬ ((1 : Int32) < 0 ∨ cl191.slots.size ≤ ((1 : Int32)).toNatClampNeg) := inb_of S191 ⟨by decide, by decide⟩
  obtain ⟨T191, h191, X191, e191, W191, st191⟩ := stC X186 hx hZ e186 Ar191 (j := (1 : Int32)) hin191 (g := (mkF m 89 #[.val (.int 3), .val (.int c0), .val (.int c1), .val (.int c2), .val (.int c3), .val (.ref b181)] [(.int c1), (.int 1), (.ref b181)])) rfl rfl (od hby dc2 45 rfl)
  have Q192 := Q187.wr W191
  have Q193 := Q188.wr W191
  have Q194 := Q189.wr W191
  have Q195 := Q190.wr W191
  have U191 : Arv Z h191 b181 k181 .char (3 : Int32) [(.int (nar .char c0)), (.int (nar .char c1)), (.int 0)] (.int 0) := Arv.set Ar191 q191 S191 M191 Ha191 G191 (fits_nar_char _) W191 1 rfl (Nat.le_of_ble_eq_true rfl)
  have Z191 : n0 ≤ h191.size := Nat.le_trans Z186 (Keep.of_wr W191).1
  have N191 := Fr.snoc X191 N186 low181
  have K191 := K186.wr W191 (Or.inr sz181)
  refine own_go st191 ?_
  refine own_go (B := T191.setTop (mkF m 94 #[.val (.int 3), .val (.int c0), .val (.int c1), .val (.int c2), .val (.int c3), .val (.ref b181)] [(.int c2), (.int 2), (.ref b181)])) (fun t k => ?_) ?_
  · refine XS.aload X191.here hx rfl (od hby dc2 46 rfl) rfl rfl ?_
    refine XS.iconst X191.here hx rfl (od hby dc2 47 rfl) ?_
    refine XS.iloadN X191.here hx rfl (od hby dc2 48 rfl) rfl ?_
    exact k
  obtain ⟨cl196, Ar196, q196, S196, M196, Ha196, G196⟩ := U191
  have hin196 : ¬ ((2 : Int32) < 0 ∨ cl196.slots.size ≤ ((2 : Int32)).toNatClampNeg) := inb_of S196 ⟨by decide, by decide⟩
  obtain ⟨T196, h196, X196, e196, W196, st196⟩ := stC X191 hx hZ e191 Ar196 (j := (2 : Int32)) hin196 (g := (mkF m 94 #[.val (.int 3), .val (.int c0), .val (.int c1), .val (.int c2), .val (.int c3), .val (.ref b181)] [(.int c2), (.int 2), (.ref b181)])) rfl rfl (od hby dc2 49 rfl)
  have Q197 := Q192.wr W196
  have Q198 := Q193.wr W196
  have Q199 := Q194.wr W196
  have Q200 := Q195.wr W196
  have U196 : Arv Z h196 b181 k181 .char (3 : Int32) [(.int (nar .char c0)), (.int (nar .char c1)), (.int (nar .char c2))] (.int 0) := Arv.set Ar196 q196 S196 M196 Ha196 G196 (fits_nar_char _) W196 2 rfl (Nat.le_of_ble_eq_true rfl)
  have Z196 : n0 ≤ h196.size := Nat.le_trans Z191 (Keep.of_wr W196).1
  have N196 := Fr.snoc X196 N191 low181
  have K196 := K191.wr W196 (Or.inr sz181)
  refine own_go st196 ?_
  obtain ⟨T201, h201, X201, e201, E201, A201, D201, -, st201⟩ := newO X196 hx hZ hown (own_w hw 7 rfl) (own_w hw 8 rfl) (own_w hw 9 rfl) e196 (g := (mkF m 95 #[.val (.int 3), .val (.int c0), .val (.int c1), .val (.int c2), .val (.int c3), .val (.ref b181)] [])) rfl (od hby dc2 50 rfl) (by decide) (by decide)
  obtain ⟨b201, g201⟩ : ∃ z, z = h196.size := ⟨_, rfl⟩
  rw [← g201] at A201 D201 st201
  have ne201_b181 : b181 ≠ b201 := Nat.ne_of_lt (Nat.lt_of_lt_of_le U196.lt (Nat.le_of_eq g201.symm))
  have low201 : n0 ≤ b201 := Nat.le_trans Z196 (Nat.le_of_eq g201.symm)
  have sz201 : h0.size ≤ b201 := Nat.le_trans K196.1 (Nat.le_of_eq g201.symm)
  have Q202 := Q197.ext E201
  have Q203 := Q198.ext E201
  have Q204 := Q199.ext E201
  have Q205 := Q200.ext E201
  have Q206 := U196.ext E201
  have Z201 : n0 ≤ h201.size := Nat.le_trans Z196 E201.1
  have K201 := K196.ext E201
  have D201_value_String : Fld Z h201 b201 jS "value" "[B" .null := D201 (Or.inr (own_w hw 23 rfl)) (ty := (.array .byte)) (by decide)
  have D201_coder_String : Fld Z h201 b201 jS "coder" "B" (.int 0) := D201 (Or.inr (own_w hw 24 rfl)) (ty := .byte) (by decide)
  refine own_go st201 ?_
  refine own_go (B := T201.setTop (mkF m 101 #[.val (.int 3), .val (.int c0), .val (.int c1), .val (.int c2), .val (.int c3), .val (.ref b181)] [(.ref b181), (.ref b201), (.ref b201)])) (fun t k => ?_) ?_
  · refine XS.dup X201.here hx rfl (od hby dc2 51 rfl) rfl rfl ?_
    refine XS.aload X201.here hx rfl (od hby dc2 52 rfl) rfl rfl ?_
    exact k
  obtain ⟨_, _, ⟨T207, L207, k207, n207⟩, -, X207, ⟨Lc207, hQ207, l207, y207, z207⟩, st207⟩ := X201.specialBack hx (y := yN9) rfl hown (mvT hZ (own_w hw 11 rfl)) (mvT hZ (own_w hw 12 rfl)) (mvT hZ (own_w hw 13 rfl)) (by decide) (backOf (W := 1) (inC l Z a0 hw [] b201 b181 (3 : Int32) k181 [(nar .char c0), (nar .char c1), (nar .char c2)] 3 cs h201 n0 Z201 A201 D201_value_String D201_coder_String Q206 Q202 Q203 Q204 Q205 low201 (Ne.symm ne201_b181) rfl (by decide) (by decide) rfl (fun q _ => own_nb [c0, c1, c2] q) hcs) hZ (own_w hw 13 rfl) (own_w hw 9 rfl) (by decide) (by decide)) (g := (mkF m 101 #[.val (.int 3), .val (.int c0), .val (.int c1), .val (.int c2), .val (.int c3), .val (.ref b181)] [(.ref b181), (.ref b201), (.ref b201)])) rfl (by rw [hml]; rfl) (Steps.refl _) (a := b201) (argsL := [(.ref b181)]) (rest := [(.ref b201)]) (lenOf pd_8 rfl) rfl (own_W0 rfl) (od hby dc2 53 rfl) (fun _ _ => ⟨rfl, e201, (by decide : 2 + 2 ≤ _), (by decide : 7 + 376 ≤ _)⟩)
  dsimp only [Pt.U, Pt.locs, Pt.cells, Pt.slots] at X207 l207 y207 z207 st207 hQ207
  subst l207 y207 z207
  obtain ⟨br_207, kb_207, zq_207, cv_207, ys_207, rfl, Nq207, Kq207, sq_br_207, pq207_0, U207_0, U207_1, U207_2, Pq207_0⟩ := hQ207
  have ne_b201_br_207 : b201 ≠ br_207 := Nat.ne_of_lt (Nat.lt_of_lt_of_le A201.lt sq_br_207)
  have sz_br_207 : h0.size ≤ br_207 := Nat.le_trans K201.1 sq_br_207
  have Q213 := A201.keep Kq207
  have K207 : Keep h0 T207.heap [] := K201.trans Kq207 (allS (Or.inr sz201) all0)
  have N207 := Fr.app N196 Nq207
  refine own_go (B := T207.setTop (mkF m 104 #[.val (.int 3), .val (.int c0), .val (.int c1), .val (.int c2), .val (.int c3), .val (.ref b181)] [(.ref b201)])) (fun t k => st207.trans k) ?_
  exact own_rA Bd X207 hx rfl rfl rfl (od hby dc2 54 rfl) ⟨b201, br_207, kb_207, zq_207, cv_207, ys_207, rfl, N207, K207, sz201, sz_br_207, ne_b201_br_207, Q213, U207_0, U207_1, U207_2, Pq207_0⟩ (by decide)
def Qmk_2 (Z : State) (c0 c1 c2 c3 cs : Int32) (h0 : Heap) (n0 : Nat) (v : Option Value) (h : Heap) (L : List Loc) : Prop := ∃ rr : Addr, ∃ br : Addr, ∃ kb : ClassId, ∃ zq : Int32, ∃ cv : Int32, ∃ ys : List Int32, v = some (.ref rr) ∧ Fr n0 L ∧ Keep h0 h [] ∧ h0.size ≤ rr ∧ h0.size ≤ br ∧ rr ≠ br ∧ Exa Z h rr jS ∧ Fld Z h rr jS "value" "[B" (.ref br) ∧ Fld Z h rr jS "coder" "B" (.int cv) ∧ Arv Z h br kb .byte zq (own_I ys) (.int 0) ∧ (own_ST cv zq (2 : Int32) 2 [(nar .char c0), (nar .char c1)] ys)
theorem efmk_2 (m : MethodId) (x1 : Int32) (x2 : Int32) (x3 : Int32) (x4 : Int32) : entryFrame m #[(.int 2), (.int x1), (.int x2), (.int x3), (.int x4)] 6 = mkF m 0 #[.val (.int 2), .val (.int x1), .val (.int x2), .val (.int x3), .val (.int x4), .unset] [] := by first | (simp [entryFrame, mkF, argsToLocals, Value.category]; done) | rfl
set_option maxRecDepth 65536 in
set_option maxHeartbeats 40000000 in
theorem mk_2 (l : Launch) (Z : State) (a0 : Array Value) (hw : own_HW a0 Z) (ws : List Jvm.Cond) (c0 c1 c2 c3 cs : Int32) (h0 : Heap) (n0 : Nat) (Z0 : n0 ≤ h0.size) (P0 : Sta Z h0 jS "COMPACT_STRINGS" "Z" (.int cs)) (P1 : Sta Z h0 jU "$assertionsDisabled" "Z" (.int 1)) (P2 : Sta Z h0 jU "HI_BYTE_SHIFT" "I" (.int 0)) (P3 : Sta Z h0 jU "LO_BYTE_SHIFT" "I" (.int 8)) (hcs : cs ≠ (0 : Int32)) :
    own_M l Z yN10 method_4_code 6 (some (.object jS)) ws (own_R 6 4 384 88) #[(.int 2), (.int c0), (.int c1), (.int c2), (.int c3)] h0 (Qmk_2 Z c0 c1 c2 c3 cs h0 n0) := by
  refine own_b (own := jL) rfl (plainFor_of_name pn_2) (fun m => efmk_2 m c0 c1 c2 c3) n0 fun p e s m below meth c s₁ Bd hZ hx hby hml hown X0 e0 N0 => ?_
  have K0 : Keep h0 h0 [] := Keep.refl h0 _
  refine own_go (B := s₁.setTop (mkF m 46 #[.val (.int 2), .val (.int c0), .val (.int c1), .val (.int c2), .val (.int c3), .unset] [(.int 2)])) (fun t k => ?_) ?_
  · refine XS.iloadN X0.here hx rfl (od hby dc2 0 rfl) rfl ?_
    refine XS.ifYes X0.here hx rfl (pc0 := 1) (pc' := 15) rfl (od hby dc2 1 rfl) rfl ((if0 _ _).trans (feq (by decide : ¬ ((2 : Int32) = (0 : Int32)))).2) (by decide) (by decide) ?_
    refine XS.iloadN X0.here hx rfl (od hby dc2 2 rfl) rfl ?_
    refine XS.iconst X0.here hx rfl (od hby dc2 3 rfl) ?_
    refine XS.icmpYes X0.here hx rfl (pc0 := 17) (pc' := 40) rfl (od hby dc2 4 rfl) rfl (feq (by decide : ¬ ((2 : Int32) = (1 : Int32)))).2 (by decide) (by decide) ?_
    refine XS.iloadN X0.here hx rfl (od hby dc2 5 rfl) rfl ?_
    refine XS.iconst X0.here hx rfl (od hby dc2 6 rfl) ?_
    refine XS.icmpNo X0.here hx rfl (od hby dc2 7 rfl) rfl (teq (rfl : (2 : Int32) = (2 : Int32))).2 ?_
    refine XS.iconst X0.here hx rfl (od hby dc2 55 rfl) ?_
    exact k
  obtain ⟨T217, h217, k217, X217, e217, E217, A217, st217⟩ := newP X0 hx hZ (own_w hw 10 rfl) e0 (g := (mkF m 46 #[.val (.int 2), .val (.int c0), .val (.int c1), .val (.int c2), .val (.int c3), .unset] [(.int 2)])) rfl (od hby dc2 56 rfl) rfl (by decide) (cap := 2) (by decide) (by decide) (by decide) (by decide)
  obtain ⟨b217, g217⟩ : ∃ z, z = h0.size := ⟨_, rfl⟩
  rw [← g217] at A217 st217
  have low217 : n0 ≤ b217 := Nat.le_trans Z0 (Nat.le_of_eq g217.symm)
  have sz217 : h0.size ≤ b217 := Nat.le_trans K0.1 (Nat.le_of_eq g217.symm)
  have Q218 := P0.ext E217
  have Q219 := P1.ext E217
  have Q220 := P2.ext E217
  have Q221 := P3.ext E217
  have Z217 : n0 ≤ h217.size := Nat.le_trans Z0 E217.1
  have K217 := K0.ext E217
  have V217 : Arv Z h217 b217 k217 .char (2 : Int32) [(.int 0), (.int 0)] (.int 0) := (Arv.new A217 (by decide)).pad (pad_rep [] (.int 0) 2)
  refine own_go st217 ?_
  refine own_go (B := T217.setTop (mkF m 54 #[.val (.int 2), .val (.int c0), .val (.int c1), .val (.int c2), .val (.int c3), .val (.ref b217)] [(.int c0), (.int 0), (.ref b217)])) (fun t k => ?_) ?_
  · refine XS.astore X217.here hx rfl (od hby dc2 57 rfl) rfl rfl (l' := #[.val (.int 2), .val (.int c0), .val (.int c1), .val (.int c2), .val (.int c3), .val (.ref b217)]) rfl ?_
    refine XS.aload X217.here hx rfl (od hby dc2 58 rfl) rfl rfl ?_
    refine XS.iconst X217.here hx rfl (od hby dc2 59 rfl) ?_
    refine XS.iloadN X217.here hx rfl (od hby dc2 60 rfl) rfl ?_
    exact k
  obtain ⟨cl222, Ar222, q222, S222, M222, Ha222, G222⟩ := V217
  have hin222 : ¬ ((0 : Int32) < 0 ∨ cl222.slots.size ≤ ((0 : Int32)).toNatClampNeg) := inb_of S222 ⟨by decide, by decide⟩
  obtain ⟨T222, h222, X222, e222, W222, st222⟩ := stC X217 hx hZ e217 Ar222 (j := (0 : Int32)) hin222 (g := (mkF m 54 #[.val (.int 2), .val (.int c0), .val (.int c1), .val (.int c2), .val (.int c3), .val (.ref b217)] [(.int c0), (.int 0), (.ref b217)])) rfl rfl (od hby dc2 61 rfl)
  have Q223 := Q218.wr W222
  have Q224 := Q219.wr W222
  have Q225 := Q220.wr W222
  have Q226 := Q221.wr W222
  have U222 : Arv Z h222 b217 k217 .char (2 : Int32) [(.int (nar .char c0)), (.int 0)] (.int 0) := Arv.set Ar222 q222 S222 M222 Ha222 G222 (fits_nar_char _) W222 0 rfl (Nat.le_of_ble_eq_true rfl)
  have Z222 : n0 ≤ h222.size := Nat.le_trans Z217 (Keep.of_wr W222).1
  have N222 := Fr.snoc X222 N0 low217
  have K222 := K217.wr W222 (Or.inr sz217)
  refine own_go st222 ?_
  refine own_go (B := T222.setTop (mkF m 59 #[.val (.int 2), .val (.int c0), .val (.int c1), .val (.int c2), .val (.int c3), .val (.ref b217)] [(.int c1), (.int 1), (.ref b217)])) (fun t k => ?_) ?_
  · refine XS.aload X222.here hx rfl (od hby dc2 62 rfl) rfl rfl ?_
    refine XS.iconst X222.here hx rfl (od hby dc2 63 rfl) ?_
    refine XS.iloadN X222.here hx rfl (od hby dc2 64 rfl) rfl ?_
    exact k
  obtain ⟨cl227, Ar227, q227, S227, M227, Ha227, G227⟩ := U222
  have hin227 : ¬ ((1 : Int32) < 0 ∨ cl227.slots.size ≤ ((1 : Int32)).toNatClampNeg) := inb_of S227 ⟨by decide, by decide⟩
  obtain ⟨T227, h227, X227, e227, W227, st227⟩ := stC X222 hx hZ e222 Ar227 (j := (1 : Int32)) hin227 (g := (mkF m 59 #[.val (.int 2), .val (.int c0), .val (.int c1), .val (.int c2), .val (.int c3), .val (.ref b217)] [(.int c1), (.int 1), (.ref b217)])) rfl rfl (od hby dc2 65 rfl)
  have Q228 := Q223.wr W227
  have Q229 := Q224.wr W227
  have Q230 := Q225.wr W227
  have Q231 := Q226.wr W227
  have U227 : Arv Z h227 b217 k217 .char (2 : Int32) [(.int (nar .char c0)), (.int (nar .char c1))] (.int 0) := Arv.set Ar227 q227 S227 M227 Ha227 G227 (fits_nar_char _) W227 1 rfl (Nat.le_of_ble_eq_true rfl)
  have Z227 : n0 ≤ h227.size := Nat.le_trans Z222 (Keep.of_wr W227).1
  have N227 := Fr.snoc X227 N222 low217
  have K227 := K222.wr W227 (Or.inr sz217)
  refine own_go st227 ?_
  obtain ⟨T232, h232, X232, e232, E232, A232, D232, -, st232⟩ := newO X227 hx hZ hown (own_w hw 7 rfl) (own_w hw 8 rfl) (own_w hw 9 rfl) e227 (g := (mkF m 60 #[.val (.int 2), .val (.int c0), .val (.int c1), .val (.int c2), .val (.int c3), .val (.ref b217)] [])) rfl (od hby dc2 66 rfl) (by decide) (by decide)
  obtain ⟨b232, g232⟩ : ∃ z, z = h227.size := ⟨_, rfl⟩
  rw [← g232] at A232 D232 st232
  have ne232_b217 : b217 ≠ b232 := Nat.ne_of_lt (Nat.lt_of_lt_of_le U227.lt (Nat.le_of_eq g232.symm))
  have low232 : n0 ≤ b232 := Nat.le_trans Z227 (Nat.le_of_eq g232.symm)
  have sz232 : h0.size ≤ b232 := Nat.le_trans K227.1 (Nat.le_of_eq g232.symm)
  have Q233 := Q228.ext E232
  have Q234 := Q229.ext E232
  have Q235 := Q230.ext E232
  have Q236 := Q231.ext E232
  have Q237 := U227.ext E232
  have Z232 : n0 ≤ h232.size := Nat.le_trans Z227 E232.1
  have K232 := K227.ext E232
  have D232_value_String : Fld Z h232 b232 jS "value" "[B" .null := D232 (Or.inr (own_w hw 23 rfl)) (ty := (.array .byte)) (by decide)
  have D232_coder_String : Fld Z h232 b232 jS "coder" "B" (.int 0) := D232 (Or.inr (own_w hw 24 rfl)) (ty := .byte) (by decide)
  refine own_go st232 ?_
  refine own_go (B := T232.setTop (mkF m 66 #[.val (.int 2), .val (.int c0), .val (.int c1), .val (.int c2), .val (.int c3), .val (.ref b217)] [(.ref b217), (.ref b232), (.ref b232)])) (fun t k => ?_) ?_
  · refine XS.dup X232.here hx rfl (od hby dc2 67 rfl) rfl rfl ?_
    refine XS.aload X232.here hx rfl (od hby dc2 68 rfl) rfl rfl ?_
    exact k
  obtain ⟨_, _, ⟨T238, L238, k238, n238⟩, -, X238, ⟨Lc238, hQ238, l238, y238, z238⟩, st238⟩ := X232.specialBack hx (y := yN9) rfl hown (mvT hZ (own_w hw 11 rfl)) (mvT hZ (own_w hw 12 rfl)) (mvT hZ (own_w hw 13 rfl)) (by decide) (backOf (W := 1) (inC l Z a0 hw [] b232 b217 (2 : Int32) k217 [(nar .char c0), (nar .char c1)] 2 cs h232 n0 Z232 A232 D232_value_String D232_coder_String Q237 Q233 Q234 Q235 Q236 low232 (Ne.symm ne232_b217) rfl (by decide) (by decide) rfl (fun q _ => own_nb [c0, c1] q) hcs) hZ (own_w hw 13 rfl) (own_w hw 9 rfl) (by decide) (by decide)) (g := (mkF m 66 #[.val (.int 2), .val (.int c0), .val (.int c1), .val (.int c2), .val (.int c3), .val (.ref b217)] [(.ref b217), (.ref b232), (.ref b232)])) rfl (by rw [hml]; rfl) (Steps.refl _) (a := b232) (argsL := [(.ref b217)]) (rest := [(.ref b232)]) (lenOf pd_8 rfl) rfl (own_W0 rfl) (od hby dc2 69 rfl) (fun _ _ => ⟨rfl, e232, (by decide : 2 + 2 ≤ _), (by decide : 6 + 376 ≤ _)⟩)
  dsimp only [Pt.U, Pt.locs, Pt.cells, Pt.slots] at X238 l238 y238 z238 st238 hQ238
  subst l238 y238 z238
  obtain ⟨br_238, kb_238, zq_238, cv_238, ys_238, rfl, Nq238, Kq238, sq_br_238, pq238_0, U238_0, U238_1, U238_2, Pq238_0⟩ := hQ238
  have ne_b232_br_238 : b232 ≠ br_238 := Nat.ne_of_lt (Nat.lt_of_lt_of_le A232.lt sq_br_238)
  have sz_br_238 : h0.size ≤ br_238 := Nat.le_trans K232.1 sq_br_238
  have Q244 := A232.keep Kq238
  have K238 : Keep h0 T238.heap [] := K232.trans Kq238 (allS (Or.inr sz232) all0)
  have N238 := Fr.app N227 Nq238
  refine own_go (B := T238.setTop (mkF m 69 #[.val (.int 2), .val (.int c0), .val (.int c1), .val (.int c2), .val (.int c3), .val (.ref b217)] [(.ref b232)])) (fun t k => st238.trans k) ?_
  exact own_rA Bd X238 hx rfl rfl rfl (od hby dc2 70 rfl) ⟨b232, br_238, kb_238, zq_238, cv_238, ys_238, rfl, N238, K238, sz232, sz_br_238, ne_b232_br_238, Q244, U238_0, U238_1, U238_2, Pq238_0⟩ (by decide)
def Qmk_1 (Z : State) (c0 c1 c2 c3 cs : Int32) (h0 : Heap) (n0 : Nat) (v : Option Value) (h : Heap) (L : List Loc) : Prop := ∃ rr : Addr, ∃ br : Addr, ∃ kb : ClassId, ∃ zq : Int32, ∃ cv : Int32, ∃ ys : List Int32, v = some (.ref rr) ∧ Fr n0 L ∧ Keep h0 h [] ∧ h0.size ≤ rr ∧ h0.size ≤ br ∧ rr ≠ br ∧ Exa Z h rr jS ∧ Fld Z h rr jS "value" "[B" (.ref br) ∧ Fld Z h rr jS "coder" "B" (.int cv) ∧ Arv Z h br kb .byte zq (own_I ys) (.int 0) ∧ (own_ST cv zq (1 : Int32) 1 [(nar .char c0)] ys)
theorem efmk_1 (m : MethodId) (x1 : Int32) (x2 : Int32) (x3 : Int32) (x4 : Int32) : entryFrame m #[(.int 1), (.int x1), (.int x2), (.int x3), (.int x4)] 6 = mkF m 0 #[.val (.int 1), .val (.int x1), .val (.int x2), .val (.int x3), .val (.int x4), .unset] [] := by first | (simp [entryFrame, mkF, argsToLocals, Value.category]; done) | rfl
set_option maxRecDepth 65536 in
set_option maxHeartbeats 40000000 in
theorem mk_1 (l : Launch) (Z : State) (a0 : Array Value) (hw : own_HW a0 Z) (ws : List Jvm.Cond) (c0 c1 c2 c3 cs : Int32) (h0 : Heap) (n0 : Nat) (Z0 : n0 ≤ h0.size) (P0 : Sta Z h0 jS "COMPACT_STRINGS" "Z" (.int cs)) (P1 : Sta Z h0 jU "$assertionsDisabled" "Z" (.int 1)) (P2 : Sta Z h0 jU "HI_BYTE_SHIFT" "I" (.int 0)) (P3 : Sta Z h0 jU "LO_BYTE_SHIFT" "I" (.int 8)) (hcs : cs ≠ (0 : Int32)) :
    own_M l Z yN10 method_4_code 6 (some (.object jS)) ws (own_R 6 4 384 88) #[(.int 1), (.int c0), (.int c1), (.int c2), (.int c3)] h0 (Qmk_1 Z c0 c1 c2 c3 cs h0 n0) := by
  refine own_b (own := jL) rfl (plainFor_of_name pn_2) (fun m => efmk_1 m c0 c1 c2 c3) n0 fun p e s m below meth c s₁ Bd hZ hx hby hml hown X0 e0 N0 => ?_
  have K0 : Keep h0 h0 [] := Keep.refl h0 _
  refine own_go (B := s₁.setTop (mkF m 21 #[.val (.int 1), .val (.int c0), .val (.int c1), .val (.int c2), .val (.int c3), .unset] [(.int 1)])) (fun t k => ?_) ?_
  · refine XS.iloadN X0.here hx rfl (od hby dc2 0 rfl) rfl ?_
    refine XS.ifYes X0.here hx rfl (pc0 := 1) (pc' := 15) rfl (od hby dc2 1 rfl) rfl ((if0 _ _).trans (feq (by decide : ¬ ((1 : Int32) = (0 : Int32)))).2) (by decide) (by decide) ?_
    refine XS.iloadN X0.here hx rfl (od hby dc2 2 rfl) rfl ?_
    refine XS.iconst X0.here hx rfl (od hby dc2 3 rfl) ?_
    refine XS.icmpNo X0.here hx rfl (od hby dc2 4 rfl) rfl (teq (rfl : (1 : Int32) = (1 : Int32))).2 ?_
    refine XS.iconst X0.here hx rfl (od hby dc2 71 rfl) ?_
    exact k
  obtain ⟨T247, h247, k247, X247, e247, E247, A247, st247⟩ := newP X0 hx hZ (own_w hw 10 rfl) e0 (g := (mkF m 21 #[.val (.int 1), .val (.int c0), .val (.int c1), .val (.int c2), .val (.int c3), .unset] [(.int 1)])) rfl (od hby dc2 72 rfl) rfl (by decide) (cap := 1) (by decide) (by decide) (by decide) (by decide)
  obtain ⟨b247, g247⟩ : ∃ z, z = h0.size := ⟨_, rfl⟩
  rw [← g247] at A247 st247
  have low247 : n0 ≤ b247 := Nat.le_trans Z0 (Nat.le_of_eq g247.symm)
  have sz247 : h0.size ≤ b247 := Nat.le_trans K0.1 (Nat.le_of_eq g247.symm)
  have Q248 := P0.ext E247
  have Q249 := P1.ext E247
  have Q250 := P2.ext E247
  have Q251 := P3.ext E247
  have Z247 : n0 ≤ h247.size := Nat.le_trans Z0 E247.1
  have K247 := K0.ext E247
  have V247 : Arv Z h247 b247 k247 .char (1 : Int32) [(.int 0)] (.int 0) := (Arv.new A247 (by decide)).pad (pad_rep [] (.int 0) 1)
  refine own_go st247 ?_
  refine own_go (B := T247.setTop (mkF m 29 #[.val (.int 1), .val (.int c0), .val (.int c1), .val (.int c2), .val (.int c3), .val (.ref b247)] [(.int c0), (.int 0), (.ref b247)])) (fun t k => ?_) ?_
  · refine XS.astore X247.here hx rfl (od hby dc2 73 rfl) rfl rfl (l' := #[.val (.int 1), .val (.int c0), .val (.int c1), .val (.int c2), .val (.int c3), .val (.ref b247)]) rfl ?_
    refine XS.aload X247.here hx rfl (od hby dc2 74 rfl) rfl rfl ?_
    refine XS.iconst X247.here hx rfl (od hby dc2 75 rfl) ?_
    refine XS.iloadN X247.here hx rfl (od hby dc2 76 rfl) rfl ?_
    exact k
  obtain ⟨cl252, Ar252, q252, S252, M252, Ha252, G252⟩ := V247
  have hin252 : ¬ ((0 : Int32) < 0 ∨ cl252.slots.size ≤ ((0 : Int32)).toNatClampNeg) := inb_of S252 ⟨by decide, by decide⟩
  obtain ⟨T252, h252, X252, e252, W252, st252⟩ := stC X247 hx hZ e247 Ar252 (j := (0 : Int32)) hin252 (g := (mkF m 29 #[.val (.int 1), .val (.int c0), .val (.int c1), .val (.int c2), .val (.int c3), .val (.ref b247)] [(.int c0), (.int 0), (.ref b247)])) rfl rfl (od hby dc2 77 rfl)
  have Q253 := Q248.wr W252
  have Q254 := Q249.wr W252
  have Q255 := Q250.wr W252
  have Q256 := Q251.wr W252
  have U252 : Arv Z h252 b247 k247 .char (1 : Int32) [(.int (nar .char c0))] (.int 0) := Arv.set Ar252 q252 S252 M252 Ha252 G252 (fits_nar_char _) W252 0 rfl (Nat.le_of_ble_eq_true rfl)
  have Z252 : n0 ≤ h252.size := Nat.le_trans Z247 (Keep.of_wr W252).1
  have N252 := Fr.snoc X252 N0 low247
  have K252 := K247.wr W252 (Or.inr sz247)
  refine own_go st252 ?_
  obtain ⟨T257, h257, X257, e257, E257, A257, D257, -, st257⟩ := newO X252 hx hZ hown (own_w hw 7 rfl) (own_w hw 8 rfl) (own_w hw 9 rfl) e252 (g := (mkF m 30 #[.val (.int 1), .val (.int c0), .val (.int c1), .val (.int c2), .val (.int c3), .val (.ref b247)] [])) rfl (od hby dc2 78 rfl) (by decide) (by decide)
  obtain ⟨b257, g257⟩ : ∃ z, z = h252.size := ⟨_, rfl⟩
  rw [← g257] at A257 D257 st257
  have ne257_b247 : b247 ≠ b257 := Nat.ne_of_lt (Nat.lt_of_lt_of_le U252.lt (Nat.le_of_eq g257.symm))
  have low257 : n0 ≤ b257 := Nat.le_trans Z252 (Nat.le_of_eq g257.symm)
  have sz257 : h0.size ≤ b257 := Nat.le_trans K252.1 (Nat.le_of_eq g257.symm)
  have Q258 := Q253.ext E257
  have Q259 := Q254.ext E257
  have Q260 := Q255.ext E257
  have Q261 := Q256.ext E257
  have Q262 := U252.ext E257
  have Z257 : n0 ≤ h257.size := Nat.le_trans Z252 E257.1
  have K257 := K252.ext E257
  have D257_value_String : Fld Z h257 b257 jS "value" "[B" .null := D257 (Or.inr (own_w hw 23 rfl)) (ty := (.array .byte)) (by decide)
  have D257_coder_String : Fld Z h257 b257 jS "coder" "B" (.int 0) := D257 (Or.inr (own_w hw 24 rfl)) (ty := .byte) (by decide)
  refine own_go st257 ?_
  refine own_go (B := T257.setTop (mkF m 36 #[.val (.int 1), .val (.int c0), .val (.int c1), .val (.int c2), .val (.int c3), .val (.ref b247)] [(.ref b247), (.ref b257), (.ref b257)])) (fun t k => ?_) ?_
  · refine XS.dup X257.here hx rfl (od hby dc2 79 rfl) rfl rfl ?_
    refine XS.aload X257.here hx rfl (od hby dc2 80 rfl) rfl rfl ?_
    exact k
  obtain ⟨_, _, ⟨T263, L263, k263, n263⟩, -, X263, ⟨Lc263, hQ263, l263, y263, z263⟩, st263⟩ := X257.specialBack hx (y := yN9) rfl hown (mvT hZ (own_w hw 11 rfl)) (mvT hZ (own_w hw 12 rfl)) (mvT hZ (own_w hw 13 rfl)) (by decide) (backOf (W := 1) (inC l Z a0 hw [] b257 b247 (1 : Int32) k247 [(nar .char c0)] 1 cs h257 n0 Z257 A257 D257_value_String D257_coder_String Q262 Q258 Q259 Q260 Q261 low257 (Ne.symm ne257_b247) rfl (by decide) (by decide) rfl (fun q _ => own_nb [c0] q) hcs) hZ (own_w hw 13 rfl) (own_w hw 9 rfl) (by decide) (by decide)) (g := (mkF m 36 #[.val (.int 1), .val (.int c0), .val (.int c1), .val (.int c2), .val (.int c3), .val (.ref b247)] [(.ref b247), (.ref b257), (.ref b257)])) rfl (by rw [hml]; rfl) (Steps.refl _) (a := b257) (argsL := [(.ref b247)]) (rest := [(.ref b257)]) (lenOf pd_8 rfl) rfl (own_W0 rfl) (od hby dc2 81 rfl) (fun _ _ => ⟨rfl, e257, (by decide : 2 + 2 ≤ _), (by decide : 5 + 376 ≤ _)⟩)
  dsimp only [Pt.U, Pt.locs, Pt.cells, Pt.slots] at X263 l263 y263 z263 st263 hQ263
  subst l263 y263 z263
  obtain ⟨br_263, kb_263, zq_263, cv_263, ys_263, rfl, Nq263, Kq263, sq_br_263, pq263_0, U263_0, U263_1, U263_2, Pq263_0⟩ := hQ263
  have ne_b257_br_263 : b257 ≠ br_263 := Nat.ne_of_lt (Nat.lt_of_lt_of_le A257.lt sq_br_263)
  have sz_br_263 : h0.size ≤ br_263 := Nat.le_trans K257.1 sq_br_263
  have Q269 := A257.keep Kq263
  have K263 : Keep h0 T263.heap [] := K257.trans Kq263 (allS (Or.inr sz257) all0)
  have N263 := Fr.app N252 Nq263
  refine own_go (B := T263.setTop (mkF m 39 #[.val (.int 1), .val (.int c0), .val (.int c1), .val (.int c2), .val (.int c3), .val (.ref b247)] [(.ref b257)])) (fun t k => st263.trans k) ?_
  exact own_rA Bd X263 hx rfl rfl rfl (od hby dc2 82 rfl) ⟨b257, br_263, kb_263, zq_263, cv_263, ys_263, rfl, N263, K263, sz257, sz_br_263, ne_b257_br_263, Q269, U263_0, U263_1, U263_2, Pq263_0⟩ (by decide)
def Qmk (Z : State) (zn c0 c1 c2 c3 cs : Int32) (nn : Nat) (h0 : Heap) (n0 : Nat) (v : Option Value) (h : Heap) (L : List Loc) : Prop := ∃ rr : Addr, ∃ br : Addr, ∃ kb : ClassId, ∃ zq : Int32, ∃ cv : Int32, ∃ ys : List Int32, v = some (.ref rr) ∧ Fr n0 L ∧ Keep h0 h [] ∧ h0.size ≤ rr ∧ h0.size ≤ br ∧ rr ≠ br ∧ Exa Z h rr jS ∧ Fld Z h rr jS "value" "[B" (.ref br) ∧ Fld Z h rr jS "coder" "B" (.int cv) ∧ Arv Z h br kb .byte zq (own_I ys) (.int 0) ∧ (own_ST cv zq zn nn (own_cl nn c0 c1 c2 c3) ys)
set_option maxRecDepth 65536 in
theorem mk (l : Launch) (Z : State) (a0 : Array Value) (hw : own_HW a0 Z) (ws : List Jvm.Cond) (zn c0 c1 c2 c3 cs : Int32) (nn : Nat) (h0 : Heap) (n0 : Nat) (Z0 : n0 ≤ h0.size) (P0 : Sta Z h0 jS "COMPACT_STRINGS" "Z" (.int cs)) (P1 : Sta Z h0 jU "$assertionsDisabled" "Z" (.int 1)) (P2 : Sta Z h0 jU "HI_BYTE_SHIFT" "I" (.int 0)) (P3 : Sta Z h0 jU "LO_BYTE_SHIFT" "I" (.int 8)) (hm : zn.toInt = (nn : Int)) (h1 : 0 < nn) (h4 : nn ≤ 4) (hcs : cs ≠ (0 : Int32)) :
    own_M l Z yN10 method_4_code 6 (some (.object jS)) ws (own_R 6 4 384 88) #[(.int zn), (.int c0), (.int c1), (.int c2), (.int c3)] h0 (Qmk Z zn c0 c1 c2 c3 cs nn h0 n0) := by
  rcases (by omega : nn = 1 ∨ nn = 2 ∨ nn = 3 ∨ nn = 4) with rfl | rfl | rfl | rfl
  · obtain rfl : zn = (1 : Int32) := Int32.toInt_inj.mp (hm.trans rfl)
    exact mk_1 l Z a0 hw ws c0 c1 c2 c3 cs h0 n0 Z0 P0 P1 P2 P3 hcs
  · obtain rfl : zn = (2 : Int32) := Int32.toInt_inj.mp (hm.trans rfl)
    exact mk_2 l Z a0 hw ws c0 c1 c2 c3 cs h0 n0 Z0 P0 P1 P2 P3 hcs
  · obtain rfl : zn = (3 : Int32) := Int32.toInt_inj.mp (hm.trans rfl)
    exact mk_3 l Z a0 hw ws c0 c1 c2 c3 cs h0 n0 Z0 P0 P1 P2 P3 hcs
  · obtain rfl : zn = (4 : Int32) := Int32.toInt_inj.mp (hm.trans rfl)
    exact mk_4 l Z a0 hw ws c0 c1 c2 c3 cs h0 n0 Z0 P0 P1 P2 P3 hcs
def QinV0 (Z : State) (oo ar : Addr) (ka : ClassId) (h0 : Heap) (n0 : Nat) (v : Option Value) (h : Heap) (L : List Loc) : Prop := ∃ br : Addr, ∃ kb : ClassId, v = none ∧ Fr n0 L ∧ Keep h0 h [oo] ∧ oo ≠ br ∧ Fld Z h oo jS "value" "[B" (.ref br) ∧ Fld Z h oo jS "coder" "B" (.int 0) ∧ Arv Z h br kb .byte (0 : Int32) (own_I (own_bs "")) (.int 0)
theorem efinV0 (m : MethodId) (x0 : Addr) (x1 : Addr) : entryFrame m #[(.ref x0), (.ref x1), (.int 0), (.int 0), .null] 6 = mkF m 0 #[.val (.ref x0), .val (.ref x1), .val (.int 0), .val (.int 0), .val .null, .unset] [] := by first | (simp [entryFrame, mkF, argsToLocals, Value.category]; done) | rfl
set_option maxRecDepth 65536 in
set_option maxHeartbeats 40000000 in
theorem inV0 (l : Launch) (Z : State) (a0 : Array Value) (hw : own_HW a0 Z) (ws : List Jvm.Cond) (oo ar : Addr) (ka : ClassId) (h0 : Heap) (n0 : Nat) (Z0 : n0 ≤ h0.size) (hEL : EW Z a0 consts_1) (P0 : Exa Z h0 oo jS) (P1 : Fld Z h0 oo jS "value" "[B" .null) (P2 : Fld Z h0 oo jS "coder" "B" (.int 0)) (P3 : Arv Z h0 ar ka .char (0 : Int32) [] (.int 0)) (g_oo : n0 ≤ oo) (ne_oo_ar : oo ≠ ar) :
    MetFree l yN8 (head1 (Jvm.Cond.code yN8 jdk_42_method_149_code 6 none :: ws) (own_R 1 4 8 12)) (fun a U => a = #[(.ref oo), (.ref ar), (.int 0), (.int 0), .null] ∧ Z.Warmed39 U.vm ∧ U.heap = h0 ∧ CHv Z consts_1 U.vm h0) (fun _ _ _ _ _ => True) (fun _ U o U' => ∃ v L, o = .returned v ∧ QinV0 Z oo ar ka h0 n0 v U'.heap L ∧ CHr Z consts_1 U.vm U.heap U'.vm U'.heap ∧ ReturnedEndW U o U' L (own_R 1 4 8 12).cells (own_R 1 4 8 12).slots) := by
  refine MetFree.of_bodySF (plainFor_of_name pn_1) hisR ?_
  intro p e s m args below meth c s₁ Bd hml0 hP hK
  obtain ⟨rfl, hZ, hh, hC⟩ := hP
  have hx := Bd.exec
  have hby := Bd.bytes
  have hml : c.maxLocals = 6 := hml0
  have hown : s.vm.findClass jS = some m.cls := findClass_of_methodNamed Bd.named
  have hnm := (name_of_methodNamed Bd.named Bd.method).1
  have X0 : Stand p l e (own_R 1 4 8 12) (s.setVm s.vm) m #[(.ref oo), (.ref ar), (.int 0), (.int 0), .null] below meth c s₁ [] 0 0 := Stand.of_body Bd
  have e0 : s₁.heap = h0 := by rw [← hh, Bd.state]; rfl
  have N0 := Fr.nil n0
  have K0 : Keep h0 h0 [oo] := Keep.refl h0 _
  have hC0 : CHr Z consts_1 s.vm h0 s.vm h0 := CHr.refl hC
  have hS0 : s.Since s.vm h0.size := (State.WarmedH.refl s).since _
  have hk0 : h0.size ≤ h0.size := Nat.le_refl _
  have sf_oo : Safe Z consts_1 s.vm h0 oo := own_safeS hZ.alike P1 P0
  refine own_go (B := s₁.setTop (mkF m 0 #[.val (.ref oo), .val (.ref ar), .val (.int 0), .val (.int 0), .val .null, .unset] [])) (fun t k => castTop (efinV0 m oo ar) k) ?_
  refine own_go (B := s₁.setTop (mkF m 1 #[.val (.ref oo), .val (.ref ar), .val (.int 0), .val (.int 0), .val .null, .unset] [(.ref oo)])) (fun t k => ?_) ?_
  · refine XS.aloadN X0.here hx rfl (od hby dc4 0 rfl) rfl rfl ?_
    exact k
  obtain ⟨T270, X270, e270, st270⟩ := initO X0 hx hZ hown (own_w hw 18 rfl) (own_w hw 19 rfl) (own_w hw 20 rfl) e0 (g := (mkF m 1 #[.val (.ref oo), .val (.ref ar), .val (.int 0), .val (.int 0), .val .null, .unset] [(.ref oo)])) rfl (by rw [hml]; rfl) rfl (od hby dc4 1 rfl) (by decide) (W := 0) (own_W0 rfl) (by decide)
  refine own_go st270 ?_
  refine own_go (B := T270.setTop (mkF m 9 #[.val (.ref oo), .val (.ref ar), .val (.int 0), .val (.int 0), .val .null, .unset] [(.ref oo)])) (fun t k => ?_) ?_
  · refine XS.iloadN X270.here hx rfl (od hby dc4 2 rfl) rfl ?_
    refine XS.ifNo X270.here hx rfl (od hby dc4 3 rfl) rfl ((if0 _ _).trans (teq (rfl : (0 : Int32) = (0 : Int32))).2) ?_
    refine XS.aloadN X270.here hx rfl (od hby dc4 20 rfl) rfl rfl ?_
    exact k
  obtain ⟨a272, T272, h272, k1272, b272, kk272, X272, e272, E272, hS272, hkq272, hZ272, hown272, A272, C272, B272, V272, -, -, CHq272, -, hnq272, st272⟩ := ldcCH X270 hx hZ hown (own_w hw 21 rfl) (own_wS hw) e270 hS0 hk0 hEL (List.mem_of_getElem? (i := 3) rfl) hC0.1 (vs := own_vs "") (z := (0 : Int32)) (own_ht "" (by decide)) (by decide) (own_vl "" 0 (by decide) (by decide)) (g := (mkF m 9 #[.val (.ref oo), .val (.ref ar), .val (.int 0), .val (.int 0), .val .null, .unset] [(.ref oo)])) rfl (od hby dc4 21 rfl) (n := 0) (by decide) (by decide) (by decide) (by decide)
  have sf272_oo := CHr.safe CHq272 P0.lt sf_oo
  have CH272 := hC0.trans CHq272
  have nl272_oo := hnq272 _ sf272_oo
  have Q273 := P0.ext E272
  have Q274 := P1.ext E272
  have Q275 := P2.ext E272
  have K272 := K0.ext E272
  have hZ := hZ272
  have hown := hown272
  have VI272 : Arv Z h272 b272 kk272 .byte (0 : Int32) (own_I (own_bs "")) (.int 0) := own_arvS V272
  refine own_go st272 ?_
  obtain ⟨T277, X277, e277, st277⟩ := getF X272 hx hZ hown (host := "") (Or.inl (own_w hw 27 rfl)) Via.refl e272 B272 (g := (mkF m 11 #[.val (.ref oo), .val (.ref ar), .val (.int 0), .val (.int 0), .val .null, .unset] [(.ref a272), (.ref oo)])) rfl rfl (od hby dc4 22 rfl)
  refine own_go st277 ?_
  obtain ⟨T278, h278, X278, e278, W278, st278⟩ := putF X277 hx hZ hown (host := "") (Or.inl (own_w hw 27 rfl)) Via.refl e277 Q274 Q273 (Or.inr ⟨(own_w hw 23 rfl), rfl, hnm⟩) (own_w hw 8 rfl) (ty := (.array .byte)) (by decide) rfl rfl (g := (mkF m 14 #[.val (.ref oo), .val (.ref ar), .val (.int 0), .val (.int 0), .val .null, .unset] [(.ref b272), (.ref oo)])) rfl rfl (od hby dc4 23 rfl)
  have sf278_oo := Safe.wr W278 sf272_oo CH272.1 sf272_oo
  have CH278 := CH272.trans (CHr.wr W278 sf272_oo CH272.1)
  have hk278 := Nat.le_trans hkq272 (Keep.of_wr W278).1
  have Q279 := Q273.wr W278
  have Q280 := Q275.other W278 (Or.inr (slot_ne (Or.inr (own_w hw 24 rfl)) (Or.inr (own_w hw 23 rfl)) (by decide) (t := .byte) (t' := (.array .byte)) (by decide) (by decide)))
  have Q285 := VI272.other W278 (Ne.symm nl272_oo.2)
  have U278 : Fld Z h278 oo jS "value" "[B" (.ref b272) := Q274.same W278
  have N278 := Fr.snoc X278 N0 g_oo
  have K278 := K272.wr W278 (Or.inl (List.mem_of_getElem? (i := 0) rfl))
  refine own_go st278 ?_
  refine own_go (B := T278.setTop (mkF m 18 #[.val (.ref oo), .val (.ref ar), .val (.int 0), .val (.int 0), .val .null, .unset] [(.ref oo)])) (fun t k => ?_) ?_
  · refine XS.aloadN X278.here hx rfl (od hby dc4 24 rfl) rfl rfl ?_
    exact k
  obtain ⟨a286, T286, h286, k1286, b286, kk286, X286, e286, E286, hS286, hkq286, hZ286, hown286, A286, C286, B286, V286, -, -, CHq286, -, hnq286, st286⟩ := ldcCH X278 hx hZ hown (own_w hw 21 rfl) (own_wS hw) e278 hS272 hk278 hEL (List.mem_of_getElem? (i := 3) rfl) CH278.1 (vs := own_vs "") (z := (0 : Int32)) (own_ht "" (by decide)) (by decide) (own_vl "" 0 (by decide) (by decide)) (g := (mkF m 18 #[.val (.ref oo), .val (.ref ar), .val (.int 0), .val (.int 0), .val .null, .unset] [(.ref oo)])) rfl (od hby dc4 25 rfl) (n := 0) (by decide) (by decide) (by decide) (by decide)
  have sf286_oo := CHr.safe CHq286 Q279.lt sf278_oo
  have CH286 := CH278.trans CHq286
  have Q287 := Q279.ext E286
  have Q288 := Q280.ext E286
  have Q293 := Q285.ext E286
  have Q294 := U278.ext E286
  have K286 := K278.ext E286
  have hZ := hZ286
  have hown := hown286
  refine own_go st286 ?_
  obtain ⟨T295, X295, e295, st295⟩ := getF X286 hx hZ hown (host := "") (Or.inl (own_w hw 28 rfl)) Via.refl e286 C286 (g := (mkF m 20 #[.val (.ref oo), .val (.ref ar), .val (.int 0), .val (.int 0), .val .null, .unset] [(.ref a286), (.ref oo)])) rfl rfl (od hby dc4 26 rfl)
  refine own_go st295 ?_
  obtain ⟨T296, h296, X296, e296, W296, st296⟩ := putFN (v' := (.int 0)) X295 hx hZ hown (own_w hw 28 rfl) Via.refl e295 Q288 Q287 (Or.inr ⟨(own_w hw 24 rfl), rfl, hnm⟩) (own_w hw 8 rfl) (ty := .byte) (by decide) rfl rfl (g := (mkF m 23 #[.val (.ref oo), .val (.ref ar), .val (.int 0), .val (.int 0), .val .null, .unset] [(.int 0), (.ref oo)])) rfl rfl (od hby dc4 27 rfl)
  have CH296 := CH286.trans (CHr.wr W296 sf286_oo CH286.1)
  have hk296 := Nat.le_trans hkq286 (Keep.of_wr W296).1
  have Q302 := Q293.other W296 (Ne.symm nl272_oo.2)
  have Q303 := Q294.other W296 (Or.inr (slot_ne (Or.inr (own_w hw 23 rfl)) (Or.inr (own_w hw 24 rfl)) (by decide) (t := (.array .byte)) (t' := .byte) (by decide) (by decide)))
  have U296 : Fld Z h296 oo jS "coder" "B" (.int 0) := Q288.same W296
  have N296 := Fr.snoc X296 N278 g_oo
  have K296 := K286.wr W296 (Or.inl (List.mem_of_getElem? (i := 0) rfl))
  refine own_go st296 ?_
  obtain ⟨fs, hr, hrun, hended, hq⟩ := X296.leaveW hS286 (by rw [e296]; exact hk296) (v := none) (fun _ => rfl)
  refine ⟨_, _, ?_, hrun, hended, _, _, rfl, ?_, ?_, hq.1, hq.2.1, hq.2.2.1, hq.2.2.2.mono (by decide) (by decide)⟩
  · show Steps p.tables e below (T296.setTop (mkF m 26 #[.val (.ref oo), .val (.ref ar), .val (.int 0), .val (.int 0), .val .null, .unset] [])) _
    exact X296.returnOut hx Bd.returns (od hby dc4 28 rfl) hr
  · show QinV0 Z oo ar ka h0 n0 _ T296.heap _
    rw [e296]
    exact ⟨b272, kk272, rfl, N296, K296, nl272_oo.2, Q303, U296, Q302⟩
  · rw [hh]
    show CHr Z consts_1 _ _ T296.vm T296.heap
    rw [e296]
    exact CH296.trans (CHv.at X296 hZ hEL CH296.1)
def QinC0 (Z : State) (oo ar : Addr) (ka : ClassId) (h0 : Heap) (n0 : Nat) (v : Option Value) (h : Heap) (L : List Loc) : Prop := ∃ br : Addr, ∃ kb : ClassId, v = none ∧ Fr n0 L ∧ Keep h0 h [oo] ∧ oo ≠ br ∧ Fld Z h oo jS "value" "[B" (.ref br) ∧ Fld Z h oo jS "coder" "B" (.int 0) ∧ Arv Z h br kb .byte (0 : Int32) (own_I (own_bs "")) (.int 0)
theorem efinC0 (m : MethodId) (x0 : Addr) (x1 : Addr) : entryFrame m #[(.ref x0), (.ref x1)] 2 = mkF m 0 #[.val (.ref x0), .val (.ref x1)] [] := by first | (simp [entryFrame, mkF, argsToLocals, Value.category]; done) | rfl
set_option maxRecDepth 65536 in
set_option maxHeartbeats 40000000 in
theorem inC0 (l : Launch) (Z : State) (a0 : Array Value) (hw : own_HW a0 Z) (ws : List Jvm.Cond) (oo ar : Addr) (ka : ClassId) (h0 : Heap) (n0 : Nat) (Z0 : n0 ≤ h0.size) (hEL : EW Z a0 consts_1) (P0 : Exa Z h0 oo jS) (P1 : Fld Z h0 oo jS "value" "[B" .null) (P2 : Fld Z h0 oo jS "coder" "B" (.int 0)) (P3 : Arv Z h0 ar ka .char (0 : Int32) [] (.int 0)) (g_oo : n0 ≤ oo) (ne_oo_ar : oo ≠ ar) :
    MetFree l yN9 (head1 (Jvm.Cond.code yN9 jdk_42_method_3_code 2 none :: ws) (own_R 2 4 8 29)) (fun a U => a = #[(.ref oo), (.ref ar)] ∧ Z.Warmed39 U.vm ∧ U.heap = h0 ∧ CHv Z consts_1 U.vm h0) (fun _ _ _ _ _ => True) (fun _ U o U' => ∃ v L, o = .returned v ∧ QinC0 Z oo ar ka h0 n0 v U'.heap L ∧ CHr Z consts_1 U.vm U.heap U'.vm U'.heap ∧ ReturnedEndW U o U' L (own_R 2 4 8 29).cells (own_R 2 4 8 29).slots) := by
  refine MetFree.of_bodySF (plainFor_of_name pn_1) hisR ?_
  intro p e s m args below meth c s₁ Bd hml0 hP hK
  obtain ⟨rfl, hZ, hh, hC⟩ := hP
  have hx := Bd.exec
  have hby := Bd.bytes
  have hml : c.maxLocals = 2 := hml0
  have hown : s.vm.findClass jS = some m.cls := findClass_of_methodNamed Bd.named
  have X0 : Stand p l e (own_R 2 4 8 29) (s.setVm s.vm) m #[(.ref oo), (.ref ar)] below meth c s₁ [] 0 0 := Stand.of_body Bd
  have e0 : s₁.heap = h0 := by rw [← hh, Bd.state]; rfl
  have N0 := Fr.nil n0
  have K0 : Keep h0 h0 [oo] := Keep.refl h0 _
  have hC0 : CHr Z consts_1 s.vm h0 s.vm h0 := CHr.refl hC
  have hS0 : s.Since s.vm h0.size := (State.WarmedH.refl s).since _
  have hk0 : h0.size ≤ h0.size := Nat.le_refl _
  refine own_go (B := s₁.setTop (mkF m 0 #[.val (.ref oo), .val (.ref ar)] [])) (fun t k => castTop (efinC0 m oo ar) k) ?_
  refine own_go (B := s₁.setTop (mkF m 4 #[.val (.ref oo), .val (.ref ar)] [(.ref ar), (.int 0), (.ref ar), (.ref oo)])) (fun t k => ?_) ?_
  · refine XS.aloadN X0.here hx rfl (od hby dc3 0 rfl) rfl rfl ?_
    refine XS.aloadN X0.here hx rfl (od hby dc3 1 rfl) rfl rfl ?_
    refine XS.iconst X0.here hx rfl (od hby dc3 2 rfl) ?_
    refine XS.aloadN X0.here hx rfl (od hby dc3 3 rfl) rfl rfl ?_
    exact k
  obtain ⟨cl308, Ar308, q308, S308, M308, Ha308, G308⟩ := id P3
  refine own_go (B := s₁.setTop (mkF m 5 #[.val (.ref oo), .val (.ref ar)] [(.int 0), (.int 0), (.ref ar), (.ref oo)])) (fun t k => ?_) ?_
  · refine X0.arraylength hx (by rw [e0]; exact Ar308.1) (State.isArrayOf_alike hZ.alike Ar308.2.1) (g := (mkF m 4 #[.val (.ref oo), .val (.ref ar)] [(.ref ar), (.int 0), (.ref ar), (.ref oo)])) rfl rfl (od hby dc3 4 rfl) _ ?_
    rw [len_of S308 M308]
    exact k
  refine own_go (B := s₁.setTop (mkF m 6 #[.val (.ref oo), .val (.ref ar)] [.null, (.int 0), (.int 0), (.ref ar), (.ref oo)])) (fun t k => ?_) ?_
  · refine XS.aconstNull X0.here hx rfl (od hby dc3 5 rfl) ?_
    exact k
  obtain ⟨_, _, ⟨T309, L309, k309, n309⟩, -, X309, hSq309, gr309, ⟨Lc309, hQ309, l309, y309, z309, CHq309⟩, st309⟩ := X0.specialBackS hx (y := yN8) rfl hown (mvT hZ (own_w hw 14 rfl)) (mvT hZ (own_w hw 15 rfl)) (mvT hZ (own_w hw 17 rfl)) (by decide) (backOfSH (W := 0) (s := s) (vm0 := s.vm) (inV0 l Z a0 hw [] oo ar ka h0 n0 Z0 hEL P0 P1 P2 P3 g_oo ne_oo_ar) hZ (own_w hw 17 rfl) (own_w hw 9 rfl) (by decide) (by decide) hEL hC0.1) (g := (mkF m 6 #[.val (.ref oo), .val (.ref ar)] [.null, (.int 0), (.int 0), (.ref ar), (.ref oo)])) rfl (by rw [hml]; rfl) (Steps.refl _) (a := oo) (argsL := [(.ref ar), (.int 0), (.int 0), .null]) (rest := []) (lenOf pd_7 rfl) rfl (own_W0 rfl) (od hby dc3 6 rfl) (fun _ _ => ⟨rfl, e0, (by decide : 0 + 4 ≤ _), (by decide : 0 + 8 ≤ _)⟩)
  dsimp only [Pt.U, Pt.locs, Pt.cells, Pt.slots] at X309 l309 y309 z309 st309 hQ309 hSq309 gr309 CHq309
  subst l309 y309 z309
  have CH309 := hC0.trans CHq309
  have hS309 : s.Since T309.vm T309.heap.size := foldS (T := s₁) hS0 (by rw [e0]; exact hk0) hSq309 gr309
  have hkq309 : T309.heap.size ≤ T309.heap.size := Nat.le_refl _
  have hZ : Z.Warmed39 (s.setVm T309.vm).vm := State.Warmed39.trans (t := s.setVm s.vm) hZ hSq309.1
  have hown : (s.setVm T309.vm).vm.findClass jS = some m.cls := by rw [show (s.setVm T309.vm).vm = T309.vm from rfl, hSq309.1.alike.findClass]; exact hown
  have X309 : Stand p l e (own_R 2 4 8 29) (s.setVm T309.vm) m #[(.ref oo), (.ref ar)] below meth c T309 _ _ _ := X309
  obtain ⟨br_309, kb_309, rfl, Nq309, Kq309, pq309_0, U309_0, U309_1, U309_2⟩ := hQ309
  have K309 : Keep h0 T309.heap [oo] := K0.trans Kq309 (allS (Or.inl (List.mem_of_getElem? (i := 0) rfl)) all0)
  have N309 := Fr.app N0 Nq309
  refine own_go (B := T309.setTop (mkF m 9 #[.val (.ref oo), .val (.ref ar)] [])) (fun t k => st309.trans k) ?_
  obtain ⟨fs, hr, hrun, hended, hq⟩ := X309.leaveW hS309 hkq309 (v := none) (fun _ => rfl)
  refine ⟨_, _, ?_, hrun, hended, _, _, rfl, ?_, ?_, hq.1, hq.2.1, hq.2.2.1, hq.2.2.2.mono (by decide) (by decide)⟩
  · show Steps p.tables e below (T309.setTop (mkF m 9 #[.val (.ref oo), .val (.ref ar)] [])) _
    exact X309.returnOut hx Bd.returns (od hby dc3 7 rfl) hr
  · show QinC0 Z oo ar ka h0 n0 _ T309.heap _
    skip
    exact ⟨br_309, kb_309, rfl, N309, K309, pq309_0, U309_0, U309_1, U309_2⟩
  · rw [hh]
    show CHr Z consts_1 _ _ T309.vm T309.heap
    skip
    exact CH309.trans (CHv.at X309 hZ hEL CH309.1)
def Qmk_0 (Z : State) (c0 c1 c2 c3 : Int32) (h0 : Heap) (n0 : Nat) (v : Option Value) (h : Heap) (L : List Loc) : Prop := ∃ rr : Addr, ∃ br : Addr, ∃ kb : ClassId, v = some (.ref rr) ∧ Fr n0 L ∧ Keep h0 h [] ∧ h0.size ≤ rr ∧ rr ≠ br ∧ Exa Z h rr jS ∧ Fld Z h rr jS "value" "[B" (.ref br) ∧ Fld Z h rr jS "coder" "B" (.int 0) ∧ Arv Z h br kb .byte (0 : Int32) (own_I (own_bs "")) (.int 0)
theorem efmk_0 (m : MethodId) (x1 : Int32) (x2 : Int32) (x3 : Int32) (x4 : Int32) : entryFrame m #[(.int 0), (.int x1), (.int x2), (.int x3), (.int x4)] 6 = mkF m 0 #[.val (.int 0), .val (.int x1), .val (.int x2), .val (.int x3), .val (.int x4), .unset] [] := by first | (simp [entryFrame, mkF, argsToLocals, Value.category]; done) | rfl
set_option maxRecDepth 65536 in
set_option maxHeartbeats 40000000 in
theorem mk_0 (l : Launch) (Z : State) (a0 : Array Value) (hw : own_HW a0 Z) (ws : List Jvm.Cond) (c0 c1 c2 c3 : Int32) (h0 : Heap) (n0 : Nat) (Z0 : n0 ≤ h0.size) (hEL : EW Z a0 consts_1) :
    MetFree l yN10 (head1 (Jvm.Cond.code yN10 method_4_code 6 (some (.object jS)) :: ws) (own_R 3 6 12 43)) (fun a U => a = #[(.int 0), (.int c0), (.int c1), (.int c2), (.int c3)] ∧ Z.Warmed39 U.vm ∧ U.heap = h0 ∧ CHv Z consts_1 U.vm h0) (fun _ _ _ _ _ => True) (fun _ U o U' => ∃ v L, o = .returned v ∧ Qmk_0 Z c0 c1 c2 c3 h0 n0 v U'.heap L ∧ CHr Z consts_1 U.vm U.heap U'.vm U'.heap ∧ ReturnedEndW U o U' L (own_R 3 6 12 43).cells (own_R 3 6 12 43).slots) := by
  refine MetFree.of_bodySF (plainFor_of_name pn_2) hisR ?_
  intro p e s m args below meth c s₁ Bd hml0 hP hK
  obtain ⟨rfl, hZ, hh, hC⟩ := hP
  have hx := Bd.exec
  have hby := Bd.bytes
  have hml : c.maxLocals = 6 := hml0
  have hown : s.vm.findClass jL = some m.cls := findClass_of_methodNamed Bd.named
  have X0 : Stand p l e (own_R 3 6 12 43) (s.setVm s.vm) m #[(.int 0), (.int c0), (.int c1), (.int c2), (.int c3)] below meth c s₁ [] 0 0 := Stand.of_body Bd
  have e0 : s₁.heap = h0 := by rw [← hh, Bd.state]; rfl
  have N0 := Fr.nil n0
  have K0 : Keep h0 h0 [] := Keep.refl h0 _
  have hC0 : CHr Z consts_1 s.vm h0 s.vm h0 := CHr.refl hC
  have hS0 : s.Since s.vm h0.size := (State.WarmedH.refl s).since _
  have hk0 : h0.size ≤ h0.size := Nat.le_refl _
  refine own_go (B := s₁.setTop (mkF m 0 #[.val (.int 0), .val (.int c0), .val (.int c1), .val (.int c2), .val (.int c3), .unset] [])) (fun t k => castTop (efmk_0 m c0 c1 c2 c3) k) ?_
  refine own_go (B := s₁.setTop (mkF m 4 #[.val (.int 0), .val (.int c0), .val (.int c1), .val (.int c2), .val (.int c3), .unset] [])) (fun t k => ?_) ?_
  · refine XS.iloadN X0.here hx rfl (od hby dc2 0 rfl) rfl ?_
    refine XS.ifNo X0.here hx rfl (od hby dc2 1 rfl) rfl ((if0 _ _).trans (teq (rfl : (0 : Int32) = (0 : Int32))).2) ?_
    exact k
  obtain ⟨T313, h313, X313, e313, E313, A313, D313, -, st313⟩ := newO X0 hx hZ hown (own_w hw 7 rfl) (own_w hw 8 rfl) (own_w hw 9 rfl) e0 (g := (mkF m 4 #[.val (.int 0), .val (.int c0), .val (.int c1), .val (.int c2), .val (.int c3), .unset] [])) rfl (od hby dc2 83 rfl) (by decide) (by decide)
  obtain ⟨b313, g313⟩ : ∃ z, z = h0.size := ⟨_, rfl⟩
  rw [← g313] at A313 D313 st313
  have low313 : n0 ≤ b313 := Nat.le_trans Z0 (Nat.le_of_eq g313.symm)
  have sz313 : h0.size ≤ b313 := Nat.le_trans K0.1 (Nat.le_of_eq g313.symm)
  have CH313 := hC0.trans (CHr.ext E313 hC0.1)
  have hk313 := Nat.le_trans hk0 E313.1
  have Z313 : n0 ≤ h313.size := Nat.le_trans Z0 E313.1
  have K313 := K0.ext E313
  have D313_value_String : Fld Z h313 b313 jS "value" "[B" .null := D313 (Or.inr (own_w hw 23 rfl)) (ty := (.array .byte)) (by decide)
  have D313_coder_String : Fld Z h313 b313 jS "coder" "B" (.int 0) := D313 (Or.inr (own_w hw 24 rfl)) (ty := .byte) (by decide)
  refine own_go st313 ?_
  refine own_go (B := T313.setTop (mkF m 9 #[.val (.int 0), .val (.int c0), .val (.int c1), .val (.int c2), .val (.int c3), .unset] [(.int 0), (.ref b313), (.ref b313)])) (fun t k => ?_) ?_
  · refine XS.dup X313.here hx rfl (od hby dc2 84 rfl) rfl rfl ?_
    refine XS.iconst X313.here hx rfl (od hby dc2 85 rfl) ?_
    exact k
  obtain ⟨T314, h314, k314, X314, e314, E314, A314, st314⟩ := newP X313 hx hZ (own_w hw 10 rfl) e313 (g := (mkF m 9 #[.val (.int 0), .val (.int c0), .val (.int c1), .val (.int c2), .val (.int c3), .unset] [(.int 0), (.ref b313), (.ref b313)])) rfl (od hby dc2 86 rfl) rfl (by decide) (cap := 0) (by decide) (by decide) (by decide) (by decide)
  obtain ⟨b314, g314⟩ : ∃ z, z = h313.size := ⟨_, rfl⟩
  rw [← g314] at A314 st314
  have ne314_b313 : b313 ≠ b314 := Nat.ne_of_lt (Nat.lt_of_lt_of_le A313.lt (Nat.le_of_eq g314.symm))
  have CH314 := CH313.trans (CHr.ext E314 CH313.1)
  have hk314 := Nat.le_trans hk313 E314.1
  have Q315 := A313.ext E314
  have Q316 := D313_value_String.ext E314
  have Q317 := D313_coder_String.ext E314
  have Z314 : n0 ≤ h314.size := Nat.le_trans Z313 E314.1
  have K314 := K313.ext E314
  have V314 : Arv Z h314 b314 k314 .char (0 : Int32) [] (.int 0) := (Arv.new A314 (by decide)).pad (pad_rep [] (.int 0) 0)
  refine own_go st314 ?_
  obtain ⟨_, _, ⟨T318, L318, k318, n318⟩, -, X318, hSq318, gr318, ⟨Lc318, hQ318, l318, y318, z318, CHq318⟩, st318⟩ := X314.specialBackS hx (y := yN9) rfl hown (mvT hZ (own_w hw 11 rfl)) (mvT hZ (own_w hw 12 rfl)) (mvT hZ (own_w hw 13 rfl)) (by decide) (backOfSH (W := 1) (s := s) (vm0 := s.vm) (inC0 l Z a0 hw [] b313 b314 k314 h314 n0 Z314 hEL Q315 Q316 Q317 V314 low313 ne314_b313) hZ (own_w hw 13 rfl) (own_w hw 9 rfl) (by decide) (by decide) hEL CH314.1) (g := (mkF m 11 #[.val (.int 0), .val (.int c0), .val (.int c1), .val (.int c2), .val (.int c3), .unset] [(.ref b314), (.ref b313), (.ref b313)])) rfl (by rw [hml]; rfl) (Steps.refl _) (a := b313) (argsL := [(.ref b314)]) (rest := [(.ref b313)]) (lenOf pd_8 rfl) rfl (own_W0 rfl) (od hby dc2 87 rfl) (fun _ _ => ⟨rfl, e314, (by decide : 2 + 4 ≤ _), (by decide : 4 + 8 ≤ _)⟩)
  dsimp only [Pt.U, Pt.locs, Pt.cells, Pt.slots] at X318 l318 y318 z318 st318 hQ318 hSq318 gr318 CHq318
  subst l318 y318 z318
  have CH318 := CH314.trans CHq318
  have hS318 : s.Since T318.vm T318.heap.size := foldS (T := T314) hS0 (by rw [e314]; exact hk314) hSq318 gr318
  have hkq318 : T318.heap.size ≤ T318.heap.size := Nat.le_refl _
  have hZ : Z.Warmed39 (s.setVm T318.vm).vm := State.Warmed39.trans (t := s.setVm s.vm) hZ hSq318.1
  have hown : (s.setVm T318.vm).vm.findClass jL = some m.cls := by rw [show (s.setVm T318.vm).vm = T318.vm from rfl, hSq318.1.alike.findClass]; exact hown
  have X318 : Stand p l e (own_R 3 6 12 43) (s.setVm T318.vm) m #[(.int 0), (.int c0), (.int c1), (.int c2), (.int c3)] below meth c T318 _ _ _ := X318
  obtain ⟨br_318, kb_318, rfl, Nq318, Kq318, pq318_0, U318_0, U318_1, U318_2⟩ := hQ318
  have Q319 := Q315.keep Kq318
  have K318 : Keep h0 T318.heap [] := K314.trans Kq318 (allS (Or.inr sz313) all0)
  have N318 := Fr.app N0 Nq318
  refine own_go (B := T318.setTop (mkF m 14 #[.val (.int 0), .val (.int c0), .val (.int c1), .val (.int c2), .val (.int c3), .unset] [(.ref b313)])) (fun t k => st318.trans k) ?_
  obtain ⟨fs, hr, hrun, hended, hq⟩ := X318.leaveW hS318 hkq318 (v := some (.ref b313)) (fun h => by rw [Bd.returns] at h; cases h)
  refine ⟨_, _, ?_, hrun, hended, _, _, rfl, ?_, ?_, hq.1, hq.2.1, hq.2.2.1, hq.2.2.2.mono (by decide) (by decide)⟩
  · show Steps p.tables e below (T318.setTop (mkF m 14 #[.val (.int 0), .val (.int c0), .val (.int c1), .val (.int c2), .val (.int c3), .unset] [(.ref b313)])) _
    exact retOut X318 hx Bd.returns rfl (Or.inr (Or.inr (Or.inr (Or.inr ⟨rfl, rfl, rfl⟩)))) (od hby dc2 88 rfl) hr
  · show Qmk_0 Z c0 c1 c2 c3 h0 n0 _ T318.heap _
    skip
    exact ⟨b313, br_318, kb_318, rfl, N318, K318, sz313, pq318_0, Q319, U318_0, U318_1, U318_2⟩
  · rw [hh]
    show CHr Z consts_1 _ _ T318.vm T318.heap
    skip
    exact CH318.trans (CHv.at X318 hZ hEL CH318.1)
def Qcod_0 (Z : State) (so : Addr) (cs : Int32) (h0 : Heap) (n0 : Nat) (v : Option Value) (h : Heap) (L : List Loc) : Prop := v = some (.int 0) ∧ Fr n0 L ∧ h = h0
theorem efcod_0 (m : MethodId) (x0 : Addr) : entryFrame m #[(.ref x0)] 1 = mkF m 0 #[.val (.ref x0)] [] := by first | (simp [entryFrame, mkF, argsToLocals, Value.category]; done) | rfl
set_option maxRecDepth 65536 in
set_option maxHeartbeats 40000000 in
theorem cod_0 (l : Launch) (Z : State) (a0 : Array Value) (hw : own_HW a0 Z) (ws : List Jvm.Cond) (so : Addr) (cs : Int32) (h0 : Heap) (n0 : Nat) (Z0 : n0 ≤ h0.size) (P0 : Fld Z h0 so jS "coder" "B" (.int 0)) (P1 : Sta Z h0 jS "COMPACT_STRINGS" "Z" (.int cs)) (hcs : cs ≠ (0 : Int32)) :
    own_M l Z yN11 jdk_42_method_152_code 1 (some .byte) ws (own_R 0 0 0 0) #[(.ref so)] h0 (Qcod_0 Z so cs h0 n0) := by
  refine own_b (own := jS) rfl (plainFor_of_name pn_1) (fun m => efcod_0 m so) n0 fun p e s m below meth c s₁ Bd hZ hx hby hml hown X0 e0 N0 => ?_
  obtain ⟨T321, X321, e321, st321⟩ := getS2 X0 hx hZ hown (host := "") (Or.inl (own_w hw 41 rfl)) Via.refl e0 P1 (g := (mkF m 0 #[.val (.ref so)] [])) rfl (od hby dc13 0 rfl)
  refine own_go st321 ?_
  have hc3_322 : ¬ (cs = (0 : Int32)) := hcs
  refine own_go (B := T321.setTop (mkF m 7 #[.val (.ref so)] [(.ref so)])) (fun t k => ?_) ?_
  · refine XS.ifNo X321.here hx rfl (od hby dc13 1 rfl) rfl ((if0 _ _).trans (feq hc3_322).1) ?_
    refine XS.aloadN X321.here hx rfl (od hby dc13 2 rfl) rfl rfl ?_
    exact k
  obtain ⟨T323, X323, e323, st323⟩ := getF X321 hx hZ hown (host := "") (Or.inl (own_w hw 28 rfl)) Via.refl e321 P0 (g := (mkF m 7 #[.val (.ref so)] [(.ref so)])) rfl rfl (od hby dc13 3 rfl)
  refine own_go st323 ?_
  refine own_go (B := T323.setTop (mkF m 14 #[.val (.ref so)] [(.int 0)])) (fun t k => ?_) ?_
  · refine XS.goto X323.here hx rfl (pc0 := 10) (pc' := 14) rfl (od hby dc13 4 rfl) (by decide) (by decide) ?_
    exact k
  exact own_rN (w := (0 : Int32)) Bd X323 hx (by simp) rfl (od hby dc13 5 rfl) (by rw [e323]; exact ⟨rfl, N0, rfl⟩) (by decide)
def Qlen_0 (Z : State) (so br : Addr) (kb : ClassId) (zb : Int32) (ns : List Int32) (cs zl : Int32) (h0 : Heap) (n0 : Nat) (v : Option Value) (h : Heap) (L : List Loc) : Prop := v = some (.int zl) ∧ Fr n0 L ∧ h = h0
theorem eflen_0 (m : MethodId) (x0 : Addr) : entryFrame m #[(.ref x0)] 1 = mkF m 0 #[.val (.ref x0)] [] := by first | (simp [entryFrame, mkF, argsToLocals, Value.category]; done) | rfl
set_option maxRecDepth 65536 in
set_option maxHeartbeats 40000000 in
theorem len_0 (l : Launch) (Z : State) (a0 : Array Value) (hw : own_HW a0 Z) (ws : List Jvm.Cond) (so br : Addr) (kb : ClassId) (zb : Int32) (ns : List Int32) (cs zl : Int32) (h0 : Heap) (n0 : Nat) (Z0 : n0 ≤ h0.size) (P0 : Exa Z h0 so jS) (P1 : Fld Z h0 so jS "coder" "B" (.int 0)) (P2 : Fld Z h0 so jS "value" "[B" (.ref br)) (P3 : Arv Z h0 br kb .byte zb (own_I ns) (.int 0)) (P4 : Sta Z h0 jS "COMPACT_STRINGS" "Z" (.int cs)) (hcs : cs ≠ (0 : Int32)) (hln : (zb >>> ((0 : Int32) &&& 31)) = zl) :
    own_M l Z yN12 jdk_42_method_54_code 1 (some .int) ws (own_R 1 0 0 13) #[(.ref so)] h0 (Qlen_0 Z so br kb zb ns cs zl h0 n0) := by
  refine own_b (own := jS) rfl (plainFor_of_name pn_1) (fun m => eflen_0 m so) n0 fun p e s m below meth c s₁ Bd hZ hx hby hml hown X0 e0 N0 => ?_
  refine own_go (B := s₁.setTop (mkF m 1 #[.val (.ref so)] [(.ref so)])) (fun t k => ?_) ?_
  · refine XS.aloadN X0.here hx rfl (od hby dc12 0 rfl) rfl rfl ?_
    exact k
  obtain ⟨T324, X324, e324, st324⟩ := getF X0 hx hZ hown (host := "") (Or.inl (own_w hw 27 rfl)) Via.refl e0 P2 (g := (mkF m 1 #[.val (.ref so)] [(.ref so)])) rfl rfl (od hby dc12 1 rfl)
  refine own_go st324 ?_
  obtain ⟨cl325, Ar325, q325, S325, M325, Ha325, G325⟩ := id P3
  refine own_go (B := T324.setTop (mkF m 5 #[.val (.ref so)] [(.int zb)])) (fun t k => ?_) ?_
  · refine X324.arraylength hx (by rw [e324]; exact Ar325.1) (State.isArrayOf_alike hZ.alike Ar325.2.1) (g := (mkF m 4 #[.val (.ref so)] [(.ref br)])) rfl rfl (od hby dc12 2 rfl) _ ?_
    rw [len_of S325 M325]
    exact k
  refine own_go (B := T324.setTop (mkF m 6 #[.val (.ref so)] [(.ref so), (.int zb)])) (fun t k => ?_) ?_
  · refine XS.aloadN X324.here hx rfl (od hby dc12 3 rfl) rfl rfl ?_
    exact k
  obtain ⟨cq326, kq326, q326a, q326b, q326c⟩ := isOf hZ e324 P0
  obtain ⟨_, _, ⟨T326, L326, k326, n326⟩, -, X326, ⟨Lc326, hQ326, l326, y326, z326⟩, st326⟩ := X324.virtualBack hx (y := yN11) (z := yN11) hown (mvT hZ (own_w hw 57 rfl)) (mvT hZ (own_w hw 58 rfl)) (notFace_of_selects (args := #[]) (mvT hZ (own_w hw 60 rfl))) (mvT hZ (own_w hw 60 rfl)) (mvT hZ (own_w hw 59 rfl)) (by decide) (backOf (W := 1) (cod_0 l Z a0 hw [] so cs h0 n0 Z0 P1 P4 hcs) hZ (own_w hw 61 rfl) (own_w hw 9 rfl) (by decide) (by decide)) q326a q326c (g := (mkF m 6 #[.val (.ref so)] [(.ref so), (.int zb)])) rfl (by rw [hml]; rfl) (Steps.refl _) (argsL := []) (rest := [(.int zb)]) (lenOf pd_9 rfl) rfl (own_W0 rfl) (od hby dc12 4 rfl) (fun _ _ => ⟨rfl, e324, (by decide : 0 + 0 ≤ _), (by decide : 0 + 0 ≤ _)⟩)
  dsimp only [Pt.U, Pt.locs, Pt.cells, Pt.slots] at X326 l326 y326 z326 st326 hQ326
  subst l326 y326 z326
  obtain ⟨rfl, Nq326, e326⟩ := hQ326
  have N326 := Fr.app N0 Nq326
  refine own_go (B := T326.setTop (mkF m 9 #[.val (.ref so)] [(.int 0), (.int zb)])) (fun t k => st326.trans k) ?_
  refine own_go (B := T326.setTop (mkF m 10 #[.val (.ref so)] [(.int (zb >>> ((0 : Int32) &&& 31)))])) (fun t k => ?_) ?_
  · refine XS.ishr X326.here hx rfl (od hby dc12 5 rfl) rfl ?_
    exact k
  exact own_rI Bd X326 hx (od hby dc12 6 rfl) (by rw [e326]; exact ⟨(by rw [← hln]), N326, rfl⟩) (by decide)
def Qisl_0 (Z : State) (so : Addr) (cs : Int32) (h0 : Heap) (n0 : Nat) (v : Option Value) (h : Heap) (L : List Loc) : Prop := v = some (.int 1) ∧ Fr n0 L ∧ h = h0
theorem efisl_0 (m : MethodId) (x0 : Addr) : entryFrame m #[(.ref x0)] 1 = mkF m 0 #[.val (.ref x0)] [] := by first | (simp [entryFrame, mkF, argsToLocals, Value.category]; done) | rfl
set_option maxRecDepth 65536 in
set_option maxHeartbeats 40000000 in
theorem isl_0 (l : Launch) (Z : State) (a0 : Array Value) (hw : own_HW a0 Z) (ws : List Jvm.Cond) (so : Addr) (cs : Int32) (h0 : Heap) (n0 : Nat) (Z0 : n0 ≤ h0.size) (P0 : Fld Z h0 so jS "coder" "B" (.int 0)) (P1 : Sta Z h0 jS "COMPACT_STRINGS" "Z" (.int cs)) (hcs : cs ≠ (0 : Int32)) :
    own_M l Z yN13 jdk_42_method_154_code 1 (some .boolean) ws (own_R 0 0 0 0) #[(.ref so)] h0 (Qisl_0 Z so cs h0 n0) := by
  refine own_b (own := jS) rfl (plainFor_of_name pn_1) (fun m => efisl_0 m so) n0 fun p e s m below meth c s₁ Bd hZ hx hby hml hown X0 e0 N0 => ?_
  obtain ⟨T327, X327, e327, st327⟩ := getS2 X0 hx hZ hown (host := "") (Or.inl (own_w hw 41 rfl)) Via.refl e0 P1 (g := (mkF m 0 #[.val (.ref so)] [])) rfl (od hby dc16 0 rfl)
  refine own_go st327 ?_
  have hc3_328 : ¬ (cs = (0 : Int32)) := hcs
  refine own_go (B := T327.setTop (mkF m 7 #[.val (.ref so)] [(.ref so)])) (fun t k => ?_) ?_
  · refine XS.ifNo X327.here hx rfl (od hby dc16 1 rfl) rfl ((if0 _ _).trans (feq hc3_328).1) ?_
    refine XS.aloadN X327.here hx rfl (od hby dc16 2 rfl) rfl rfl ?_
    exact k
  obtain ⟨T329, X329, e329, st329⟩ := getF X327 hx hZ hown (host := "") (Or.inl (own_w hw 28 rfl)) Via.refl e327 P0 (g := (mkF m 7 #[.val (.ref so)] [(.ref so)])) rfl rfl (od hby dc16 3 rfl)
  refine own_go st329 ?_
  refine own_go (B := T329.setTop (mkF m 18 #[.val (.ref so)] [(.int 1)])) (fun t k => ?_) ?_
  · refine XS.ifNo X329.here hx rfl (od hby dc16 4 rfl) rfl ((if0 _ _).trans (teq (rfl : (0 : Int32) = (0 : Int32))).2) ?_
    refine XS.iconst X329.here hx rfl (od hby dc16 5 rfl) ?_
    refine XS.goto X329.here hx rfl (pc0 := 14) (pc' := 18) rfl (od hby dc16 6 rfl) (by decide) (by decide) ?_
    exact k
  exact own_rN (w := (1 : Int32)) Bd X329 hx (by simp) rfl (od hby dc16 7 rfl) (by rw [e329]; exact ⟨rfl, N0, rfl⟩) (by decide)
def Qcod_1 (Z : State) (so : Addr) (cs : Int32) (h0 : Heap) (n0 : Nat) (v : Option Value) (h : Heap) (L : List Loc) : Prop := v = some (.int 1) ∧ Fr n0 L ∧ h = h0
theorem efcod_1 (m : MethodId) (x0 : Addr) : entryFrame m #[(.ref x0)] 1 = mkF m 0 #[.val (.ref x0)] [] := by first | (simp [entryFrame, mkF, argsToLocals, Value.category]; done) | rfl
set_option maxRecDepth 65536 in
set_option maxHeartbeats 40000000 in
theorem cod_1 (l : Launch) (Z : State) (a0 : Array Value) (hw : own_HW a0 Z) (ws : List Jvm.Cond) (so : Addr) (cs : Int32) (h0 : Heap) (n0 : Nat) (Z0 : n0 ≤ h0.size) (P0 : Fld Z h0 so jS "coder" "B" (.int 1)) (P1 : Sta Z h0 jS "COMPACT_STRINGS" "Z" (.int cs)) (hcs : cs ≠ (0 : Int32)) :
    own_M l Z yN11 jdk_42_method_152_code 1 (some .byte) ws (own_R 0 0 0 0) #[(.ref so)] h0 (Qcod_1 Z so cs h0 n0) := by
  refine own_b (own := jS) rfl (plainFor_of_name pn_1) (fun m => efcod_1 m so) n0 fun p e s m below meth c s₁ Bd hZ hx hby hml hown X0 e0 N0 => ?_
  obtain ⟨T331, X331, e331, st331⟩ := getS2 X0 hx hZ hown (host := "") (Or.inl (own_w hw 41 rfl)) Via.refl e0 P1 (g := (mkF m 0 #[.val (.ref so)] [])) rfl (od hby dc13 0 rfl)
  refine own_go st331 ?_
  have hc3_332 : ¬ (cs = (0 : Int32)) := hcs
  refine own_go (B := T331.setTop (mkF m 7 #[.val (.ref so)] [(.ref so)])) (fun t k => ?_) ?_
  · refine XS.ifNo X331.here hx rfl (od hby dc13 1 rfl) rfl ((if0 _ _).trans (feq hc3_332).1) ?_
    refine XS.aloadN X331.here hx rfl (od hby dc13 2 rfl) rfl rfl ?_
    exact k
  obtain ⟨T333, X333, e333, st333⟩ := getF X331 hx hZ hown (host := "") (Or.inl (own_w hw 28 rfl)) Via.refl e331 P0 (g := (mkF m 7 #[.val (.ref so)] [(.ref so)])) rfl rfl (od hby dc13 3 rfl)
  refine own_go st333 ?_
  refine own_go (B := T333.setTop (mkF m 14 #[.val (.ref so)] [(.int 1)])) (fun t k => ?_) ?_
  · refine XS.goto X333.here hx rfl (pc0 := 10) (pc' := 14) rfl (od hby dc13 4 rfl) (by decide) (by decide) ?_
    exact k
  exact own_rN (w := (1 : Int32)) Bd X333 hx (by simp) rfl (od hby dc13 5 rfl) (by rw [e333]; exact ⟨rfl, N0, rfl⟩) (by decide)
def Qlen_1 (Z : State) (so br : Addr) (kb : ClassId) (zb : Int32) (ns : List Int32) (cs zl : Int32) (h0 : Heap) (n0 : Nat) (v : Option Value) (h : Heap) (L : List Loc) : Prop := v = some (.int zl) ∧ Fr n0 L ∧ h = h0
theorem eflen_1 (m : MethodId) (x0 : Addr) : entryFrame m #[(.ref x0)] 1 = mkF m 0 #[.val (.ref x0)] [] := by first | (simp [entryFrame, mkF, argsToLocals, Value.category]; done) | rfl
set_option maxRecDepth 65536 in
set_option maxHeartbeats 40000000 in
theorem len_1 (l : Launch) (Z : State) (a0 : Array Value) (hw : own_HW a0 Z) (ws : List Jvm.Cond) (so br : Addr) (kb : ClassId) (zb : Int32) (ns : List Int32) (cs zl : Int32) (h0 : Heap) (n0 : Nat) (Z0 : n0 ≤ h0.size) (P0 : Exa Z h0 so jS) (P1 : Fld Z h0 so jS "coder" "B" (.int 1)) (P2 : Fld Z h0 so jS "value" "[B" (.ref br)) (P3 : Arv Z h0 br kb .byte zb (own_I ns) (.int 0)) (P4 : Sta Z h0 jS "COMPACT_STRINGS" "Z" (.int cs)) (hcs : cs ≠ (0 : Int32)) (hln : (zb >>> ((1 : Int32) &&& 31)) = zl) :
    own_M l Z yN12 jdk_42_method_54_code 1 (some .int) ws (own_R 1 0 0 13) #[(.ref so)] h0 (Qlen_1 Z so br kb zb ns cs zl h0 n0) := by
  refine own_b (own := jS) rfl (plainFor_of_name pn_1) (fun m => eflen_1 m so) n0 fun p e s m below meth c s₁ Bd hZ hx hby hml hown X0 e0 N0 => ?_
  refine own_go (B := s₁.setTop (mkF m 1 #[.val (.ref so)] [(.ref so)])) (fun t k => ?_) ?_
  · refine XS.aloadN X0.here hx rfl (od hby dc12 0 rfl) rfl rfl ?_
    exact k
  obtain ⟨T334, X334, e334, st334⟩ := getF X0 hx hZ hown (host := "") (Or.inl (own_w hw 27 rfl)) Via.refl e0 P2 (g := (mkF m 1 #[.val (.ref so)] [(.ref so)])) rfl rfl (od hby dc12 1 rfl)
  refine own_go st334 ?_
  obtain ⟨cl335, Ar335, q335, S335, M335, Ha335, G335⟩ := id P3
  refine own_go (B := T334.setTop (mkF m 5 #[.val (.ref so)] [(.int zb)])) (fun t k => ?_) ?_
  · refine X334.arraylength hx (by rw [e334]; exact Ar335.1) (State.isArrayOf_alike hZ.alike Ar335.2.1) (g := (mkF m 4 #[.val (.ref so)] [(.ref br)])) rfl rfl (od hby dc12 2 rfl) _ ?_
    rw [len_of S335 M335]
    exact k
  refine own_go (B := T334.setTop (mkF m 6 #[.val (.ref so)] [(.ref so), (.int zb)])) (fun t k => ?_) ?_
  · refine XS.aloadN X334.here hx rfl (od hby dc12 3 rfl) rfl rfl ?_
    exact k
  obtain ⟨cq336, kq336, q336a, q336b, q336c⟩ := isOf hZ e334 P0
  obtain ⟨_, _, ⟨T336, L336, k336, n336⟩, -, X336, ⟨Lc336, hQ336, l336, y336, z336⟩, st336⟩ := X334.virtualBack hx (y := yN11) (z := yN11) hown (mvT hZ (own_w hw 57 rfl)) (mvT hZ (own_w hw 58 rfl)) (notFace_of_selects (args := #[]) (mvT hZ (own_w hw 60 rfl))) (mvT hZ (own_w hw 60 rfl)) (mvT hZ (own_w hw 59 rfl)) (by decide) (backOf (W := 1) (cod_1 l Z a0 hw [] so cs h0 n0 Z0 P1 P4 hcs) hZ (own_w hw 61 rfl) (own_w hw 9 rfl) (by decide) (by decide)) q336a q336c (g := (mkF m 6 #[.val (.ref so)] [(.ref so), (.int zb)])) rfl (by rw [hml]; rfl) (Steps.refl _) (argsL := []) (rest := [(.int zb)]) (lenOf pd_9 rfl) rfl (own_W0 rfl) (od hby dc12 4 rfl) (fun _ _ => ⟨rfl, e334, (by decide : 0 + 0 ≤ _), (by decide : 0 + 0 ≤ _)⟩)
  dsimp only [Pt.U, Pt.locs, Pt.cells, Pt.slots] at X336 l336 y336 z336 st336 hQ336
  subst l336 y336 z336
  obtain ⟨rfl, Nq336, e336⟩ := hQ336
  have N336 := Fr.app N0 Nq336
  refine own_go (B := T336.setTop (mkF m 9 #[.val (.ref so)] [(.int 1), (.int zb)])) (fun t k => st336.trans k) ?_
  refine own_go (B := T336.setTop (mkF m 10 #[.val (.ref so)] [(.int (zb >>> ((1 : Int32) &&& 31)))])) (fun t k => ?_) ?_
  · refine XS.ishr X336.here hx rfl (od hby dc12 5 rfl) rfl ?_
    exact k
  exact own_rI Bd X336 hx (od hby dc12 6 rfl) (by rw [e336]; exact ⟨(by rw [← hln]), N336, rfl⟩) (by decide)
def Qisl_1 (Z : State) (so : Addr) (cs : Int32) (h0 : Heap) (n0 : Nat) (v : Option Value) (h : Heap) (L : List Loc) : Prop := v = some (.int 0) ∧ Fr n0 L ∧ h = h0
theorem efisl_1 (m : MethodId) (x0 : Addr) : entryFrame m #[(.ref x0)] 1 = mkF m 0 #[.val (.ref x0)] [] := by first | (simp [entryFrame, mkF, argsToLocals, Value.category]; done) | rfl
set_option maxRecDepth 65536 in
set_option maxHeartbeats 40000000 in
theorem isl_1 (l : Launch) (Z : State) (a0 : Array Value) (hw : own_HW a0 Z) (ws : List Jvm.Cond) (so : Addr) (cs : Int32) (h0 : Heap) (n0 : Nat) (Z0 : n0 ≤ h0.size) (P0 : Fld Z h0 so jS "coder" "B" (.int 1)) (P1 : Sta Z h0 jS "COMPACT_STRINGS" "Z" (.int cs)) (hcs : cs ≠ (0 : Int32)) :
    own_M l Z yN13 jdk_42_method_154_code 1 (some .boolean) ws (own_R 0 0 0 0) #[(.ref so)] h0 (Qisl_1 Z so cs h0 n0) := by
  refine own_b (own := jS) rfl (plainFor_of_name pn_1) (fun m => efisl_1 m so) n0 fun p e s m below meth c s₁ Bd hZ hx hby hml hown X0 e0 N0 => ?_
  obtain ⟨T337, X337, e337, st337⟩ := getS2 X0 hx hZ hown (host := "") (Or.inl (own_w hw 41 rfl)) Via.refl e0 P1 (g := (mkF m 0 #[.val (.ref so)] [])) rfl (od hby dc16 0 rfl)
  refine own_go st337 ?_
  have hc3_338 : ¬ (cs = (0 : Int32)) := hcs
  refine own_go (B := T337.setTop (mkF m 7 #[.val (.ref so)] [(.ref so)])) (fun t k => ?_) ?_
  · refine XS.ifNo X337.here hx rfl (od hby dc16 1 rfl) rfl ((if0 _ _).trans (feq hc3_338).1) ?_
    refine XS.aloadN X337.here hx rfl (od hby dc16 2 rfl) rfl rfl ?_
    exact k
  obtain ⟨T339, X339, e339, st339⟩ := getF X337 hx hZ hown (host := "") (Or.inl (own_w hw 28 rfl)) Via.refl e337 P0 (g := (mkF m 7 #[.val (.ref so)] [(.ref so)])) rfl rfl (od hby dc16 3 rfl)
  refine own_go st339 ?_
  refine own_go (B := T339.setTop (mkF m 18 #[.val (.ref so)] [(.int 0)])) (fun t k => ?_) ?_
  · refine XS.ifYes X339.here hx rfl (pc0 := 10) (pc' := 17) rfl (od hby dc16 4 rfl) rfl ((if0 _ _).trans (feq (by decide : ¬ ((1 : Int32) = (0 : Int32)))).2) (by decide) (by decide) ?_
    refine XS.iconst X339.here hx rfl (od hby dc16 8 rfl) ?_
    exact k
  exact own_rN (w := (0 : Int32)) Bd X339 hx (by simp) rfl (od hby dc16 7 rfl) (by rw [e339]; exact ⟨rfl, N0, rfl⟩) (by decide)
def fise (zb : Int32) : Int32 := (if zb = (0 : Int32) then (1 : Int32) else (0 : Int32))
def Qise (Z : State) (so br : Addr) (kb : ClassId) (zb : Int32) (ns : List Int32) (h0 : Heap) (n0 : Nat) (v : Option Value) (h : Heap) (L : List Loc) : Prop := v = some (.int (fise zb)) ∧ Fr n0 L ∧ h = h0
theorem efise (m : MethodId) (x0 : Addr) : entryFrame m #[(.ref x0)] 1 = mkF m 0 #[.val (.ref x0)] [] := by first | (simp [entryFrame, mkF, argsToLocals, Value.category]; done) | rfl
set_option maxRecDepth 65536 in
set_option maxHeartbeats 40000000 in
theorem ise (l : Launch) (Z : State) (a0 : Array Value) (hw : own_HW a0 Z) (ws : List Jvm.Cond) (so br : Addr) (kb : ClassId) (zb : Int32) (ns : List Int32) (h0 : Heap) (n0 : Nat) (Z0 : n0 ≤ h0.size) (P0 : Fld Z h0 so jS "value" "[B" (.ref br)) (P1 : Arv Z h0 br kb .byte zb (own_I ns) (.int 0)) :
    own_M l Z yN14 jdk_42_method_55_code 1 (some .boolean) ws (own_R 0 0 0 0) #[(.ref so)] h0 (Qise Z so br kb zb ns h0 n0) := by
  refine own_b (own := jS) rfl (plainFor_of_name pn_1) (fun m => efise m so) n0 fun p e s m below meth c s₁ Bd hZ hx hby hml hown X0 e0 N0 => ?_
  refine own_go (B := s₁.setTop (mkF m 1 #[.val (.ref so)] [(.ref so)])) (fun t k => ?_) ?_
  · refine XS.aloadN X0.here hx rfl (od hby dc7 0 rfl) rfl rfl ?_
    exact k
  obtain ⟨T341, X341, e341, st341⟩ := getF X0 hx hZ hown (host := "") (Or.inl (own_w hw 27 rfl)) Via.refl e0 P0 (g := (mkF m 1 #[.val (.ref so)] [(.ref so)])) rfl rfl (od hby dc7 1 rfl)
  refine own_go st341 ?_
  obtain ⟨cl342, Ar342, q342, S342, M342, Ha342, G342⟩ := id P1
  refine own_go (B := T341.setTop (mkF m 5 #[.val (.ref so)] [(.int zb)])) (fun t k => ?_) ?_
  · refine X341.arraylength hx (by rw [e341]; exact Ar342.1) (State.isArrayOf_alike hZ.alike Ar342.2.1) (g := (mkF m 4 #[.val (.ref so)] [(.ref br)])) rfl rfl (od hby dc7 2 rfl) _ ?_
    rw [len_of S342 M342]
    exact k
  by_cases hc5_343 : zb = (0 : Int32)
  · refine own_go (B := T341.setTop (mkF m 8 #[.val (.ref so)] [])) (fun t k => ?_) ?_
    · refine XS.ifNo X341.here hx rfl (od hby dc7 3 rfl) rfl ((if0 _ _).trans (teq hc5_343).2) ?_
      exact k
    refine own_go (B := T341.setTop (mkF m 13 #[.val (.ref so)] [(.int 1)])) (fun t k => ?_) ?_
    · refine XS.iconst X341.here hx rfl (od hby dc7 4 rfl) ?_
      refine XS.goto X341.here hx rfl (pc0 := 9) (pc' := 13) rfl (od hby dc7 5 rfl) (by decide) (by decide) ?_
      exact k
    exact own_rN (w := (1 : Int32)) Bd X341 hx (by simp) rfl (od hby dc7 6 rfl) (by rw [e341]; exact ⟨(by simp only [fise, if_pos hc5_343]), N0, rfl⟩) (by decide)
  · refine own_go (B := T341.setTop (mkF m 12 #[.val (.ref so)] [])) (fun t k => ?_) ?_
    · refine XS.ifYes X341.here hx rfl (pc0 := 5) (pc' := 12) rfl (od hby dc7 3 rfl) rfl ((if0 _ _).trans (feq hc5_343).2) (by decide) (by decide) ?_
      exact k
    refine own_go (B := T341.setTop (mkF m 13 #[.val (.ref so)] [(.int 0)])) (fun t k => ?_) ?_
    · refine XS.iconst X341.here hx rfl (od hby dc7 7 rfl) ?_
      exact k
    exact own_rN (w := (0 : Int32)) Bd X341 hx (by simp) rfl (od hby dc7 6 rfl) (by rw [e341]; exact ⟨(by simp only [fise, if_neg hc5_343]), N0, rfl⟩) (by decide)
def Qpci_n (Z : State) (ix zl : Int32) (ii mm : Nat) (h0 : Heap) (n0 : Nat) (v : Option Value) (h : Heap) (L : List Loc) : Prop := v = some (.int ix) ∧ Fr n0 L ∧ h = h0
theorem efpci_n (m : MethodId) (x0 : Int32) (x1 : Int32) : entryFrame m #[(.int x0), (.int x1), .null] 3 = mkF m 0 #[.val (.int x0), .val (.int x1), .val .null] [] := by first | (simp [entryFrame, mkF, argsToLocals, Value.category]; done) | rfl
set_option maxRecDepth 65536 in
set_option maxHeartbeats 40000000 in
theorem pci_n (l : Launch) (Z : State) (a0 : Array Value) (hw : own_HW a0 Z) (ws : List Jvm.Cond) (ix zl : Int32) (ii mm : Nat) (h0 : Heap) (n0 : Nat) (Z0 : n0 ≤ h0.size) (hi : ix.toInt = (ii : Int)) (hm : zl.toInt = (mm : Int)) (hlt : ii < mm) :
    own_M l Z yN15 jdk_41_method_11_code 3 (some .int) ws (own_R 0 0 0 0) #[(.int ix), (.int zl), .null] h0 (Qpci_n Z ix zl ii mm h0 n0) := by
  refine own_b (own := jP) rfl (plainFor_of_name pn_3) (fun m => efpci_n m ix zl) n0 fun p e s m below meth c s₁ Bd hZ hx hby hml hown X0 e0 N0 => ?_
  refine own_go (B := s₁.setTop (mkF m 1 #[.val (.int ix), .val (.int zl), .val .null] [(.int ix)])) (fun t k => ?_) ?_
  · refine XS.iloadN X0.here hx rfl (od hby dc19 0 rfl) rfl ?_
    exact k
  have hc1_344 : ¬ (ix < (0 : Int32)) := (own_nn hi)
  refine own_go (B := s₁.setTop (mkF m 6 #[.val (.int ix), .val (.int zl), .val .null] [(.int zl), (.int ix)])) (fun t k => ?_) ?_
  · refine XS.ifNo X0.here hx rfl (od hby dc19 1 rfl) rfl ((if0 _ _).trans (flt hc1_344).1) ?_
    refine XS.iloadN X0.here hx rfl (od hby dc19 2 rfl) rfl ?_
    refine XS.iloadN X0.here hx rfl (od hby dc19 3 rfl) rfl ?_
    exact k
  have hc6_345 : (ix < zl) := (own_ciL hi hm hlt)
  refine own_go (B := s₁.setTop (mkF m 17 #[.val (.int ix), .val (.int zl), .val .null] [(.int ix)])) (fun t k => ?_) ?_
  · refine XS.icmpYes X0.here hx rfl (pc0 := 6) (pc' := 16) rfl (od hby dc19 4 rfl) rfl (tlt hc6_345).1 (by decide) (by decide) ?_
    refine XS.iloadN X0.here hx rfl (od hby dc19 5 rfl) rfl ?_
    exact k
  exact own_rI Bd X0 hx (od hby dc19 6 rfl) (by rw [e0]; exact ⟨rfl, N0, rfl⟩) (by decide)
def Qsci_n (Z : State) (ix zl : Int32) (ii mm : Nat) (h0 : Heap) (n0 : Nat) (v : Option Value) (h : Heap) (L : List Loc) : Prop := v = none ∧ Fr n0 L ∧ h = h0
theorem efsci_n (m : MethodId) (x0 : Int32) (x1 : Int32) : entryFrame m #[(.int x0), (.int x1)] 2 = mkF m 0 #[.val (.int x0), .val (.int x1)] [] := by first | (simp [entryFrame, mkF, argsToLocals, Value.category]; done) | rfl
set_option maxRecDepth 65536 in
set_option maxHeartbeats 40000000 in
theorem sci_n (l : Launch) (Z : State) (a0 : Array Value) (hw : own_HW a0 Z) (ws : List Jvm.Cond) (ix zl : Int32) (ii mm : Nat) (h0 : Heap) (n0 : Nat) (Z0 : n0 ≤ h0.size) (P0 : Sta Z h0 jP "SIOOBE_FORMATTER" "Ljava/util/function/BiFunction;" .null) (hi : ix.toInt = (ii : Int)) (hm : zl.toInt = (mm : Int)) (hlt : ii < mm) :
    own_M l Z yN16 jdk_42_method_155_code 2 none ws (own_R 1 0 0 14) #[(.int ix), (.int zl)] h0 (Qsci_n Z ix zl ii mm h0 n0) := by
  refine own_b (own := jS) rfl (plainFor_of_name pn_1) (fun m => efsci_n m ix zl) n0 fun p e s m below meth c s₁ Bd hZ hx hby hml hown X0 e0 N0 => ?_
  refine own_go (B := s₁.setTop (mkF m 2 #[.val (.int ix), .val (.int zl)] [(.int zl), (.int ix)])) (fun t k => ?_) ?_
  · refine XS.iloadN X0.here hx rfl (od hby dc18 0 rfl) rfl ?_
    refine XS.iloadN X0.here hx rfl (od hby dc18 1 rfl) rfl ?_
    exact k
  obtain ⟨T346, X346, e346, st346⟩ := getS2 X0 hx hZ hown (host := "") (Or.inl (own_w hw 82 rfl)) Via.refl e0 P0 (g := (mkF m 2 #[.val (.int ix), .val (.int zl)] [(.int zl), (.int ix)])) rfl (od hby dc18 2 rfl)
  refine own_go st346 ?_
  obtain ⟨_, _, ⟨T347, L347, k347, n347⟩, -, X347, ⟨Lc347, hQ347, l347, y347, z347⟩, st347⟩ := Jvm.LawKit.callS X346 hx (y := yN15) hown (mvT hZ (own_w hw 84 rfl)) (mvT hZ (own_w hw 85 rfl)) (mvT hZ (own_w hw 83 rfl)) (mvT hZ (own_w hw 86 rfl)) (by decide) (backOf (W := 0) (pci_n l Z a0 hw [] ix zl ii mm h0 n0 Z0 hi hm hlt) hZ (own_w hw 86 rfl) (own_w hw 83 rfl) (by decide) (by decide)) (g := (mkF m 5 #[.val (.int ix), .val (.int zl)] [.null, (.int zl), (.int ix)])) rfl (by rw [hml]; rfl) (argsL := [(.int ix), (.int zl), .null]) (rest := []) (lenOf pd_10 rfl) rfl (own_W0 rfl) (od hby dc18 3 rfl) (fun _ _ => ⟨rfl, e346, (by decide : 0 + 0 ≤ _), (by decide : 0 + 0 ≤ _)⟩)
  dsimp only [Pt.U, Pt.locs, Pt.cells, Pt.slots] at X347 l347 y347 z347 st347 hQ347
  subst l347 y347 z347
  obtain ⟨rfl, Nq347, e347⟩ := hQ347
  have N347 := Fr.app N0 Nq347
  refine own_go (B := T347.setTop (mkF m 8 #[.val (.int ix), .val (.int zl)] [(.int ix)])) st347 ?_
  refine own_go (B := T347.setTop (mkF m 9 #[.val (.int ix), .val (.int zl)] [])) (fun t k => ?_) ?_
  · refine XS.pop X347.here hx rfl (od hby dc18 4 rfl) rfl rfl ?_
    exact k
  exact own_rV Bd X347 hx (od hby dc18 5 rfl) (by rw [e347]; exact ⟨rfl, N347, rfl⟩) (by decide)
def Qpci_r (Z : State) (ix zl : Int32) (fa : Addr) (ii mm : Nat) (h0 : Heap) (n0 : Nat) (v : Option Value) (h : Heap) (L : List Loc) : Prop := v = some (.int ix) ∧ Fr n0 L ∧ h = h0
theorem efpci_r (m : MethodId) (x0 : Int32) (x1 : Int32) (x2 : Addr) : entryFrame m #[(.int x0), (.int x1), (.ref x2)] 3 = mkF m 0 #[.val (.int x0), .val (.int x1), .val (.ref x2)] [] := by first | (simp [entryFrame, mkF, argsToLocals, Value.category]; done) | rfl
set_option maxRecDepth 65536 in
set_option maxHeartbeats 40000000 in
theorem pci_r (l : Launch) (Z : State) (a0 : Array Value) (hw : own_HW a0 Z) (ws : List Jvm.Cond) (ix zl : Int32) (fa : Addr) (ii mm : Nat) (h0 : Heap) (n0 : Nat) (Z0 : n0 ≤ h0.size) (hi : ix.toInt = (ii : Int)) (hm : zl.toInt = (mm : Int)) (hlt : ii < mm) :
    own_M l Z yN15 jdk_41_method_11_code 3 (some .int) ws (own_R 0 0 0 0) #[(.int ix), (.int zl), (.ref fa)] h0 (Qpci_r Z ix zl fa ii mm h0 n0) := by
  refine own_b (own := jP) rfl (plainFor_of_name pn_3) (fun m => efpci_r m ix zl fa) n0 fun p e s m below meth c s₁ Bd hZ hx hby hml hown X0 e0 N0 => ?_
  refine own_go (B := s₁.setTop (mkF m 1 #[.val (.int ix), .val (.int zl), .val (.ref fa)] [(.int ix)])) (fun t k => ?_) ?_
  · refine XS.iloadN X0.here hx rfl (od hby dc19 0 rfl) rfl ?_
    exact k
  have hc1_348 : ¬ (ix < (0 : Int32)) := (own_nn hi)
  refine own_go (B := s₁.setTop (mkF m 6 #[.val (.int ix), .val (.int zl), .val (.ref fa)] [(.int zl), (.int ix)])) (fun t k => ?_) ?_
  · refine XS.ifNo X0.here hx rfl (od hby dc19 1 rfl) rfl ((if0 _ _).trans (flt hc1_348).1) ?_
    refine XS.iloadN X0.here hx rfl (od hby dc19 2 rfl) rfl ?_
    refine XS.iloadN X0.here hx rfl (od hby dc19 3 rfl) rfl ?_
    exact k
  have hc6_349 : (ix < zl) := (own_ciL hi hm hlt)
  refine own_go (B := s₁.setTop (mkF m 17 #[.val (.int ix), .val (.int zl), .val (.ref fa)] [(.int ix)])) (fun t k => ?_) ?_
  · refine XS.icmpYes X0.here hx rfl (pc0 := 6) (pc' := 16) rfl (od hby dc19 4 rfl) rfl (tlt hc6_349).1 (by decide) (by decide) ?_
    refine XS.iloadN X0.here hx rfl (od hby dc19 5 rfl) rfl ?_
    exact k
  exact own_rI Bd X0 hx (od hby dc19 6 rfl) (by rw [e0]; exact ⟨rfl, N0, rfl⟩) (by decide)
def Qsci_r (Z : State) (ix zl : Int32) (fa : Addr) (ii mm : Nat) (h0 : Heap) (n0 : Nat) (v : Option Value) (h : Heap) (L : List Loc) : Prop := v = none ∧ Fr n0 L ∧ h = h0
theorem efsci_r (m : MethodId) (x0 : Int32) (x1 : Int32) : entryFrame m #[(.int x0), (.int x1)] 2 = mkF m 0 #[.val (.int x0), .val (.int x1)] [] := by first | (simp [entryFrame, mkF, argsToLocals, Value.category]; done) | rfl
set_option maxRecDepth 65536 in
set_option maxHeartbeats 40000000 in
theorem sci_r (l : Launch) (Z : State) (a0 : Array Value) (hw : own_HW a0 Z) (ws : List Jvm.Cond) (ix zl : Int32) (fa : Addr) (ii mm : Nat) (h0 : Heap) (n0 : Nat) (Z0 : n0 ≤ h0.size) (P0 : Sta Z h0 jP "SIOOBE_FORMATTER" "Ljava/util/function/BiFunction;" (.ref fa)) (hi : ix.toInt = (ii : Int)) (hm : zl.toInt = (mm : Int)) (hlt : ii < mm) :
    own_M l Z yN16 jdk_42_method_155_code 2 none ws (own_R 1 0 0 14) #[(.int ix), (.int zl)] h0 (Qsci_r Z ix zl fa ii mm h0 n0) := by
  refine own_b (own := jS) rfl (plainFor_of_name pn_1) (fun m => efsci_r m ix zl) n0 fun p e s m below meth c s₁ Bd hZ hx hby hml hown X0 e0 N0 => ?_
  refine own_go (B := s₁.setTop (mkF m 2 #[.val (.int ix), .val (.int zl)] [(.int zl), (.int ix)])) (fun t k => ?_) ?_
  · refine XS.iloadN X0.here hx rfl (od hby dc18 0 rfl) rfl ?_
    refine XS.iloadN X0.here hx rfl (od hby dc18 1 rfl) rfl ?_
    exact k
  obtain ⟨T350, X350, e350, st350⟩ := getS2 X0 hx hZ hown (host := "") (Or.inl (own_w hw 82 rfl)) Via.refl e0 P0 (g := (mkF m 2 #[.val (.int ix), .val (.int zl)] [(.int zl), (.int ix)])) rfl (od hby dc18 2 rfl)
  refine own_go st350 ?_
  obtain ⟨_, _, ⟨T351, L351, k351, n351⟩, -, X351, ⟨Lc351, hQ351, l351, y351, z351⟩, st351⟩ := Jvm.LawKit.callS X350 hx (y := yN15) hown (mvT hZ (own_w hw 84 rfl)) (mvT hZ (own_w hw 85 rfl)) (mvT hZ (own_w hw 83 rfl)) (mvT hZ (own_w hw 86 rfl)) (by decide) (backOf (W := 0) (pci_r l Z a0 hw [] ix zl fa ii mm h0 n0 Z0 hi hm hlt) hZ (own_w hw 86 rfl) (own_w hw 83 rfl) (by decide) (by decide)) (g := (mkF m 5 #[.val (.int ix), .val (.int zl)] [(.ref fa), (.int zl), (.int ix)])) rfl (by rw [hml]; rfl) (argsL := [(.int ix), (.int zl), (.ref fa)]) (rest := []) (lenOf pd_10 rfl) rfl (own_W0 rfl) (od hby dc18 3 rfl) (fun _ _ => ⟨rfl, e350, (by decide : 0 + 0 ≤ _), (by decide : 0 + 0 ≤ _)⟩)
  dsimp only [Pt.U, Pt.locs, Pt.cells, Pt.slots] at X351 l351 y351 z351 st351 hQ351
  subst l351 y351 z351
  obtain ⟨rfl, Nq351, e351⟩ := hQ351
  have N351 := Fr.app N0 Nq351
  refine own_go (B := T351.setTop (mkF m 8 #[.val (.int ix), .val (.int zl)] [(.int ix)])) st351 ?_
  refine own_go (B := T351.setTop (mkF m 9 #[.val (.int ix), .val (.int zl)] [])) (fun t k => ?_) ?_
  · refine XS.pop X351.here hx rfl (od hby dc18 4 rfl) rfl rfl ?_
    exact k
  exact own_rV Bd X351 hx (od hby dc18 5 rfl) (by rw [e351]; exact ⟨rfl, N351, rfl⟩) (by decide)
def Qsci (Z : State) (ix zl : Int32) (ii mm : Nat) (h0 : Heap) (n0 : Nat) (v : Option Value) (h : Heap) (L : List Loc) : Prop := v = none ∧ Fr n0 L ∧ h = h0
theorem sci (l : Launch) (Z : State) (a0 : Array Value) (hw : own_HW a0 Z) (ws : List Jvm.Cond) (ix zl : Int32) (ii mm : Nat) (h0 : Heap) (n0 : Nat) (Z0 : n0 ≤ h0.size) (P0 : own_SI Z h0) (hi : ix.toInt = (ii : Int)) (hm : zl.toInt = (mm : Int)) (hlt : ii < mm) :
    own_M l Z yN16 jdk_42_method_155_code 2 none ws (own_R 1 0 0 14) #[(.int ix), (.int zl)] h0 (Qsci Z ix zl ii mm h0 n0) := by
  rcases P0 with P | ⟨fa, P⟩
  · exact sci_n l Z a0 hw ws ix zl ii mm h0 n0 Z0 P hi hm hlt
  · exact sci_r l Z a0 hw ws ix zl fa ii mm h0 n0 Z0 P hi hm hlt
def Qlca (Z : State) (br : Addr) (ix : Int32) (kb : ClassId) (zl : Int32) (ns : List Int32) (ii mm : Nat) (h0 : Heap) (n0 : Nat) (v : Option Value) (h : Heap) (L : List Loc) : Prop := v = some (.int (own_g8 (ns.getD ii 0))) ∧ Fr n0 L ∧ h = h0
theorem eflca (m : MethodId) (x0 : Addr) (x1 : Int32) : entryFrame m #[(.ref x0), (.int x1)] 2 = mkF m 0 #[.val (.ref x0), .val (.int x1)] [] := by first | (simp [entryFrame, mkF, argsToLocals, Value.category]; done) | rfl
set_option maxRecDepth 65536 in
set_option maxHeartbeats 40000000 in
theorem lca (l : Launch) (Z : State) (a0 : Array Value) (hw : own_HW a0 Z) (ws : List Jvm.Cond) (br : Addr) (ix : Int32) (kb : ClassId) (zl : Int32) (ns : List Int32) (ii mm : Nat) (h0 : Heap) (n0 : Nat) (Z0 : n0 ≤ h0.size) (P0 : own_SI Z h0) (P1 : Arv Z h0 br kb .byte zl (own_I ns) (.int 0)) (hi : ix.toInt = (ii : Int)) (hm : zl.toInt = (mm : Int)) (hlt : ii < mm) :
    own_M l Z yN17 jdk_43_method_2_code 2 (some .char) ws (own_R 2 0 0 27) #[(.ref br), (.int ix)] h0 (Qlca Z br ix kb zl ns ii mm h0 n0) := by
  refine own_b (own := jX) rfl (plainFor_of_name pn_4) (fun m => eflca m br ix) n0 fun p e s m below meth c s₁ Bd hZ hx hby hml hown X0 e0 N0 => ?_
  refine own_go (B := s₁.setTop (mkF m 2 #[.val (.ref br), .val (.int ix)] [(.ref br), (.int ix)])) (fun t k => ?_) ?_
  · refine XS.iloadN X0.here hx rfl (od hby dc17 0 rfl) rfl ?_
    refine XS.aloadN X0.here hx rfl (od hby dc17 1 rfl) rfl rfl ?_
    exact k
  obtain ⟨cl352, Ar352, q352, S352, M352, Ha352, G352⟩ := id P1
  refine own_go (B := s₁.setTop (mkF m 3 #[.val (.ref br), .val (.int ix)] [(.int zl), (.int ix)])) (fun t k => ?_) ?_
  · refine X0.arraylength hx (by rw [e0]; exact Ar352.1) (State.isArrayOf_alike hZ.alike Ar352.2.1) (g := (mkF m 2 #[.val (.ref br), .val (.int ix)] [(.ref br), (.int ix)])) rfl rfl (od hby dc17 2 rfl) _ ?_
    rw [len_of S352 M352]
    exact k
  obtain ⟨_, _, ⟨T353, L353, k353, n353⟩, -, X353, ⟨Lc353, hQ353, l353, y353, z353⟩, st353⟩ := Jvm.LawKit.callS X0 hx (y := yN16) hown (mvT hZ (own_w hw 79 rfl)) (mvT hZ (own_w hw 80 rfl)) (mvT hZ (own_w hw 9 rfl)) (mvT hZ (own_w hw 81 rfl)) (by decide) (backOf (W := 0) (sci l Z a0 hw [] ix zl ii mm h0 n0 Z0 P0 hi hm hlt) hZ (own_w hw 81 rfl) (own_w hw 9 rfl) (by decide) (by decide)) (g := (mkF m 3 #[.val (.ref br), .val (.int ix)] [(.int zl), (.int ix)])) rfl (by rw [hml]; rfl) (argsL := [(.int ix), (.int zl)]) (rest := []) (lenOf pd_11 rfl) rfl (own_W0 rfl) (od hby dc17 3 rfl) (fun _ _ => ⟨rfl, e0, (by decide : 0 + 0 ≤ _), (by decide : 0 + 0 ≤ _)⟩)
  dsimp only [Pt.U, Pt.locs, Pt.cells, Pt.slots] at X353 l353 y353 z353 st353 hQ353
  subst l353 y353 z353
  obtain ⟨rfl, Nq353, e353⟩ := hQ353
  have N353 := Fr.app N0 Nq353
  refine own_go (B := T353.setTop (mkF m 6 #[.val (.ref br), .val (.int ix)] [])) st353 ?_
  refine own_go (B := T353.setTop (mkF m 8 #[.val (.ref br), .val (.int ix)] [(.int ix), (.ref br)])) (fun t k => ?_) ?_
  · refine XS.aloadN X353.here hx rfl (od hby dc17 4 rfl) rfl rfl ?_
    refine XS.iloadN X353.here hx rfl (od hby dc17 5 rfl) rfl ?_
    exact k
  obtain ⟨cl354, Ar354, q354, S354, M354, Ha354, G354⟩ := id P1
  have hin354 : ¬ (ix < 0 ∨ cl354.slots.size ≤ (ix).toNatClampNeg) := inb_of S354 (own_jb hi hm hlt)
  refine own_go (X353.baloadBytes hx (j := ix) (v := (.int (ns.getD (ii) 0))) (by rw [e353]; exact Ar354.1) (State.isArrayOf_alike hZ.alike Ar354.2.1) Ar354.2.2 hin354 (Has.at Ha354 hin354 (own_getI2 _ (own_jn hi))) (g := (mkF m 8 #[.val (.ref br), .val (.int ix)] [(.int ix), (.ref br)])) rfl rfl (od hby dc17 6 rfl)) ?_
  refine own_go (B := T353.setTop (mkF m 14 #[.val (.ref br), .val (.int ix)] [(.int (((ns.getD (ii) 0) &&& (255 : Int32)).toUInt32.toUInt16.toUInt32.toInt32))])) (fun t k => ?_) ?_
  · refine XS.sipush X353.here hx rfl (od hby dc17 7 rfl) ?_
    refine XS.iand X353.here hx rfl (od hby dc17 8 rfl) rfl ?_
    refine XS.i2c X353.here hx rfl (od hby dc17 9 rfl) rfl ?_
    exact k
  exact own_rN (w := (nar .char (((ns.getD (ii) 0) &&& (255 : Int32)).toUInt32.toUInt16.toUInt32.toInt32))) Bd X353 hx (by simp) rfl (od hby dc17 10 rfl) (by rw [e353]; exact ⟨rfl, N353, rfl⟩) (by decide)
def Qule (Z : State) (br : Addr) (kb : ClassId) (zb : Int32) (ns : List Int32) (zl : Int32) (h0 : Heap) (n0 : Nat) (v : Option Value) (h : Heap) (L : List Loc) : Prop := v = some (.int zl) ∧ Fr n0 L ∧ h = h0
theorem efule (m : MethodId) (x0 : Addr) : entryFrame m #[(.ref x0)] 1 = mkF m 0 #[.val (.ref x0)] [] := by first | (simp [entryFrame, mkF, argsToLocals, Value.category]; done) | rfl
set_option maxRecDepth 65536 in
set_option maxHeartbeats 40000000 in
theorem ule (l : Launch) (Z : State) (a0 : Array Value) (hw : own_HW a0 Z) (ws : List Jvm.Cond) (br : Addr) (kb : ClassId) (zb : Int32) (ns : List Int32) (zl : Int32) (h0 : Heap) (n0 : Nat) (Z0 : n0 ≤ h0.size) (P0 : Arv Z h0 br kb .byte zb (own_I ns) (.int 0)) (hln : (zb >>> ((1 : Int32) &&& 31)) = zl) :
    own_M l Z yN18 jdk_52_method_6_code 1 (some .int) ws (own_R 0 0 0 0) #[(.ref br)] h0 (Qule Z br kb zb ns zl h0 n0) := by
  refine own_b (own := jU) rfl (plainFor_of_name pn_0) (fun m => efule m br) n0 fun p e s m below meth c s₁ Bd hZ hx hby hml hown X0 e0 N0 => ?_
  refine own_go (B := s₁.setTop (mkF m 1 #[.val (.ref br)] [(.ref br)])) (fun t k => ?_) ?_
  · refine XS.aloadN X0.here hx rfl (od hby dc52 0 rfl) rfl rfl ?_
    exact k
  obtain ⟨cl355, Ar355, q355, S355, M355, Ha355, G355⟩ := id P0
  refine own_go (B := s₁.setTop (mkF m 2 #[.val (.ref br)] [(.int zb)])) (fun t k => ?_) ?_
  · refine X0.arraylength hx (by rw [e0]; exact Ar355.1) (State.isArrayOf_alike hZ.alike Ar355.2.1) (g := (mkF m 1 #[.val (.ref br)] [(.ref br)])) rfl rfl (od hby dc52 1 rfl) _ ?_
    rw [len_of S355 M355]
    exact k
  refine own_go (B := s₁.setTop (mkF m 4 #[.val (.ref br)] [(.int (zb >>> ((1 : Int32) &&& 31)))])) (fun t k => ?_) ?_
  · refine XS.iconst X0.here hx rfl (od hby dc52 2 rfl) ?_
    refine XS.ishr X0.here hx rfl (od hby dc52 3 rfl) rfl ?_
    exact k
  exact own_rI Bd X0 hx (od hby dc52 4 rfl) (by rw [e0]; exact ⟨(by rw [← hln]), N0, rfl⟩) (by decide)
def Quci (Z : State) (ix : Int32) (br : Addr) (kb : ClassId) (zb : Int32) (ns : List Int32) (zl : Int32) (ii mm : Nat) (h0 : Heap) (n0 : Nat) (v : Option Value) (h : Heap) (L : List Loc) : Prop := v = none ∧ Fr n0 L ∧ h = h0
theorem efuci (m : MethodId) (x0 : Int32) (x1 : Addr) : entryFrame m #[(.int x0), (.ref x1)] 2 = mkF m 0 #[.val (.int x0), .val (.ref x1)] [] := by first | (simp [entryFrame, mkF, argsToLocals, Value.category]; done) | rfl
set_option maxRecDepth 65536 in
set_option maxHeartbeats 40000000 in
theorem uci (l : Launch) (Z : State) (a0 : Array Value) (hw : own_HW a0 Z) (ws : List Jvm.Cond) (ix : Int32) (br : Addr) (kb : ClassId) (zb : Int32) (ns : List Int32) (zl : Int32) (ii mm : Nat) (h0 : Heap) (n0 : Nat) (Z0 : n0 ≤ h0.size) (P0 : own_SI Z h0) (P1 : Arv Z h0 br kb .byte zb (own_I ns) (.int 0)) (hi : ix.toInt = (ii : Int)) (hm : zl.toInt = (mm : Int)) (hlt : ii < mm) (hln : (zb >>> ((1 : Int32) &&& 31)) = zl) :
    own_M l Z yN19 jdk_52_method_91_code 2 none ws (own_R 2 0 0 27) #[(.int ix), (.ref br)] h0 (Quci Z ix br kb zb ns zl ii mm h0 n0) := by
  refine own_b (own := jU) rfl (plainFor_of_name pn_0) (fun m => efuci m ix br) n0 fun p e s m below meth c s₁ Bd hZ hx hby hml hown X0 e0 N0 => ?_
  refine own_go (B := s₁.setTop (mkF m 2 #[.val (.int ix), .val (.ref br)] [(.ref br), (.int ix)])) (fun t k => ?_) ?_
  · refine XS.iloadN X0.here hx rfl (od hby dc51 0 rfl) rfl ?_
    refine XS.aloadN X0.here hx rfl (od hby dc51 1 rfl) rfl rfl ?_
    exact k
  obtain ⟨_, _, ⟨T356, L356, k356, n356⟩, -, X356, ⟨Lc356, hQ356, l356, y356, z356⟩, st356⟩ := Jvm.LawKit.callS X0 hx (y := yN18) hown (mvT hZ (own_w hw 239 rfl)) (mvT hZ (own_w hw 240 rfl)) (mvT hZ (own_w hw 44 rfl)) (mvT hZ (own_w hw 241 rfl)) (by decide) (backOf (W := 1) (ule l Z a0 hw [] br kb zb ns zl h0 n0 Z0 P1 hln) hZ (own_w hw 241 rfl) (own_w hw 44 rfl) (by decide) (by decide)) (g := (mkF m 2 #[.val (.int ix), .val (.ref br)] [(.ref br), (.int ix)])) rfl (by rw [hml]; rfl) (argsL := [(.ref br)]) (rest := [(.int ix)]) (lenOf pd_12 rfl) rfl (own_W0 rfl) (od hby dc51 2 rfl) (fun _ _ => ⟨rfl, e0, (by decide : 0 + 0 ≤ _), (by decide : 0 + 0 ≤ _)⟩)
  dsimp only [Pt.U, Pt.locs, Pt.cells, Pt.slots] at X356 l356 y356 z356 st356 hQ356
  subst l356 y356 z356
  obtain ⟨rfl, Nq356, e356⟩ := hQ356
  have N356 := Fr.app N0 Nq356
  refine own_go (B := T356.setTop (mkF m 5 #[.val (.int ix), .val (.ref br)] [(.int zl), (.int ix)])) st356 ?_
  obtain ⟨_, _, ⟨T357, L357, k357, n357⟩, -, X357, ⟨Lc357, hQ357, l357, y357, z357⟩, st357⟩ := Jvm.LawKit.callS X356 hx (y := yN16) hown (mvT hZ (own_w hw 242 rfl)) (mvT hZ (own_w hw 80 rfl)) (mvT hZ (own_w hw 9 rfl)) (mvT hZ (own_w hw 81 rfl)) (by decide) (backOf (W := 0) (sci l Z a0 hw [] ix zl ii mm h0 n0 Z0 P0 hi hm hlt) hZ (own_w hw 81 rfl) (own_w hw 9 rfl) (by decide) (by decide)) (g := (mkF m 5 #[.val (.int ix), .val (.ref br)] [(.int zl), (.int ix)])) rfl (by rw [hml]; rfl) (argsL := [(.int ix), (.int zl)]) (rest := []) (lenOf pd_11 rfl) rfl (own_W0 rfl) (od hby dc51 3 rfl) (fun _ _ => ⟨rfl, e356, (by decide : 0 + 0 ≤ _), (by decide : 0 + 0 ≤ _)⟩)
  dsimp only [Pt.U, Pt.locs, Pt.cells, Pt.slots] at X357 l357 y357 z357 st357 hQ357
  subst l357 y357 z357
  obtain ⟨rfl, Nq357, e357⟩ := hQ357
  have N357 := Fr.app N356 Nq357
  refine own_go (B := T357.setTop (mkF m 8 #[.val (.int ix), .val (.ref br)] [])) st357 ?_
  exact own_rV Bd X357 hx (od hby dc51 4 rfl) (by rw [e357]; exact ⟨rfl, N357, rfl⟩) (by decide)
def Quca (Z : State) (br : Addr) (ix : Int32) (kb : ClassId) (zb : Int32) (ns : List Int32) (zl : Int32) (ii mm : Nat) (h0 : Heap) (n0 : Nat) (v : Option Value) (h : Heap) (L : List Loc) : Prop := v = some (.int (own_gc (ns.getD (2 * ii) 0) (ns.getD (2 * ii + 1) 0))) ∧ Fr n0 L ∧ h = h0
theorem efuca (m : MethodId) (x0 : Addr) (x1 : Int32) : entryFrame m #[(.ref x0), (.int x1)] 2 = mkF m 0 #[.val (.ref x0), .val (.int x1)] [] := by first | (simp [entryFrame, mkF, argsToLocals, Value.category]; done) | rfl
set_option maxRecDepth 65536 in
set_option maxHeartbeats 40000000 in
theorem uca (l : Launch) (Z : State) (a0 : Array Value) (hw : own_HW a0 Z) (ws : List Jvm.Cond) (br : Addr) (ix : Int32) (kb : ClassId) (zb : Int32) (ns : List Int32) (zl : Int32) (ii mm : Nat) (h0 : Heap) (n0 : Nat) (Z0 : n0 ≤ h0.size) (P0 : own_SI Z h0) (P1 : Arv Z h0 br kb .byte zb (own_I ns) (.int 0)) (P2 : Sta Z h0 jU "$assertionsDisabled" "Z" (.int 1)) (P3 : Sta Z h0 jU "HI_BYTE_SHIFT" "I" (.int 0)) (P4 : Sta Z h0 jU "LO_BYTE_SHIFT" "I" (.int 8)) (hi : ix.toInt = (ii : Int)) (hm : zl.toInt = (mm : Int)) (hlt : ii < mm) (hln : (zb >>> ((1 : Int32) &&& 31)) = zl) (hzb : zb.toInt = ((2 * mm : Nat) : Int)) (hnl : ns.length = 2 * mm) (hs : mm < 100000) :
    own_M l Z yN20 jdk_52_method_83_code 2 (some .char) ws (own_R 3 0 0 40) #[(.ref br), (.int ix)] h0 (Quca Z br ix kb zb ns zl ii mm h0 n0) := by
  refine own_b (own := jU) rfl (plainFor_of_name pn_0) (fun m => efuca m br ix) n0 fun p e s m below meth c s₁ Bd hZ hx hby hml hown X0 e0 N0 => ?_
  refine own_go (B := s₁.setTop (mkF m 2 #[.val (.ref br), .val (.int ix)] [(.ref br), (.int ix)])) (fun t k => ?_) ?_
  · refine XS.iloadN X0.here hx rfl (od hby dc50 0 rfl) rfl ?_
    refine XS.aloadN X0.here hx rfl (od hby dc50 1 rfl) rfl rfl ?_
    exact k
  obtain ⟨_, _, ⟨T358, L358, k358, n358⟩, -, X358, ⟨Lc358, hQ358, l358, y358, z358⟩, st358⟩ := Jvm.LawKit.callS X0 hx (y := yN19) hown (mvT hZ (own_w hw 236 rfl)) (mvT hZ (own_w hw 237 rfl)) (mvT hZ (own_w hw 44 rfl)) (mvT hZ (own_w hw 238 rfl)) (by decide) (backOf (W := 0) (uci l Z a0 hw [] ix br kb zb ns zl ii mm h0 n0 Z0 P0 P1 hi hm hlt hln) hZ (own_w hw 238 rfl) (own_w hw 44 rfl) (by decide) (by decide)) (g := (mkF m 2 #[.val (.ref br), .val (.int ix)] [(.ref br), (.int ix)])) rfl (by rw [hml]; rfl) (argsL := [(.int ix), (.ref br)]) (rest := []) (lenOf pd_13 rfl) rfl (own_W0 rfl) (od hby dc50 2 rfl) (fun _ _ => ⟨rfl, e0, (by decide : 0 + 0 ≤ _), (by decide : 0 + 0 ≤ _)⟩)
  dsimp only [Pt.U, Pt.locs, Pt.cells, Pt.slots] at X358 l358 y358 z358 st358 hQ358
  subst l358 y358 z358
  obtain ⟨rfl, Nq358, e358⟩ := hQ358
  have N358 := Fr.app N0 Nq358
  refine own_go (B := T358.setTop (mkF m 5 #[.val (.ref br), .val (.int ix)] [])) st358 ?_
  refine own_go (B := T358.setTop (mkF m 7 #[.val (.ref br), .val (.int ix)] [(.int ix), (.ref br)])) (fun t k => ?_) ?_
  · refine XS.aloadN X358.here hx rfl (od hby dc50 3 rfl) rfl rfl ?_
    refine XS.iloadN X358.here hx rfl (od hby dc50 4 rfl) rfl ?_
    exact k
  obtain ⟨_, _, ⟨T359, L359, k359, n359⟩, -, X359, ⟨Lc359, hQ359, l359, y359, z359⟩, st359⟩ := Jvm.LawKit.callS X358 hx (y := yN1) hown (mvT hZ (own_w hw 230 rfl)) (mvT hZ (own_w hw 231 rfl)) (mvT hZ (own_w hw 44 rfl)) (mvT hZ (own_w hw 232 rfl)) (by decide) (backOf (W := 0) (gch l Z a0 hw [] br ix kb zb ns ii (2 * mm) h0 n0 Z0 P1 P2 P3 P4 hi (by omega) hzb (by omega) hnl) hZ (own_w hw 232 rfl) (own_w hw 44 rfl) (by decide) (by decide)) (g := (mkF m 7 #[.val (.ref br), .val (.int ix)] [(.int ix), (.ref br)])) rfl (by rw [hml]; rfl) (argsL := [(.ref br), (.int ix)]) (rest := []) (lenOf pd_5 rfl) rfl (own_W0 rfl) (od hby dc50 5 rfl) (fun _ _ => ⟨rfl, e358, (by decide : 0 + 0 ≤ _), (by decide : 0 + 0 ≤ _)⟩)
  dsimp only [Pt.U, Pt.locs, Pt.cells, Pt.slots] at X359 l359 y359 z359 st359 hQ359
  subst l359 y359 z359
  obtain ⟨rfl, Nq359, e359⟩ := hQ359
  have N359 := Fr.app N358 Nq359
  refine own_go (B := T359.setTop (mkF m 10 #[.val (.ref br), .val (.int ix)] [(.int (own_gc (ns.getD (2 * ii) 0) (ns.getD (2 * ii + 1) 0)))])) st359 ?_
  exact own_rN (w := (nar .char (own_gc (ns.getD (2 * ii) 0) (ns.getD (2 * ii + 1) 0)))) Bd X359 hx (by simp) rfl (od hby dc50 6 rfl) (by rw [e359]; exact ⟨(by rw [own_ncc]), N359, rfl⟩) (by decide)
def QchL (Z : State) (so : Addr) (ix : Int32) (br : Addr) (kb : ClassId) (zl : Int32) (ns : List Int32) (cs : Int32) (ii mm : Nat) (h0 : Heap) (n0 : Nat) (v : Option Value) (h : Heap) (L : List Loc) : Prop := v = some (.int (own_g8 (ns.getD ii 0))) ∧ Fr n0 L ∧ h = h0
theorem efchL (m : MethodId) (x0 : Addr) (x1 : Int32) : entryFrame m #[(.ref x0), (.int x1)] 2 = mkF m 0 #[.val (.ref x0), .val (.int x1)] [] := by first | (simp [entryFrame, mkF, argsToLocals, Value.category]; done) | rfl
set_option maxRecDepth 65536 in
set_option maxHeartbeats 40000000 in
theorem chL (l : Launch) (Z : State) (a0 : Array Value) (hw : own_HW a0 Z) (ws : List Jvm.Cond) (so : Addr) (ix : Int32) (br : Addr) (kb : ClassId) (zl : Int32) (ns : List Int32) (cs : Int32) (ii mm : Nat) (h0 : Heap) (n0 : Nat) (Z0 : n0 ≤ h0.size) (P0 : Exa Z h0 so jS) (P1 : Fld Z h0 so jS "coder" "B" (.int 0)) (P2 : Fld Z h0 so jS "value" "[B" (.ref br)) (P3 : Arv Z h0 br kb .byte zl (own_I ns) (.int 0)) (P4 : Sta Z h0 jS "COMPACT_STRINGS" "Z" (.int cs)) (P5 : own_SI Z h0) (hi : ix.toInt = (ii : Int)) (hm : zl.toInt = (mm : Int)) (hlt : ii < mm) (hcs : cs ≠ (0 : Int32)) :
    own_M l Z yN21 jdk_42_method_56_code 2 (some .char) ws (own_R 3 0 0 40) #[(.ref so), (.int ix)] h0 (QchL Z so ix br kb zl ns cs ii mm h0 n0) := by
  refine own_b (own := jS) rfl (plainFor_of_name pn_1) (fun m => efchL m so ix) n0 fun p e s m below meth c s₁ Bd hZ hx hby hml hown X0 e0 N0 => ?_
  refine own_go (B := s₁.setTop (mkF m 1 #[.val (.ref so), .val (.int ix)] [(.ref so)])) (fun t k => ?_) ?_
  · refine XS.aloadN X0.here hx rfl (od hby dc15 0 rfl) rfl rfl ?_
    exact k
  obtain ⟨cq360, kq360, q360a, q360b, q360c⟩ := isOf hZ e0 P0
  obtain ⟨_, _, ⟨T360, L360, k360, n360⟩, -, X360, ⟨Lc360, hQ360, l360, y360, z360⟩, st360⟩ := X0.virtualBack hx (y := yN13) (z := yN13) hown (mvT hZ (own_w hw 70 rfl)) (mvT hZ (own_w hw 71 rfl)) (notFace_of_selects (args := #[]) (mvT hZ (own_w hw 73 rfl))) (mvT hZ (own_w hw 73 rfl)) (mvT hZ (own_w hw 72 rfl)) (by decide) (backOf (W := 0) (isl_0 l Z a0 hw [] so cs h0 n0 Z0 P1 P4 hcs) hZ (own_w hw 74 rfl) (own_w hw 9 rfl) (by decide) (by decide)) q360a q360c (g := (mkF m 1 #[.val (.ref so), .val (.int ix)] [(.ref so)])) rfl (by rw [hml]; rfl) (Steps.refl _) (argsL := []) (rest := []) (lenOf pd_14 rfl) rfl (own_W0 rfl) (od hby dc15 1 rfl) (fun _ _ => ⟨rfl, e0, (by decide : 0 + 0 ≤ _), (by decide : 0 + 0 ≤ _)⟩)
  dsimp only [Pt.U, Pt.locs, Pt.cells, Pt.slots] at X360 l360 y360 z360 st360 hQ360
  subst l360 y360 z360
  obtain ⟨rfl, Nq360, e360⟩ := hQ360
  have N360 := Fr.app N0 Nq360
  refine own_go (B := T360.setTop (mkF m 4 #[.val (.ref so), .val (.int ix)] [(.int 1)])) (fun t k => st360.trans k) ?_
  refine own_go (B := T360.setTop (mkF m 8 #[.val (.ref so), .val (.int ix)] [(.ref so)])) (fun t k => ?_) ?_
  · refine XS.ifNo X360.here hx rfl (od hby dc15 2 rfl) rfl ((if0 _ _).trans (feq (by decide : ¬ ((1 : Int32) = (0 : Int32)))).1) ?_
    refine XS.aloadN X360.here hx rfl (od hby dc15 3 rfl) rfl rfl ?_
    exact k
  obtain ⟨T362, X362, e362, st362⟩ := getF X360 hx hZ hown (host := "") (Or.inl (own_w hw 27 rfl)) Via.refl e360 P2 (g := (mkF m 8 #[.val (.ref so), .val (.int ix)] [(.ref so)])) rfl rfl (od hby dc15 4 rfl)
  refine own_go st362 ?_
  refine own_go (B := T362.setTop (mkF m 12 #[.val (.ref so), .val (.int ix)] [(.int ix), (.ref br)])) (fun t k => ?_) ?_
  · refine XS.iloadN X362.here hx rfl (od hby dc15 5 rfl) rfl ?_
    exact k
  obtain ⟨_, _, ⟨T363, L363, k363, n363⟩, -, X363, ⟨Lc363, hQ363, l363, y363, z363⟩, st363⟩ := Jvm.LawKit.callS X362 hx (y := yN17) hown (mvT hZ (own_w hw 75 rfl)) (mvT hZ (own_w hw 76 rfl)) (mvT hZ (own_w hw 77 rfl)) (mvT hZ (own_w hw 78 rfl)) (by decide) (backOf (W := 0) (lca l Z a0 hw [] br ix kb zl ns ii mm h0 n0 Z0 P5 P3 hi hm hlt) hZ (own_w hw 78 rfl) (own_w hw 77 rfl) (by decide) (by decide)) (g := (mkF m 12 #[.val (.ref so), .val (.int ix)] [(.int ix), (.ref br)])) rfl (by rw [hml]; rfl) (argsL := [(.ref br), (.int ix)]) (rest := []) (lenOf pd_5 rfl) rfl (own_W0 rfl) (od hby dc15 6 rfl) (fun _ _ => ⟨rfl, e362, (by decide : 0 + 0 ≤ _), (by decide : 0 + 0 ≤ _)⟩)
  dsimp only [Pt.U, Pt.locs, Pt.cells, Pt.slots] at X363 l363 y363 z363 st363 hQ363
  subst l363 y363 z363
  obtain ⟨rfl, Nq363, e363⟩ := hQ363
  have N363 := Fr.app N360 Nq363
  refine own_go (B := T363.setTop (mkF m 15 #[.val (.ref so), .val (.int ix)] [(.int (own_g8 (ns.getD ii 0)))])) st363 ?_
  exact own_rN (w := (nar .char (own_g8 (ns.getD ii 0)))) Bd X363 hx (by simp) rfl (od hby dc15 7 rfl) (by rw [e363]; exact ⟨(by rw [own_nc8]), N363, rfl⟩) (by decide)
def QchU (Z : State) (so : Addr) (ix : Int32) (br : Addr) (kb : ClassId) (zb : Int32) (ns : List Int32) (cs zl : Int32) (ii mm : Nat) (h0 : Heap) (n0 : Nat) (v : Option Value) (h : Heap) (L : List Loc) : Prop := v = some (.int (own_gc (ns.getD (2 * ii) 0) (ns.getD (2 * ii + 1) 0))) ∧ Fr n0 L ∧ h = h0
theorem efchU (m : MethodId) (x0 : Addr) (x1 : Int32) : entryFrame m #[(.ref x0), (.int x1)] 2 = mkF m 0 #[.val (.ref x0), .val (.int x1)] [] := by first | (simp [entryFrame, mkF, argsToLocals, Value.category]; done) | rfl
set_option maxRecDepth 65536 in
set_option maxHeartbeats 40000000 in
theorem chU (l : Launch) (Z : State) (a0 : Array Value) (hw : own_HW a0 Z) (ws : List Jvm.Cond) (so : Addr) (ix : Int32) (br : Addr) (kb : ClassId) (zb : Int32) (ns : List Int32) (cs zl : Int32) (ii mm : Nat) (h0 : Heap) (n0 : Nat) (Z0 : n0 ≤ h0.size) (P0 : Exa Z h0 so jS) (P1 : Fld Z h0 so jS "coder" "B" (.int 1)) (P2 : Fld Z h0 so jS "value" "[B" (.ref br)) (P3 : Arv Z h0 br kb .byte zb (own_I ns) (.int 0)) (P4 : Sta Z h0 jS "COMPACT_STRINGS" "Z" (.int cs)) (P5 : own_SI Z h0) (P6 : Sta Z h0 jU "$assertionsDisabled" "Z" (.int 1)) (P7 : Sta Z h0 jU "HI_BYTE_SHIFT" "I" (.int 0)) (P8 : Sta Z h0 jU "LO_BYTE_SHIFT" "I" (.int 8)) (hi : ix.toInt = (ii : Int)) (hm : zl.toInt = (mm : Int)) (hlt : ii < mm) (hln : (zb >>> ((1 : Int32) &&& 31)) = zl) (hzb : zb.toInt = ((2 * mm : Nat) : Int)) (hnl : ns.length = 2 * mm) (hs : mm < 100000) (hcs : cs ≠ (0 : Int32)) :
    own_M l Z yN21 jdk_42_method_56_code 2 (some .char) ws (own_R 4 0 0 53) #[(.ref so), (.int ix)] h0 (QchU Z so ix br kb zb ns cs zl ii mm h0 n0) := by
  refine own_b (own := jS) rfl (plainFor_of_name pn_1) (fun m => efchU m so ix) n0 fun p e s m below meth c s₁ Bd hZ hx hby hml hown X0 e0 N0 => ?_
  refine own_go (B := s₁.setTop (mkF m 1 #[.val (.ref so), .val (.int ix)] [(.ref so)])) (fun t k => ?_) ?_
  · refine XS.aloadN X0.here hx rfl (od hby dc15 0 rfl) rfl rfl ?_
    exact k
  obtain ⟨cq364, kq364, q364a, q364b, q364c⟩ := isOf hZ e0 P0
  obtain ⟨_, _, ⟨T364, L364, k364, n364⟩, -, X364, ⟨Lc364, hQ364, l364, y364, z364⟩, st364⟩ := X0.virtualBack hx (y := yN13) (z := yN13) hown (mvT hZ (own_w hw 70 rfl)) (mvT hZ (own_w hw 71 rfl)) (notFace_of_selects (args := #[]) (mvT hZ (own_w hw 73 rfl))) (mvT hZ (own_w hw 73 rfl)) (mvT hZ (own_w hw 72 rfl)) (by decide) (backOf (W := 0) (isl_1 l Z a0 hw [] so cs h0 n0 Z0 P1 P4 hcs) hZ (own_w hw 74 rfl) (own_w hw 9 rfl) (by decide) (by decide)) q364a q364c (g := (mkF m 1 #[.val (.ref so), .val (.int ix)] [(.ref so)])) rfl (by rw [hml]; rfl) (Steps.refl _) (argsL := []) (rest := []) (lenOf pd_14 rfl) rfl (own_W0 rfl) (od hby dc15 1 rfl) (fun _ _ => ⟨rfl, e0, (by decide : 0 + 0 ≤ _), (by decide : 0 + 0 ≤ _)⟩)
  dsimp only [Pt.U, Pt.locs, Pt.cells, Pt.slots] at X364 l364 y364 z364 st364 hQ364
  subst l364 y364 z364
  obtain ⟨rfl, Nq364, e364⟩ := hQ364
  have N364 := Fr.app N0 Nq364
  refine own_go (B := T364.setTop (mkF m 4 #[.val (.ref so), .val (.int ix)] [(.int 0)])) (fun t k => st364.trans k) ?_
  refine own_go (B := T364.setTop (mkF m 17 #[.val (.ref so), .val (.int ix)] [(.ref so)])) (fun t k => ?_) ?_
  · refine XS.ifYes X364.here hx rfl (pc0 := 4) (pc' := 16) rfl (od hby dc15 2 rfl) rfl ((if0 _ _).trans (teq (rfl : (0 : Int32) = (0 : Int32))).1) (by decide) (by decide) ?_
    refine XS.aloadN X364.here hx rfl (od hby dc15 8 rfl) rfl rfl ?_
    exact k
  obtain ⟨T366, X366, e366, st366⟩ := getF X364 hx hZ hown (host := "") (Or.inl (own_w hw 27 rfl)) Via.refl e364 P2 (g := (mkF m 17 #[.val (.ref so), .val (.int ix)] [(.ref so)])) rfl rfl (od hby dc15 9 rfl)
  refine own_go st366 ?_
  refine own_go (B := T366.setTop (mkF m 21 #[.val (.ref so), .val (.int ix)] [(.int ix), (.ref br)])) (fun t k => ?_) ?_
  · refine XS.iloadN X366.here hx rfl (od hby dc15 10 rfl) rfl ?_
    exact k
  obtain ⟨_, _, ⟨T367, L367, k367, n367⟩, -, X367, ⟨Lc367, hQ367, l367, y367, z367⟩, st367⟩ := Jvm.LawKit.callS X366 hx (y := yN20) hown (mvT hZ (own_w hw 233 rfl)) (mvT hZ (own_w hw 234 rfl)) (mvT hZ (own_w hw 44 rfl)) (mvT hZ (own_w hw 235 rfl)) (by decide) (backOf (W := 0) (uca l Z a0 hw [] br ix kb zb ns zl ii mm h0 n0 Z0 P5 P3 P6 P7 P8 hi hm hlt hln hzb hnl hs) hZ (own_w hw 235 rfl) (own_w hw 44 rfl) (by decide) (by decide)) (g := (mkF m 21 #[.val (.ref so), .val (.int ix)] [(.int ix), (.ref br)])) rfl (by rw [hml]; rfl) (argsL := [(.ref br), (.int ix)]) (rest := []) (lenOf pd_5 rfl) rfl (own_W0 rfl) (od hby dc15 11 rfl) (fun _ _ => ⟨rfl, e366, (by decide : 0 + 0 ≤ _), (by decide : 0 + 0 ≤ _)⟩)
  dsimp only [Pt.U, Pt.locs, Pt.cells, Pt.slots] at X367 l367 y367 z367 st367 hQ367
  subst l367 y367 z367
  obtain ⟨rfl, Nq367, e367⟩ := hQ367
  have N367 := Fr.app N364 Nq367
  refine own_go (B := T367.setTop (mkF m 24 #[.val (.ref so), .val (.int ix)] [(.int (own_gc (ns.getD (2 * ii) 0) (ns.getD (2 * ii + 1) 0)))])) st367 ?_
  exact own_rN (w := (nar .char (own_gc (ns.getD (2 * ii) 0) (ns.getD (2 * ii + 1) 0)))) Bd X367 hx (by simp) rfl (od hby dc15 12 rfl) (by rw [e367]; exact ⟨(by rw [own_ncc]), N367, rfl⟩) (by decide)
def Qial (Z : State) (cc : Int32) (h0 : Heap) (n0 : Nat) (v : Option Value) (h : Heap) (L : List Loc) : Prop := v = some (.int (own_ia cc)) ∧ Fr n0 L ∧ h = h0
theorem efial (m : MethodId) (x0 : Int32) : entryFrame m #[(.int x0)] 1 = mkF m 0 #[.val (.int x0)] [] := by first | (simp [entryFrame, mkF, argsToLocals, Value.category]; done) | rfl
set_option maxRecDepth 65536 in
set_option maxHeartbeats 40000000 in
theorem ial (l : Launch) (Z : State) (a0 : Array Value) (hw : own_HW a0 Z) (ws : List Jvm.Cond) (cc : Int32) (h0 : Heap) (n0 : Nat) (Z0 : n0 ≤ h0.size)  :
    own_M l Z yN22 prog_1_method_7_code 1 (some .boolean) ws (own_R 0 0 0 0) #[(.int cc)] h0 (Qial Z cc h0 n0) := by
  refine own_b (own := jN) rfl (plainFor_of_name pn_5) (fun m => efial m cc) n0 fun p e s m below meth c s₁ Bd hZ hx hby hml hown X0 e0 N0 => ?_
  have join368 : ∀  (Tq368 : State) (Lq368 : List Loc), own_ia cc = 1 → Stand p l e (own_R 0 0 0 0) s m #[(.int cc)] below meth c Tq368 Lq368 0 0 → Tq368.heap = h0 → Fr n0 Lq368 → ∃ s₂ o, Steps p.tables e below (Tq368.setTop (mkF m 54 #[.val (.int cc)] [])) s₂ ∧ s₂.status = .running ∧ Ended s₂ below o ∧ ∃ v L, o = .returned v ∧ Qial Z cc h0 n0 v s₂.heap L ∧ FrameEnd s o s₂ L (own_R 0 0 0 0).cells (own_R 0 0 0 0).slots := by
    intro  Tq368 Lq368 hone Xq368 eq368 Nq368
    refine own_go (B := Tq368.setTop (mkF m 59 #[.val (.int cc)] [(.int 1)])) (fun t k => ?_) ?_
    · refine XS.iconst Xq368.here hx rfl (od hby dc20 0 rfl) ?_
      refine XS.goto Xq368.here hx rfl (pc0 := 55) (pc' := 59) rfl (od hby dc20 1 rfl) (by decide) (by decide) ?_
      exact k
    exact own_rN (w := (1 : Int32)) Bd Xq368 hx (by simp) rfl (od hby dc20 2 rfl) (by rw [eq368]; exact ⟨(by rw [hone]), Nq368, rfl⟩) (by decide)
  have join369 : ∀  (Tq369 : State) (Lq369 : List Loc), ¬ own_r 65 90 cc → ¬ own_r 97 122 cc → ¬ own_r 48 57 cc → Stand p l e (own_R 0 0 0 0) s m #[(.int cc)] below meth c Tq369 Lq369 0 0 → Tq369.heap = h0 → Fr n0 Lq369 → ∃ s₂ o, Steps p.tables e below (Tq369.setTop (mkF m 36 #[.val (.int cc)] [])) s₂ ∧ s₂.status = .running ∧ Ended s₂ below o ∧ ∃ v L, o = .returned v ∧ Qial Z cc h0 n0 v s₂.heap L ∧ FrameEnd s o s₂ L (own_R 0 0 0 0).cells (own_R 0 0 0 0).slots := by
    intro  Tq369 Lq369 r0 r1 r2 Xq369 eq369 Nq369
    refine own_go (B := Tq369.setTop (mkF m 39 #[.val (.int cc)] [(.int 46), (.int cc)])) (fun t k => ?_) ?_
    · refine XS.iloadN Xq369.here hx rfl (od hby dc20 3 rfl) rfl ?_
      refine XS.bipush Xq369.here hx rfl (od hby dc20 4 rfl) ?_
      exact k
    by_cases hc39_370 : cc = (46 : Int32)
    · refine own_go (B := Tq369.setTop (mkF m 54 #[.val (.int cc)] [])) (fun t k => ?_) ?_
      · refine XS.icmpYes Xq369.here hx rfl (pc0 := 39) (pc' := 54) rfl (od hby dc20 5 rfl) rfl (teq hc39_370).1 (by decide) (by decide) ?_
        exact k
      exact join368  Tq369 _ (own_ia1 (Or.inr (Or.inr (Or.inr (Or.inl hc39_370))))) Xq369 eq369 Nq369
    · refine own_go (B := Tq369.setTop (mkF m 42 #[.val (.int cc)] [])) (fun t k => ?_) ?_
      · refine XS.icmpNo Xq369.here hx rfl (od hby dc20 5 rfl) rfl (feq hc39_370).1 ?_
        exact k
      refine own_go (B := Tq369.setTop (mkF m 45 #[.val (.int cc)] [(.int 95), (.int cc)])) (fun t k => ?_) ?_
      · refine XS.iloadN Xq369.here hx rfl (od hby dc20 6 rfl) rfl ?_
        refine XS.bipush Xq369.here hx rfl (od hby dc20 7 rfl) ?_
        exact k
      by_cases hc45_371 : cc = (95 : Int32)
      · refine own_go (B := Tq369.setTop (mkF m 54 #[.val (.int cc)] [])) (fun t k => ?_) ?_
        · refine XS.icmpYes Xq369.here hx rfl (pc0 := 45) (pc' := 54) rfl (od hby dc20 8 rfl) rfl (teq hc45_371).1 (by decide) (by decide) ?_
          exact k
        exact join368  Tq369 _ (own_ia1 (Or.inr (Or.inr (Or.inr (Or.inr (Or.inl hc45_371)))))) Xq369 eq369 Nq369
      · refine own_go (B := Tq369.setTop (mkF m 48 #[.val (.int cc)] [])) (fun t k => ?_) ?_
        · refine XS.icmpNo Xq369.here hx rfl (od hby dc20 8 rfl) rfl (feq hc45_371).1 ?_
          exact k
        refine own_go (B := Tq369.setTop (mkF m 51 #[.val (.int cc)] [(.int 45), (.int cc)])) (fun t k => ?_) ?_
        · refine XS.iloadN Xq369.here hx rfl (od hby dc20 9 rfl) rfl ?_
          refine XS.bipush Xq369.here hx rfl (od hby dc20 10 rfl) ?_
          exact k
        by_cases hc51_372 : cc = (45 : Int32)
        · refine own_go (B := Tq369.setTop (mkF m 54 #[.val (.int cc)] [])) (fun t k => ?_) ?_
          · refine XS.icmpNo Xq369.here hx rfl (od hby dc20 11 rfl) rfl (teq hc51_372).2 ?_
            exact k
          exact join368  Tq369 _ (own_ia1 (Or.inr (Or.inr (Or.inr (Or.inr (Or.inr hc51_372)))))) Xq369 eq369 Nq369
        · refine own_go (B := Tq369.setTop (mkF m 58 #[.val (.int cc)] [])) (fun t k => ?_) ?_
          · refine XS.icmpYes Xq369.here hx rfl (pc0 := 51) (pc' := 58) rfl (od hby dc20 11 rfl) rfl (feq hc51_372).2 (by decide) (by decide) ?_
            exact k
          refine own_go (B := Tq369.setTop (mkF m 59 #[.val (.int cc)] [(.int 0)])) (fun t k => ?_) ?_
          · refine XS.iconst Xq369.here hx rfl (od hby dc20 12 rfl) ?_
            exact k
          exact own_rN (w := (0 : Int32)) Bd Xq369 hx (by simp) rfl (od hby dc20 2 rfl) (by rw [eq369]; exact ⟨(by rw [own_ia0 r0 r1 r2 hc39_370 hc45_371 hc51_372]), Nq369, rfl⟩) (by decide)
  have join373 : ∀  (Tq373 : State) (Lq373 : List Loc), ¬ own_r 65 90 cc → ¬ own_r 97 122 cc → Stand p l e (own_R 0 0 0 0) s m #[(.int cc)] below meth c Tq373 Lq373 0 0 → Tq373.heap = h0 → Fr n0 Lq373 → ∃ s₂ o, Steps p.tables e below (Tq373.setTop (mkF m 24 #[.val (.int cc)] [])) s₂ ∧ s₂.status = .running ∧ Ended s₂ below o ∧ ∃ v L, o = .returned v ∧ Qial Z cc h0 n0 v s₂.heap L ∧ FrameEnd s o s₂ L (own_R 0 0 0 0).cells (own_R 0 0 0 0).slots := by
    intro  Tq373 Lq373 r0 r1 Xq373 eq373 Nq373
    refine own_go (B := Tq373.setTop (mkF m 27 #[.val (.int cc)] [(.int 48), (.int cc)])) (fun t k => ?_) ?_
    · refine XS.iloadN Xq373.here hx rfl (od hby dc20 13 rfl) rfl ?_
      refine XS.bipush Xq373.here hx rfl (od hby dc20 14 rfl) ?_
      exact k
    by_cases hc27_374 : cc < (48 : Int32)
    · refine own_go (B := Tq373.setTop (mkF m 36 #[.val (.int cc)] [])) (fun t k => ?_) ?_
      · refine XS.icmpYes Xq373.here hx rfl (pc0 := 27) (pc' := 36) rfl (od hby dc20 15 rfl) rfl (tlt hc27_374).1 (by decide) (by decide) ?_
        exact k
      exact join369  Tq373 _ (r0) (r1) (fun q => q.1 hc27_374) Xq373 eq373 Nq373
    · refine own_go (B := Tq373.setTop (mkF m 30 #[.val (.int cc)] [])) (fun t k => ?_) ?_
      · refine XS.icmpNo Xq373.here hx rfl (od hby dc20 15 rfl) rfl (flt hc27_374).1 ?_
        exact k
      refine own_go (B := Tq373.setTop (mkF m 33 #[.val (.int cc)] [(.int 57), (.int cc)])) (fun t k => ?_) ?_
      · refine XS.iloadN Xq373.here hx rfl (od hby dc20 16 rfl) rfl ?_
        refine XS.bipush Xq373.here hx rfl (od hby dc20 17 rfl) ?_
        exact k
      by_cases hc33_375 : (57 : Int32) < cc
      · refine own_go (B := Tq373.setTop (mkF m 36 #[.val (.int cc)] [])) (fun t k => ?_) ?_
        · refine XS.icmpNo Xq373.here hx rfl (od hby dc20 18 rfl) rfl (tlt hc33_375).2.2.2 ?_
          exact k
        exact join369  Tq373 _ (r0) (r1) (fun q => q.2 hc33_375) Xq373 eq373 Nq373
      · refine own_go (B := Tq373.setTop (mkF m 54 #[.val (.int cc)] [])) (fun t k => ?_) ?_
        · refine XS.icmpYes Xq373.here hx rfl (pc0 := 33) (pc' := 54) rfl (od hby dc20 18 rfl) rfl (flt hc33_375).2.2.2 (by decide) (by decide) ?_
          exact k
        exact join368  Tq373 _ (own_ia1 (Or.inr (Or.inr (Or.inl ⟨hc27_374, hc33_375⟩)))) Xq373 eq373 Nq373
  have join376 : ∀  (Tq376 : State) (Lq376 : List Loc), ¬ own_r 65 90 cc → Stand p l e (own_R 0 0 0 0) s m #[(.int cc)] below meth c Tq376 Lq376 0 0 → Tq376.heap = h0 → Fr n0 Lq376 → ∃ s₂ o, Steps p.tables e below (Tq376.setTop (mkF m 12 #[.val (.int cc)] [])) s₂ ∧ s₂.status = .running ∧ Ended s₂ below o ∧ ∃ v L, o = .returned v ∧ Qial Z cc h0 n0 v s₂.heap L ∧ FrameEnd s o s₂ L (own_R 0 0 0 0).cells (own_R 0 0 0 0).slots := by
    intro  Tq376 Lq376 r0 Xq376 eq376 Nq376
    refine own_go (B := Tq376.setTop (mkF m 15 #[.val (.int cc)] [(.int 97), (.int cc)])) (fun t k => ?_) ?_
    · refine XS.iloadN Xq376.here hx rfl (od hby dc20 19 rfl) rfl ?_
      refine XS.bipush Xq376.here hx rfl (od hby dc20 20 rfl) ?_
      exact k
    by_cases hc15_377 : cc < (97 : Int32)
    · refine own_go (B := Tq376.setTop (mkF m 24 #[.val (.int cc)] [])) (fun t k => ?_) ?_
      · refine XS.icmpYes Xq376.here hx rfl (pc0 := 15) (pc' := 24) rfl (od hby dc20 21 rfl) rfl (tlt hc15_377).1 (by decide) (by decide) ?_
        exact k
      exact join373  Tq376 _ (r0) (fun q => q.1 hc15_377) Xq376 eq376 Nq376
    · refine own_go (B := Tq376.setTop (mkF m 18 #[.val (.int cc)] [])) (fun t k => ?_) ?_
      · refine XS.icmpNo Xq376.here hx rfl (od hby dc20 21 rfl) rfl (flt hc15_377).1 ?_
        exact k
      refine own_go (B := Tq376.setTop (mkF m 21 #[.val (.int cc)] [(.int 122), (.int cc)])) (fun t k => ?_) ?_
      · refine XS.iloadN Xq376.here hx rfl (od hby dc20 22 rfl) rfl ?_
        refine XS.bipush Xq376.here hx rfl (od hby dc20 23 rfl) ?_
        exact k
      by_cases hc21_378 : (122 : Int32) < cc
      · refine own_go (B := Tq376.setTop (mkF m 24 #[.val (.int cc)] [])) (fun t k => ?_) ?_
        · refine XS.icmpNo Xq376.here hx rfl (od hby dc20 24 rfl) rfl (tlt hc21_378).2.2.2 ?_
          exact k
        exact join373  Tq376 _ (r0) (fun q => q.2 hc21_378) Xq376 eq376 Nq376
      · refine own_go (B := Tq376.setTop (mkF m 54 #[.val (.int cc)] [])) (fun t k => ?_) ?_
        · refine XS.icmpYes Xq376.here hx rfl (pc0 := 21) (pc' := 54) rfl (od hby dc20 24 rfl) rfl (flt hc21_378).2.2.2 (by decide) (by decide) ?_
          exact k
        exact join368  Tq376 _ (own_ia1 (Or.inr (Or.inl ⟨hc15_377, hc21_378⟩))) Xq376 eq376 Nq376
  refine own_go (B := s₁.setTop (mkF m 3 #[.val (.int cc)] [(.int 65), (.int cc)])) (fun t k => ?_) ?_
  · refine XS.iloadN X0.here hx rfl (od hby dc20 25 rfl) rfl ?_
    refine XS.bipush X0.here hx rfl (od hby dc20 26 rfl) ?_
    exact k
  by_cases hc3_379 : cc < (65 : Int32)
  · refine own_go (B := s₁.setTop (mkF m 12 #[.val (.int cc)] [])) (fun t k => ?_) ?_
    · refine XS.icmpYes X0.here hx rfl (pc0 := 3) (pc' := 12) rfl (od hby dc20 27 rfl) rfl (tlt hc3_379).1 (by decide) (by decide) ?_
      exact k
    exact join376  s₁ _ (fun q => q.1 hc3_379) X0 e0 N0
  · refine own_go (B := s₁.setTop (mkF m 6 #[.val (.int cc)] [])) (fun t k => ?_) ?_
    · refine XS.icmpNo X0.here hx rfl (od hby dc20 27 rfl) rfl (flt hc3_379).1 ?_
      exact k
    refine own_go (B := s₁.setTop (mkF m 9 #[.val (.int cc)] [(.int 90), (.int cc)])) (fun t k => ?_) ?_
    · refine XS.iloadN X0.here hx rfl (od hby dc20 28 rfl) rfl ?_
      refine XS.bipush X0.here hx rfl (od hby dc20 29 rfl) ?_
      exact k
    by_cases hc9_380 : (90 : Int32) < cc
    · refine own_go (B := s₁.setTop (mkF m 12 #[.val (.int cc)] [])) (fun t k => ?_) ?_
      · refine XS.icmpNo X0.here hx rfl (od hby dc20 30 rfl) rfl (tlt hc9_380).2.2.2 ?_
        exact k
      exact join376  s₁ _ (fun q => q.2 hc9_380) X0 e0 N0
    · refine own_go (B := s₁.setTop (mkF m 54 #[.val (.int cc)] [])) (fun t k => ?_) ?_
      · refine XS.icmpYes X0.here hx rfl (pc0 := 9) (pc' := 54) rfl (od hby dc20 30 rfl) rfl (flt hc9_380).2.2.2 (by decide) (by decide) ?_
        exact k
      exact join368  s₁ _ (own_ia1 (Or.inl ⟨hc3_379, hc9_380⟩)) X0 e0 N0
def Qalw (Z : State) (cc : Int32) (h0 : Heap) (n0 : Nat) (v : Option Value) (h : Heap) (L : List Loc) : Prop := v = some (.int (own_ia cc)) ∧ Fr n0 L ∧ h = h0
theorem efalw (m : MethodId) (x0 : Int32) : entryFrame m #[(.int x0)] 1 = mkF m 0 #[.val (.int x0)] [] := by first | (simp [entryFrame, mkF, argsToLocals, Value.category]; done) | rfl
set_option maxRecDepth 65536 in
set_option maxHeartbeats 40000000 in
theorem alw (l : Launch) (Z : State) (a0 : Array Value) (hw : own_HW a0 Z) (ws : List Jvm.Cond) (cc : Int32) (h0 : Heap) (n0 : Nat) (Z0 : n0 ≤ h0.size)  :
    own_M l Z yN23 method_3_code 1 (some .boolean) ws (own_R 0 0 0 0) #[(.int cc)] h0 (Qalw Z cc h0 n0) := by
  refine own_b (own := jL) rfl (plainFor_of_name pn_2) (fun m => efalw m cc) n0 fun p e s m below meth c s₁ Bd hZ hx hby hml hown X0 e0 N0 => ?_
  have join381 : ∀  (Tq381 : State) (Lq381 : List Loc), own_ia cc = 1 → Stand p l e (own_R 0 0 0 0) s m #[(.int cc)] below meth c Tq381 Lq381 0 0 → Tq381.heap = h0 → Fr n0 Lq381 → ∃ s₂ o, Steps p.tables e below (Tq381.setTop (mkF m 60 #[.val (.int cc)] [])) s₂ ∧ s₂.status = .running ∧ Ended s₂ below o ∧ ∃ v L, o = .returned v ∧ Qalw Z cc h0 n0 v s₂.heap L ∧ FrameEnd s o s₂ L (own_R 0 0 0 0).cells (own_R 0 0 0 0).slots := by
    intro  Tq381 Lq381 hone Xq381 eq381 Nq381
    refine own_go (B := Tq381.setTop (mkF m 65 #[.val (.int cc)] [(.int 1)])) (fun t k => ?_) ?_
    · refine XS.iconst Xq381.here hx rfl (od hby dc8 0 rfl) ?_
      refine XS.goto Xq381.here hx rfl (pc0 := 61) (pc' := 65) rfl (od hby dc8 1 rfl) (by decide) (by decide) ?_
      exact k
    exact own_rN (w := (1 : Int32)) Bd Xq381 hx (by simp) rfl (od hby dc8 2 rfl) (by rw [eq381]; exact ⟨(by rw [hone]), Nq381, rfl⟩) (by decide)
  have join382 : ∀  (Tq382 : State) (Lq382 : List Loc), ¬ own_r 65 90 cc → ¬ own_r 97 122 cc → ¬ own_r 48 57 cc → Stand p l e (own_R 0 0 0 0) s m #[(.int cc)] below meth c Tq382 Lq382 0 0 → Tq382.heap = h0 → Fr n0 Lq382 → ∃ s₂ o, Steps p.tables e below (Tq382.setTop (mkF m 42 #[.val (.int cc)] [])) s₂ ∧ s₂.status = .running ∧ Ended s₂ below o ∧ ∃ v L, o = .returned v ∧ Qalw Z cc h0 n0 v s₂.heap L ∧ FrameEnd s o s₂ L (own_R 0 0 0 0).cells (own_R 0 0 0 0).slots := by
    intro  Tq382 Lq382 r0 r1 r2 Xq382 eq382 Nq382
    refine own_go (B := Tq382.setTop (mkF m 45 #[.val (.int cc)] [(.int 46), (.int cc)])) (fun t k => ?_) ?_
    · refine XS.iloadN Xq382.here hx rfl (od hby dc8 3 rfl) rfl ?_
      refine XS.bipush Xq382.here hx rfl (od hby dc8 4 rfl) ?_
      exact k
    by_cases hc45_383 : cc = (46 : Int32)
    · refine own_go (B := Tq382.setTop (mkF m 60 #[.val (.int cc)] [])) (fun t k => ?_) ?_
      · refine XS.icmpYes Xq382.here hx rfl (pc0 := 45) (pc' := 60) rfl (od hby dc8 5 rfl) rfl (teq hc45_383).1 (by decide) (by decide) ?_
        exact k
      exact join381  Tq382 _ (own_ia1 (Or.inr (Or.inr (Or.inr (Or.inl hc45_383))))) Xq382 eq382 Nq382
    · refine own_go (B := Tq382.setTop (mkF m 48 #[.val (.int cc)] [])) (fun t k => ?_) ?_
      · refine XS.icmpNo Xq382.here hx rfl (od hby dc8 5 rfl) rfl (feq hc45_383).1 ?_
        exact k
      refine own_go (B := Tq382.setTop (mkF m 51 #[.val (.int cc)] [(.int 95), (.int cc)])) (fun t k => ?_) ?_
      · refine XS.iloadN Xq382.here hx rfl (od hby dc8 6 rfl) rfl ?_
        refine XS.bipush Xq382.here hx rfl (od hby dc8 7 rfl) ?_
        exact k
      by_cases hc51_384 : cc = (95 : Int32)
      · refine own_go (B := Tq382.setTop (mkF m 60 #[.val (.int cc)] [])) (fun t k => ?_) ?_
        · refine XS.icmpYes Xq382.here hx rfl (pc0 := 51) (pc' := 60) rfl (od hby dc8 8 rfl) rfl (teq hc51_384).1 (by decide) (by decide) ?_
          exact k
        exact join381  Tq382 _ (own_ia1 (Or.inr (Or.inr (Or.inr (Or.inr (Or.inl hc51_384)))))) Xq382 eq382 Nq382
      · refine own_go (B := Tq382.setTop (mkF m 54 #[.val (.int cc)] [])) (fun t k => ?_) ?_
        · refine XS.icmpNo Xq382.here hx rfl (od hby dc8 8 rfl) rfl (feq hc51_384).1 ?_
          exact k
        refine own_go (B := Tq382.setTop (mkF m 57 #[.val (.int cc)] [(.int 45), (.int cc)])) (fun t k => ?_) ?_
        · refine XS.iloadN Xq382.here hx rfl (od hby dc8 9 rfl) rfl ?_
          refine XS.bipush Xq382.here hx rfl (od hby dc8 10 rfl) ?_
          exact k
        by_cases hc57_385 : cc = (45 : Int32)
        · refine own_go (B := Tq382.setTop (mkF m 60 #[.val (.int cc)] [])) (fun t k => ?_) ?_
          · refine XS.icmpNo Xq382.here hx rfl (od hby dc8 11 rfl) rfl (teq hc57_385).2 ?_
            exact k
          exact join381  Tq382 _ (own_ia1 (Or.inr (Or.inr (Or.inr (Or.inr (Or.inr hc57_385)))))) Xq382 eq382 Nq382
        · refine own_go (B := Tq382.setTop (mkF m 64 #[.val (.int cc)] [])) (fun t k => ?_) ?_
          · refine XS.icmpYes Xq382.here hx rfl (pc0 := 57) (pc' := 64) rfl (od hby dc8 11 rfl) rfl (feq hc57_385).2 (by decide) (by decide) ?_
            exact k
          refine own_go (B := Tq382.setTop (mkF m 65 #[.val (.int cc)] [(.int 0)])) (fun t k => ?_) ?_
          · refine XS.iconst Xq382.here hx rfl (od hby dc8 12 rfl) ?_
            exact k
          exact own_rN (w := (0 : Int32)) Bd Xq382 hx (by simp) rfl (od hby dc8 2 rfl) (by rw [eq382]; exact ⟨(by rw [own_ia0 r0 r1 r2 hc45_383 hc51_384 hc57_385]), Nq382, rfl⟩) (by decide)
  have join386 : ∀  (Tq386 : State) (Lq386 : List Loc), ¬ own_r 65 90 cc → ¬ own_r 97 122 cc → Stand p l e (own_R 0 0 0 0) s m #[(.int cc)] below meth c Tq386 Lq386 0 0 → Tq386.heap = h0 → Fr n0 Lq386 → ∃ s₂ o, Steps p.tables e below (Tq386.setTop (mkF m 28 #[.val (.int cc)] [])) s₂ ∧ s₂.status = .running ∧ Ended s₂ below o ∧ ∃ v L, o = .returned v ∧ Qalw Z cc h0 n0 v s₂.heap L ∧ FrameEnd s o s₂ L (own_R 0 0 0 0).cells (own_R 0 0 0 0).slots := by
    intro  Tq386 Lq386 r0 r1 Xq386 eq386 Nq386
    refine own_go (B := Tq386.setTop (mkF m 31 #[.val (.int cc)] [(.int 48), (.int cc)])) (fun t k => ?_) ?_
    · refine XS.iloadN Xq386.here hx rfl (od hby dc8 13 rfl) rfl ?_
      refine XS.bipush Xq386.here hx rfl (od hby dc8 14 rfl) ?_
      exact k
    by_cases hc31_387 : cc < (48 : Int32)
    · refine own_go (B := Tq386.setTop (mkF m 42 #[.val (.int cc)] [])) (fun t k => ?_) ?_
      · refine XS.icmpYes Xq386.here hx rfl (pc0 := 31) (pc' := 42) rfl (od hby dc8 15 rfl) rfl (tlt hc31_387).1 (by decide) (by decide) ?_
        exact k
      exact join382  Tq386 _ (r0) (r1) (fun q => q.1 hc31_387) Xq386 eq386 Nq386
    · refine own_go (B := Tq386.setTop (mkF m 34 #[.val (.int cc)] [])) (fun t k => ?_) ?_
      · refine XS.icmpNo Xq386.here hx rfl (od hby dc8 15 rfl) rfl (flt hc31_387).1 ?_
        exact k
      refine own_go (B := Tq386.setTop (mkF m 37 #[.val (.int cc)] [(.int 57), (.int cc)])) (fun t k => ?_) ?_
      · refine XS.iloadN Xq386.here hx rfl (od hby dc8 16 rfl) rfl ?_
        refine XS.bipush Xq386.here hx rfl (od hby dc8 17 rfl) ?_
        exact k
      by_cases hc37_388 : (57 : Int32) < cc
      · refine own_go (B := Tq386.setTop (mkF m 42 #[.val (.int cc)] [])) (fun t k => ?_) ?_
        · refine XS.icmpYes Xq386.here hx rfl (pc0 := 37) (pc' := 42) rfl (od hby dc8 18 rfl) rfl (tlt hc37_388).2.2.1 (by decide) (by decide) ?_
          exact k
        exact join382  Tq386 _ (r0) (r1) (fun q => q.2 hc37_388) Xq386 eq386 Nq386
      · refine own_go (B := Tq386.setTop (mkF m 40 #[.val (.int cc)] [])) (fun t k => ?_) ?_
        · refine XS.icmpNo Xq386.here hx rfl (od hby dc8 18 rfl) rfl (flt hc37_388).2.2.1 ?_
          exact k
        refine own_go (B := Tq386.setTop (mkF m 41 #[.val (.int cc)] [(.int 1)])) (fun t k => ?_) ?_
        · refine XS.iconst Xq386.here hx rfl (od hby dc8 19 rfl) ?_
          exact k
        exact own_rN (w := (1 : Int32)) Bd Xq386 hx (by simp) rfl (od hby dc8 20 rfl) (by rw [eq386]; exact ⟨(by rw [own_ia1 (Or.inr (Or.inr (Or.inl ⟨hc31_387, hc37_388⟩)))]), Nq386, rfl⟩) (by decide)
  have join389 : ∀  (Tq389 : State) (Lq389 : List Loc), ¬ own_r 65 90 cc → Stand p l e (own_R 0 0 0 0) s m #[(.int cc)] below meth c Tq389 Lq389 0 0 → Tq389.heap = h0 → Fr n0 Lq389 → ∃ s₂ o, Steps p.tables e below (Tq389.setTop (mkF m 14 #[.val (.int cc)] [])) s₂ ∧ s₂.status = .running ∧ Ended s₂ below o ∧ ∃ v L, o = .returned v ∧ Qalw Z cc h0 n0 v s₂.heap L ∧ FrameEnd s o s₂ L (own_R 0 0 0 0).cells (own_R 0 0 0 0).slots := by
    intro  Tq389 Lq389 r0 Xq389 eq389 Nq389
    refine own_go (B := Tq389.setTop (mkF m 17 #[.val (.int cc)] [(.int 97), (.int cc)])) (fun t k => ?_) ?_
    · refine XS.iloadN Xq389.here hx rfl (od hby dc8 21 rfl) rfl ?_
      refine XS.bipush Xq389.here hx rfl (od hby dc8 22 rfl) ?_
      exact k
    by_cases hc17_390 : cc < (97 : Int32)
    · refine own_go (B := Tq389.setTop (mkF m 28 #[.val (.int cc)] [])) (fun t k => ?_) ?_
      · refine XS.icmpYes Xq389.here hx rfl (pc0 := 17) (pc' := 28) rfl (od hby dc8 23 rfl) rfl (tlt hc17_390).1 (by decide) (by decide) ?_
        exact k
      exact join386  Tq389 _ (r0) (fun q => q.1 hc17_390) Xq389 eq389 Nq389
    · refine own_go (B := Tq389.setTop (mkF m 20 #[.val (.int cc)] [])) (fun t k => ?_) ?_
      · refine XS.icmpNo Xq389.here hx rfl (od hby dc8 23 rfl) rfl (flt hc17_390).1 ?_
        exact k
      refine own_go (B := Tq389.setTop (mkF m 23 #[.val (.int cc)] [(.int 122), (.int cc)])) (fun t k => ?_) ?_
      · refine XS.iloadN Xq389.here hx rfl (od hby dc8 24 rfl) rfl ?_
        refine XS.bipush Xq389.here hx rfl (od hby dc8 25 rfl) ?_
        exact k
      by_cases hc23_391 : (122 : Int32) < cc
      · refine own_go (B := Tq389.setTop (mkF m 28 #[.val (.int cc)] [])) (fun t k => ?_) ?_
        · refine XS.icmpYes Xq389.here hx rfl (pc0 := 23) (pc' := 28) rfl (od hby dc8 26 rfl) rfl (tlt hc23_391).2.2.1 (by decide) (by decide) ?_
          exact k
        exact join386  Tq389 _ (r0) (fun q => q.2 hc23_391) Xq389 eq389 Nq389
      · refine own_go (B := Tq389.setTop (mkF m 26 #[.val (.int cc)] [])) (fun t k => ?_) ?_
        · refine XS.icmpNo Xq389.here hx rfl (od hby dc8 26 rfl) rfl (flt hc23_391).2.2.1 ?_
          exact k
        refine own_go (B := Tq389.setTop (mkF m 27 #[.val (.int cc)] [(.int 1)])) (fun t k => ?_) ?_
        · refine XS.iconst Xq389.here hx rfl (od hby dc8 27 rfl) ?_
          exact k
        exact own_rN (w := (1 : Int32)) Bd Xq389 hx (by simp) rfl (od hby dc8 28 rfl) (by rw [eq389]; exact ⟨(by rw [own_ia1 (Or.inr (Or.inl ⟨hc17_390, hc23_391⟩))]), Nq389, rfl⟩) (by decide)
  refine own_go (B := s₁.setTop (mkF m 3 #[.val (.int cc)] [(.int 65), (.int cc)])) (fun t k => ?_) ?_
  · refine XS.iloadN X0.here hx rfl (od hby dc8 29 rfl) rfl ?_
    refine XS.bipush X0.here hx rfl (od hby dc8 30 rfl) ?_
    exact k
  by_cases hc3_392 : cc < (65 : Int32)
  · refine own_go (B := s₁.setTop (mkF m 14 #[.val (.int cc)] [])) (fun t k => ?_) ?_
    · refine XS.icmpYes X0.here hx rfl (pc0 := 3) (pc' := 14) rfl (od hby dc8 31 rfl) rfl (tlt hc3_392).1 (by decide) (by decide) ?_
      exact k
    exact join389  s₁ _ (fun q => q.1 hc3_392) X0 e0 N0
  · refine own_go (B := s₁.setTop (mkF m 6 #[.val (.int cc)] [])) (fun t k => ?_) ?_
    · refine XS.icmpNo X0.here hx rfl (od hby dc8 31 rfl) rfl (flt hc3_392).1 ?_
      exact k
    refine own_go (B := s₁.setTop (mkF m 9 #[.val (.int cc)] [(.int 90), (.int cc)])) (fun t k => ?_) ?_
    · refine XS.iloadN X0.here hx rfl (od hby dc8 32 rfl) rfl ?_
      refine XS.bipush X0.here hx rfl (od hby dc8 33 rfl) ?_
      exact k
    by_cases hc9_393 : (90 : Int32) < cc
    · refine own_go (B := s₁.setTop (mkF m 14 #[.val (.int cc)] [])) (fun t k => ?_) ?_
      · refine XS.icmpYes X0.here hx rfl (pc0 := 9) (pc' := 14) rfl (od hby dc8 34 rfl) rfl (tlt hc9_393).2.2.1 (by decide) (by decide) ?_
        exact k
      exact join389  s₁ _ (fun q => q.2 hc9_393) X0 e0 N0
    · refine own_go (B := s₁.setTop (mkF m 12 #[.val (.int cc)] [])) (fun t k => ?_) ?_
      · refine XS.icmpNo X0.here hx rfl (od hby dc8 34 rfl) rfl (flt hc9_393).2.2.1 ?_
        exact k
      refine own_go (B := s₁.setTop (mkF m 13 #[.val (.int cc)] [(.int 1)])) (fun t k => ?_) ?_
      · refine XS.iconst X0.here hx rfl (od hby dc8 35 rfl) ?_
        exact k
      exact own_rN (w := (1 : Int32)) Bd X0 hx (by simp) rfl (od hby dc8 36 rfl) (by rw [e0]; exact ⟨(by rw [own_ia1 (Or.inl ⟨hc3_392, hc9_393⟩)]), N0, rfl⟩) (by decide)
theorem own_shr0 (z : Int32) : (z >>> ((0 : Int32) &&& 31)) = z := by
  rw [← Int32.toInt_inj]
  have := c_ishr z 0 0 (by decide)
  simp only [Nat.reducePow] at this
  rw [this]; omega
def QallL (Z : State) (so br : Addr) (kb : ClassId) (zl : Int32) (ns : List Int32) (cs : Int32) (mm : Nat) (chl : List Int32) (h0 : Heap) (n0 : Nat) (v : Option Value) (h : Heap) (L : List Loc) : Prop := v = some (.int (own_all chl)) ∧ Fr n0 L ∧ h = h0
theorem efallL (m : MethodId) (x0 : Addr) : entryFrame m #[(.ref x0)] 2 = mkF m 0 #[.val (.ref x0), .unset] [] := by first | (simp [entryFrame, mkF, argsToLocals, Value.category]; done) | rfl
set_option maxRecDepth 65536 in
set_option maxHeartbeats 40000000 in
theorem allL (l : Launch) (Z : State) (a0 : Array Value) (hw : own_HW a0 Z) (ws : List Jvm.Cond) (so br : Addr) (kb : ClassId) (zl : Int32) (ns : List Int32) (cs : Int32) (mm : Nat) (chl : List Int32) (h0 : Heap) (n0 : Nat) (Z0 : n0 ≤ h0.size) (P0 : Exa Z h0 so jS) (P1 : Fld Z h0 so jS "coder" "B" (.int 0)) (P2 : Fld Z h0 so jS "value" "[B" (.ref br)) (P3 : Arv Z h0 br kb .byte zl (own_I ns) (.int 0)) (P4 : Sta Z h0 jS "COMPACT_STRINGS" "Z" (.int cs)) (P5 : own_SI Z h0) (hm : zl.toInt = (mm : Int)) (hs : mm < 100000) (hcl : chl.length = mm) (hch : ∀ q, q < mm → (own_g8 (ns.getD q 0)) = chl.getD q 0) (hcs : cs ≠ (0 : Int32)) :
    own_M l Z yN24 prog_1_method_6_code 2 (some .boolean) ws (own_R 4 0 0 53) #[(.ref so)] h0 (QallL Z so br kb zl ns cs mm chl h0 n0) := by
  refine own_b (own := jN) rfl (plainFor_of_name pn_5) (fun m => efallL m so) n0 fun p e s m below meth c s₁ Bd hZ hx hby hml hown X0 e0 N0 => ?_
  refine own_go (B := s₁.setTop (mkF m 2 #[.val (.ref so), .val (.int 0)] [])) (fun t k => ?_) ?_
  · refine XS.iconst X0.here hx rfl (od hby dc14 0 rfl) ?_
    refine XS.istoreN X0.here hx rfl (od hby dc14 1 rfl) rfl (l' := #[.val (.ref so), .val (.int 0)]) rfl ?_
    exact k
  have loop394 : ∀ (N : Nat) (i1 : Int32) (jq : Nat) (Tq394 : State) (Lq394 : List Loc), (mm - jq) < N → i1.toInt = (jq : Int) → jq ≤ mm → (∀ q, q < jq → own_ia (chl.getD q 0) ≠ 0) → Stand p l e (own_R 4 0 0 53) s m #[(.ref so)] below meth c Tq394 Lq394 0 0 → Tq394.heap = h0 → Fr n0 Lq394 → ∃ s₂ o, Steps p.tables e below (Tq394.setTop (mkF m 2 #[.val (.ref so), .val (.int i1)] [])) s₂ ∧ s₂.status = .running ∧ Ended s₂ below o ∧ ∃ v L, o = .returned v ∧ QallL Z so br kb zl ns cs mm chl h0 n0 v s₂.heap L ∧ FrameEnd s o s₂ L (own_R 4 0 0 53).cells (own_R 4 0 0 53).slots := by
    intro N
    induction N with
    | zero => intro i1 jq Tq394 Lq394 hmu; exact absurd hmu (Nat.not_lt_zero _)
    | succ N ih =>
      intro i1 jq Tq394 Lq394 hmu qj qm qp Xq394 eq394 Nq394 
      refine own_go (B := Tq394.setTop (mkF m 4 #[.val (.ref so), .val (.int i1)] [(.ref so), (.int i1)])) (fun t k => ?_) ?_
      · refine XS.iloadN Xq394.here hx rfl (od hby dc14 2 rfl) rfl ?_
        refine XS.aloadN Xq394.here hx rfl (od hby dc14 3 rfl) rfl rfl ?_
        exact k
      obtain ⟨cq395, kq395, q395a, q395b, q395c⟩ := isOf hZ eq394 P0
      obtain ⟨_, _, ⟨T395, L395, k395, n395⟩, -, X395, ⟨Lc395, hQ395, l395, y395, z395⟩, st395⟩ := Xq394.virtualBack hx (y := yN12) (z := yN12) hown (mvT hZ (own_w hw 52 rfl)) (mvT hZ (own_w hw 53 rfl)) (notFace_of_selects (args := #[]) (mvT hZ (own_w hw 55 rfl))) (mvT hZ (own_w hw 55 rfl)) (mvT hZ (own_w hw 54 rfl)) (by decide) (backOf (W := 1) (len_0 l Z a0 hw [] so br kb zl ns cs zl h0 n0 Z0 P0 P1 P2 P3 P4 hcs (own_shr0 _)) hZ (own_w hw 56 rfl) (own_w hw 9 rfl) (by decide) (by decide)) q395a q395c (g := (mkF m 4 #[.val (.ref so), .val (.int i1)] [(.ref so), (.int i1)])) rfl (by rw [hml]; rfl) (Steps.refl _) (argsL := []) (rest := [(.int i1)]) (lenOf pd_15 rfl) rfl (own_W0 rfl) (od hby dc14 4 rfl) (fun _ _ => ⟨rfl, eq394, (by decide : 0 + 0 ≤ _), (by decide : 0 + 0 ≤ _)⟩)
      dsimp only [Pt.U, Pt.locs, Pt.cells, Pt.slots] at X395 l395 y395 z395 st395 hQ395
      subst l395 y395 z395
      obtain ⟨rfl, Nq395, e395⟩ := hQ395
      have N395 := Fr.app Nq394 Nq395
      refine own_go (B := T395.setTop (mkF m 7 #[.val (.ref so), .val (.int i1)] [(.int zl), (.int i1)])) (fun t k => st395.trans k) ?_
      by_cases hc7_396 : i1 < zl
      · refine own_go (B := T395.setTop (mkF m 10 #[.val (.ref so), .val (.int i1)] [])) (fun t k => ?_) ?_
        · refine XS.icmpNo X395.here hx rfl (od hby dc14 5 rfl) rfl (tlt hc7_396).2.1 ?_
          exact k
        have qlt : jq < mm := own_ltn qj hm hc7_396
        refine own_go (B := T395.setTop (mkF m 12 #[.val (.ref so), .val (.int i1)] [(.int i1), (.ref so)])) (fun t k => ?_) ?_
        · refine XS.aloadN X395.here hx rfl (od hby dc14 6 rfl) rfl rfl ?_
          refine XS.iloadN X395.here hx rfl (od hby dc14 7 rfl) rfl ?_
          exact k
        obtain ⟨cq397, kq397, q397a, q397b, q397c⟩ := isOf hZ e395 P0
        obtain ⟨_, _, ⟨T397, L397, k397, n397⟩, -, X397, ⟨Lc397, hQ397, l397, y397, z397⟩, st397⟩ := X395.virtualBack hx (y := yN21) (z := yN21) hown (mvT hZ (own_w hw 65 rfl)) (mvT hZ (own_w hw 66 rfl)) (notFace_of_selects (args := #[]) (mvT hZ (own_w hw 68 rfl))) (mvT hZ (own_w hw 68 rfl)) (mvT hZ (own_w hw 67 rfl)) (by decide) (backOf (W := 0) (chL l Z a0 hw [] so i1 br kb zl ns cs jq mm h0 n0 Z0 P0 P1 P2 P3 P4 P5 qj hm qlt hcs) hZ (own_w hw 69 rfl) (own_w hw 9 rfl) (by decide) (by decide)) q397a q397c (g := (mkF m 12 #[.val (.ref so), .val (.int i1)] [(.int i1), (.ref so)])) rfl (by rw [hml]; rfl) (Steps.refl _) (argsL := [(.int i1)]) (rest := []) (lenOf pd_16 rfl) rfl (own_W0 rfl) (od hby dc14 8 rfl) (fun _ _ => ⟨rfl, e395, (by decide : 0 + 0 ≤ _), (by decide : 0 + 0 ≤ _)⟩)
        dsimp only [Pt.U, Pt.locs, Pt.cells, Pt.slots] at X397 l397 y397 z397 st397 hQ397
        subst l397 y397 z397
        obtain ⟨rfl, Nq397, e397⟩ := hQ397
        have N397 := Fr.app N395 Nq397
        refine own_go (B := T397.setTop (mkF m 15 #[.val (.ref so), .val (.int i1)] [(.int (own_g8 (ns.getD jq 0)))])) (fun t k => st397.trans k) ?_
        obtain ⟨_, _, ⟨T398, L398, k398, n398⟩, -, X398, ⟨Lc398, hQ398, l398, y398, z398⟩, st398⟩ := Jvm.LawKit.callS X397 hx (y := yN22) hown (mvT hZ (own_w hw 87 rfl)) (mvT hZ (own_w hw 88 rfl)) (mvT hZ (own_w hw 31 rfl)) (mvT hZ (own_w hw 89 rfl)) (by decide) (backOf (W := 0) (ial l Z a0 hw [] (own_g8 (ns.getD jq 0)) h0 n0 Z0 ) hZ (own_w hw 89 rfl) (own_w hw 31 rfl) (by decide) (by decide)) (g := (mkF m 15 #[.val (.ref so), .val (.int i1)] [(.int (own_g8 (ns.getD jq 0)))])) rfl (by rw [hml]; rfl) (argsL := [(.int (own_g8 (ns.getD jq 0)))]) (rest := []) (lenOf pd_17 rfl) rfl (own_W0 rfl) (od hby dc14 9 rfl) (fun _ _ => ⟨rfl, e397, (by decide : 0 + 0 ≤ _), (by decide : 0 + 0 ≤ _)⟩)
        dsimp only [Pt.U, Pt.locs, Pt.cells, Pt.slots] at X398 l398 y398 z398 st398 hQ398
        subst l398 y398 z398
        obtain ⟨rfl, Nq398, e398⟩ := hQ398
        have N398 := Fr.app N397 Nq398
        refine own_go (B := T398.setTop (mkF m 18 #[.val (.ref so), .val (.int i1)] [(.int (own_ia (own_g8 (ns.getD jq 0))))])) st398 ?_
        by_cases hc18_399 : (own_ia (own_g8 (ns.getD jq 0))) = (0 : Int32)
        · refine own_go (B := T398.setTop (mkF m 21 #[.val (.ref so), .val (.int i1)] [])) (fun t k => ?_) ?_
          · refine XS.ifNo X398.here hx rfl (od hby dc14 10 rfl) rfl ((if0 _ _).trans (teq hc18_399).2) ?_
            exact k
          refine own_go (B := T398.setTop (mkF m 22 #[.val (.ref so), .val (.int i1)] [(.int 0)])) (fun t k => ?_) ?_
          · refine XS.iconst X398.here hx rfl (od hby dc14 11 rfl) ?_
            exact k
          exact own_rN (w := (0 : Int32)) Bd X398 hx (by simp) rfl (od hby dc14 12 rfl) (by rw [e398]; exact ⟨(own_all0 hcl qlt (by rw [← hch jq qlt]; exact hc18_399)), N398, rfl⟩) (by decide)
        · refine own_go (B := T398.setTop (mkF m 23 #[.val (.ref so), .val (.int i1)] [])) (fun t k => ?_) ?_
          · refine XS.ifYes X398.here hx rfl (pc0 := 18) (pc' := 23) rfl (od hby dc14 10 rfl) rfl ((if0 _ _).trans (feq hc18_399).2) (by decide) (by decide) ?_
            exact k
          refine own_go (B := T398.setTop (mkF m 2 #[.val (.ref so), .val (.int (i1 + (1 : Int32)))] [])) (fun t k => ?_) ?_
          · refine XS.iinc X398.here hx rfl (od hby dc14 13 rfl) rfl (l' := #[.val (.ref so), .val (.int (i1 + (1 : Int32)))]) rfl ?_
            refine XS.goto X398.here hx rfl (pc0 := 26) (pc' := 2) rfl (od hby dc14 14 rfl) (by decide) (by decide) ?_
            exact k
          exact ih ((i1 + (1 : Int32))) (jq + 1) T398 _ (by omega) (own_inc qj (by omega)) (by omega) (own_alls qp (by rw [← hch jq qlt]; exact hc18_399)) X398 e398 N398 
      · refine own_go (B := T395.setTop (mkF m 29 #[.val (.ref so), .val (.int i1)] [])) (fun t k => ?_) ?_
        · refine XS.icmpYes X395.here hx rfl (pc0 := 7) (pc' := 29) rfl (od hby dc14 5 rfl) rfl (flt hc7_396).2.1 (by decide) (by decide) ?_
          exact k
        refine own_go (B := T395.setTop (mkF m 30 #[.val (.ref so), .val (.int i1)] [(.int 1)])) (fun t k => ?_) ?_
        · refine XS.iconst X395.here hx rfl (od hby dc14 15 rfl) ?_
          exact k
        exact own_rN (w := (1 : Int32)) Bd X395 hx (by simp) rfl (od hby dc14 16 rfl) (by rw [e395]; exact ⟨(own_all1 hcl (own_gen qj hm hc7_396) qp), N395, rfl⟩) (by decide)
  exact loop394 _ ((0 : Int32)) (0) s₁ _ (Nat.lt_succ_self _) (rfl) (Nat.zero_le _) (fun q h => absurd h (Nat.not_lt_zero _)) X0 e0 N0 
def QallU (Z : State) (so br : Addr) (kb : ClassId) (zb : Int32) (ns : List Int32) (zl cs : Int32) (mm : Nat) (chl : List Int32) (h0 : Heap) (n0 : Nat) (v : Option Value) (h : Heap) (L : List Loc) : Prop := v = some (.int (own_all chl)) ∧ Fr n0 L ∧ h = h0
theorem efallU (m : MethodId) (x0 : Addr) : entryFrame m #[(.ref x0)] 2 = mkF m 0 #[.val (.ref x0), .unset] [] := by first | (simp [entryFrame, mkF, argsToLocals, Value.category]; done) | rfl
set_option maxRecDepth 65536 in
set_option maxHeartbeats 40000000 in
theorem allU (l : Launch) (Z : State) (a0 : Array Value) (hw : own_HW a0 Z) (ws : List Jvm.Cond) (so br : Addr) (kb : ClassId) (zb : Int32) (ns : List Int32) (zl cs : Int32) (mm : Nat) (chl : List Int32) (h0 : Heap) (n0 : Nat) (Z0 : n0 ≤ h0.size) (P0 : Exa Z h0 so jS) (P1 : Fld Z h0 so jS "coder" "B" (.int 1)) (P2 : Fld Z h0 so jS "value" "[B" (.ref br)) (P3 : Arv Z h0 br kb .byte zb (own_I ns) (.int 0)) (P4 : Sta Z h0 jS "COMPACT_STRINGS" "Z" (.int cs)) (P5 : own_SI Z h0) (P6 : Sta Z h0 jU "$assertionsDisabled" "Z" (.int 1)) (P7 : Sta Z h0 jU "HI_BYTE_SHIFT" "I" (.int 0)) (P8 : Sta Z h0 jU "LO_BYTE_SHIFT" "I" (.int 8)) (hm : zl.toInt = (mm : Int)) (hs : mm < 100000) (hcl : chl.length = mm) (hch : ∀ q, q < mm → (own_gc (ns.getD (2 * q) 0) (ns.getD (2 * q + 1) 0)) = chl.getD q 0) (hcs : cs ≠ (0 : Int32)) (hln : (zb >>> ((1 : Int32) &&& 31)) = zl) (hzb : zb.toInt = ((2 * mm : Nat) : Int)) (hnl : ns.length = 2 * mm) :
    own_M l Z yN24 prog_1_method_6_code 2 (some .boolean) ws (own_R 5 0 0 66) #[(.ref so)] h0 (QallU Z so br kb zb ns zl cs mm chl h0 n0) := by
  refine own_b (own := jN) rfl (plainFor_of_name pn_5) (fun m => efallU m so) n0 fun p e s m below meth c s₁ Bd hZ hx hby hml hown X0 e0 N0 => ?_
  refine own_go (B := s₁.setTop (mkF m 2 #[.val (.ref so), .val (.int 0)] [])) (fun t k => ?_) ?_
  · refine XS.iconst X0.here hx rfl (od hby dc14 0 rfl) ?_
    refine XS.istoreN X0.here hx rfl (od hby dc14 1 rfl) rfl (l' := #[.val (.ref so), .val (.int 0)]) rfl ?_
    exact k
  have loop400 : ∀ (N : Nat) (i1 : Int32) (jq : Nat) (Tq400 : State) (Lq400 : List Loc), (mm - jq) < N → i1.toInt = (jq : Int) → jq ≤ mm → (∀ q, q < jq → own_ia (chl.getD q 0) ≠ 0) → Stand p l e (own_R 5 0 0 66) s m #[(.ref so)] below meth c Tq400 Lq400 0 0 → Tq400.heap = h0 → Fr n0 Lq400 → ∃ s₂ o, Steps p.tables e below (Tq400.setTop (mkF m 2 #[.val (.ref so), .val (.int i1)] [])) s₂ ∧ s₂.status = .running ∧ Ended s₂ below o ∧ ∃ v L, o = .returned v ∧ QallU Z so br kb zb ns zl cs mm chl h0 n0 v s₂.heap L ∧ FrameEnd s o s₂ L (own_R 5 0 0 66).cells (own_R 5 0 0 66).slots := by
    intro N
    induction N with
    | zero => intro i1 jq Tq400 Lq400 hmu; exact absurd hmu (Nat.not_lt_zero _)
    | succ N ih =>
      intro i1 jq Tq400 Lq400 hmu qj qm qp Xq400 eq400 Nq400 
      refine own_go (B := Tq400.setTop (mkF m 4 #[.val (.ref so), .val (.int i1)] [(.ref so), (.int i1)])) (fun t k => ?_) ?_
      · refine XS.iloadN Xq400.here hx rfl (od hby dc14 2 rfl) rfl ?_
        refine XS.aloadN Xq400.here hx rfl (od hby dc14 3 rfl) rfl rfl ?_
        exact k
      obtain ⟨cq401, kq401, q401a, q401b, q401c⟩ := isOf hZ eq400 P0
      obtain ⟨_, _, ⟨T401, L401, k401, n401⟩, -, X401, ⟨Lc401, hQ401, l401, y401, z401⟩, st401⟩ := Xq400.virtualBack hx (y := yN12) (z := yN12) hown (mvT hZ (own_w hw 52 rfl)) (mvT hZ (own_w hw 53 rfl)) (notFace_of_selects (args := #[]) (mvT hZ (own_w hw 55 rfl))) (mvT hZ (own_w hw 55 rfl)) (mvT hZ (own_w hw 54 rfl)) (by decide) (backOf (W := 1) (len_1 l Z a0 hw [] so br kb zb ns cs zl h0 n0 Z0 P0 P1 P2 P3 P4 hcs hln) hZ (own_w hw 56 rfl) (own_w hw 9 rfl) (by decide) (by decide)) q401a q401c (g := (mkF m 4 #[.val (.ref so), .val (.int i1)] [(.ref so), (.int i1)])) rfl (by rw [hml]; rfl) (Steps.refl _) (argsL := []) (rest := [(.int i1)]) (lenOf pd_15 rfl) rfl (own_W0 rfl) (od hby dc14 4 rfl) (fun _ _ => ⟨rfl, eq400, (by decide : 0 + 0 ≤ _), (by decide : 0 + 0 ≤ _)⟩)
      dsimp only [Pt.U, Pt.locs, Pt.cells, Pt.slots] at X401 l401 y401 z401 st401 hQ401
      subst l401 y401 z401
      obtain ⟨rfl, Nq401, e401⟩ := hQ401
      have N401 := Fr.app Nq400 Nq401
      refine own_go (B := T401.setTop (mkF m 7 #[.val (.ref so), .val (.int i1)] [(.int zl), (.int i1)])) (fun t k => st401.trans k) ?_
      by_cases hc7_402 : i1 < zl
      · refine own_go (B := T401.setTop (mkF m 10 #[.val (.ref so), .val (.int i1)] [])) (fun t k => ?_) ?_
        · refine XS.icmpNo X401.here hx rfl (od hby dc14 5 rfl) rfl (tlt hc7_402).2.1 ?_
          exact k
        have qlt : jq < mm := own_ltn qj hm hc7_402
        refine own_go (B := T401.setTop (mkF m 12 #[.val (.ref so), .val (.int i1)] [(.int i1), (.ref so)])) (fun t k => ?_) ?_
        · refine XS.aloadN X401.here hx rfl (od hby dc14 6 rfl) rfl rfl ?_
          refine XS.iloadN X401.here hx rfl (od hby dc14 7 rfl) rfl ?_
          exact k
        obtain ⟨cq403, kq403, q403a, q403b, q403c⟩ := isOf hZ e401 P0
        obtain ⟨_, _, ⟨T403, L403, k403, n403⟩, -, X403, ⟨Lc403, hQ403, l403, y403, z403⟩, st403⟩ := X401.virtualBack hx (y := yN21) (z := yN21) hown (mvT hZ (own_w hw 65 rfl)) (mvT hZ (own_w hw 66 rfl)) (notFace_of_selects (args := #[]) (mvT hZ (own_w hw 68 rfl))) (mvT hZ (own_w hw 68 rfl)) (mvT hZ (own_w hw 67 rfl)) (by decide) (backOf (W := 0) (chU l Z a0 hw [] so i1 br kb zb ns cs zl jq mm h0 n0 Z0 P0 P1 P2 P3 P4 P5 P6 P7 P8 qj hm qlt hln hzb hnl hs hcs) hZ (own_w hw 69 rfl) (own_w hw 9 rfl) (by decide) (by decide)) q403a q403c (g := (mkF m 12 #[.val (.ref so), .val (.int i1)] [(.int i1), (.ref so)])) rfl (by rw [hml]; rfl) (Steps.refl _) (argsL := [(.int i1)]) (rest := []) (lenOf pd_16 rfl) rfl (own_W0 rfl) (od hby dc14 8 rfl) (fun _ _ => ⟨rfl, e401, (by decide : 0 + 0 ≤ _), (by decide : 0 + 0 ≤ _)⟩)
        dsimp only [Pt.U, Pt.locs, Pt.cells, Pt.slots] at X403 l403 y403 z403 st403 hQ403
        subst l403 y403 z403
        obtain ⟨rfl, Nq403, e403⟩ := hQ403
        have N403 := Fr.app N401 Nq403
        refine own_go (B := T403.setTop (mkF m 15 #[.val (.ref so), .val (.int i1)] [(.int (own_gc (ns.getD (2 * jq) 0) (ns.getD (2 * jq + 1) 0)))])) (fun t k => st403.trans k) ?_
        obtain ⟨_, _, ⟨T404, L404, k404, n404⟩, -, X404, ⟨Lc404, hQ404, l404, y404, z404⟩, st404⟩ := Jvm.LawKit.callS X403 hx (y := yN22) hown (mvT hZ (own_w hw 87 rfl)) (mvT hZ (own_w hw 88 rfl)) (mvT hZ (own_w hw 31 rfl)) (mvT hZ (own_w hw 89 rfl)) (by decide) (backOf (W := 0) (ial l Z a0 hw [] (own_gc (ns.getD (2 * jq) 0) (ns.getD (2 * jq + 1) 0)) h0 n0 Z0 ) hZ (own_w hw 89 rfl) (own_w hw 31 rfl) (by decide) (by decide)) (g := (mkF m 15 #[.val (.ref so), .val (.int i1)] [(.int (own_gc (ns.getD (2 * jq) 0) (ns.getD (2 * jq + 1) 0)))])) rfl (by rw [hml]; rfl) (argsL := [(.int (own_gc (ns.getD (2 * jq) 0) (ns.getD (2 * jq + 1) 0)))]) (rest := []) (lenOf pd_17 rfl) rfl (own_W0 rfl) (od hby dc14 9 rfl) (fun _ _ => ⟨rfl, e403, (by decide : 0 + 0 ≤ _), (by decide : 0 + 0 ≤ _)⟩)
        dsimp only [Pt.U, Pt.locs, Pt.cells, Pt.slots] at X404 l404 y404 z404 st404 hQ404
        subst l404 y404 z404
        obtain ⟨rfl, Nq404, e404⟩ := hQ404
        have N404 := Fr.app N403 Nq404
        refine own_go (B := T404.setTop (mkF m 18 #[.val (.ref so), .val (.int i1)] [(.int (own_ia (own_gc (ns.getD (2 * jq) 0) (ns.getD (2 * jq + 1) 0))))])) st404 ?_
        by_cases hc18_405 : (own_ia (own_gc (ns.getD (2 * jq) 0) (ns.getD (2 * jq + 1) 0))) = (0 : Int32)
        · refine own_go (B := T404.setTop (mkF m 21 #[.val (.ref so), .val (.int i1)] [])) (fun t k => ?_) ?_
          · refine XS.ifNo X404.here hx rfl (od hby dc14 10 rfl) rfl ((if0 _ _).trans (teq hc18_405).2) ?_
            exact k
          refine own_go (B := T404.setTop (mkF m 22 #[.val (.ref so), .val (.int i1)] [(.int 0)])) (fun t k => ?_) ?_
          · refine XS.iconst X404.here hx rfl (od hby dc14 11 rfl) ?_
            exact k
          exact own_rN (w := (0 : Int32)) Bd X404 hx (by simp) rfl (od hby dc14 12 rfl) (by rw [e404]; exact ⟨(own_all0 hcl qlt (by rw [← hch jq qlt]; exact hc18_405)), N404, rfl⟩) (by decide)
        · refine own_go (B := T404.setTop (mkF m 23 #[.val (.ref so), .val (.int i1)] [])) (fun t k => ?_) ?_
          · refine XS.ifYes X404.here hx rfl (pc0 := 18) (pc' := 23) rfl (od hby dc14 10 rfl) rfl ((if0 _ _).trans (feq hc18_405).2) (by decide) (by decide) ?_
            exact k
          refine own_go (B := T404.setTop (mkF m 2 #[.val (.ref so), .val (.int (i1 + (1 : Int32)))] [])) (fun t k => ?_) ?_
          · refine XS.iinc X404.here hx rfl (od hby dc14 13 rfl) rfl (l' := #[.val (.ref so), .val (.int (i1 + (1 : Int32)))]) rfl ?_
            refine XS.goto X404.here hx rfl (pc0 := 26) (pc' := 2) rfl (od hby dc14 14 rfl) (by decide) (by decide) ?_
            exact k
          exact ih ((i1 + (1 : Int32))) (jq + 1) T404 _ (by omega) (own_inc qj (by omega)) (by omega) (own_alls qp (by rw [← hch jq qlt]; exact hc18_405)) X404 e404 N404 
      · refine own_go (B := T401.setTop (mkF m 29 #[.val (.ref so), .val (.int i1)] [])) (fun t k => ?_) ?_
        · refine XS.icmpYes X401.here hx rfl (pc0 := 7) (pc' := 29) rfl (od hby dc14 5 rfl) rfl (flt hc7_402).2.1 (by decide) (by decide) ?_
          exact k
        refine own_go (B := T401.setTop (mkF m 30 #[.val (.ref so), .val (.int i1)] [(.int 1)])) (fun t k => ?_) ?_
        · refine XS.iconst X401.here hx rfl (od hby dc14 15 rfl) ?_
          exact k
        exact own_rN (w := (1 : Int32)) Bd X401 hx (by simp) rfl (od hby dc14 16 rfl) (by rw [e401]; exact ⟨(own_all1 hcl (own_gen qj hm hc7_402) qp), N401, rfl⟩) (by decide)
  exact loop400 _ ((0 : Int32)) (0) s₁ _ (Nat.lt_succ_self _) (rfl) (Nat.zero_le _) (fun q h => absurd h (Nat.not_lt_zero _)) X0 e0 N0 
theorem own_is0 {z : Int32} {k : Nat} (h : ¬ fise z = (0 : Int32)) (hz : z.toInt = (k : Int)) : k = 0 := by
  unfold fise at h
  by_cases e : z = (0 : Int32)
  · rw [e] at hz; have e0 : (0 : Int32).toInt = 0 := rfl; omega
  · rw [if_neg e] at h; exact absurd rfl h
theorem own_is1 {z : Int32} {k : Nat} (h : fise z = (0 : Int32)) (hz : z.toInt = (k : Int)) : 0 < k := by
  rcases Nat.eq_zero_or_pos k with q | q
  · subst q; have e : z = (0 : Int32) := Int32.toInt_inj.mp hz
    rw [e] at h; exact absurd h (by decide)
  · exact q
theorem own_iv1 {chl : List Int32} {zl : Int32} {mm : Nat} (hm : zl.toInt = (mm : Int)) (hcl : chl.length = mm) (h : (100 : Int32) < zl) : own_iv chl = 0 := by
  rw [Int32.lt_iff_toInt_lt] at h; have e : (100 : Int32).toInt = 100 := rfl
  unfold own_iv; rw [hcl, if_neg (by omega), if_pos (by omega)]
theorem own_iv2 {chl : List Int32} {zl : Int32} {mm : Nat} (hm : zl.toInt = (mm : Int)) (hcl : chl.length = mm) (h0 : 0 < mm) (h : ¬ (100 : Int32) < zl) : own_iv chl = own_all chl := by
  rw [Int32.lt_iff_toInt_lt] at h; have e : (100 : Int32).toInt = 100 := rfl
  unfold own_iv; rw [hcl, if_neg (by omega), if_neg (by omega)]
theorem own_iv3 {chl : List Int32} {v : Int32} (h : own_iv chl = own_all chl) (hv : own_all chl = v) : own_iv chl = v := h.trans hv
theorem own_iv4 {chl : List Int32} (h : ¬ own_all chl = (0 : Int32)) : own_all chl = 1 := (own_all01 chl).resolve_left h
def QivN (Z : State)  (h0 : Heap) (n0 : Nat) (v : Option Value) (h : Heap) (L : List Loc) : Prop := v = some (.int 0) ∧ Fr n0 L ∧ h = h0
theorem efivN (m : MethodId)  : entryFrame m #[.null] 1 = mkF m 0 #[.val .null] [] := by first | (simp [entryFrame, mkF, argsToLocals, Value.category]; done) | rfl
set_option maxRecDepth 65536 in
set_option maxHeartbeats 40000000 in
theorem ivN (l : Launch) (Z : State) (a0 : Array Value) (hw : own_HW a0 Z) (ws : List Jvm.Cond)  (h0 : Heap) (n0 : Nat) (Z0 : n0 ≤ h0.size)  :
    own_M l Z yN25 prog_1_method_2_code 1 (some .boolean) ws (own_R 0 0 0 0) #[.null] h0 (QivN Z  h0 n0) := by
  refine own_b (own := jN) rfl (plainFor_of_name pn_5) (fun m => efivN m ) n0 fun p e s m below meth c s₁ Bd hZ hx hby hml hown X0 e0 N0 => ?_
  refine own_go (B := s₁.setTop (mkF m 32 #[.val .null] [(.int 0)])) (fun t k => ?_) ?_
  · refine XS.aloadN X0.here hx rfl (od hby dc6 0 rfl) rfl rfl ?_
    refine XS.ifnullYes X0.here hx rfl (pc0 := 1) (pc' := 31) rfl (od hby dc6 1 rfl) rfl (by decide) (by decide) ?_
    refine XS.iconst X0.here hx rfl (od hby dc6 2 rfl) ?_
    exact k
  exact own_rN (w := (0 : Int32)) Bd X0 hx (by simp) rfl (od hby dc6 3 rfl) (by rw [e0]; exact ⟨rfl, N0, rfl⟩) (by decide)
def QivL (Z : State) (so br : Addr) (kb : ClassId) (zl : Int32) (ns : List Int32) (cs : Int32) (mm : Nat) (chl : List Int32) (h0 : Heap) (n0 : Nat) (v : Option Value) (h : Heap) (L : List Loc) : Prop := v = some (.int (own_iv chl)) ∧ Fr n0 L ∧ h = h0
theorem efivL (m : MethodId) (x0 : Addr) : entryFrame m #[(.ref x0)] 1 = mkF m 0 #[.val (.ref x0)] [] := by first | (simp [entryFrame, mkF, argsToLocals, Value.category]; done) | rfl
set_option maxRecDepth 65536 in
set_option maxHeartbeats 40000000 in
theorem ivL (l : Launch) (Z : State) (a0 : Array Value) (hw : own_HW a0 Z) (ws : List Jvm.Cond) (so br : Addr) (kb : ClassId) (zl : Int32) (ns : List Int32) (cs : Int32) (mm : Nat) (chl : List Int32) (h0 : Heap) (n0 : Nat) (Z0 : n0 ≤ h0.size) (P0 : Exa Z h0 so jS) (P1 : Fld Z h0 so jS "coder" "B" (.int 0)) (P2 : Fld Z h0 so jS "value" "[B" (.ref br)) (P3 : Arv Z h0 br kb .byte zl (own_I ns) (.int 0)) (P4 : Sta Z h0 jS "COMPACT_STRINGS" "Z" (.int cs)) (P5 : own_SI Z h0) (hm : zl.toInt = (mm : Int)) (hs : mm < 100000) (hcl : chl.length = mm) (hch : ∀ q, q < mm → (own_g8 (ns.getD q 0)) = chl.getD q 0) (hcs : cs ≠ (0 : Int32)) :
    own_M l Z yN25 prog_1_method_2_code 1 (some .boolean) ws (own_R 5 0 0 66) #[(.ref so)] h0 (QivL Z so br kb zl ns cs mm chl h0 n0) := by
  refine own_b (own := jN) rfl (plainFor_of_name pn_5) (fun m => efivL m so) n0 fun p e s m below meth c s₁ Bd hZ hx hby hml hown X0 e0 N0 => ?_
  refine own_go (B := s₁.setTop (mkF m 5 #[.val (.ref so)] [(.ref so)])) (fun t k => ?_) ?_
  · refine XS.aloadN X0.here hx rfl (od hby dc6 0 rfl) rfl rfl ?_
    refine XS.ifnullNo X0.here hx rfl (od hby dc6 1 rfl) rfl ?_
    refine XS.aloadN X0.here hx rfl (od hby dc6 4 rfl) rfl rfl ?_
    exact k
  obtain ⟨cq406, kq406, q406a, q406b, q406c⟩ := isOf hZ e0 P0
  obtain ⟨_, _, ⟨T406, L406, k406, n406⟩, -, X406, ⟨Lc406, hQ406, l406, y406, z406⟩, st406⟩ := X0.virtualBack hx (y := yN14) (z := yN14) hown (mvT hZ (own_w hw 33 rfl)) (mvT hZ (own_w hw 34 rfl)) (notFace_of_selects (args := #[]) (mvT hZ (own_w hw 36 rfl))) (mvT hZ (own_w hw 36 rfl)) (mvT hZ (own_w hw 35 rfl)) (by decide) (backOf (W := 0) (ise l Z a0 hw [] so br kb zl ns h0 n0 Z0 P2 P3) hZ (own_w hw 37 rfl) (own_w hw 9 rfl) (by decide) (by decide)) q406a q406c (g := (mkF m 5 #[.val (.ref so)] [(.ref so)])) rfl (by rw [hml]; rfl) (Steps.refl _) (argsL := []) (rest := []) (lenOf pd_14 rfl) rfl (own_W0 rfl) (od hby dc6 5 rfl) (fun _ _ => ⟨rfl, e0, (by decide : 0 + 0 ≤ _), (by decide : 0 + 0 ≤ _)⟩)
  dsimp only [Pt.U, Pt.locs, Pt.cells, Pt.slots] at X406 l406 y406 z406 st406 hQ406
  subst l406 y406 z406
  obtain ⟨rfl, Nq406, e406⟩ := hQ406
  have N406 := Fr.app N0 Nq406
  refine own_go (B := T406.setTop (mkF m 8 #[.val (.ref so)] [(.int (fise zl))])) (fun t k => st406.trans k) ?_
  by_cases hc8_407 : (fise zl) = (0 : Int32)
  · refine own_go (B := T406.setTop (mkF m 11 #[.val (.ref so)] [])) (fun t k => ?_) ?_
    · refine XS.ifNo X406.here hx rfl (od hby dc6 6 rfl) rfl ((if0 _ _).trans (teq hc8_407).2) ?_
      exact k
    refine own_go (B := T406.setTop (mkF m 12 #[.val (.ref so)] [(.ref so)])) (fun t k => ?_) ?_
    · refine XS.aloadN X406.here hx rfl (od hby dc6 7 rfl) rfl rfl ?_
      exact k
    obtain ⟨cq408, kq408, q408a, q408b, q408c⟩ := isOf hZ e406 P0
    obtain ⟨_, _, ⟨T408, L408, k408, n408⟩, -, X408, ⟨Lc408, hQ408, l408, y408, z408⟩, st408⟩ := X406.virtualBack hx (y := yN12) (z := yN12) hown (mvT hZ (own_w hw 52 rfl)) (mvT hZ (own_w hw 53 rfl)) (notFace_of_selects (args := #[]) (mvT hZ (own_w hw 55 rfl))) (mvT hZ (own_w hw 55 rfl)) (mvT hZ (own_w hw 54 rfl)) (by decide) (backOf (W := 0) (len_0 l Z a0 hw [] so br kb zl ns cs zl h0 n0 Z0 P0 P1 P2 P3 P4 hcs (own_shr0 _)) hZ (own_w hw 56 rfl) (own_w hw 9 rfl) (by decide) (by decide)) q408a q408c (g := (mkF m 12 #[.val (.ref so)] [(.ref so)])) rfl (by rw [hml]; rfl) (Steps.refl _) (argsL := []) (rest := []) (lenOf pd_15 rfl) rfl (own_W0 rfl) (od hby dc6 8 rfl) (fun _ _ => ⟨rfl, e406, (by decide : 0 + 0 ≤ _), (by decide : 0 + 0 ≤ _)⟩)
    dsimp only [Pt.U, Pt.locs, Pt.cells, Pt.slots] at X408 l408 y408 z408 st408 hQ408
    subst l408 y408 z408
    obtain ⟨rfl, Nq408, e408⟩ := hQ408
    have N408 := Fr.app N406 Nq408
    refine own_go (B := T408.setTop (mkF m 15 #[.val (.ref so)] [(.int zl)])) (fun t k => st408.trans k) ?_
    refine own_go (B := T408.setTop (mkF m 17 #[.val (.ref so)] [(.int 100), (.int zl)])) (fun t k => ?_) ?_
    · refine XS.bipush X408.here hx rfl (od hby dc6 9 rfl) ?_
      exact k
    by_cases hc17_409 : (100 : Int32) < zl
    · refine own_go (B := T408.setTop (mkF m 31 #[.val (.ref so)] [])) (fun t k => ?_) ?_
      · refine XS.icmpYes X408.here hx rfl (pc0 := 17) (pc' := 31) rfl (od hby dc6 10 rfl) rfl (tlt hc17_409).2.2.1 (by decide) (by decide) ?_
        exact k
      refine own_go (B := T408.setTop (mkF m 32 #[.val (.ref so)] [(.int 0)])) (fun t k => ?_) ?_
      · refine XS.iconst X408.here hx rfl (od hby dc6 2 rfl) ?_
        exact k
      exact own_rN (w := (0 : Int32)) Bd X408 hx (by simp) rfl (od hby dc6 3 rfl) (by rw [e408]; exact ⟨(by rw [own_iv1 hm hcl hc17_409]), N408, rfl⟩) (by decide)
    · refine own_go (B := T408.setTop (mkF m 20 #[.val (.ref so)] [])) (fun t k => ?_) ?_
      · refine XS.icmpNo X408.here hx rfl (od hby dc6 10 rfl) rfl (flt hc17_409).2.2.1 ?_
        exact k
      refine own_go (B := T408.setTop (mkF m 21 #[.val (.ref so)] [(.ref so)])) (fun t k => ?_) ?_
      · refine XS.aloadN X408.here hx rfl (od hby dc6 11 rfl) rfl rfl ?_
        exact k
      obtain ⟨_, _, ⟨T410, L410, k410, n410⟩, -, X410, ⟨Lc410, hQ410, l410, y410, z410⟩, st410⟩ := Jvm.LawKit.callS X408 hx (y := yN24) hown (mvT hZ (own_w hw 62 rfl)) (mvT hZ (own_w hw 63 rfl)) (mvT hZ (own_w hw 31 rfl)) (mvT hZ (own_w hw 64 rfl)) (by decide) (backOf (W := 0) (allL l Z a0 hw [] so br kb zl ns cs mm chl h0 n0 Z0 P0 P1 P2 P3 P4 P5 hm hs hcl hch hcs) hZ (own_w hw 64 rfl) (own_w hw 31 rfl) (by decide) (by decide)) (g := (mkF m 21 #[.val (.ref so)] [(.ref so)])) rfl (by rw [hml]; rfl) (argsL := [(.ref so)]) (rest := []) (lenOf pd_18 rfl) rfl (own_W0 rfl) (od hby dc6 12 rfl) (fun _ _ => ⟨rfl, e408, (by decide : 0 + 0 ≤ _), (by decide : 0 + 0 ≤ _)⟩)
      dsimp only [Pt.U, Pt.locs, Pt.cells, Pt.slots] at X410 l410 y410 z410 st410 hQ410
      subst l410 y410 z410
      obtain ⟨rfl, Nq410, e410⟩ := hQ410
      have N410 := Fr.app N408 Nq410
      refine own_go (B := T410.setTop (mkF m 24 #[.val (.ref so)] [(.int (own_all chl))])) st410 ?_
      by_cases hc24_411 : (own_all chl) = (0 : Int32)
      · refine own_go (B := T410.setTop (mkF m 31 #[.val (.ref so)] [])) (fun t k => ?_) ?_
        · refine XS.ifYes X410.here hx rfl (pc0 := 24) (pc' := 31) rfl (od hby dc6 13 rfl) rfl ((if0 _ _).trans (teq hc24_411).1) (by decide) (by decide) ?_
          exact k
        refine own_go (B := T410.setTop (mkF m 32 #[.val (.ref so)] [(.int 0)])) (fun t k => ?_) ?_
        · refine XS.iconst X410.here hx rfl (od hby dc6 2 rfl) ?_
          exact k
        exact own_rN (w := (0 : Int32)) Bd X410 hx (by simp) rfl (od hby dc6 3 rfl) (by rw [e410]; exact ⟨(by rw [own_iv3 (own_iv2 hm hcl (by have := own_is1 hc8_407 hm; omega) hc17_409) hc24_411]), N410, rfl⟩) (by decide)
      · refine own_go (B := T410.setTop (mkF m 27 #[.val (.ref so)] [])) (fun t k => ?_) ?_
        · refine XS.ifNo X410.here hx rfl (od hby dc6 13 rfl) rfl ((if0 _ _).trans (feq hc24_411).1) ?_
          exact k
        refine own_go (B := T410.setTop (mkF m 32 #[.val (.ref so)] [(.int 1)])) (fun t k => ?_) ?_
        · refine XS.iconst X410.here hx rfl (od hby dc6 14 rfl) ?_
          refine XS.goto X410.here hx rfl (pc0 := 28) (pc' := 32) rfl (od hby dc6 15 rfl) (by decide) (by decide) ?_
          exact k
        exact own_rN (w := (1 : Int32)) Bd X410 hx (by simp) rfl (od hby dc6 3 rfl) (by rw [e410]; exact ⟨(by rw [own_iv3 (own_iv2 hm hcl (by have := own_is1 hc8_407 hm; omega) hc17_409) (own_iv4 hc24_411)]), N410, rfl⟩) (by decide)
  · refine own_go (B := T406.setTop (mkF m 31 #[.val (.ref so)] [])) (fun t k => ?_) ?_
    · refine XS.ifYes X406.here hx rfl (pc0 := 8) (pc' := 31) rfl (od hby dc6 6 rfl) rfl ((if0 _ _).trans (feq hc8_407).2) (by decide) (by decide) ?_
      exact k
    refine own_go (B := T406.setTop (mkF m 32 #[.val (.ref so)] [(.int 0)])) (fun t k => ?_) ?_
    · refine XS.iconst X406.here hx rfl (od hby dc6 2 rfl) ?_
      exact k
    exact own_rN (w := (0 : Int32)) Bd X406 hx (by simp) rfl (od hby dc6 3 rfl) (by rw [e406]; exact ⟨(by rw [own_fin3 (hcl.trans (by have := own_is0 hc8_407 hm; omega))]), N406, rfl⟩) (by decide)
def QivU (Z : State) (so br : Addr) (kb : ClassId) (zb : Int32) (ns : List Int32) (zl cs : Int32) (mm : Nat) (chl : List Int32) (h0 : Heap) (n0 : Nat) (v : Option Value) (h : Heap) (L : List Loc) : Prop := v = some (.int (own_iv chl)) ∧ Fr n0 L ∧ h = h0
theorem efivU (m : MethodId) (x0 : Addr) : entryFrame m #[(.ref x0)] 1 = mkF m 0 #[.val (.ref x0)] [] := by first | (simp [entryFrame, mkF, argsToLocals, Value.category]; done) | rfl
set_option maxRecDepth 65536 in
set_option maxHeartbeats 40000000 in
theorem ivU (l : Launch) (Z : State) (a0 : Array Value) (hw : own_HW a0 Z) (ws : List Jvm.Cond) (so br : Addr) (kb : ClassId) (zb : Int32) (ns : List Int32) (zl cs : Int32) (mm : Nat) (chl : List Int32) (h0 : Heap) (n0 : Nat) (Z0 : n0 ≤ h0.size) (P0 : Exa Z h0 so jS) (P1 : Fld Z h0 so jS "coder" "B" (.int 1)) (P2 : Fld Z h0 so jS "value" "[B" (.ref br)) (P3 : Arv Z h0 br kb .byte zb (own_I ns) (.int 0)) (P4 : Sta Z h0 jS "COMPACT_STRINGS" "Z" (.int cs)) (P5 : own_SI Z h0) (P6 : Sta Z h0 jU "$assertionsDisabled" "Z" (.int 1)) (P7 : Sta Z h0 jU "HI_BYTE_SHIFT" "I" (.int 0)) (P8 : Sta Z h0 jU "LO_BYTE_SHIFT" "I" (.int 8)) (hm : zl.toInt = (mm : Int)) (hs : mm < 100000) (hcl : chl.length = mm) (hch : ∀ q, q < mm → (own_gc (ns.getD (2 * q) 0) (ns.getD (2 * q + 1) 0)) = chl.getD q 0) (hcs : cs ≠ (0 : Int32)) (hln : (zb >>> ((1 : Int32) &&& 31)) = zl) (hzb : zb.toInt = ((2 * mm : Nat) : Int)) (hnl : ns.length = 2 * mm) :
    own_M l Z yN25 prog_1_method_2_code 1 (some .boolean) ws (own_R 6 0 0 79) #[(.ref so)] h0 (QivU Z so br kb zb ns zl cs mm chl h0 n0) := by
  refine own_b (own := jN) rfl (plainFor_of_name pn_5) (fun m => efivU m so) n0 fun p e s m below meth c s₁ Bd hZ hx hby hml hown X0 e0 N0 => ?_
  refine own_go (B := s₁.setTop (mkF m 5 #[.val (.ref so)] [(.ref so)])) (fun t k => ?_) ?_
  · refine XS.aloadN X0.here hx rfl (od hby dc6 0 rfl) rfl rfl ?_
    refine XS.ifnullNo X0.here hx rfl (od hby dc6 1 rfl) rfl ?_
    refine XS.aloadN X0.here hx rfl (od hby dc6 4 rfl) rfl rfl ?_
    exact k
  obtain ⟨cq412, kq412, q412a, q412b, q412c⟩ := isOf hZ e0 P0
  obtain ⟨_, _, ⟨T412, L412, k412, n412⟩, -, X412, ⟨Lc412, hQ412, l412, y412, z412⟩, st412⟩ := X0.virtualBack hx (y := yN14) (z := yN14) hown (mvT hZ (own_w hw 33 rfl)) (mvT hZ (own_w hw 34 rfl)) (notFace_of_selects (args := #[]) (mvT hZ (own_w hw 36 rfl))) (mvT hZ (own_w hw 36 rfl)) (mvT hZ (own_w hw 35 rfl)) (by decide) (backOf (W := 0) (ise l Z a0 hw [] so br kb zb ns h0 n0 Z0 P2 P3) hZ (own_w hw 37 rfl) (own_w hw 9 rfl) (by decide) (by decide)) q412a q412c (g := (mkF m 5 #[.val (.ref so)] [(.ref so)])) rfl (by rw [hml]; rfl) (Steps.refl _) (argsL := []) (rest := []) (lenOf pd_14 rfl) rfl (own_W0 rfl) (od hby dc6 5 rfl) (fun _ _ => ⟨rfl, e0, (by decide : 0 + 0 ≤ _), (by decide : 0 + 0 ≤ _)⟩)
  dsimp only [Pt.U, Pt.locs, Pt.cells, Pt.slots] at X412 l412 y412 z412 st412 hQ412
  subst l412 y412 z412
  obtain ⟨rfl, Nq412, e412⟩ := hQ412
  have N412 := Fr.app N0 Nq412
  refine own_go (B := T412.setTop (mkF m 8 #[.val (.ref so)] [(.int (fise zb))])) (fun t k => st412.trans k) ?_
  by_cases hc8_413 : (fise zb) = (0 : Int32)
  · refine own_go (B := T412.setTop (mkF m 11 #[.val (.ref so)] [])) (fun t k => ?_) ?_
    · refine XS.ifNo X412.here hx rfl (od hby dc6 6 rfl) rfl ((if0 _ _).trans (teq hc8_413).2) ?_
      exact k
    refine own_go (B := T412.setTop (mkF m 12 #[.val (.ref so)] [(.ref so)])) (fun t k => ?_) ?_
    · refine XS.aloadN X412.here hx rfl (od hby dc6 7 rfl) rfl rfl ?_
      exact k
    obtain ⟨cq414, kq414, q414a, q414b, q414c⟩ := isOf hZ e412 P0
    obtain ⟨_, _, ⟨T414, L414, k414, n414⟩, -, X414, ⟨Lc414, hQ414, l414, y414, z414⟩, st414⟩ := X412.virtualBack hx (y := yN12) (z := yN12) hown (mvT hZ (own_w hw 52 rfl)) (mvT hZ (own_w hw 53 rfl)) (notFace_of_selects (args := #[]) (mvT hZ (own_w hw 55 rfl))) (mvT hZ (own_w hw 55 rfl)) (mvT hZ (own_w hw 54 rfl)) (by decide) (backOf (W := 0) (len_1 l Z a0 hw [] so br kb zb ns cs zl h0 n0 Z0 P0 P1 P2 P3 P4 hcs hln) hZ (own_w hw 56 rfl) (own_w hw 9 rfl) (by decide) (by decide)) q414a q414c (g := (mkF m 12 #[.val (.ref so)] [(.ref so)])) rfl (by rw [hml]; rfl) (Steps.refl _) (argsL := []) (rest := []) (lenOf pd_15 rfl) rfl (own_W0 rfl) (od hby dc6 8 rfl) (fun _ _ => ⟨rfl, e412, (by decide : 0 + 0 ≤ _), (by decide : 0 + 0 ≤ _)⟩)
    dsimp only [Pt.U, Pt.locs, Pt.cells, Pt.slots] at X414 l414 y414 z414 st414 hQ414
    subst l414 y414 z414
    obtain ⟨rfl, Nq414, e414⟩ := hQ414
    have N414 := Fr.app N412 Nq414
    refine own_go (B := T414.setTop (mkF m 15 #[.val (.ref so)] [(.int zl)])) (fun t k => st414.trans k) ?_
    refine own_go (B := T414.setTop (mkF m 17 #[.val (.ref so)] [(.int 100), (.int zl)])) (fun t k => ?_) ?_
    · refine XS.bipush X414.here hx rfl (od hby dc6 9 rfl) ?_
      exact k
    by_cases hc17_415 : (100 : Int32) < zl
    · refine own_go (B := T414.setTop (mkF m 31 #[.val (.ref so)] [])) (fun t k => ?_) ?_
      · refine XS.icmpYes X414.here hx rfl (pc0 := 17) (pc' := 31) rfl (od hby dc6 10 rfl) rfl (tlt hc17_415).2.2.1 (by decide) (by decide) ?_
        exact k
      refine own_go (B := T414.setTop (mkF m 32 #[.val (.ref so)] [(.int 0)])) (fun t k => ?_) ?_
      · refine XS.iconst X414.here hx rfl (od hby dc6 2 rfl) ?_
        exact k
      exact own_rN (w := (0 : Int32)) Bd X414 hx (by simp) rfl (od hby dc6 3 rfl) (by rw [e414]; exact ⟨(by rw [own_iv1 hm hcl hc17_415]), N414, rfl⟩) (by decide)
    · refine own_go (B := T414.setTop (mkF m 20 #[.val (.ref so)] [])) (fun t k => ?_) ?_
      · refine XS.icmpNo X414.here hx rfl (od hby dc6 10 rfl) rfl (flt hc17_415).2.2.1 ?_
        exact k
      refine own_go (B := T414.setTop (mkF m 21 #[.val (.ref so)] [(.ref so)])) (fun t k => ?_) ?_
      · refine XS.aloadN X414.here hx rfl (od hby dc6 11 rfl) rfl rfl ?_
        exact k
      obtain ⟨_, _, ⟨T416, L416, k416, n416⟩, -, X416, ⟨Lc416, hQ416, l416, y416, z416⟩, st416⟩ := Jvm.LawKit.callS X414 hx (y := yN24) hown (mvT hZ (own_w hw 62 rfl)) (mvT hZ (own_w hw 63 rfl)) (mvT hZ (own_w hw 31 rfl)) (mvT hZ (own_w hw 64 rfl)) (by decide) (backOf (W := 0) (allU l Z a0 hw [] so br kb zb ns zl cs mm chl h0 n0 Z0 P0 P1 P2 P3 P4 P5 P6 P7 P8 hm hs hcl hch hcs hln hzb hnl) hZ (own_w hw 64 rfl) (own_w hw 31 rfl) (by decide) (by decide)) (g := (mkF m 21 #[.val (.ref so)] [(.ref so)])) rfl (by rw [hml]; rfl) (argsL := [(.ref so)]) (rest := []) (lenOf pd_18 rfl) rfl (own_W0 rfl) (od hby dc6 12 rfl) (fun _ _ => ⟨rfl, e414, (by decide : 0 + 0 ≤ _), (by decide : 0 + 0 ≤ _)⟩)
      dsimp only [Pt.U, Pt.locs, Pt.cells, Pt.slots] at X416 l416 y416 z416 st416 hQ416
      subst l416 y416 z416
      obtain ⟨rfl, Nq416, e416⟩ := hQ416
      have N416 := Fr.app N414 Nq416
      refine own_go (B := T416.setTop (mkF m 24 #[.val (.ref so)] [(.int (own_all chl))])) st416 ?_
      by_cases hc24_417 : (own_all chl) = (0 : Int32)
      · refine own_go (B := T416.setTop (mkF m 31 #[.val (.ref so)] [])) (fun t k => ?_) ?_
        · refine XS.ifYes X416.here hx rfl (pc0 := 24) (pc' := 31) rfl (od hby dc6 13 rfl) rfl ((if0 _ _).trans (teq hc24_417).1) (by decide) (by decide) ?_
          exact k
        refine own_go (B := T416.setTop (mkF m 32 #[.val (.ref so)] [(.int 0)])) (fun t k => ?_) ?_
        · refine XS.iconst X416.here hx rfl (od hby dc6 2 rfl) ?_
          exact k
        exact own_rN (w := (0 : Int32)) Bd X416 hx (by simp) rfl (od hby dc6 3 rfl) (by rw [e416]; exact ⟨(by rw [own_iv3 (own_iv2 hm hcl (by have := own_is1 hc8_413 hzb; omega) hc17_415) hc24_417]), N416, rfl⟩) (by decide)
      · refine own_go (B := T416.setTop (mkF m 27 #[.val (.ref so)] [])) (fun t k => ?_) ?_
        · refine XS.ifNo X416.here hx rfl (od hby dc6 13 rfl) rfl ((if0 _ _).trans (feq hc24_417).1) ?_
          exact k
        refine own_go (B := T416.setTop (mkF m 32 #[.val (.ref so)] [(.int 1)])) (fun t k => ?_) ?_
        · refine XS.iconst X416.here hx rfl (od hby dc6 14 rfl) ?_
          refine XS.goto X416.here hx rfl (pc0 := 28) (pc' := 32) rfl (od hby dc6 15 rfl) (by decide) (by decide) ?_
          exact k
        exact own_rN (w := (1 : Int32)) Bd X416 hx (by simp) rfl (od hby dc6 3 rfl) (by rw [e416]; exact ⟨(by rw [own_iv3 (own_iv2 hm hcl (by have := own_is1 hc8_413 hzb; omega) hc17_415) (own_iv4 hc24_417)]), N416, rfl⟩) (by decide)
  · refine own_go (B := T412.setTop (mkF m 31 #[.val (.ref so)] [])) (fun t k => ?_) ?_
    · refine XS.ifYes X412.here hx rfl (pc0 := 8) (pc' := 31) rfl (od hby dc6 6 rfl) rfl ((if0 _ _).trans (feq hc8_413).2) (by decide) (by decide) ?_
      exact k
    refine own_go (B := T412.setTop (mkF m 32 #[.val (.ref so)] [(.int 0)])) (fun t k => ?_) ?_
    · refine XS.iconst X412.here hx rfl (od hby dc6 2 rfl) ?_
      exact k
    exact own_rN (w := (0 : Int32)) Bd X412 hx (by simp) rfl (od hby dc6 3 rfl) (by rw [e412]; exact ⟨(by rw [own_fin3 (hcl.trans (by have := own_is0 hc8_413 hzb; omega))]), N412, rfl⟩) (by decide)
def fdrw (xx : Int32) : Int32 := (if (((xx.toUInt32 >>> ((16 : Int32) &&& 31).toUInt32).toInt32) &&& (1 : Int32)) = (0 : Int32) then (nar .char ((xx &&& (127 : Int32)).toUInt32.toUInt16.toUInt32.toInt32)) else (nar .char (xx.toUInt32.toUInt16.toUInt32.toInt32)))
def Qdrw (Z : State) (xx : Int32) (h0 : Heap) (n0 : Nat) (v : Option Value) (h : Heap) (L : List Loc) : Prop := v = some (.int (fdrw xx)) ∧ Fr n0 L ∧ h = h0
theorem efdrw (m : MethodId) (x0 : Int32) : entryFrame m #[(.int x0)] 1 = mkF m 0 #[.val (.int x0)] [] := by first | (simp [entryFrame, mkF, argsToLocals, Value.category]; done) | rfl
set_option maxRecDepth 65536 in
set_option maxHeartbeats 40000000 in
theorem drw (l : Launch) (Z : State) (a0 : Array Value) (hw : own_HW a0 Z) (ws : List Jvm.Cond) (xx : Int32) (h0 : Heap) (n0 : Nat) (Z0 : n0 ≤ h0.size)  :
    own_M l Z yN26 method_2_code 1 (some .char) ws (own_R 0 0 0 0) #[(.int xx)] h0 (Qdrw Z xx h0 n0) := by
  refine own_b (own := jL) rfl (plainFor_of_name pn_2) (fun m => efdrw m xx) n0 fun p e s m below meth c s₁ Bd hZ hx hby hml hown X0 e0 N0 => ?_
  refine own_go (B := s₁.setTop (mkF m 6 #[.val (.int xx)] [(.int (((xx.toUInt32 >>> ((16 : Int32) &&& 31).toUInt32).toInt32) &&& (1 : Int32)))])) (fun t k => ?_) ?_
  · refine XS.iloadN X0.here hx rfl (od hby dc1 0 rfl) rfl ?_
    refine XS.bipush X0.here hx rfl (od hby dc1 1 rfl) ?_
    refine XS.iushr X0.here hx rfl (od hby dc1 2 rfl) rfl ?_
    refine XS.iconst X0.here hx rfl (od hby dc1 3 rfl) ?_
    refine XS.iand X0.here hx rfl (od hby dc1 4 rfl) rfl ?_
    exact k
  by_cases hc6_418 : (((xx.toUInt32 >>> ((16 : Int32) &&& 31).toUInt32).toInt32) &&& (1 : Int32)) = (0 : Int32)
  · refine own_go (B := s₁.setTop (mkF m 12 #[.val (.int xx)] [])) (fun t k => ?_) ?_
    · refine XS.ifYes X0.here hx rfl (pc0 := 6) (pc' := 12) rfl (od hby dc1 5 rfl) rfl ((if0 _ _).trans (teq hc6_418).1) (by decide) (by decide) ?_
      exact k
    refine own_go (B := s₁.setTop (mkF m 17 #[.val (.int xx)] [(.int ((xx &&& (127 : Int32)).toUInt32.toUInt16.toUInt32.toInt32))])) (fun t k => ?_) ?_
    · refine XS.iloadN X0.here hx rfl (od hby dc1 6 rfl) rfl ?_
      refine XS.bipush X0.here hx rfl (od hby dc1 7 rfl) ?_
      refine XS.iand X0.here hx rfl (od hby dc1 8 rfl) rfl ?_
      refine XS.i2c X0.here hx rfl (od hby dc1 9 rfl) rfl ?_
      exact k
    exact own_rN (w := (nar .char ((xx &&& (127 : Int32)).toUInt32.toUInt16.toUInt32.toInt32))) Bd X0 hx (by simp) rfl (od hby dc1 10 rfl) (by rw [e0]; exact ⟨(by simp only [fdrw, if_pos hc6_418]), N0, rfl⟩) (by decide)
  · refine own_go (B := s₁.setTop (mkF m 9 #[.val (.int xx)] [])) (fun t k => ?_) ?_
    · refine XS.ifNo X0.here hx rfl (od hby dc1 5 rfl) rfl ((if0 _ _).trans (feq hc6_418).1) ?_
      exact k
    refine own_go (B := s₁.setTop (mkF m 11 #[.val (.int xx)] [(.int (xx.toUInt32.toUInt16.toUInt32.toInt32))])) (fun t k => ?_) ?_
    · refine XS.iloadN X0.here hx rfl (od hby dc1 11 rfl) rfl ?_
      refine XS.i2c X0.here hx rfl (od hby dc1 12 rfl) rfl ?_
      exact k
    exact own_rN (w := (nar .char (xx.toUInt32.toUInt16.toUInt32.toInt32))) Bd X0 hx (by simp) rfl (od hby dc1 13 rfl) (by rw [e0]; exact ⟨(by simp only [fdrw, if_neg hc6_418]), N0, rfl⟩) (by decide)
theorem own_drn (x : Int32) : nar .char (fdrw x) = fdrw x := by
  unfold fdrw; split <;> exact own_nnc _
def QasbI (Z : State) (sb : Addr) (cs : Int32) (h0 : Heap) (n0 : Nat) (v : Option Value) (h : Heap) (L : List Loc) : Prop := ∃ br : Addr, ∃ kb : ClassId, v = none ∧ Fr n0 L ∧ Keep h0 h [sb] ∧ h0.size ≤ br ∧ sb ≠ br ∧ Fld Z h sb jA "value" "[B" (.ref br) ∧ Fld Z h sb jA "coder" "B" (.int 0) ∧ Fld Z h sb jA "count" "I" (.int 0) ∧ Fld Z h sb jA "maybeLatin1" "Z" (.int 0) ∧ Arv Z h br kb .byte (16 : Int32) (own_I (List.replicate 16 0)) (.int 0)
theorem efasbI (m : MethodId) (x0 : Addr) : entryFrame m #[(.ref x0), (.int 16)] 2 = mkF m 0 #[.val (.ref x0), .val (.int 16)] [] := by first | (simp [entryFrame, mkF, argsToLocals, Value.category]; done) | rfl
set_option maxRecDepth 65536 in
set_option maxHeartbeats 40000000 in
theorem asbI (l : Launch) (Z : State) (a0 : Array Value) (hw : own_HW a0 Z) (ws : List Jvm.Cond) (sb : Addr) (cs : Int32) (h0 : Heap) (n0 : Nat) (Z0 : n0 ≤ h0.size) (P0 : Exa Z h0 sb jB) (P1 : Fld Z h0 sb jA "value" "[B" .null) (P2 : Fld Z h0 sb jA "coder" "B" (.int 0)) (P3 : Fld Z h0 sb jA "count" "I" (.int 0)) (P4 : Fld Z h0 sb jA "maybeLatin1" "Z" (.int 0)) (P5 : Sta Z h0 jS "COMPACT_STRINGS" "Z" (.int cs)) (g_sb : n0 ≤ sb) (hcs : cs ≠ (0 : Int32)) :
    own_M l Z yN27 jdk_68_method_2_code 2 none ws (own_R 1 1 16 12) #[(.ref sb), (.int 16)] h0 (QasbI Z sb cs h0 n0) := by
  refine own_b (own := jA) rfl (plainFor_of_name pn_6) (fun m => efasbI m sb) n0 fun p e s m below meth c s₁ Bd hZ hx hby hml hown X0 e0 N0 => ?_
  have K0 : Keep h0 h0 [sb] := Keep.refl h0 _
  refine own_go (B := s₁.setTop (mkF m 1 #[.val (.ref sb), .val (.int 16)] [(.ref sb)])) (fun t k => ?_) ?_
  · refine XS.aloadN X0.here hx rfl (od hby dc23 0 rfl) rfl rfl ?_
    exact k
  obtain ⟨T419, X419, e419, st419⟩ := initO X0 hx hZ hown (own_w hw 106 rfl) (own_w hw 19 rfl) (own_w hw 20 rfl) e0 (g := (mkF m 1 #[.val (.ref sb), .val (.int 16)] [(.ref sb)])) rfl (by rw [hml]; rfl) rfl (od hby dc23 1 rfl) (by decide) (W := 0) (own_W0 rfl) (by decide)
  refine own_go st419 ?_
  obtain ⟨T420, X420, e420, st420⟩ := getS2 X419 hx hZ hown (host := "") (Or.inl (own_w hw 107 rfl)) Via.refl e419 P5 (g := (mkF m 4 #[.val (.ref sb), .val (.int 16)] [])) rfl (od hby dc23 2 rfl)
  refine own_go st420 ?_
  have hc7_421 : ¬ (cs = (0 : Int32)) := hcs
  refine own_go (B := T420.setTop (mkF m 12 #[.val (.ref sb), .val (.int 16)] [(.int 16), (.ref sb)])) (fun t k => ?_) ?_
  · refine XS.ifNo X420.here hx rfl (od hby dc23 3 rfl) rfl ((if0 _ _).trans (feq hc7_421).1) ?_
    refine XS.aloadN X420.here hx rfl (od hby dc23 4 rfl) rfl rfl ?_
    refine XS.iloadN X420.here hx rfl (od hby dc23 5 rfl) rfl ?_
    exact k
  obtain ⟨T422, h422, k422, X422, e422, E422, A422, st422⟩ := newP X420 hx hZ (own_w hw 22 rfl) e420 (g := (mkF m 12 #[.val (.ref sb), .val (.int 16)] [(.int 16), (.ref sb)])) rfl (od hby dc23 6 rfl) rfl (by decide) (cap := 16) (by decide) (by decide) (by decide) (by decide)
  obtain ⟨b422, g422⟩ : ∃ z, z = h0.size := ⟨_, rfl⟩
  rw [← g422] at A422 st422
  have ne422_sb : sb ≠ b422 := Nat.ne_of_lt (Nat.lt_of_lt_of_le P0.lt (Nat.le_of_eq g422.symm))
  have sz422 : h0.size ≤ b422 := Nat.le_trans K0.1 (Nat.le_of_eq g422.symm)
  have Q423 := P0.ext E422
  have Q424 := P1.ext E422
  have Q425 := P2.ext E422
  have Q426 := P3.ext E422
  have Q427 := P4.ext E422
  have K422 := K0.ext E422
  have V422 : Arv Z h422 b422 k422 .byte (16 : Int32) (own_I (List.replicate 16 0)) (.int 0) := own_newI (Arv.new A422 (by decide))
  refine own_go st422 ?_
  obtain ⟨T429, h429, X429, e429, W429, st429⟩ := putF X422 hx hZ hown (host := "") (Or.inl (own_w hw 108 rfl)) Via.refl e422 Q424 Q423 (Or.inl (own_w hw 109 rfl)) (own_w hw 95 rfl) (ty := (.array .byte)) (by decide) rfl rfl (g := (mkF m 14 #[.val (.ref sb), .val (.int 16)] [(.ref b422), (.ref sb)])) rfl rfl (od hby dc23 7 rfl)
  have Q430 := Q423.wr W429
  have Q431 := Q425.other W429 (Or.inr (slot_ne (Or.inl (own_w hw 111 rfl)) (Or.inl (own_w hw 109 rfl)) (by decide) (t := .byte) (t' := (.array .byte)) (by decide) (by decide)))
  have Q432 := Q426.other W429 (Or.inr (slot_ne (Or.inl (own_w hw 124 rfl)) (Or.inl (own_w hw 109 rfl)) (by decide) (t := .int) (t' := (.array .byte)) (by decide) (by decide)))
  have Q433 := Q427.other W429 (Or.inr (slot_ne (Or.inl (own_w hw 267 rfl)) (Or.inl (own_w hw 109 rfl)) (by decide) (t := .boolean) (t' := (.array .byte)) (by decide) (by decide)))
  have Q435 := V422.other W429 (Ne.symm ne422_sb)
  have U429 : Fld Z h429 sb jA "value" "[B" (.ref b422) := Q424.same W429
  have N429 := Fr.snoc X429 N0 g_sb
  have K429 := K422.wr W429 (Or.inl (List.mem_of_getElem? (i := 0) rfl))
  refine own_go st429 ?_
  refine own_go (B := T429.setTop (mkF m 19 #[.val (.ref sb), .val (.int 16)] [(.int 0), (.ref sb)])) (fun t k => ?_) ?_
  · refine XS.aloadN X429.here hx rfl (od hby dc23 8 rfl) rfl rfl ?_
    refine XS.iconst X429.here hx rfl (od hby dc23 9 rfl) ?_
    exact k
  obtain ⟨T436, h436, X436, e436, W436, st436⟩ := putFN (v' := (.int 0)) X429 hx hZ hown (own_w hw 110 rfl) Via.refl e429 Q431 Q430 (Or.inl (own_w hw 111 rfl)) (own_w hw 95 rfl) (ty := .byte) (by decide) rfl rfl (g := (mkF m 19 #[.val (.ref sb), .val (.int 16)] [(.int 0), (.ref sb)])) rfl rfl (od hby dc23 10 rfl)
  have Q438 := Q432.other W436 (Or.inr (slot_ne (Or.inl (own_w hw 124 rfl)) (Or.inl (own_w hw 111 rfl)) (by decide) (t := .int) (t' := .byte) (by decide) (by decide)))
  have Q439 := Q433.other W436 (Or.inr (slot_ne (Or.inl (own_w hw 267 rfl)) (Or.inl (own_w hw 111 rfl)) (by decide) (t := .boolean) (t' := .byte) (by decide) (by decide)))
  have Q441 := Q435.other W436 (Ne.symm ne422_sb)
  have Q442 := U429.other W436 (Or.inr (slot_ne (Or.inl (own_w hw 109 rfl)) (Or.inl (own_w hw 111 rfl)) (by decide) (t := (.array .byte)) (t' := .byte) (by decide) (by decide)))
  have U436 : Fld Z h436 sb jA "coder" "B" (.int 0) := Q431.same W436
  have N436 := Fr.snoc X436 N429 g_sb
  have K436 := K429.wr W436 (Or.inl (List.mem_of_getElem? (i := 0) rfl))
  refine own_go st436 ?_
  refine own_go (B := T436.setTop (mkF m 38 #[.val (.ref sb), .val (.int 16)] [])) (fun t k => ?_) ?_
  · refine XS.goto X436.here hx rfl (pc0 := 22) (pc' := 38) rfl (od hby dc23 11 rfl) (by decide) (by decide) ?_
    exact k
  exact own_rV Bd X436 hx (od hby dc23 12 rfl) (by rw [e436]; exact ⟨b422, k422, rfl, N436, K436, sz422, ne422_sb, Q442, U436, Q438, Q439, Q441⟩) (by decide)
def QsbI (Z : State) (sb : Addr) (cs : Int32) (h0 : Heap) (n0 : Nat) (v : Option Value) (h : Heap) (L : List Loc) : Prop := ∃ br : Addr, ∃ kb : ClassId, v = none ∧ Fr n0 L ∧ Keep h0 h [sb] ∧ h0.size ≤ br ∧ sb ≠ br ∧ Fld Z h sb jA "value" "[B" (.ref br) ∧ Fld Z h sb jA "coder" "B" (.int 0) ∧ Fld Z h sb jA "count" "I" (.int 0) ∧ Fld Z h sb jA "maybeLatin1" "Z" (.int 0) ∧ Arv Z h br kb .byte (16 : Int32) (own_I (List.replicate 16 0)) (.int 0)
theorem efsbI (m : MethodId) (x0 : Addr) : entryFrame m #[(.ref x0)] 1 = mkF m 0 #[.val (.ref x0)] [] := by first | (simp [entryFrame, mkF, argsToLocals, Value.category]; done) | rfl
set_option maxRecDepth 65536 in
set_option maxHeartbeats 40000000 in
theorem sbI (l : Launch) (Z : State) (a0 : Array Value) (hw : own_HW a0 Z) (ws : List Jvm.Cond) (sb : Addr) (cs : Int32) (h0 : Heap) (n0 : Nat) (Z0 : n0 ≤ h0.size) (P0 : Exa Z h0 sb jB) (P1 : Fld Z h0 sb jA "value" "[B" .null) (P2 : Fld Z h0 sb jA "coder" "B" (.int 0)) (P3 : Fld Z h0 sb jA "count" "I" (.int 0)) (P4 : Fld Z h0 sb jA "maybeLatin1" "Z" (.int 0)) (P5 : Sta Z h0 jS "COMPACT_STRINGS" "Z" (.int cs)) (g_sb : n0 ≤ sb) (hcs : cs ≠ (0 : Int32)) :
    own_M l Z yN28 jdk_67_method_1_code 1 none ws (own_R 2 1 16 25) #[(.ref sb)] h0 (QsbI Z sb cs h0 n0) := by
  refine own_b (own := jB) rfl (plainFor_of_name pn_7) (fun m => efsbI m sb) n0 fun p e s m below meth c s₁ Bd hZ hx hby hml hown X0 e0 N0 => ?_
  have K0 : Keep h0 h0 [sb] := Keep.refl h0 _
  refine own_go (B := s₁.setTop (mkF m 3 #[.val (.ref sb)] [(.int 16), (.ref sb)])) (fun t k => ?_) ?_
  · refine XS.aloadN X0.here hx rfl (od hby dc22 0 rfl) rfl rfl ?_
    refine XS.bipush X0.here hx rfl (od hby dc22 1 rfl) ?_
    exact k
  obtain ⟨_, _, ⟨T443, L443, k443, n443⟩, -, X443, ⟨Lc443, hQ443, l443, y443, z443⟩, st443⟩ := X0.specialBack hx (y := yN27) rfl hown (mvT hZ (own_w hw 100 rfl)) (mvT hZ (own_w hw 101 rfl)) (mvT hZ (own_w hw 105 rfl)) (by decide) (backOf (W := 0) (asbI l Z a0 hw [] sb cs h0 n0 Z0 P0 P1 P2 P3 P4 P5 g_sb hcs) hZ (own_w hw 105 rfl) (own_w hw 104 rfl) (by decide) (by decide)) (g := (mkF m 3 #[.val (.ref sb)] [(.int 16), (.ref sb)])) rfl (by rw [hml]; rfl) (Steps.refl _) (a := sb) (argsL := [(.int 16)]) (rest := []) (lenOf pd_19 rfl) rfl (own_W0 rfl) (od hby dc22 2 rfl) (fun _ _ => ⟨rfl, e0, (by decide : 0 + 1 ≤ _), (by decide : 0 + 16 ≤ _)⟩)
  dsimp only [Pt.U, Pt.locs, Pt.cells, Pt.slots] at X443 l443 y443 z443 st443 hQ443
  subst l443 y443 z443
  obtain ⟨br_443, kb_443, rfl, Nq443, Kq443, sq_br_443, pq443_0, U443_0, U443_1, U443_2, U443_3, U443_4⟩ := hQ443
  have ne_sb_br_443 : sb ≠ br_443 := Nat.ne_of_lt (Nat.lt_of_lt_of_le P0.lt sq_br_443)
  have sz_br_443 : h0.size ≤ br_443 := Nat.le_trans K0.1 sq_br_443
  have K443 : Keep h0 T443.heap [sb] := K0.trans Kq443 (allS (Or.inl (List.mem_of_getElem? (i := 0) rfl)) all0)
  have N443 := Fr.app N0 Nq443
  refine own_go (B := T443.setTop (mkF m 6 #[.val (.ref sb)] [])) (fun t k => st443.trans k) ?_
  exact own_rV Bd X443 hx (od hby dc22 3 rfl) ⟨br_443, kb_443, rfl, N443, K443, sz_br_443, ne_sb_br_443, U443_0, U443_1, U443_2, U443_3, U443_4⟩ (by decide)
def Qasl_0 (Z : State) (sb : Addr) (cs : Int32) (h0 : Heap) (n0 : Nat) (v : Option Value) (h : Heap) (L : List Loc) : Prop := v = some (.int 1) ∧ Fr n0 L ∧ h = h0
theorem efasl_0 (m : MethodId) (x0 : Addr) : entryFrame m #[(.ref x0)] 1 = mkF m 0 #[.val (.ref x0)] [] := by first | (simp [entryFrame, mkF, argsToLocals, Value.category]; done) | rfl
set_option maxRecDepth 65536 in
set_option maxHeartbeats 40000000 in
theorem asl_0 (l : Launch) (Z : State) (a0 : Array Value) (hw : own_HW a0 Z) (ws : List Jvm.Cond) (sb : Addr) (cs : Int32) (h0 : Heap) (n0 : Nat) (Z0 : n0 ≤ h0.size) (P0 : Fld Z h0 sb jA "coder" "B" (.int 0)) (P1 : Sta Z h0 jS "COMPACT_STRINGS" "Z" (.int cs)) (hcs : cs ≠ (0 : Int32)) :
    own_M l Z yN29 jdk_68_method_68_code 1 (some .boolean) ws (own_R 0 0 0 0) #[(.ref sb)] h0 (Qasl_0 Z sb cs h0 n0) := by
  refine own_b (own := jA) rfl (plainFor_of_name pn_6) (fun m => efasl_0 m sb) n0 fun p e s m below meth c s₁ Bd hZ hx hby hml hown X0 e0 N0 => ?_
  obtain ⟨T446, X446, e446, st446⟩ := getS2 X0 hx hZ hown (host := "") (Or.inl (own_w hw 107 rfl)) Via.refl e0 P1 (g := (mkF m 0 #[.val (.ref sb)] [])) rfl (od hby dc41 0 rfl)
  refine own_go st446 ?_
  have hc3_447 : ¬ (cs = (0 : Int32)) := hcs
  refine own_go (B := T446.setTop (mkF m 7 #[.val (.ref sb)] [(.ref sb)])) (fun t k => ?_) ?_
  · refine XS.ifNo X446.here hx rfl (od hby dc41 1 rfl) rfl ((if0 _ _).trans (feq hc3_447).1) ?_
    refine XS.aloadN X446.here hx rfl (od hby dc41 2 rfl) rfl rfl ?_
    exact k
  obtain ⟨T448, X448, e448, st448⟩ := getF X446 hx hZ hown (host := "") (Or.inl (own_w hw 110 rfl)) Via.refl e446 P0 (g := (mkF m 7 #[.val (.ref sb)] [(.ref sb)])) rfl rfl (od hby dc41 3 rfl)
  refine own_go st448 ?_
  refine own_go (B := T448.setTop (mkF m 18 #[.val (.ref sb)] [(.int 1)])) (fun t k => ?_) ?_
  · refine XS.ifNo X448.here hx rfl (od hby dc41 4 rfl) rfl ((if0 _ _).trans (teq (rfl : (0 : Int32) = (0 : Int32))).2) ?_
    refine XS.iconst X448.here hx rfl (od hby dc41 5 rfl) ?_
    refine XS.goto X448.here hx rfl (pc0 := 14) (pc' := 18) rfl (od hby dc41 6 rfl) (by decide) (by decide) ?_
    exact k
  exact own_rN (w := (1 : Int32)) Bd X448 hx (by simp) rfl (od hby dc41 7 rfl) (by rw [e448]; exact ⟨rfl, N0, rfl⟩) (by decide)
def Qasl_1 (Z : State) (sb : Addr) (cs : Int32) (h0 : Heap) (n0 : Nat) (v : Option Value) (h : Heap) (L : List Loc) : Prop := v = some (.int 0) ∧ Fr n0 L ∧ h = h0
theorem efasl_1 (m : MethodId) (x0 : Addr) : entryFrame m #[(.ref x0)] 1 = mkF m 0 #[.val (.ref x0)] [] := by first | (simp [entryFrame, mkF, argsToLocals, Value.category]; done) | rfl
set_option maxRecDepth 65536 in
set_option maxHeartbeats 40000000 in
theorem asl_1 (l : Launch) (Z : State) (a0 : Array Value) (hw : own_HW a0 Z) (ws : List Jvm.Cond) (sb : Addr) (cs : Int32) (h0 : Heap) (n0 : Nat) (Z0 : n0 ≤ h0.size) (P0 : Fld Z h0 sb jA "coder" "B" (.int 1)) (P1 : Sta Z h0 jS "COMPACT_STRINGS" "Z" (.int cs)) (hcs : cs ≠ (0 : Int32)) :
    own_M l Z yN29 jdk_68_method_68_code 1 (some .boolean) ws (own_R 0 0 0 0) #[(.ref sb)] h0 (Qasl_1 Z sb cs h0 n0) := by
  refine own_b (own := jA) rfl (plainFor_of_name pn_6) (fun m => efasl_1 m sb) n0 fun p e s m below meth c s₁ Bd hZ hx hby hml hown X0 e0 N0 => ?_
  obtain ⟨T450, X450, e450, st450⟩ := getS2 X0 hx hZ hown (host := "") (Or.inl (own_w hw 107 rfl)) Via.refl e0 P1 (g := (mkF m 0 #[.val (.ref sb)] [])) rfl (od hby dc41 0 rfl)
  refine own_go st450 ?_
  have hc3_451 : ¬ (cs = (0 : Int32)) := hcs
  refine own_go (B := T450.setTop (mkF m 7 #[.val (.ref sb)] [(.ref sb)])) (fun t k => ?_) ?_
  · refine XS.ifNo X450.here hx rfl (od hby dc41 1 rfl) rfl ((if0 _ _).trans (feq hc3_451).1) ?_
    refine XS.aloadN X450.here hx rfl (od hby dc41 2 rfl) rfl rfl ?_
    exact k
  obtain ⟨T452, X452, e452, st452⟩ := getF X450 hx hZ hown (host := "") (Or.inl (own_w hw 110 rfl)) Via.refl e450 P0 (g := (mkF m 7 #[.val (.ref sb)] [(.ref sb)])) rfl rfl (od hby dc41 3 rfl)
  refine own_go st452 ?_
  refine own_go (B := T452.setTop (mkF m 18 #[.val (.ref sb)] [(.int 0)])) (fun t k => ?_) ?_
  · refine XS.ifYes X452.here hx rfl (pc0 := 10) (pc' := 17) rfl (od hby dc41 4 rfl) rfl ((if0 _ _).trans (feq (by decide : ¬ ((1 : Int32) = (0 : Int32)))).2) (by decide) (by decide) ?_
    refine XS.iconst X452.here hx rfl (od hby dc41 8 rfl) ?_
    exact k
  exact own_rN (w := (0 : Int32)) Bd X452 hx (by simp) rfl (od hby dc41 7 rfl) (by rw [e452]; exact ⟨rfl, N0, rfl⟩) (by decide)
def QmaxA (Z : State) (xa xb : Int32) (h0 : Heap) (n0 : Nat) (v : Option Value) (h : Heap) (L : List Loc) : Prop := v = some (.int xa) ∧ Fr n0 L ∧ h = h0
theorem efmaxA (m : MethodId) (x0 : Int32) (x1 : Int32) : entryFrame m #[(.int x0), (.int x1)] 2 = mkF m 0 #[.val (.int x0), .val (.int x1)] [] := by first | (simp [entryFrame, mkF, argsToLocals, Value.category]; done) | rfl
set_option maxRecDepth 65536 in
set_option maxHeartbeats 40000000 in
theorem maxA (l : Launch) (Z : State) (a0 : Array Value) (hw : own_HW a0 Z) (ws : List Jvm.Cond) (xa xb : Int32) (h0 : Heap) (n0 : Nat) (Z0 : n0 ≤ h0.size) (hle : ¬ xa < xb) :
    own_M l Z yN30 jdk_29_method_65_code 2 (some .int) ws (own_R 0 0 0 0) #[(.int xa), (.int xb)] h0 (QmaxA Z xa xb h0 n0) := by
  refine own_b (own := jM) rfl (Jvm.Free.JP.mathPlain rfl (by decide +kernel)) (fun m => efmaxA m xa xb) n0 fun p e s m below meth c s₁ Bd hZ hx hby hml hown X0 e0 N0 => ?_
  refine own_go (B := s₁.setTop (mkF m 2 #[.val (.int xa), .val (.int xb)] [(.int xb), (.int xa)])) (fun t k => ?_) ?_
  · refine XS.iloadN X0.here hx rfl (od hby dc29 0 rfl) rfl ?_
    refine XS.iloadN X0.here hx rfl (od hby dc29 1 rfl) rfl ?_
    exact k
  have hc2_454 : ¬ (xa < xb) := hle
  refine own_go (B := s₁.setTop (mkF m 10 #[.val (.int xa), .val (.int xb)] [(.int xa)])) (fun t k => ?_) ?_
  · refine XS.icmpNo X0.here hx rfl (od hby dc29 2 rfl) rfl (flt hc2_454).1 ?_
    refine XS.iloadN X0.here hx rfl (od hby dc29 3 rfl) rfl ?_
    refine XS.goto X0.here hx rfl (pc0 := 6) (pc' := 10) rfl (od hby dc29 4 rfl) (by decide) (by decide) ?_
    exact k
  exact own_rI Bd X0 hx (od hby dc29 5 rfl) (by rw [e0]; exact ⟨rfl, N0, rfl⟩) (by decide)
def QmaxB (Z : State) (xa xb : Int32) (h0 : Heap) (n0 : Nat) (v : Option Value) (h : Heap) (L : List Loc) : Prop := v = some (.int xb) ∧ Fr n0 L ∧ h = h0
theorem efmaxB (m : MethodId) (x0 : Int32) (x1 : Int32) : entryFrame m #[(.int x0), (.int x1)] 2 = mkF m 0 #[.val (.int x0), .val (.int x1)] [] := by first | (simp [entryFrame, mkF, argsToLocals, Value.category]; done) | rfl
set_option maxRecDepth 65536 in
set_option maxHeartbeats 40000000 in
theorem maxB (l : Launch) (Z : State) (a0 : Array Value) (hw : own_HW a0 Z) (ws : List Jvm.Cond) (xa xb : Int32) (h0 : Heap) (n0 : Nat) (Z0 : n0 ≤ h0.size) (hlt : xa < xb) :
    own_M l Z yN30 jdk_29_method_65_code 2 (some .int) ws (own_R 0 0 0 0) #[(.int xa), (.int xb)] h0 (QmaxB Z xa xb h0 n0) := by
  refine own_b (own := jM) rfl (Jvm.Free.JP.mathPlain rfl (by decide +kernel)) (fun m => efmaxB m xa xb) n0 fun p e s m below meth c s₁ Bd hZ hx hby hml hown X0 e0 N0 => ?_
  refine own_go (B := s₁.setTop (mkF m 2 #[.val (.int xa), .val (.int xb)] [(.int xb), (.int xa)])) (fun t k => ?_) ?_
  · refine XS.iloadN X0.here hx rfl (od hby dc29 0 rfl) rfl ?_
    refine XS.iloadN X0.here hx rfl (od hby dc29 1 rfl) rfl ?_
    exact k
  have hc2_455 : (xa < xb) := hlt
  refine own_go (B := s₁.setTop (mkF m 10 #[.val (.int xa), .val (.int xb)] [(.int xb)])) (fun t k => ?_) ?_
  · refine XS.icmpYes X0.here hx rfl (pc0 := 2) (pc' := 9) rfl (od hby dc29 2 rfl) rfl (tlt hc2_455).1 (by decide) (by decide) ?_
    refine XS.iloadN X0.here hx rfl (od hby dc29 6 rfl) rfl ?_
    exact k
  exact own_rI Bd X0 hx (od hby dc29 5 rfl) (by rw [e0]; exact ⟨rfl, N0, rfl⟩) (by decide)
def QminA (Z : State) (xa xb : Int32) (h0 : Heap) (n0 : Nat) (v : Option Value) (h : Heap) (L : List Loc) : Prop := v = some (.int xa) ∧ Fr n0 L ∧ h = h0
theorem efminA (m : MethodId) (x0 : Int32) (x1 : Int32) : entryFrame m #[(.int x0), (.int x1)] 2 = mkF m 0 #[.val (.int x0), .val (.int x1)] [] := by first | (simp [entryFrame, mkF, argsToLocals, Value.category]; done) | rfl
set_option maxRecDepth 65536 in
set_option maxHeartbeats 40000000 in
theorem minA (l : Launch) (Z : State) (a0 : Array Value) (hw : own_HW a0 Z) (ws : List Jvm.Cond) (xa xb : Int32) (h0 : Heap) (n0 : Nat) (Z0 : n0 ≤ h0.size) (hle : ¬ xb < xa) :
    own_M l Z yN31 jdk_29_method_69_code 2 (some .int) ws (own_R 0 0 0 0) #[(.int xa), (.int xb)] h0 (QminA Z xa xb h0 n0) := by
  refine own_b (own := jM) rfl (Jvm.Free.JP.mathPlain rfl (by decide +kernel)) (fun m => efminA m xa xb) n0 fun p e s m below meth c s₁ Bd hZ hx hby hml hown X0 e0 N0 => ?_
  refine own_go (B := s₁.setTop (mkF m 2 #[.val (.int xa), .val (.int xb)] [(.int xb), (.int xa)])) (fun t k => ?_) ?_
  · refine XS.iloadN X0.here hx rfl (od hby dc31 0 rfl) rfl ?_
    refine XS.iloadN X0.here hx rfl (od hby dc31 1 rfl) rfl ?_
    exact k
  have hc2_456 : ¬ (xb < xa) := hle
  refine own_go (B := s₁.setTop (mkF m 10 #[.val (.int xa), .val (.int xb)] [(.int xa)])) (fun t k => ?_) ?_
  · refine XS.icmpNo X0.here hx rfl (od hby dc31 2 rfl) rfl (flt hc2_456).2.2.1 ?_
    refine XS.iloadN X0.here hx rfl (od hby dc31 3 rfl) rfl ?_
    refine XS.goto X0.here hx rfl (pc0 := 6) (pc' := 10) rfl (od hby dc31 4 rfl) (by decide) (by decide) ?_
    exact k
  exact own_rI Bd X0 hx (od hby dc31 5 rfl) (by rw [e0]; exact ⟨rfl, N0, rfl⟩) (by decide)
def QminB (Z : State) (xa xb : Int32) (h0 : Heap) (n0 : Nat) (v : Option Value) (h : Heap) (L : List Loc) : Prop := v = some (.int xb) ∧ Fr n0 L ∧ h = h0
theorem efminB (m : MethodId) (x0 : Int32) (x1 : Int32) : entryFrame m #[(.int x0), (.int x1)] 2 = mkF m 0 #[.val (.int x0), .val (.int x1)] [] := by first | (simp [entryFrame, mkF, argsToLocals, Value.category]; done) | rfl
set_option maxRecDepth 65536 in
set_option maxHeartbeats 40000000 in
theorem minB (l : Launch) (Z : State) (a0 : Array Value) (hw : own_HW a0 Z) (ws : List Jvm.Cond) (xa xb : Int32) (h0 : Heap) (n0 : Nat) (Z0 : n0 ≤ h0.size) (hlt : xb < xa) :
    own_M l Z yN31 jdk_29_method_69_code 2 (some .int) ws (own_R 0 0 0 0) #[(.int xa), (.int xb)] h0 (QminB Z xa xb h0 n0) := by
  refine own_b (own := jM) rfl (Jvm.Free.JP.mathPlain rfl (by decide +kernel)) (fun m => efminB m xa xb) n0 fun p e s m below meth c s₁ Bd hZ hx hby hml hown X0 e0 N0 => ?_
  refine own_go (B := s₁.setTop (mkF m 2 #[.val (.int xa), .val (.int xb)] [(.int xb), (.int xa)])) (fun t k => ?_) ?_
  · refine XS.iloadN X0.here hx rfl (od hby dc31 0 rfl) rfl ?_
    refine XS.iloadN X0.here hx rfl (od hby dc31 1 rfl) rfl ?_
    exact k
  have hc2_457 : (xb < xa) := hlt
  refine own_go (B := s₁.setTop (mkF m 10 #[.val (.int xa), .val (.int xb)] [(.int xb)])) (fun t k => ?_) ?_
  · refine XS.icmpYes X0.here hx rfl (pc0 := 2) (pc' := 9) rfl (od hby dc31 2 rfl) rfl (tlt hc2_457).2.2.1 (by decide) (by decide) ?_
    refine XS.iloadN X0.here hx rfl (od hby dc31 6 rfl) rfl ?_
    exact k
  exact own_rI Bd X0 hx (od hby dc31 5 rfl) (by rw [e0]; exact ⟨rfl, N0, rfl⟩) (by decide)
def Qnwl_16 (Z : State)  (h0 : Heap) (n0 : Nat) (v : Option Value) (h : Heap) (L : List Loc) : Prop := v = some (.int 92) ∧ Fr n0 L ∧ h = h0
theorem efnwl_16 (m : MethodId)  : entryFrame m #[(.int 16), (.int 76), (.int 18)] 4 = mkF m 0 #[.val (.int 16), .val (.int 76), .val (.int 18), .unset] [] := by first | (simp [entryFrame, mkF, argsToLocals, Value.category]; done) | rfl
set_option maxRecDepth 65536 in
set_option maxHeartbeats 40000000 in
theorem nwl_16 (l : Launch) (Z : State) (a0 : Array Value) (hw : own_HW a0 Z) (ws : List Jvm.Cond)  (h0 : Heap) (n0 : Nat) (Z0 : n0 ≤ h0.size)  :
    own_M l Z yN32 jdk_48_method_27_code 4 (some .int) ws (own_R 1 0 0 14) #[(.int 16), (.int 76), (.int 18)] h0 (Qnwl_16 Z  h0 n0) := by
  refine own_b (own := jV) rfl (plainFor_of_name pn_8) (fun m => efnwl_16 m ) n0 fun p e s m below meth c s₁ Bd hZ hx hby hml hown X0 e0 N0 => ?_
  refine own_go (B := s₁.setTop (mkF m 3 #[.val (.int 16), .val (.int 76), .val (.int 18), .unset] [(.int 18), (.int 76), (.int 16)])) (fun t k => ?_) ?_
  · refine XS.iloadN X0.here hx rfl (od hby dc28 0 rfl) rfl ?_
    refine XS.iloadN X0.here hx rfl (od hby dc28 1 rfl) rfl ?_
    refine XS.iloadN X0.here hx rfl (od hby dc28 2 rfl) rfl ?_
    exact k
  obtain ⟨_, _, ⟨T458, L458, k458, n458⟩, -, X458, ⟨Lc458, hQ458, l458, y458, z458⟩, st458⟩ := Jvm.LawKit.callS X0 hx (y := yN30) hown (mvT hZ (own_w hw 139 rfl)) (mvT hZ (own_w hw 140 rfl)) (mvT hZ (own_w hw 141 rfl)) (mvT hZ (own_w hw 142 rfl)) (by decide) (backOf (W := 1) (maxA l Z a0 hw [] (76 : Int32) (18 : Int32) h0 n0 Z0 (by decide)) hZ (own_w hw 142 rfl) (own_w hw 141 rfl) (by decide) (by decide)) (g := (mkF m 3 #[.val (.int 16), .val (.int 76), .val (.int 18), .unset] [(.int 18), (.int 76), (.int 16)])) rfl (by rw [hml]; rfl) (argsL := [(.int 76), (.int 18)]) (rest := [(.int 16)]) (lenOf pd_20 rfl) rfl (own_W0 rfl) (od hby dc28 3 rfl) (fun _ _ => ⟨rfl, e0, (by decide : 0 + 0 ≤ _), (by decide : 0 + 0 ≤ _)⟩)
  dsimp only [Pt.U, Pt.locs, Pt.cells, Pt.slots] at X458 l458 y458 z458 st458 hQ458
  subst l458 y458 z458
  obtain ⟨rfl, Nq458, e458⟩ := hQ458
  have N458 := Fr.app N0 Nq458
  refine own_go (B := T458.setTop (mkF m 6 #[.val (.int 16), .val (.int 76), .val (.int 18), .unset] [(.int 76), (.int 16)])) st458 ?_
  refine own_go (B := T458.setTop (mkF m 20 #[.val (.int 16), .val (.int 76), .val (.int 18), .val (.int 92)] [(.int 92)])) (fun t k => ?_) ?_
  · refine XS.iadd X458.here hx rfl (od hby dc28 4 rfl) rfl ?_
    refine XS.istoreN X458.here hx rfl (od hby dc28 5 rfl) rfl (l' := #[.val (.int 16), .val (.int 76), .val (.int 18), .val (.int 92)]) rfl ?_
    refine XS.iconst X458.here hx rfl (od hby dc28 6 rfl) ?_
    refine XS.iloadN X458.here hx rfl (od hby dc28 7 rfl) rfl ?_
    refine XS.icmpNo X458.here hx rfl (od hby dc28 8 rfl) rfl (tlt (by decide : ((0 : Int32) < (92 : Int32)))).2.1 ?_
    refine XS.iloadN X458.here hx rfl (od hby dc28 9 rfl) rfl ?_
    refine X458.ldcInt hx hown (mvT hZ (own_w hw 143 rfl)) (g := (mkF m 14 #[.val (.int 16), .val (.int 76), .val (.int 18), .val (.int 92)] [(.int 92)])) rfl (od hby dc28 10 rfl) _ ?_
    refine XS.icmpNo X458.here hx rfl (od hby dc28 11 rfl) rfl (flt (by decide : ¬ ((2147483639 : Int32) < (92 : Int32)))).2.2.1 ?_
    refine XS.iloadN X458.here hx rfl (od hby dc28 12 rfl) rfl ?_
    exact k
  exact own_rI Bd X458 hx (od hby dc28 13 rfl) (by rw [e458]; exact ⟨rfl, N458, rfl⟩) (by decide)
def Qncp_16 (Z : State) (sb br : Addr) (kb : ClassId) (ns : List Int32) (h0 : Heap) (n0 : Nat) (v : Option Value) (h : Heap) (L : List Loc) : Prop := v = some (.int 92) ∧ Fr n0 L ∧ h = h0
theorem efncp_16 (m : MethodId) (x0 : Addr) : entryFrame m #[(.ref x0), (.int 92)] 6 = mkF m 0 #[.val (.ref x0), .val (.int 92), .unset, .unset, .unset, .unset] [] := by first | (simp [entryFrame, mkF, argsToLocals, Value.category]; done) | rfl
set_option maxRecDepth 65536 in
set_option maxHeartbeats 40000000 in
theorem ncp_16 (l : Launch) (Z : State) (a0 : Array Value) (hw : own_HW a0 Z) (ws : List Jvm.Cond) (sb br : Addr) (kb : ClassId) (ns : List Int32) (h0 : Heap) (n0 : Nat) (Z0 : n0 ≤ h0.size) (P0 : Fld Z h0 sb jA "value" "[B" (.ref br)) (P1 : Fld Z h0 sb jA "coder" "B" (.int 0)) (P2 : Arv Z h0 br kb .byte (16 : Int32) (own_I ns) (.int 0)) :
    own_M l Z yN33 jdk_68_method_10_code 6 (some .int) ws (own_R 2 0 0 29) #[(.ref sb), (.int 92)] h0 (Qncp_16 Z sb br kb ns h0 n0) := by
  refine own_b (own := jA) rfl (plainFor_of_name pn_6) (fun m => efncp_16 m sb) n0 fun p e s m below meth c s₁ Bd hZ hx hby hml hown X0 e0 N0 => ?_
  refine own_go (B := s₁.setTop (mkF m 1 #[.val (.ref sb), .val (.int 92), .unset, .unset, .unset, .unset] [(.ref sb)])) (fun t k => ?_) ?_
  · refine XS.aloadN X0.here hx rfl (od hby dc27 0 rfl) rfl rfl ?_
    exact k
  obtain ⟨T461, X461, e461, st461⟩ := getF X0 hx hZ hown (host := "") (Or.inl (own_w hw 108 rfl)) Via.refl e0 P0 (g := (mkF m 1 #[.val (.ref sb), .val (.int 92), .unset, .unset, .unset, .unset] [(.ref sb)])) rfl rfl (od hby dc27 1 rfl)
  refine own_go st461 ?_
  obtain ⟨cl462, Ar462, q462, S462, M462, Ha462, G462⟩ := id P2
  refine own_go (B := T461.setTop (mkF m 5 #[.val (.ref sb), .val (.int 92), .unset, .unset, .unset, .unset] [(.int 16)])) (fun t k => ?_) ?_
  · refine X461.arraylength hx (by rw [e461]; exact Ar462.1) (State.isArrayOf_alike hZ.alike Ar462.2.1) (g := (mkF m 4 #[.val (.ref sb), .val (.int 92), .unset, .unset, .unset, .unset] [(.ref br)])) rfl rfl (od hby dc27 2 rfl) _ ?_
    rw [len_of S462 M462]
    exact k
  refine own_go (B := T461.setTop (mkF m 8 #[.val (.ref sb), .val (.int 92), .val (.int 16), .unset, .unset, .unset] [(.ref sb), (.int 92)])) (fun t k => ?_) ?_
  · refine XS.istoreN X461.here hx rfl (od hby dc27 3 rfl) rfl (l' := #[.val (.ref sb), .val (.int 92), .val (.int 16), .unset, .unset, .unset]) rfl ?_
    refine XS.iloadN X461.here hx rfl (od hby dc27 4 rfl) rfl ?_
    refine XS.aloadN X461.here hx rfl (od hby dc27 5 rfl) rfl rfl ?_
    exact k
  obtain ⟨T463, X463, e463, st463⟩ := getF X461 hx hZ hown (host := "") (Or.inl (own_w hw 110 rfl)) Via.refl e461 P1 (g := (mkF m 8 #[.val (.ref sb), .val (.int 92), .val (.int 16), .unset, .unset, .unset] [(.ref sb), (.int 92)])) rfl rfl (od hby dc27 6 rfl)
  refine own_go st463 ?_
  refine own_go (B := T463.setTop (mkF m 24 #[.val (.ref sb), .val (.int 92), .val (.int 16), .val (.int 92), .val (.int 76), .unset] [(.ref sb), (.int 2), (.int 16), (.int 76), (.int 16)])) (fun t k => ?_) ?_
  · refine XS.ishl X463.here hx rfl (od hby dc27 7 rfl) rfl ?_
    refine XS.istoreN X463.here hx rfl (od hby dc27 8 rfl) rfl (l' := #[.val (.ref sb), .val (.int 92), .val (.int 16), .val (.int 92), .unset, .unset]) rfl ?_
    refine XS.iloadN X463.here hx rfl (od hby dc27 9 rfl) rfl ?_
    refine XS.iloadN X463.here hx rfl (od hby dc27 10 rfl) rfl ?_
    refine XS.isub X463.here hx rfl (od hby dc27 11 rfl) rfl ?_
    refine XS.istore X463.here hx rfl (od hby dc27 12 rfl) rfl (l' := #[.val (.ref sb), .val (.int 92), .val (.int 16), .val (.int 92), .val (.int 76), .unset]) rfl ?_
    refine XS.iloadN X463.here hx rfl (od hby dc27 13 rfl) rfl ?_
    refine XS.iload X463.here hx rfl (od hby dc27 14 rfl) rfl ?_
    refine XS.iloadN X463.here hx rfl (od hby dc27 15 rfl) rfl ?_
    refine XS.iconst X463.here hx rfl (od hby dc27 16 rfl) ?_
    refine XS.aloadN X463.here hx rfl (od hby dc27 17 rfl) rfl rfl ?_
    exact k
  obtain ⟨T464, X464, e464, st464⟩ := getF X463 hx hZ hown (host := "") (Or.inl (own_w hw 110 rfl)) Via.refl e463 P1 (g := (mkF m 24 #[.val (.ref sb), .val (.int 92), .val (.int 16), .val (.int 92), .val (.int 76), .unset] [(.ref sb), (.int 2), (.int 16), (.int 76), (.int 16)])) rfl rfl (od hby dc27 18 rfl)
  refine own_go st464 ?_
  refine own_go (B := T464.setTop (mkF m 29 #[.val (.ref sb), .val (.int 92), .val (.int 16), .val (.int 92), .val (.int 76), .unset] [(.int 18), (.int 76), (.int 16)])) (fun t k => ?_) ?_
  · refine XS.ishl X464.here hx rfl (od hby dc27 19 rfl) rfl ?_
    refine XS.iadd X464.here hx rfl (od hby dc27 20 rfl) rfl ?_
    exact k
  obtain ⟨_, _, ⟨T465, L465, k465, n465⟩, -, X465, ⟨Lc465, hQ465, l465, y465, z465⟩, st465⟩ := Jvm.LawKit.callS X464 hx (y := yN32) hown (mvT hZ (own_w hw 135 rfl)) (mvT hZ (own_w hw 136 rfl)) (mvT hZ (own_w hw 137 rfl)) (mvT hZ (own_w hw 138 rfl)) (by decide) (backOf (W := 0) (nwl_16 l Z a0 hw []  h0 n0 Z0 ) hZ (own_w hw 138 rfl) (own_w hw 137 rfl) (by decide) (by decide)) (g := (mkF m 29 #[.val (.ref sb), .val (.int 92), .val (.int 16), .val (.int 92), .val (.int 76), .unset] [(.int 18), (.int 76), (.int 16)])) rfl (by rw [hml]; rfl) (argsL := [(.int 16), (.int 76), (.int 18)]) (rest := []) (lenOf pd_21 rfl) rfl (own_W0 rfl) (od hby dc27 21 rfl) (fun _ _ => ⟨rfl, e464, (by decide : 0 + 0 ≤ _), (by decide : 0 + 0 ≤ _)⟩)
  dsimp only [Pt.U, Pt.locs, Pt.cells, Pt.slots] at X465 l465 y465 z465 st465 hQ465
  subst l465 y465 z465
  obtain ⟨rfl, Nq465, e465⟩ := hQ465
  have N465 := Fr.app N0 Nq465
  refine own_go (B := T465.setTop (mkF m 32 #[.val (.ref sb), .val (.int 92), .val (.int 16), .val (.int 92), .val (.int 76), .unset] [(.int 92)])) st465 ?_
  refine own_go (B := T465.setTop (mkF m 54 #[.val (.ref sb), .val (.int 92), .val (.int 16), .val (.int 92), .val (.int 76), .val (.int 92)] [(.ref sb), (.int 92)])) (fun t k => ?_) ?_
  · refine XS.istore X465.here hx rfl (od hby dc27 22 rfl) rfl (l' := #[.val (.ref sb), .val (.int 92), .val (.int 16), .val (.int 92), .val (.int 76), .val (.int 92)]) rfl ?_
    refine XS.iload X465.here hx rfl (od hby dc27 23 rfl) rfl ?_
    refine X465.ldcInt hx hown (mvT hZ (own_w hw 144 rfl)) (g := (mkF m 36 #[.val (.ref sb), .val (.int 92), .val (.int 16), .val (.int 92), .val (.int 76), .val (.int 92)] [(.int 92)])) rfl (od hby dc27 24 rfl) _ ?_
    refine XS.icmpYes X465.here hx rfl (pc0 := 38) (pc' := 51) rfl (od hby dc27 25 rfl) rfl (feq (by decide : ¬ ((92 : Int32) = (2147483647 : Int32)))).2 (by decide) (by decide) ?_
    refine XS.iload X465.here hx rfl (od hby dc27 26 rfl) rfl ?_
    refine XS.aloadN X465.here hx rfl (od hby dc27 27 rfl) rfl rfl ?_
    exact k
  obtain ⟨T467, X467, e467, st467⟩ := getF X465 hx hZ hown (host := "") (Or.inl (own_w hw 110 rfl)) Via.refl e465 P1 (g := (mkF m 54 #[.val (.ref sb), .val (.int 92), .val (.int 16), .val (.int 92), .val (.int 76), .val (.int 92)] [(.ref sb), (.int 92)])) rfl rfl (od hby dc27 28 rfl)
  refine own_go st467 ?_
  refine own_go (B := T467.setTop (mkF m 58 #[.val (.ref sb), .val (.int 92), .val (.int 16), .val (.int 92), .val (.int 76), .val (.int 92)] [(.int 92)])) (fun t k => ?_) ?_
  · refine XS.ishr X467.here hx rfl (od hby dc27 29 rfl) rfl ?_
    exact k
  exact own_rI Bd X467 hx (od hby dc27 30 rfl) (by rw [e467]; exact ⟨rfl, N465, rfl⟩) (by decide)
def Qcpo_16 (Z : State) (br : Addr) (kb : ClassId) (ns : List Int32) (h0 : Heap) (n0 : Nat) (v : Option Value) (h : Heap) (L : List Loc) : Prop := ∃ nr : Addr, ∃ kn : ClassId, ∃ ys : List Int32, v = some (.ref nr) ∧ Fr n0 L ∧ Keep h0 h [] ∧ h0.size ≤ nr ∧ Arv Z h nr kn .byte (92 : Int32) (own_I ys) (.int 0) ∧ (ys.length = 92) ∧ (∀ q, q < 16 → ys.getD q 0 = ns.getD q 0)
theorem efcpo_16 (m : MethodId) (x0 : Addr) : entryFrame m #[(.ref x0), (.int 92)] 3 = mkF m 0 #[.val (.ref x0), .val (.int 92), .unset] [] := by first | (simp [entryFrame, mkF, argsToLocals, Value.category]; done) | rfl
set_option maxRecDepth 65536 in
set_option maxHeartbeats 40000000 in
theorem cpo_16 (l : Launch) (Z : State) (a0 : Array Value) (hw : own_HW a0 Z) (ws : List Jvm.Cond) (br : Addr) (kb : ClassId) (ns : List Int32) (h0 : Heap) (n0 : Nat) (Z0 : n0 ≤ h0.size) (P0 : Arv Z h0 br kb .byte (16 : Int32) (own_I ns) (.int 0)) :
    own_M l Z yN34 jdk_65_method_121_code 3 (some (.array .byte)) ws (own_R 1 1 92 18) #[(.ref br), (.int 92)] h0 (Qcpo_16 Z br kb ns h0 n0) := by
  refine own_b (own := jY) rfl (plainFor_of_name pn_9) (fun m => efcpo_16 m br) n0 fun p e s m below meth c s₁ Bd hZ hx hby hml hown X0 e0 N0 => ?_
  have K0 : Keep h0 h0 [] := Keep.refl h0 _
  refine own_go (B := s₁.setTop (mkF m 2 #[.val (.ref br), .val (.int 92), .unset] [(.ref br), (.int 92)])) (fun t k => ?_) ?_
  · refine XS.iloadN X0.here hx rfl (od hby dc30 0 rfl) rfl ?_
    refine XS.aloadN X0.here hx rfl (od hby dc30 1 rfl) rfl rfl ?_
    exact k
  obtain ⟨cl468, Ar468, q468, S468, M468, Ha468, G468⟩ := id P0
  refine own_go (B := s₁.setTop (mkF m 3 #[.val (.ref br), .val (.int 92), .unset] [(.int 16), (.int 92)])) (fun t k => ?_) ?_
  · refine X0.arraylength hx (by rw [e0]; exact Ar468.1) (State.isArrayOf_alike hZ.alike Ar468.2.1) (g := (mkF m 2 #[.val (.ref br), .val (.int 92), .unset] [(.ref br), (.int 92)])) rfl rfl (od hby dc30 2 rfl) _ ?_
    rw [len_of S468 M468]
    exact k
  refine own_go (B := s₁.setTop (mkF m 15 #[.val (.ref br), .val (.int 92), .unset] [(.int 92)])) (fun t k => ?_) ?_
  · refine XS.icmpYes X0.here hx rfl (pc0 := 3) (pc' := 14) rfl (od hby dc30 3 rfl) rfl (feq (by decide : ¬ ((92 : Int32) = (16 : Int32)))).2 (by decide) (by decide) ?_
    refine XS.iloadN X0.here hx rfl (od hby dc30 4 rfl) rfl ?_
    exact k
  obtain ⟨T470, h470, k470, X470, e470, E470, A470, st470⟩ := newP X0 hx hZ (own_w hw 22 rfl) e0 (g := (mkF m 15 #[.val (.ref br), .val (.int 92), .unset] [(.int 92)])) rfl (od hby dc30 5 rfl) rfl (by decide) (cap := 92) (by decide) (by decide) (by decide) (by decide)
  obtain ⟨b470, g470⟩ : ∃ z, z = h0.size := ⟨_, rfl⟩
  rw [← g470] at A470 st470
  have low470 : n0 ≤ b470 := Nat.le_trans Z0 (Nat.le_of_eq g470.symm)
  have sz470 : h0.size ≤ b470 := Nat.le_trans K0.1 (Nat.le_of_eq g470.symm)
  have Q471 := P0.ext E470
  have Z470 : n0 ≤ h470.size := Nat.le_trans Z0 E470.1
  have K470 := K0.ext E470
  have V470 : Arv Z h470 b470 k470 .byte (92 : Int32) (own_I (List.replicate 92 0)) (.int 0) := own_newI (Arv.new A470 (by decide))
  refine own_go st470 ?_
  refine own_go (B := T470.setTop (mkF m 23 #[.val (.ref br), .val (.int 92), .val (.ref b470)] [(.ref br), (.int 0), (.ref b470), (.int 0), (.ref br)])) (fun t k => ?_) ?_
  · refine XS.astoreN X470.here hx rfl (od hby dc30 6 rfl) rfl rfl (l' := #[.val (.ref br), .val (.int 92), .val (.ref b470)]) rfl ?_
    refine XS.aloadN X470.here hx rfl (od hby dc30 7 rfl) rfl rfl ?_
    refine XS.iconst X470.here hx rfl (od hby dc30 8 rfl) ?_
    refine XS.aloadN X470.here hx rfl (od hby dc30 9 rfl) rfl rfl ?_
    refine XS.iconst X470.here hx rfl (od hby dc30 10 rfl) ?_
    refine XS.aloadN X470.here hx rfl (od hby dc30 11 rfl) rfl rfl ?_
    exact k
  obtain ⟨cl472, Ar472, q472, S472, M472, Ha472, G472⟩ := id Q471
  refine own_go (B := T470.setTop (mkF m 24 #[.val (.ref br), .val (.int 92), .val (.ref b470)] [(.int 16), (.int 0), (.ref b470), (.int 0), (.ref br)])) (fun t k => ?_) ?_
  · refine X470.arraylength hx (by rw [e470]; exact Ar472.1) (State.isArrayOf_alike hZ.alike Ar472.2.1) (g := (mkF m 23 #[.val (.ref br), .val (.int 92), .val (.ref b470)] [(.ref br), (.int 0), (.ref b470), (.int 0), (.ref br)])) rfl rfl (od hby dc30 12 rfl) _ ?_
    rw [len_of S472 M472]
    exact k
  refine own_go (B := T470.setTop (mkF m 25 #[.val (.ref br), .val (.int 92), .val (.ref b470)] [(.int 92), (.int 16), (.int 0), (.ref b470), (.int 0), (.ref br)])) (fun t k => ?_) ?_
  · refine XS.iloadN X470.here hx rfl (od hby dc30 13 rfl) rfl ?_
    exact k
  obtain ⟨_, _, ⟨T473, L473, k473, n473⟩, -, X473, ⟨Lc473, hQ473, l473, y473, z473⟩, st473⟩ := Jvm.LawKit.callS X470 hx (y := yN31) hown (mvT hZ (own_w hw 149 rfl)) (mvT hZ (own_w hw 150 rfl)) (mvT hZ (own_w hw 141 rfl)) (mvT hZ (own_w hw 151 rfl)) (by decide) (backOf (W := 4) (minA l Z a0 hw [] (16 : Int32) (92 : Int32) h470 n0 Z470 (by decide)) hZ (own_w hw 151 rfl) (own_w hw 141 rfl) (by decide) (by decide)) (g := (mkF m 25 #[.val (.ref br), .val (.int 92), .val (.ref b470)] [(.int 92), (.int 16), (.int 0), (.ref b470), (.int 0), (.ref br)])) rfl (by rw [hml]; rfl) (argsL := [(.int 16), (.int 92)]) (rest := [(.int 0), (.ref b470), (.int 0), (.ref br)]) (lenOf pd_20 rfl) rfl (own_W0 rfl) (od hby dc30 14 rfl) (fun _ _ => ⟨rfl, e470, (by decide : 1 + 0 ≤ _), (by decide : 92 + 0 ≤ _)⟩)
  dsimp only [Pt.U, Pt.locs, Pt.cells, Pt.slots] at X473 l473 y473 z473 st473 hQ473
  subst l473 y473 z473
  obtain ⟨rfl, Nq473, e473⟩ := hQ473
  have N473 := Fr.app N0 Nq473
  refine own_go (B := T473.setTop (mkF m 28 #[.val (.ref br), .val (.int 92), .val (.ref b470)] [(.int 16), (.int 0), (.ref b470), (.int 0), (.ref br)])) st473 ?_
  obtain ⟨T474, h474, Lc474, X474, e474, N474, Kq474, Ua474, st474⟩ := cpA X473 hx hZ hown (own_w hw 152 rfl) (own_w hw 155 rfl) (own_w hw 153 rfl) (own_w hw 154 rfl) e473 Q471 V470 (Or.inl ⟨rfl, rfl⟩) (own_nn ot0) (own_nn ot0) (own_nn ot16) (own_ac4 ot0 ot16 ot16 (by decide : 0 + 16 ≤ 16)) (own_ac4 ot0 ot16 ot92 (by decide : 0 + 16 ≤ 92)) rfl (own_acl ot0 ot16 (List.length_replicate : (List.replicate 92 (0 : Int32)).length = 92) (by decide : 0 + 16 ≤ 92)) N473 low470 (g := (mkF m 28 #[.val (.ref br), .val (.int 92), .val (.ref b470)] [(.int 16), (.int 0), (.ref b470), (.int 0), (.ref br)])) rfl (by rw [hml]; rfl) rfl (od hby dc30 15 rfl) (by decide) (W := 0) (own_W0 rfl) (by decide)
  have U474 : Arv Z h474 b470 k470 .byte (92 : Int32) (own_I (own_cp ns (List.replicate 92 0) (0) (0) (16))) (.int 0) := own_cpV ot0 ot0 ot16 Ua474
  have K474 : Keep h0 h474 [] := K470.trans Kq474 (allS (Or.inr sz470) all0)
  refine own_go st474 ?_
  refine own_go (B := T474.setTop (mkF m 32 #[.val (.ref br), .val (.int 92), .val (.ref b470)] [(.ref b470)])) (fun t k => ?_) ?_
  · refine XS.aloadN X474.here hx rfl (od hby dc30 16 rfl) rfl rfl ?_
    exact k
  exact own_rA Bd X474 hx rfl rfl rfl (od hby dc30 17 rfl) (by rw [e474]; exact ⟨b470, k470, (own_cp ns (List.replicate 92 0) (0) (0) (16)), rfl, N474, K474, sz470, U474, (own_cpl (by rw [List.length_replicate]; decide)).trans List.length_replicate, own_cpq (by rw [List.length_replicate]; decide)⟩) (by decide)
def Qecp_16 (Z : State) (sb br : Addr) (kb : ClassId) (ns : List Int32) (zc : Int32) (h0 : Heap) (n0 : Nat) (v : Option Value) (h : Heap) (L : List Loc) : Prop := ∃ nr : Addr, ∃ kn : ClassId, ∃ ys : List Int32, v = none ∧ Fr n0 L ∧ Keep h0 h [sb] ∧ h0.size ≤ nr ∧ sb ≠ nr ∧ Fld Z h sb jA "value" "[B" (.ref nr) ∧ Fld Z h sb jA "coder" "B" (.int 0) ∧ Fld Z h sb jA "count" "I" (.int zc) ∧ Fld Z h sb jA "maybeLatin1" "Z" (.int 0) ∧ Arv Z h nr kn .byte (92 : Int32) (own_I ys) (.int 0) ∧ (ys.length = 92) ∧ (∀ q, q < 16 → ys.getD q 0 = ns.getD q 0)
theorem efecp_16 (m : MethodId) (x0 : Addr) : entryFrame m #[(.ref x0), (.int 92)] 3 = mkF m 0 #[.val (.ref x0), .val (.int 92), .unset] [] := by first | (simp [entryFrame, mkF, argsToLocals, Value.category]; done) | rfl
set_option maxRecDepth 65536 in
set_option maxHeartbeats 40000000 in
theorem ecp_16 (l : Launch) (Z : State) (a0 : Array Value) (hw : own_HW a0 Z) (ws : List Jvm.Cond) (sb br : Addr) (kb : ClassId) (ns : List Int32) (zc : Int32) (h0 : Heap) (n0 : Nat) (Z0 : n0 ≤ h0.size) (P0 : Exa Z h0 sb jB) (P1 : Fld Z h0 sb jA "value" "[B" (.ref br)) (P2 : Fld Z h0 sb jA "coder" "B" (.int 0)) (P3 : Fld Z h0 sb jA "count" "I" (.int zc)) (P4 : Fld Z h0 sb jA "maybeLatin1" "Z" (.int 0)) (P5 : Arv Z h0 br kb .byte (16 : Int32) (own_I ns) (.int 0)) (g_sb : n0 ≤ sb) (ne_sb_br : sb ≠ br) :
    own_M l Z yN35 jdk_68_method_9_code 3 none ws (own_R 3 1 92 48) #[(.ref sb), (.int 92)] h0 (Qecp_16 Z sb br kb ns zc h0 n0) := by
  refine own_b (own := jA) rfl (plainFor_of_name pn_6) (fun m => efecp_16 m sb) n0 fun p e s m below meth c s₁ Bd hZ hx hby hml hown X0 e0 N0 => ?_
  have K0 : Keep h0 h0 [sb] := Keep.refl h0 _
  refine own_go (B := s₁.setTop (mkF m 1 #[.val (.ref sb), .val (.int 92), .unset] [(.ref sb)])) (fun t k => ?_) ?_
  · refine XS.aloadN X0.here hx rfl (od hby dc26 0 rfl) rfl rfl ?_
    exact k
  obtain ⟨T476, X476, e476, st476⟩ := getF X0 hx hZ hown (host := "") (Or.inl (own_w hw 108 rfl)) Via.refl e0 P1 (g := (mkF m 1 #[.val (.ref sb), .val (.int 92), .unset] [(.ref sb)])) rfl rfl (od hby dc26 1 rfl)
  refine own_go st476 ?_
  obtain ⟨cl477, Ar477, q477, S477, M477, Ha477, G477⟩ := id P5
  refine own_go (B := T476.setTop (mkF m 5 #[.val (.ref sb), .val (.int 92), .unset] [(.int 16)])) (fun t k => ?_) ?_
  · refine X476.arraylength hx (by rw [e476]; exact Ar477.1) (State.isArrayOf_alike hZ.alike Ar477.2.1) (g := (mkF m 4 #[.val (.ref sb), .val (.int 92), .unset] [(.ref br)])) rfl rfl (od hby dc26 2 rfl) _ ?_
    rw [len_of S477 M477]
    exact k
  refine own_go (B := T476.setTop (mkF m 6 #[.val (.ref sb), .val (.int 92), .unset] [(.ref sb), (.int 16)])) (fun t k => ?_) ?_
  · refine XS.aloadN X476.here hx rfl (od hby dc26 3 rfl) rfl rfl ?_
    exact k
  obtain ⟨T478, X478, e478, st478⟩ := getF X476 hx hZ hown (host := "") (Or.inl (own_w hw 110 rfl)) Via.refl e476 P2 (g := (mkF m 6 #[.val (.ref sb), .val (.int 92), .unset] [(.ref sb), (.int 16)])) rfl rfl (od hby dc26 4 rfl)
  refine own_go st478 ?_
  refine own_go (B := T478.setTop (mkF m 19 #[.val (.ref sb), .val (.int 92), .val (.int 16)] [(.ref sb), (.ref sb)])) (fun t k => ?_) ?_
  · refine XS.ishr X478.here hx rfl (od hby dc26 5 rfl) rfl ?_
    refine XS.istoreN X478.here hx rfl (od hby dc26 6 rfl) rfl (l' := #[.val (.ref sb), .val (.int 92), .val (.int 16)]) rfl ?_
    refine XS.iloadN X478.here hx rfl (od hby dc26 7 rfl) rfl ?_
    refine XS.iloadN X478.here hx rfl (od hby dc26 8 rfl) rfl ?_
    refine XS.isub X478.here hx rfl (od hby dc26 9 rfl) rfl ?_
    refine XS.ifNo X478.here hx rfl (od hby dc26 10 rfl) rfl ((if0 _ _).trans (tlt (by decide : ((0 : Int32) < (76 : Int32)))).2.2.2) ?_
    refine XS.aloadN X478.here hx rfl (od hby dc26 11 rfl) rfl rfl ?_
    refine XS.aloadN X478.here hx rfl (od hby dc26 12 rfl) rfl rfl ?_
    exact k
  obtain ⟨T480, X480, e480, st480⟩ := getF X478 hx hZ hown (host := "") (Or.inl (own_w hw 108 rfl)) Via.refl e478 P1 (g := (mkF m 19 #[.val (.ref sb), .val (.int 92), .val (.int 16)] [(.ref sb), (.ref sb)])) rfl rfl (od hby dc26 13 rfl)
  refine own_go st480 ?_
  refine own_go (B := T480.setTop (mkF m 24 #[.val (.ref sb), .val (.int 92), .val (.int 16)] [(.int 92), (.ref sb), (.ref br), (.ref sb)])) (fun t k => ?_) ?_
  · refine XS.aloadN X480.here hx rfl (od hby dc26 14 rfl) rfl rfl ?_
    refine XS.iloadN X480.here hx rfl (od hby dc26 15 rfl) rfl ?_
    exact k
  obtain ⟨cq481, q481, q481'⟩ := P0.cell
  obtain ⟨_, _, ⟨T481, L481, k481, n481⟩, -, X481, ⟨Lc481, hQ481, l481, y481, z481⟩, st481⟩ := X480.privateBack hx (y := yN33) hown (mvT hZ (own_w hw 130 rfl)) (mvT hZ (own_w hw 131 rfl)) (own_selp (mvT hZ (own_w hw 128 rfl)) rfl (Cond.privateMethod_at (mvP hZ (own_w hw 132 rfl) (args := #[]))) (mvT hZ (own_w hw 131 rfl)) (by decide)) (Cond.privateMethod_at (mvP hZ (own_w hw 132 rfl) (args := #[]))) (mvT hZ (own_w hw 134 rfl)) (by decide) (backOf (W := 2) (ncp_16 l Z a0 hw [] sb br kb ns h0 n0 Z0 P1 P2 P5) hZ (own_w hw 134 rfl) (own_w hw 104 rfl) (by decide) (by decide)) (g := (mkF m 24 #[.val (.ref sb), .val (.int 92), .val (.int 16)] [(.int 92), (.ref sb), (.ref br), (.ref sb)])) rfl (by rw [hml]; rfl) (Steps.refl _) (a := sb) (by rw [e480]; exact q481) q481' (argsL := [(.int 92)]) (rest := [(.ref br), (.ref sb)]) (lenOf pd_0 rfl) rfl (own_W0 rfl) (od hby dc26 16 rfl) (fun _ _ => ⟨rfl, e480, (by decide : 0 + 0 ≤ _), (by decide : 0 + 0 ≤ _)⟩)
  dsimp only [Pt.U, Pt.locs, Pt.cells, Pt.slots] at X481 l481 y481 z481 st481 hQ481
  subst l481 y481 z481
  obtain ⟨rfl, Nq481, e481⟩ := hQ481
  have N481 := Fr.app N0 Nq481
  refine own_go (B := T481.setTop (mkF m 27 #[.val (.ref sb), .val (.int 92), .val (.int 16)] [(.int 92), (.ref br), (.ref sb)])) (fun t k => st481.trans k) ?_
  refine own_go (B := T481.setTop (mkF m 28 #[.val (.ref sb), .val (.int 92), .val (.int 16)] [(.ref sb), (.int 92), (.ref br), (.ref sb)])) (fun t k => ?_) ?_
  · refine XS.aloadN X481.here hx rfl (od hby dc26 17 rfl) rfl rfl ?_
    exact k
  obtain ⟨T482, X482, e482, st482⟩ := getF X481 hx hZ hown (host := "") (Or.inl (own_w hw 110 rfl)) Via.refl e481 P2 (g := (mkF m 28 #[.val (.ref sb), .val (.int 92), .val (.int 16)] [(.ref sb), (.int 92), (.ref br), (.ref sb)])) rfl rfl (od hby dc26 18 rfl)
  refine own_go st482 ?_
  refine own_go (B := T482.setTop (mkF m 32 #[.val (.ref sb), .val (.int 92), .val (.int 16)] [(.int 92), (.ref br), (.ref sb)])) (fun t k => ?_) ?_
  · refine XS.ishl X482.here hx rfl (od hby dc26 19 rfl) rfl ?_
    exact k
  obtain ⟨_, _, ⟨T483, L483, k483, n483⟩, -, X483, ⟨Lc483, hQ483, l483, y483, z483⟩, st483⟩ := Jvm.LawKit.callS X482 hx (y := yN34) hown (mvT hZ (own_w hw 145 rfl)) (mvT hZ (own_w hw 146 rfl)) (mvT hZ (own_w hw 147 rfl)) (mvT hZ (own_w hw 148 rfl)) (by decide) (backOf (W := 1) (cpo_16 l Z a0 hw [] br kb ns h0 n0 Z0 P5) hZ (own_w hw 148 rfl) (own_w hw 147 rfl) (by decide) (by decide)) (g := (mkF m 32 #[.val (.ref sb), .val (.int 92), .val (.int 16)] [(.int 92), (.ref br), (.ref sb)])) rfl (by rw [hml]; rfl) (argsL := [(.ref br), (.int 92)]) (rest := [(.ref sb)]) (lenOf pd_22 rfl) rfl (own_W0 rfl) (od hby dc26 20 rfl) (fun _ _ => ⟨rfl, e482, (by decide : 0 + 1 ≤ _), (by decide : 0 + 92 ≤ _)⟩)
  dsimp only [Pt.U, Pt.locs, Pt.cells, Pt.slots] at X483 l483 y483 z483 st483 hQ483
  subst l483 y483 z483
  obtain ⟨nr_483, kn_483, ys_483, rfl, Nq483, Kq483, sq_nr_483, U483_0, Pq483_0, Pq483_1⟩ := hQ483
  have ne_sb_nr_483 : sb ≠ nr_483 := Nat.ne_of_lt (Nat.lt_of_lt_of_le P0.lt sq_nr_483)
  have sz_nr_483 : h0.size ≤ nr_483 := Nat.le_trans K0.1 sq_nr_483
  have Q484 := P0.keep Kq483
  have Q485 := P1.keep Kq483 nin0
  have Q486 := P2.keep Kq483 nin0
  have Q487 := P3.keep Kq483 nin0
  have Q488 := P4.keep Kq483 nin0
  have K483 : Keep h0 T483.heap [sb] := K0.trans Kq483 all0
  have N483 := Fr.app N481 Nq483
  refine own_go (B := T483.setTop (mkF m 35 #[.val (.ref sb), .val (.int 92), .val (.int 16)] [(.ref nr_483), (.ref sb)])) st483 ?_
  obtain ⟨T490, h490, X490, e490, W490, st490⟩ := putF X483 hx hZ hown (host := "") (Or.inl (own_w hw 108 rfl)) Via.refl rfl Q485 Q484 (Or.inl (own_w hw 109 rfl)) (own_w hw 95 rfl) (ty := (.array .byte)) (by decide) rfl rfl (g := (mkF m 35 #[.val (.ref sb), .val (.int 92), .val (.int 16)] [(.ref nr_483), (.ref sb)])) rfl rfl (od hby dc26 21 rfl)
  have Q492 := Q486.other W490 (Or.inr (slot_ne (Or.inl (own_w hw 111 rfl)) (Or.inl (own_w hw 109 rfl)) (by decide) (t := .byte) (t' := (.array .byte)) (by decide) (by decide)))
  have Q493 := Q487.other W490 (Or.inr (slot_ne (Or.inl (own_w hw 124 rfl)) (Or.inl (own_w hw 109 rfl)) (by decide) (t := .int) (t' := (.array .byte)) (by decide) (by decide)))
  have Q494 := Q488.other W490 (Or.inr (slot_ne (Or.inl (own_w hw 267 rfl)) (Or.inl (own_w hw 109 rfl)) (by decide) (t := .boolean) (t' := (.array .byte)) (by decide) (by decide)))
  have Q496 := U483_0.other W490 (Ne.symm ne_sb_nr_483)
  have U490 : Fld Z h490 sb jA "value" "[B" (.ref nr_483) := Q485.same W490
  have N490 := Fr.snoc X490 N483 g_sb
  have K490 := K483.wr W490 (Or.inl (List.mem_of_getElem? (i := 0) rfl))
  refine own_go st490 ?_
  exact own_rV Bd X490 hx (od hby dc26 22 rfl) (by rw [e490]; exact ⟨nr_483, kn_483, ys_483, rfl, N490, K490, sz_nr_483, ne_sb_nr_483, U490, Q492, Q493, Q494, Q496, Pq483_0, Pq483_1⟩) (by decide)
def Qnwl_92 (Z : State)  (h0 : Heap) (n0 : Nat) (v : Option Value) (h : Heap) (L : List Loc) : Prop := v = some (.int 186) ∧ Fr n0 L ∧ h = h0
theorem efnwl_92 (m : MethodId)  : entryFrame m #[(.int 92), (.int 1), (.int 94)] 4 = mkF m 0 #[.val (.int 92), .val (.int 1), .val (.int 94), .unset] [] := by first | (simp [entryFrame, mkF, argsToLocals, Value.category]; done) | rfl
set_option maxRecDepth 65536 in
set_option maxHeartbeats 40000000 in
theorem nwl_92 (l : Launch) (Z : State) (a0 : Array Value) (hw : own_HW a0 Z) (ws : List Jvm.Cond)  (h0 : Heap) (n0 : Nat) (Z0 : n0 ≤ h0.size)  :
    own_M l Z yN32 jdk_48_method_27_code 4 (some .int) ws (own_R 1 0 0 14) #[(.int 92), (.int 1), (.int 94)] h0 (Qnwl_92 Z  h0 n0) := by
  refine own_b (own := jV) rfl (plainFor_of_name pn_8) (fun m => efnwl_92 m ) n0 fun p e s m below meth c s₁ Bd hZ hx hby hml hown X0 e0 N0 => ?_
  refine own_go (B := s₁.setTop (mkF m 3 #[.val (.int 92), .val (.int 1), .val (.int 94), .unset] [(.int 94), (.int 1), (.int 92)])) (fun t k => ?_) ?_
  · refine XS.iloadN X0.here hx rfl (od hby dc28 0 rfl) rfl ?_
    refine XS.iloadN X0.here hx rfl (od hby dc28 1 rfl) rfl ?_
    refine XS.iloadN X0.here hx rfl (od hby dc28 2 rfl) rfl ?_
    exact k
  obtain ⟨_, _, ⟨T497, L497, k497, n497⟩, -, X497, ⟨Lc497, hQ497, l497, y497, z497⟩, st497⟩ := Jvm.LawKit.callS X0 hx (y := yN30) hown (mvT hZ (own_w hw 139 rfl)) (mvT hZ (own_w hw 140 rfl)) (mvT hZ (own_w hw 141 rfl)) (mvT hZ (own_w hw 142 rfl)) (by decide) (backOf (W := 1) (maxB l Z a0 hw [] (1 : Int32) (94 : Int32) h0 n0 Z0 (by decide)) hZ (own_w hw 142 rfl) (own_w hw 141 rfl) (by decide) (by decide)) (g := (mkF m 3 #[.val (.int 92), .val (.int 1), .val (.int 94), .unset] [(.int 94), (.int 1), (.int 92)])) rfl (by rw [hml]; rfl) (argsL := [(.int 1), (.int 94)]) (rest := [(.int 92)]) (lenOf pd_20 rfl) rfl (own_W0 rfl) (od hby dc28 3 rfl) (fun _ _ => ⟨rfl, e0, (by decide : 0 + 0 ≤ _), (by decide : 0 + 0 ≤ _)⟩)
  dsimp only [Pt.U, Pt.locs, Pt.cells, Pt.slots] at X497 l497 y497 z497 st497 hQ497
  subst l497 y497 z497
  obtain ⟨rfl, Nq497, e497⟩ := hQ497
  have N497 := Fr.app N0 Nq497
  refine own_go (B := T497.setTop (mkF m 6 #[.val (.int 92), .val (.int 1), .val (.int 94), .unset] [(.int 94), (.int 92)])) st497 ?_
  refine own_go (B := T497.setTop (mkF m 20 #[.val (.int 92), .val (.int 1), .val (.int 94), .val (.int 186)] [(.int 186)])) (fun t k => ?_) ?_
  · refine XS.iadd X497.here hx rfl (od hby dc28 4 rfl) rfl ?_
    refine XS.istoreN X497.here hx rfl (od hby dc28 5 rfl) rfl (l' := #[.val (.int 92), .val (.int 1), .val (.int 94), .val (.int 186)]) rfl ?_
    refine XS.iconst X497.here hx rfl (od hby dc28 6 rfl) ?_
    refine XS.iloadN X497.here hx rfl (od hby dc28 7 rfl) rfl ?_
    refine XS.icmpNo X497.here hx rfl (od hby dc28 8 rfl) rfl (tlt (by decide : ((0 : Int32) < (186 : Int32)))).2.1 ?_
    refine XS.iloadN X497.here hx rfl (od hby dc28 9 rfl) rfl ?_
    refine X497.ldcInt hx hown (mvT hZ (own_w hw 143 rfl)) (g := (mkF m 14 #[.val (.int 92), .val (.int 1), .val (.int 94), .val (.int 186)] [(.int 186)])) rfl (od hby dc28 10 rfl) _ ?_
    refine XS.icmpNo X497.here hx rfl (od hby dc28 11 rfl) rfl (flt (by decide : ¬ ((2147483639 : Int32) < (186 : Int32)))).2.2.1 ?_
    refine XS.iloadN X497.here hx rfl (od hby dc28 12 rfl) rfl ?_
    exact k
  exact own_rI Bd X497 hx (od hby dc28 13 rfl) (by rw [e497]; exact ⟨rfl, N497, rfl⟩) (by decide)
def Qncp_92 (Z : State) (sb br : Addr) (kb : ClassId) (ns : List Int32) (h0 : Heap) (n0 : Nat) (v : Option Value) (h : Heap) (L : List Loc) : Prop := v = some (.int 186) ∧ Fr n0 L ∧ h = h0
theorem efncp_92 (m : MethodId) (x0 : Addr) : entryFrame m #[(.ref x0), (.int 93)] 6 = mkF m 0 #[.val (.ref x0), .val (.int 93), .unset, .unset, .unset, .unset] [] := by first | (simp [entryFrame, mkF, argsToLocals, Value.category]; done) | rfl
set_option maxRecDepth 65536 in
set_option maxHeartbeats 40000000 in
theorem ncp_92 (l : Launch) (Z : State) (a0 : Array Value) (hw : own_HW a0 Z) (ws : List Jvm.Cond) (sb br : Addr) (kb : ClassId) (ns : List Int32) (h0 : Heap) (n0 : Nat) (Z0 : n0 ≤ h0.size) (P0 : Fld Z h0 sb jA "value" "[B" (.ref br)) (P1 : Fld Z h0 sb jA "coder" "B" (.int 0)) (P2 : Arv Z h0 br kb .byte (92 : Int32) (own_I ns) (.int 0)) :
    own_M l Z yN33 jdk_68_method_10_code 6 (some .int) ws (own_R 2 0 0 29) #[(.ref sb), (.int 93)] h0 (Qncp_92 Z sb br kb ns h0 n0) := by
  refine own_b (own := jA) rfl (plainFor_of_name pn_6) (fun m => efncp_92 m sb) n0 fun p e s m below meth c s₁ Bd hZ hx hby hml hown X0 e0 N0 => ?_
  refine own_go (B := s₁.setTop (mkF m 1 #[.val (.ref sb), .val (.int 93), .unset, .unset, .unset, .unset] [(.ref sb)])) (fun t k => ?_) ?_
  · refine XS.aloadN X0.here hx rfl (od hby dc27 0 rfl) rfl rfl ?_
    exact k
  obtain ⟨T500, X500, e500, st500⟩ := getF X0 hx hZ hown (host := "") (Or.inl (own_w hw 108 rfl)) Via.refl e0 P0 (g := (mkF m 1 #[.val (.ref sb), .val (.int 93), .unset, .unset, .unset, .unset] [(.ref sb)])) rfl rfl (od hby dc27 1 rfl)
  refine own_go st500 ?_
  obtain ⟨cl501, Ar501, q501, S501, M501, Ha501, G501⟩ := id P2
  refine own_go (B := T500.setTop (mkF m 5 #[.val (.ref sb), .val (.int 93), .unset, .unset, .unset, .unset] [(.int 92)])) (fun t k => ?_) ?_
  · refine X500.arraylength hx (by rw [e500]; exact Ar501.1) (State.isArrayOf_alike hZ.alike Ar501.2.1) (g := (mkF m 4 #[.val (.ref sb), .val (.int 93), .unset, .unset, .unset, .unset] [(.ref br)])) rfl rfl (od hby dc27 2 rfl) _ ?_
    rw [len_of S501 M501]
    exact k
  refine own_go (B := T500.setTop (mkF m 8 #[.val (.ref sb), .val (.int 93), .val (.int 92), .unset, .unset, .unset] [(.ref sb), (.int 93)])) (fun t k => ?_) ?_
  · refine XS.istoreN X500.here hx rfl (od hby dc27 3 rfl) rfl (l' := #[.val (.ref sb), .val (.int 93), .val (.int 92), .unset, .unset, .unset]) rfl ?_
    refine XS.iloadN X500.here hx rfl (od hby dc27 4 rfl) rfl ?_
    refine XS.aloadN X500.here hx rfl (od hby dc27 5 rfl) rfl rfl ?_
    exact k
  obtain ⟨T502, X502, e502, st502⟩ := getF X500 hx hZ hown (host := "") (Or.inl (own_w hw 110 rfl)) Via.refl e500 P1 (g := (mkF m 8 #[.val (.ref sb), .val (.int 93), .val (.int 92), .unset, .unset, .unset] [(.ref sb), (.int 93)])) rfl rfl (od hby dc27 6 rfl)
  refine own_go st502 ?_
  refine own_go (B := T502.setTop (mkF m 24 #[.val (.ref sb), .val (.int 93), .val (.int 92), .val (.int 93), .val (.int 1), .unset] [(.ref sb), (.int 2), (.int 92), (.int 1), (.int 92)])) (fun t k => ?_) ?_
  · refine XS.ishl X502.here hx rfl (od hby dc27 7 rfl) rfl ?_
    refine XS.istoreN X502.here hx rfl (od hby dc27 8 rfl) rfl (l' := #[.val (.ref sb), .val (.int 93), .val (.int 92), .val (.int 93), .unset, .unset]) rfl ?_
    refine XS.iloadN X502.here hx rfl (od hby dc27 9 rfl) rfl ?_
    refine XS.iloadN X502.here hx rfl (od hby dc27 10 rfl) rfl ?_
    refine XS.isub X502.here hx rfl (od hby dc27 11 rfl) rfl ?_
    refine XS.istore X502.here hx rfl (od hby dc27 12 rfl) rfl (l' := #[.val (.ref sb), .val (.int 93), .val (.int 92), .val (.int 93), .val (.int 1), .unset]) rfl ?_
    refine XS.iloadN X502.here hx rfl (od hby dc27 13 rfl) rfl ?_
    refine XS.iload X502.here hx rfl (od hby dc27 14 rfl) rfl ?_
    refine XS.iloadN X502.here hx rfl (od hby dc27 15 rfl) rfl ?_
    refine XS.iconst X502.here hx rfl (od hby dc27 16 rfl) ?_
    refine XS.aloadN X502.here hx rfl (od hby dc27 17 rfl) rfl rfl ?_
    exact k
  obtain ⟨T503, X503, e503, st503⟩ := getF X502 hx hZ hown (host := "") (Or.inl (own_w hw 110 rfl)) Via.refl e502 P1 (g := (mkF m 24 #[.val (.ref sb), .val (.int 93), .val (.int 92), .val (.int 93), .val (.int 1), .unset] [(.ref sb), (.int 2), (.int 92), (.int 1), (.int 92)])) rfl rfl (od hby dc27 18 rfl)
  refine own_go st503 ?_
  refine own_go (B := T503.setTop (mkF m 29 #[.val (.ref sb), .val (.int 93), .val (.int 92), .val (.int 93), .val (.int 1), .unset] [(.int 94), (.int 1), (.int 92)])) (fun t k => ?_) ?_
  · refine XS.ishl X503.here hx rfl (od hby dc27 19 rfl) rfl ?_
    refine XS.iadd X503.here hx rfl (od hby dc27 20 rfl) rfl ?_
    exact k
  obtain ⟨_, _, ⟨T504, L504, k504, n504⟩, -, X504, ⟨Lc504, hQ504, l504, y504, z504⟩, st504⟩ := Jvm.LawKit.callS X503 hx (y := yN32) hown (mvT hZ (own_w hw 135 rfl)) (mvT hZ (own_w hw 136 rfl)) (mvT hZ (own_w hw 137 rfl)) (mvT hZ (own_w hw 138 rfl)) (by decide) (backOf (W := 0) (nwl_92 l Z a0 hw []  h0 n0 Z0 ) hZ (own_w hw 138 rfl) (own_w hw 137 rfl) (by decide) (by decide)) (g := (mkF m 29 #[.val (.ref sb), .val (.int 93), .val (.int 92), .val (.int 93), .val (.int 1), .unset] [(.int 94), (.int 1), (.int 92)])) rfl (by rw [hml]; rfl) (argsL := [(.int 92), (.int 1), (.int 94)]) (rest := []) (lenOf pd_21 rfl) rfl (own_W0 rfl) (od hby dc27 21 rfl) (fun _ _ => ⟨rfl, e503, (by decide : 0 + 0 ≤ _), (by decide : 0 + 0 ≤ _)⟩)
  dsimp only [Pt.U, Pt.locs, Pt.cells, Pt.slots] at X504 l504 y504 z504 st504 hQ504
  subst l504 y504 z504
  obtain ⟨rfl, Nq504, e504⟩ := hQ504
  have N504 := Fr.app N0 Nq504
  refine own_go (B := T504.setTop (mkF m 32 #[.val (.ref sb), .val (.int 93), .val (.int 92), .val (.int 93), .val (.int 1), .unset] [(.int 186)])) st504 ?_
  refine own_go (B := T504.setTop (mkF m 54 #[.val (.ref sb), .val (.int 93), .val (.int 92), .val (.int 93), .val (.int 1), .val (.int 186)] [(.ref sb), (.int 186)])) (fun t k => ?_) ?_
  · refine XS.istore X504.here hx rfl (od hby dc27 22 rfl) rfl (l' := #[.val (.ref sb), .val (.int 93), .val (.int 92), .val (.int 93), .val (.int 1), .val (.int 186)]) rfl ?_
    refine XS.iload X504.here hx rfl (od hby dc27 23 rfl) rfl ?_
    refine X504.ldcInt hx hown (mvT hZ (own_w hw 144 rfl)) (g := (mkF m 36 #[.val (.ref sb), .val (.int 93), .val (.int 92), .val (.int 93), .val (.int 1), .val (.int 186)] [(.int 186)])) rfl (od hby dc27 24 rfl) _ ?_
    refine XS.icmpYes X504.here hx rfl (pc0 := 38) (pc' := 51) rfl (od hby dc27 25 rfl) rfl (feq (by decide : ¬ ((186 : Int32) = (2147483647 : Int32)))).2 (by decide) (by decide) ?_
    refine XS.iload X504.here hx rfl (od hby dc27 26 rfl) rfl ?_
    refine XS.aloadN X504.here hx rfl (od hby dc27 27 rfl) rfl rfl ?_
    exact k
  obtain ⟨T506, X506, e506, st506⟩ := getF X504 hx hZ hown (host := "") (Or.inl (own_w hw 110 rfl)) Via.refl e504 P1 (g := (mkF m 54 #[.val (.ref sb), .val (.int 93), .val (.int 92), .val (.int 93), .val (.int 1), .val (.int 186)] [(.ref sb), (.int 186)])) rfl rfl (od hby dc27 28 rfl)
  refine own_go st506 ?_
  refine own_go (B := T506.setTop (mkF m 58 #[.val (.ref sb), .val (.int 93), .val (.int 92), .val (.int 93), .val (.int 1), .val (.int 186)] [(.int 186)])) (fun t k => ?_) ?_
  · refine XS.ishr X506.here hx rfl (od hby dc27 29 rfl) rfl ?_
    exact k
  exact own_rI Bd X506 hx (od hby dc27 30 rfl) (by rw [e506]; exact ⟨rfl, N504, rfl⟩) (by decide)
def Qcpo_92 (Z : State) (br : Addr) (kb : ClassId) (ns : List Int32) (h0 : Heap) (n0 : Nat) (v : Option Value) (h : Heap) (L : List Loc) : Prop := ∃ nr : Addr, ∃ kn : ClassId, ∃ ys : List Int32, v = some (.ref nr) ∧ Fr n0 L ∧ Keep h0 h [] ∧ h0.size ≤ nr ∧ Arv Z h nr kn .byte (186 : Int32) (own_I ys) (.int 0) ∧ (ys.length = 186) ∧ (∀ q, q < 92 → ys.getD q 0 = ns.getD q 0)
theorem efcpo_92 (m : MethodId) (x0 : Addr) : entryFrame m #[(.ref x0), (.int 186)] 3 = mkF m 0 #[.val (.ref x0), .val (.int 186), .unset] [] := by first | (simp [entryFrame, mkF, argsToLocals, Value.category]; done) | rfl
set_option maxRecDepth 65536 in
set_option maxHeartbeats 40000000 in
theorem cpo_92 (l : Launch) (Z : State) (a0 : Array Value) (hw : own_HW a0 Z) (ws : List Jvm.Cond) (br : Addr) (kb : ClassId) (ns : List Int32) (h0 : Heap) (n0 : Nat) (Z0 : n0 ≤ h0.size) (P0 : Arv Z h0 br kb .byte (92 : Int32) (own_I ns) (.int 0)) :
    own_M l Z yN34 jdk_65_method_121_code 3 (some (.array .byte)) ws (own_R 1 1 186 18) #[(.ref br), (.int 186)] h0 (Qcpo_92 Z br kb ns h0 n0) := by
  refine own_b (own := jY) rfl (plainFor_of_name pn_9) (fun m => efcpo_92 m br) n0 fun p e s m below meth c s₁ Bd hZ hx hby hml hown X0 e0 N0 => ?_
  have K0 : Keep h0 h0 [] := Keep.refl h0 _
  refine own_go (B := s₁.setTop (mkF m 2 #[.val (.ref br), .val (.int 186), .unset] [(.ref br), (.int 186)])) (fun t k => ?_) ?_
  · refine XS.iloadN X0.here hx rfl (od hby dc30 0 rfl) rfl ?_
    refine XS.aloadN X0.here hx rfl (od hby dc30 1 rfl) rfl rfl ?_
    exact k
  obtain ⟨cl507, Ar507, q507, S507, M507, Ha507, G507⟩ := id P0
  refine own_go (B := s₁.setTop (mkF m 3 #[.val (.ref br), .val (.int 186), .unset] [(.int 92), (.int 186)])) (fun t k => ?_) ?_
  · refine X0.arraylength hx (by rw [e0]; exact Ar507.1) (State.isArrayOf_alike hZ.alike Ar507.2.1) (g := (mkF m 2 #[.val (.ref br), .val (.int 186), .unset] [(.ref br), (.int 186)])) rfl rfl (od hby dc30 2 rfl) _ ?_
    rw [len_of S507 M507]
    exact k
  refine own_go (B := s₁.setTop (mkF m 15 #[.val (.ref br), .val (.int 186), .unset] [(.int 186)])) (fun t k => ?_) ?_
  · refine XS.icmpYes X0.here hx rfl (pc0 := 3) (pc' := 14) rfl (od hby dc30 3 rfl) rfl (feq (by decide : ¬ ((186 : Int32) = (92 : Int32)))).2 (by decide) (by decide) ?_
    refine XS.iloadN X0.here hx rfl (od hby dc30 4 rfl) rfl ?_
    exact k
  obtain ⟨T509, h509, k509, X509, e509, E509, A509, st509⟩ := newP X0 hx hZ (own_w hw 22 rfl) e0 (g := (mkF m 15 #[.val (.ref br), .val (.int 186), .unset] [(.int 186)])) rfl (od hby dc30 5 rfl) rfl (by decide) (cap := 186) (by decide) (by decide) (by decide) (by decide)
  obtain ⟨b509, g509⟩ : ∃ z, z = h0.size := ⟨_, rfl⟩
  rw [← g509] at A509 st509
  have low509 : n0 ≤ b509 := Nat.le_trans Z0 (Nat.le_of_eq g509.symm)
  have sz509 : h0.size ≤ b509 := Nat.le_trans K0.1 (Nat.le_of_eq g509.symm)
  have Q510 := P0.ext E509
  have Z509 : n0 ≤ h509.size := Nat.le_trans Z0 E509.1
  have K509 := K0.ext E509
  have V509 : Arv Z h509 b509 k509 .byte (186 : Int32) (own_I (List.replicate 186 0)) (.int 0) := own_newI (Arv.new A509 (by decide))
  refine own_go st509 ?_
  refine own_go (B := T509.setTop (mkF m 23 #[.val (.ref br), .val (.int 186), .val (.ref b509)] [(.ref br), (.int 0), (.ref b509), (.int 0), (.ref br)])) (fun t k => ?_) ?_
  · refine XS.astoreN X509.here hx rfl (od hby dc30 6 rfl) rfl rfl (l' := #[.val (.ref br), .val (.int 186), .val (.ref b509)]) rfl ?_
    refine XS.aloadN X509.here hx rfl (od hby dc30 7 rfl) rfl rfl ?_
    refine XS.iconst X509.here hx rfl (od hby dc30 8 rfl) ?_
    refine XS.aloadN X509.here hx rfl (od hby dc30 9 rfl) rfl rfl ?_
    refine XS.iconst X509.here hx rfl (od hby dc30 10 rfl) ?_
    refine XS.aloadN X509.here hx rfl (od hby dc30 11 rfl) rfl rfl ?_
    exact k
  obtain ⟨cl511, Ar511, q511, S511, M511, Ha511, G511⟩ := id Q510
  refine own_go (B := T509.setTop (mkF m 24 #[.val (.ref br), .val (.int 186), .val (.ref b509)] [(.int 92), (.int 0), (.ref b509), (.int 0), (.ref br)])) (fun t k => ?_) ?_
  · refine X509.arraylength hx (by rw [e509]; exact Ar511.1) (State.isArrayOf_alike hZ.alike Ar511.2.1) (g := (mkF m 23 #[.val (.ref br), .val (.int 186), .val (.ref b509)] [(.ref br), (.int 0), (.ref b509), (.int 0), (.ref br)])) rfl rfl (od hby dc30 12 rfl) _ ?_
    rw [len_of S511 M511]
    exact k
  refine own_go (B := T509.setTop (mkF m 25 #[.val (.ref br), .val (.int 186), .val (.ref b509)] [(.int 186), (.int 92), (.int 0), (.ref b509), (.int 0), (.ref br)])) (fun t k => ?_) ?_
  · refine XS.iloadN X509.here hx rfl (od hby dc30 13 rfl) rfl ?_
    exact k
  obtain ⟨_, _, ⟨T512, L512, k512, n512⟩, -, X512, ⟨Lc512, hQ512, l512, y512, z512⟩, st512⟩ := Jvm.LawKit.callS X509 hx (y := yN31) hown (mvT hZ (own_w hw 149 rfl)) (mvT hZ (own_w hw 150 rfl)) (mvT hZ (own_w hw 141 rfl)) (mvT hZ (own_w hw 151 rfl)) (by decide) (backOf (W := 4) (minA l Z a0 hw [] (92 : Int32) (186 : Int32) h509 n0 Z509 (by decide)) hZ (own_w hw 151 rfl) (own_w hw 141 rfl) (by decide) (by decide)) (g := (mkF m 25 #[.val (.ref br), .val (.int 186), .val (.ref b509)] [(.int 186), (.int 92), (.int 0), (.ref b509), (.int 0), (.ref br)])) rfl (by rw [hml]; rfl) (argsL := [(.int 92), (.int 186)]) (rest := [(.int 0), (.ref b509), (.int 0), (.ref br)]) (lenOf pd_20 rfl) rfl (own_W0 rfl) (od hby dc30 14 rfl) (fun _ _ => ⟨rfl, e509, (by decide : 1 + 0 ≤ _), (by decide : 186 + 0 ≤ _)⟩)
  dsimp only [Pt.U, Pt.locs, Pt.cells, Pt.slots] at X512 l512 y512 z512 st512 hQ512
  subst l512 y512 z512
  obtain ⟨rfl, Nq512, e512⟩ := hQ512
  have N512 := Fr.app N0 Nq512
  refine own_go (B := T512.setTop (mkF m 28 #[.val (.ref br), .val (.int 186), .val (.ref b509)] [(.int 92), (.int 0), (.ref b509), (.int 0), (.ref br)])) st512 ?_
  obtain ⟨T513, h513, Lc513, X513, e513, N513, Kq513, Ua513, st513⟩ := cpA X512 hx hZ hown (own_w hw 152 rfl) (own_w hw 155 rfl) (own_w hw 153 rfl) (own_w hw 154 rfl) e512 Q510 V509 (Or.inl ⟨rfl, rfl⟩) (own_nn ot0) (own_nn ot0) (own_nn ot92) (own_ac4 ot0 ot92 ot92 (by decide : 0 + 92 ≤ 92)) (own_ac4 ot0 ot92 ot186 (by decide : 0 + 92 ≤ 186)) rfl (own_acl ot0 ot92 (List.length_replicate : (List.replicate 186 (0 : Int32)).length = 186) (by decide : 0 + 92 ≤ 186)) N512 low509 (g := (mkF m 28 #[.val (.ref br), .val (.int 186), .val (.ref b509)] [(.int 92), (.int 0), (.ref b509), (.int 0), (.ref br)])) rfl (by rw [hml]; rfl) rfl (od hby dc30 15 rfl) (by decide) (W := 0) (own_W0 rfl) (by decide)
  have U513 : Arv Z h513 b509 k509 .byte (186 : Int32) (own_I (own_cp ns (List.replicate 186 0) (0) (0) (92))) (.int 0) := own_cpV ot0 ot0 ot92 Ua513
  have K513 : Keep h0 h513 [] := K509.trans Kq513 (allS (Or.inr sz509) all0)
  refine own_go st513 ?_
  refine own_go (B := T513.setTop (mkF m 32 #[.val (.ref br), .val (.int 186), .val (.ref b509)] [(.ref b509)])) (fun t k => ?_) ?_
  · refine XS.aloadN X513.here hx rfl (od hby dc30 16 rfl) rfl rfl ?_
    exact k
  exact own_rA Bd X513 hx rfl rfl rfl (od hby dc30 17 rfl) (by rw [e513]; exact ⟨b509, k509, (own_cp ns (List.replicate 186 0) (0) (0) (92)), rfl, N513, K513, sz509, U513, (own_cpl (by rw [List.length_replicate]; decide)).trans List.length_replicate, own_cpq (by rw [List.length_replicate]; decide)⟩) (by decide)
def Qecp_92 (Z : State) (sb br : Addr) (kb : ClassId) (ns : List Int32) (zc : Int32) (h0 : Heap) (n0 : Nat) (v : Option Value) (h : Heap) (L : List Loc) : Prop := ∃ nr : Addr, ∃ kn : ClassId, ∃ ys : List Int32, v = none ∧ Fr n0 L ∧ Keep h0 h [sb] ∧ h0.size ≤ nr ∧ sb ≠ nr ∧ Fld Z h sb jA "value" "[B" (.ref nr) ∧ Fld Z h sb jA "coder" "B" (.int 0) ∧ Fld Z h sb jA "count" "I" (.int zc) ∧ Fld Z h sb jA "maybeLatin1" "Z" (.int 0) ∧ Arv Z h nr kn .byte (186 : Int32) (own_I ys) (.int 0) ∧ (ys.length = 186) ∧ (∀ q, q < 92 → ys.getD q 0 = ns.getD q 0)
theorem efecp_92 (m : MethodId) (x0 : Addr) : entryFrame m #[(.ref x0), (.int 93)] 3 = mkF m 0 #[.val (.ref x0), .val (.int 93), .unset] [] := by first | (simp [entryFrame, mkF, argsToLocals, Value.category]; done) | rfl
set_option maxRecDepth 65536 in
set_option maxHeartbeats 40000000 in
theorem ecp_92 (l : Launch) (Z : State) (a0 : Array Value) (hw : own_HW a0 Z) (ws : List Jvm.Cond) (sb br : Addr) (kb : ClassId) (ns : List Int32) (zc : Int32) (h0 : Heap) (n0 : Nat) (Z0 : n0 ≤ h0.size) (P0 : Exa Z h0 sb jB) (P1 : Fld Z h0 sb jA "value" "[B" (.ref br)) (P2 : Fld Z h0 sb jA "coder" "B" (.int 0)) (P3 : Fld Z h0 sb jA "count" "I" (.int zc)) (P4 : Fld Z h0 sb jA "maybeLatin1" "Z" (.int 0)) (P5 : Arv Z h0 br kb .byte (92 : Int32) (own_I ns) (.int 0)) (g_sb : n0 ≤ sb) (ne_sb_br : sb ≠ br) :
    own_M l Z yN35 jdk_68_method_9_code 3 none ws (own_R 3 1 186 48) #[(.ref sb), (.int 93)] h0 (Qecp_92 Z sb br kb ns zc h0 n0) := by
  refine own_b (own := jA) rfl (plainFor_of_name pn_6) (fun m => efecp_92 m sb) n0 fun p e s m below meth c s₁ Bd hZ hx hby hml hown X0 e0 N0 => ?_
  have K0 : Keep h0 h0 [sb] := Keep.refl h0 _
  refine own_go (B := s₁.setTop (mkF m 1 #[.val (.ref sb), .val (.int 93), .unset] [(.ref sb)])) (fun t k => ?_) ?_
  · refine XS.aloadN X0.here hx rfl (od hby dc26 0 rfl) rfl rfl ?_
    exact k
  obtain ⟨T515, X515, e515, st515⟩ := getF X0 hx hZ hown (host := "") (Or.inl (own_w hw 108 rfl)) Via.refl e0 P1 (g := (mkF m 1 #[.val (.ref sb), .val (.int 93), .unset] [(.ref sb)])) rfl rfl (od hby dc26 1 rfl)
  refine own_go st515 ?_
  obtain ⟨cl516, Ar516, q516, S516, M516, Ha516, G516⟩ := id P5
  refine own_go (B := T515.setTop (mkF m 5 #[.val (.ref sb), .val (.int 93), .unset] [(.int 92)])) (fun t k => ?_) ?_
  · refine X515.arraylength hx (by rw [e515]; exact Ar516.1) (State.isArrayOf_alike hZ.alike Ar516.2.1) (g := (mkF m 4 #[.val (.ref sb), .val (.int 93), .unset] [(.ref br)])) rfl rfl (od hby dc26 2 rfl) _ ?_
    rw [len_of S516 M516]
    exact k
  refine own_go (B := T515.setTop (mkF m 6 #[.val (.ref sb), .val (.int 93), .unset] [(.ref sb), (.int 92)])) (fun t k => ?_) ?_
  · refine XS.aloadN X515.here hx rfl (od hby dc26 3 rfl) rfl rfl ?_
    exact k
  obtain ⟨T517, X517, e517, st517⟩ := getF X515 hx hZ hown (host := "") (Or.inl (own_w hw 110 rfl)) Via.refl e515 P2 (g := (mkF m 6 #[.val (.ref sb), .val (.int 93), .unset] [(.ref sb), (.int 92)])) rfl rfl (od hby dc26 4 rfl)
  refine own_go st517 ?_
  refine own_go (B := T517.setTop (mkF m 19 #[.val (.ref sb), .val (.int 93), .val (.int 92)] [(.ref sb), (.ref sb)])) (fun t k => ?_) ?_
  · refine XS.ishr X517.here hx rfl (od hby dc26 5 rfl) rfl ?_
    refine XS.istoreN X517.here hx rfl (od hby dc26 6 rfl) rfl (l' := #[.val (.ref sb), .val (.int 93), .val (.int 92)]) rfl ?_
    refine XS.iloadN X517.here hx rfl (od hby dc26 7 rfl) rfl ?_
    refine XS.iloadN X517.here hx rfl (od hby dc26 8 rfl) rfl ?_
    refine XS.isub X517.here hx rfl (od hby dc26 9 rfl) rfl ?_
    refine XS.ifNo X517.here hx rfl (od hby dc26 10 rfl) rfl ((if0 _ _).trans (tlt (by decide : ((0 : Int32) < (1 : Int32)))).2.2.2) ?_
    refine XS.aloadN X517.here hx rfl (od hby dc26 11 rfl) rfl rfl ?_
    refine XS.aloadN X517.here hx rfl (od hby dc26 12 rfl) rfl rfl ?_
    exact k
  obtain ⟨T519, X519, e519, st519⟩ := getF X517 hx hZ hown (host := "") (Or.inl (own_w hw 108 rfl)) Via.refl e517 P1 (g := (mkF m 19 #[.val (.ref sb), .val (.int 93), .val (.int 92)] [(.ref sb), (.ref sb)])) rfl rfl (od hby dc26 13 rfl)
  refine own_go st519 ?_
  refine own_go (B := T519.setTop (mkF m 24 #[.val (.ref sb), .val (.int 93), .val (.int 92)] [(.int 93), (.ref sb), (.ref br), (.ref sb)])) (fun t k => ?_) ?_
  · refine XS.aloadN X519.here hx rfl (od hby dc26 14 rfl) rfl rfl ?_
    refine XS.iloadN X519.here hx rfl (od hby dc26 15 rfl) rfl ?_
    exact k
  obtain ⟨cq520, q520, q520'⟩ := P0.cell
  obtain ⟨_, _, ⟨T520, L520, k520, n520⟩, -, X520, ⟨Lc520, hQ520, l520, y520, z520⟩, st520⟩ := X519.privateBack hx (y := yN33) hown (mvT hZ (own_w hw 130 rfl)) (mvT hZ (own_w hw 131 rfl)) (own_selp (mvT hZ (own_w hw 128 rfl)) rfl (Cond.privateMethod_at (mvP hZ (own_w hw 132 rfl) (args := #[]))) (mvT hZ (own_w hw 131 rfl)) (by decide)) (Cond.privateMethod_at (mvP hZ (own_w hw 132 rfl) (args := #[]))) (mvT hZ (own_w hw 134 rfl)) (by decide) (backOf (W := 2) (ncp_92 l Z a0 hw [] sb br kb ns h0 n0 Z0 P1 P2 P5) hZ (own_w hw 134 rfl) (own_w hw 104 rfl) (by decide) (by decide)) (g := (mkF m 24 #[.val (.ref sb), .val (.int 93), .val (.int 92)] [(.int 93), (.ref sb), (.ref br), (.ref sb)])) rfl (by rw [hml]; rfl) (Steps.refl _) (a := sb) (by rw [e519]; exact q520) q520' (argsL := [(.int 93)]) (rest := [(.ref br), (.ref sb)]) (lenOf pd_0 rfl) rfl (own_W0 rfl) (od hby dc26 16 rfl) (fun _ _ => ⟨rfl, e519, (by decide : 0 + 0 ≤ _), (by decide : 0 + 0 ≤ _)⟩)
  dsimp only [Pt.U, Pt.locs, Pt.cells, Pt.slots] at X520 l520 y520 z520 st520 hQ520
  subst l520 y520 z520
  obtain ⟨rfl, Nq520, e520⟩ := hQ520
  have N520 := Fr.app N0 Nq520
  refine own_go (B := T520.setTop (mkF m 27 #[.val (.ref sb), .val (.int 93), .val (.int 92)] [(.int 186), (.ref br), (.ref sb)])) (fun t k => st520.trans k) ?_
  refine own_go (B := T520.setTop (mkF m 28 #[.val (.ref sb), .val (.int 93), .val (.int 92)] [(.ref sb), (.int 186), (.ref br), (.ref sb)])) (fun t k => ?_) ?_
  · refine XS.aloadN X520.here hx rfl (od hby dc26 17 rfl) rfl rfl ?_
    exact k
  obtain ⟨T521, X521, e521, st521⟩ := getF X520 hx hZ hown (host := "") (Or.inl (own_w hw 110 rfl)) Via.refl e520 P2 (g := (mkF m 28 #[.val (.ref sb), .val (.int 93), .val (.int 92)] [(.ref sb), (.int 186), (.ref br), (.ref sb)])) rfl rfl (od hby dc26 18 rfl)
  refine own_go st521 ?_
  refine own_go (B := T521.setTop (mkF m 32 #[.val (.ref sb), .val (.int 93), .val (.int 92)] [(.int 186), (.ref br), (.ref sb)])) (fun t k => ?_) ?_
  · refine XS.ishl X521.here hx rfl (od hby dc26 19 rfl) rfl ?_
    exact k
  obtain ⟨_, _, ⟨T522, L522, k522, n522⟩, -, X522, ⟨Lc522, hQ522, l522, y522, z522⟩, st522⟩ := Jvm.LawKit.callS X521 hx (y := yN34) hown (mvT hZ (own_w hw 145 rfl)) (mvT hZ (own_w hw 146 rfl)) (mvT hZ (own_w hw 147 rfl)) (mvT hZ (own_w hw 148 rfl)) (by decide) (backOf (W := 1) (cpo_92 l Z a0 hw [] br kb ns h0 n0 Z0 P5) hZ (own_w hw 148 rfl) (own_w hw 147 rfl) (by decide) (by decide)) (g := (mkF m 32 #[.val (.ref sb), .val (.int 93), .val (.int 92)] [(.int 186), (.ref br), (.ref sb)])) rfl (by rw [hml]; rfl) (argsL := [(.ref br), (.int 186)]) (rest := [(.ref sb)]) (lenOf pd_22 rfl) rfl (own_W0 rfl) (od hby dc26 20 rfl) (fun _ _ => ⟨rfl, e521, (by decide : 0 + 1 ≤ _), (by decide : 0 + 186 ≤ _)⟩)
  dsimp only [Pt.U, Pt.locs, Pt.cells, Pt.slots] at X522 l522 y522 z522 st522 hQ522
  subst l522 y522 z522
  obtain ⟨nr_522, kn_522, ys_522, rfl, Nq522, Kq522, sq_nr_522, U522_0, Pq522_0, Pq522_1⟩ := hQ522
  have ne_sb_nr_522 : sb ≠ nr_522 := Nat.ne_of_lt (Nat.lt_of_lt_of_le P0.lt sq_nr_522)
  have sz_nr_522 : h0.size ≤ nr_522 := Nat.le_trans K0.1 sq_nr_522
  have Q523 := P0.keep Kq522
  have Q524 := P1.keep Kq522 nin0
  have Q525 := P2.keep Kq522 nin0
  have Q526 := P3.keep Kq522 nin0
  have Q527 := P4.keep Kq522 nin0
  have K522 : Keep h0 T522.heap [sb] := K0.trans Kq522 all0
  have N522 := Fr.app N520 Nq522
  refine own_go (B := T522.setTop (mkF m 35 #[.val (.ref sb), .val (.int 93), .val (.int 92)] [(.ref nr_522), (.ref sb)])) st522 ?_
  obtain ⟨T529, h529, X529, e529, W529, st529⟩ := putF X522 hx hZ hown (host := "") (Or.inl (own_w hw 108 rfl)) Via.refl rfl Q524 Q523 (Or.inl (own_w hw 109 rfl)) (own_w hw 95 rfl) (ty := (.array .byte)) (by decide) rfl rfl (g := (mkF m 35 #[.val (.ref sb), .val (.int 93), .val (.int 92)] [(.ref nr_522), (.ref sb)])) rfl rfl (od hby dc26 21 rfl)
  have Q531 := Q525.other W529 (Or.inr (slot_ne (Or.inl (own_w hw 111 rfl)) (Or.inl (own_w hw 109 rfl)) (by decide) (t := .byte) (t' := (.array .byte)) (by decide) (by decide)))
  have Q532 := Q526.other W529 (Or.inr (slot_ne (Or.inl (own_w hw 124 rfl)) (Or.inl (own_w hw 109 rfl)) (by decide) (t := .int) (t' := (.array .byte)) (by decide) (by decide)))
  have Q533 := Q527.other W529 (Or.inr (slot_ne (Or.inl (own_w hw 267 rfl)) (Or.inl (own_w hw 109 rfl)) (by decide) (t := .boolean) (t' := (.array .byte)) (by decide) (by decide)))
  have Q535 := U522_0.other W529 (Ne.symm ne_sb_nr_522)
  have U529 : Fld Z h529 sb jA "value" "[B" (.ref nr_522) := Q524.same W529
  have N529 := Fr.snoc X529 N522 g_sb
  have K529 := K522.wr W529 (Or.inl (List.mem_of_getElem? (i := 0) rfl))
  refine own_go st529 ?_
  exact own_rV Bd X529 hx (od hby dc26 22 rfl) (by rw [e529]; exact ⟨nr_522, kn_522, ys_522, rfl, N529, K529, sz_nr_522, ne_sb_nr_522, U529, Q531, Q532, Q533, Q535, Pq522_0, Pq522_1⟩) (by decide)
def Qecn_0 (Z : State) (sb : Addr) (zt : Int32) (br : Addr) (kb : ClassId) (ns : List Int32) (h0 : Heap) (n0 : Nat) (v : Option Value) (h : Heap) (L : List Loc) : Prop := v = none ∧ Fr n0 L ∧ h = h0
theorem efecn_0 (m : MethodId) (x0 : Addr) (x1 : Int32) : entryFrame m #[(.ref x0), (.int x1)] 3 = mkF m 0 #[.val (.ref x0), .val (.int x1), .unset] [] := by first | (simp [entryFrame, mkF, argsToLocals, Value.category]; done) | rfl
set_option maxRecDepth 65536 in
set_option maxHeartbeats 40000000 in
theorem ecn_0 (l : Launch) (Z : State) (a0 : Array Value) (hw : own_HW a0 Z) (ws : List Jvm.Cond) (sb : Addr) (zt : Int32) (br : Addr) (kb : ClassId) (ns : List Int32) (h0 : Heap) (n0 : Nat) (Z0 : n0 ≤ h0.size) (P0 : Fld Z h0 sb jA "value" "[B" (.ref br)) (P1 : Fld Z h0 sb jA "coder" "B" (.int 0)) (P2 : Arv Z h0 br kb .byte (186 : Int32) (own_I ns) (.int 0)) (hle : ¬ (0 : Int32) < (zt - (186 : Int32))) :
    own_M l Z yN35 jdk_68_method_9_code 3 none ws (own_R 0 0 0 0) #[(.ref sb), (.int zt)] h0 (Qecn_0 Z sb zt br kb ns h0 n0) := by
  refine own_b (own := jA) rfl (plainFor_of_name pn_6) (fun m => efecn_0 m sb zt) n0 fun p e s m below meth c s₁ Bd hZ hx hby hml hown X0 e0 N0 => ?_
  refine own_go (B := s₁.setTop (mkF m 1 #[.val (.ref sb), .val (.int zt), .unset] [(.ref sb)])) (fun t k => ?_) ?_
  · refine XS.aloadN X0.here hx rfl (od hby dc26 0 rfl) rfl rfl ?_
    exact k
  obtain ⟨T536, X536, e536, st536⟩ := getF X0 hx hZ hown (host := "") (Or.inl (own_w hw 108 rfl)) Via.refl e0 P0 (g := (mkF m 1 #[.val (.ref sb), .val (.int zt), .unset] [(.ref sb)])) rfl rfl (od hby dc26 1 rfl)
  refine own_go st536 ?_
  obtain ⟨cl537, Ar537, q537, S537, M537, Ha537, G537⟩ := id P2
  refine own_go (B := T536.setTop (mkF m 5 #[.val (.ref sb), .val (.int zt), .unset] [(.int 186)])) (fun t k => ?_) ?_
  · refine X536.arraylength hx (by rw [e536]; exact Ar537.1) (State.isArrayOf_alike hZ.alike Ar537.2.1) (g := (mkF m 4 #[.val (.ref sb), .val (.int zt), .unset] [(.ref br)])) rfl rfl (od hby dc26 2 rfl) _ ?_
    rw [len_of S537 M537]
    exact k
  refine own_go (B := T536.setTop (mkF m 6 #[.val (.ref sb), .val (.int zt), .unset] [(.ref sb), (.int 186)])) (fun t k => ?_) ?_
  · refine XS.aloadN X536.here hx rfl (od hby dc26 3 rfl) rfl rfl ?_
    exact k
  obtain ⟨T538, X538, e538, st538⟩ := getF X536 hx hZ hown (host := "") (Or.inl (own_w hw 110 rfl)) Via.refl e536 P1 (g := (mkF m 6 #[.val (.ref sb), .val (.int zt), .unset] [(.ref sb), (.int 186)])) rfl rfl (od hby dc26 4 rfl)
  refine own_go st538 ?_
  refine own_go (B := T538.setTop (mkF m 14 #[.val (.ref sb), .val (.int zt), .val (.int 186)] [(.int (zt - (186 : Int32)))])) (fun t k => ?_) ?_
  · refine XS.ishr X538.here hx rfl (od hby dc26 5 rfl) rfl ?_
    refine XS.istoreN X538.here hx rfl (od hby dc26 6 rfl) rfl (l' := #[.val (.ref sb), .val (.int zt), .val (.int 186)]) rfl ?_
    refine XS.iloadN X538.here hx rfl (od hby dc26 7 rfl) rfl ?_
    refine XS.iloadN X538.here hx rfl (od hby dc26 8 rfl) rfl ?_
    refine XS.isub X538.here hx rfl (od hby dc26 9 rfl) rfl ?_
    exact k
  have hc14_539 : ¬ ((0 : Int32) < (zt - (186 : Int32))) := hle
  refine own_go (B := T538.setTop (mkF m 38 #[.val (.ref sb), .val (.int zt), .val (.int 186)] [])) (fun t k => ?_) ?_
  · refine XS.ifYes X538.here hx rfl (pc0 := 14) (pc' := 38) rfl (od hby dc26 10 rfl) rfl ((if0 _ _).trans (flt hc14_539).2.2.2) (by decide) (by decide) ?_
    exact k
  exact own_rV Bd X538 hx (od hby dc26 22 rfl) (by rw [e538]; exact ⟨rfl, N0, rfl⟩) (by decide)
def Qecn_1 (Z : State) (sb : Addr) (zt : Int32) (br : Addr) (kb : ClassId) (ns : List Int32) (h0 : Heap) (n0 : Nat) (v : Option Value) (h : Heap) (L : List Loc) : Prop := v = none ∧ Fr n0 L ∧ h = h0
theorem efecn_1 (m : MethodId) (x0 : Addr) (x1 : Int32) : entryFrame m #[(.ref x0), (.int x1)] 3 = mkF m 0 #[.val (.ref x0), .val (.int x1), .unset] [] := by first | (simp [entryFrame, mkF, argsToLocals, Value.category]; done) | rfl
set_option maxRecDepth 65536 in
set_option maxHeartbeats 40000000 in
theorem ecn_1 (l : Launch) (Z : State) (a0 : Array Value) (hw : own_HW a0 Z) (ws : List Jvm.Cond) (sb : Addr) (zt : Int32) (br : Addr) (kb : ClassId) (ns : List Int32) (h0 : Heap) (n0 : Nat) (Z0 : n0 ≤ h0.size) (P0 : Fld Z h0 sb jA "value" "[B" (.ref br)) (P1 : Fld Z h0 sb jA "coder" "B" (.int 1)) (P2 : Arv Z h0 br kb .byte (372 : Int32) (own_I ns) (.int 0)) (hle : ¬ (0 : Int32) < (zt - (186 : Int32))) :
    own_M l Z yN35 jdk_68_method_9_code 3 none ws (own_R 0 0 0 0) #[(.ref sb), (.int zt)] h0 (Qecn_1 Z sb zt br kb ns h0 n0) := by
  refine own_b (own := jA) rfl (plainFor_of_name pn_6) (fun m => efecn_1 m sb zt) n0 fun p e s m below meth c s₁ Bd hZ hx hby hml hown X0 e0 N0 => ?_
  refine own_go (B := s₁.setTop (mkF m 1 #[.val (.ref sb), .val (.int zt), .unset] [(.ref sb)])) (fun t k => ?_) ?_
  · refine XS.aloadN X0.here hx rfl (od hby dc26 0 rfl) rfl rfl ?_
    exact k
  obtain ⟨T540, X540, e540, st540⟩ := getF X0 hx hZ hown (host := "") (Or.inl (own_w hw 108 rfl)) Via.refl e0 P0 (g := (mkF m 1 #[.val (.ref sb), .val (.int zt), .unset] [(.ref sb)])) rfl rfl (od hby dc26 1 rfl)
  refine own_go st540 ?_
  obtain ⟨cl541, Ar541, q541, S541, M541, Ha541, G541⟩ := id P2
  refine own_go (B := T540.setTop (mkF m 5 #[.val (.ref sb), .val (.int zt), .unset] [(.int 372)])) (fun t k => ?_) ?_
  · refine X540.arraylength hx (by rw [e540]; exact Ar541.1) (State.isArrayOf_alike hZ.alike Ar541.2.1) (g := (mkF m 4 #[.val (.ref sb), .val (.int zt), .unset] [(.ref br)])) rfl rfl (od hby dc26 2 rfl) _ ?_
    rw [len_of S541 M541]
    exact k
  refine own_go (B := T540.setTop (mkF m 6 #[.val (.ref sb), .val (.int zt), .unset] [(.ref sb), (.int 372)])) (fun t k => ?_) ?_
  · refine XS.aloadN X540.here hx rfl (od hby dc26 3 rfl) rfl rfl ?_
    exact k
  obtain ⟨T542, X542, e542, st542⟩ := getF X540 hx hZ hown (host := "") (Or.inl (own_w hw 110 rfl)) Via.refl e540 P1 (g := (mkF m 6 #[.val (.ref sb), .val (.int zt), .unset] [(.ref sb), (.int 372)])) rfl rfl (od hby dc26 4 rfl)
  refine own_go st542 ?_
  refine own_go (B := T542.setTop (mkF m 14 #[.val (.ref sb), .val (.int zt), .val (.int 186)] [(.int (zt - (186 : Int32)))])) (fun t k => ?_) ?_
  · refine XS.ishr X542.here hx rfl (od hby dc26 5 rfl) rfl ?_
    refine XS.istoreN X542.here hx rfl (od hby dc26 6 rfl) rfl (l' := #[.val (.ref sb), .val (.int zt), .val (.int 186)]) rfl ?_
    refine XS.iloadN X542.here hx rfl (od hby dc26 7 rfl) rfl ?_
    refine XS.iloadN X542.here hx rfl (od hby dc26 8 rfl) rfl ?_
    refine XS.isub X542.here hx rfl (od hby dc26 9 rfl) rfl ?_
    exact k
  have hc14_543 : ¬ ((0 : Int32) < (zt - (186 : Int32))) := hle
  refine own_go (B := T542.setTop (mkF m 38 #[.val (.ref sb), .val (.int zt), .val (.int 186)] [])) (fun t k => ?_) ?_
  · refine XS.ifYes X542.here hx rfl (pc0 := 14) (pc' := 38) rfl (od hby dc26 10 rfl) rfl ((if0 _ _).trans (flt hc14_543).2.2.2) (by decide) (by decide) ?_
    exact k
  exact own_rV Bd X542 hx (od hby dc26 22 rfl) (by rw [e542]; exact ⟨rfl, N0, rfl⟩) (by decide)
def Qcfs_n (Z : State) (ix zn zl : Int32) (ck nn md : Nat) (h0 : Heap) (n0 : Nat) (v : Option Value) (h : Heap) (L : List Loc) : Prop := v = some (.int ix) ∧ Fr n0 L ∧ h = h0
theorem efcfs_n (m : MethodId) (x0 : Int32) (x1 : Int32) (x2 : Int32) : entryFrame m #[(.int x0), (.int x1), (.int x2), .null] 4 = mkF m 0 #[.val (.int x0), .val (.int x1), .val (.int x2), .val .null] [] := by first | (simp [entryFrame, mkF, argsToLocals, Value.category]; done) | rfl
set_option maxRecDepth 65536 in
set_option maxHeartbeats 40000000 in
theorem cfs_n (l : Launch) (Z : State) (a0 : Array Value) (hw : own_HW a0 Z) (ws : List Jvm.Cond) (ix zn zl : Int32) (ck nn md : Nat) (h0 : Heap) (n0 : Nat) (Z0 : n0 ≤ h0.size) (hi : ix.toInt = (ck : Int)) (hn : zn.toInt = (nn : Int)) (hm : zl.toInt = (md : Int)) (hbb : ck + nn ≤ md) :
    own_M l Z yN36 jdk_41_method_13_code 4 (some .int) ws (own_R 0 0 0 0) #[(.int ix), (.int zn), (.int zl), .null] h0 (Qcfs_n Z ix zn zl ck nn md h0 n0) := by
  refine own_b (own := jP) rfl (plainFor_of_name pn_3) (fun m => efcfs_n m ix zn zl) n0 fun p e s m below meth c s₁ Bd hZ hx hby hml hown X0 e0 N0 => ?_
  refine own_go (B := s₁.setTop (mkF m 5 #[.val (.int ix), .val (.int zn), .val (.int zl), .val .null] [(.int ((zl ||| ix) ||| zn))])) (fun t k => ?_) ?_
  · refine XS.iloadN X0.here hx rfl (od hby dc58 0 rfl) rfl ?_
    refine XS.iloadN X0.here hx rfl (od hby dc58 1 rfl) rfl ?_
    refine XS.ior X0.here hx rfl (od hby dc58 2 rfl) rfl ?_
    refine XS.iloadN X0.here hx rfl (od hby dc58 3 rfl) rfl ?_
    refine XS.ior X0.here hx rfl (od hby dc58 4 rfl) rfl ?_
    exact k
  have hc5_544 : ¬ (((zl ||| ix) ||| zn) < (0 : Int32)) := (own_or3 hm hi hn)
  refine own_go (B := s₁.setTop (mkF m 12 #[.val (.int ix), .val (.int zn), .val (.int zl), .val .null] [(.int (zl - ix)), (.int zn)])) (fun t k => ?_) ?_
  · refine XS.ifNo X0.here hx rfl (od hby dc58 5 rfl) rfl ((if0 _ _).trans (flt hc5_544).1) ?_
    refine XS.iloadN X0.here hx rfl (od hby dc58 6 rfl) rfl ?_
    refine XS.iloadN X0.here hx rfl (od hby dc58 7 rfl) rfl ?_
    refine XS.iloadN X0.here hx rfl (od hby dc58 8 rfl) rfl ?_
    refine XS.isub X0.here hx rfl (od hby dc58 9 rfl) rfl ?_
    exact k
  have hc12_545 : ¬ ((zl - ix) < zn) := (own_sbn hm hi hn hbb)
  refine own_go (B := s₁.setTop (mkF m 24 #[.val (.int ix), .val (.int zn), .val (.int zl), .val .null] [(.int ix)])) (fun t k => ?_) ?_
  · refine XS.icmpYes X0.here hx rfl (pc0 := 12) (pc' := 23) rfl (od hby dc58 10 rfl) rfl (flt hc12_545).2.2.2 (by decide) (by decide) ?_
    refine XS.iloadN X0.here hx rfl (od hby dc58 11 rfl) rfl ?_
    exact k
  exact own_rI Bd X0 hx (od hby dc58 12 rfl) (by rw [e0]; exact ⟨rfl, N0, rfl⟩) (by decide)
def Qcbo_n (Z : State) (ix zn zl : Int32) (ck nn md : Nat) (h0 : Heap) (n0 : Nat) (v : Option Value) (h : Heap) (L : List Loc) : Prop := v = some (.int ix) ∧ Fr n0 L ∧ h = h0
theorem efcbo_n (m : MethodId) (x0 : Int32) (x1 : Int32) (x2 : Int32) : entryFrame m #[(.int x0), (.int x1), (.int x2)] 3 = mkF m 0 #[.val (.int x0), .val (.int x1), .val (.int x2)] [] := by first | (simp [entryFrame, mkF, argsToLocals, Value.category]; done) | rfl
set_option maxRecDepth 65536 in
set_option maxHeartbeats 40000000 in
theorem cbo_n (l : Launch) (Z : State) (a0 : Array Value) (hw : own_HW a0 Z) (ws : List Jvm.Cond) (ix zn zl : Int32) (ck nn md : Nat) (h0 : Heap) (n0 : Nat) (Z0 : n0 ≤ h0.size) (P0 : Sta Z h0 jP "SIOOBE_FORMATTER" "Ljava/util/function/BiFunction;" .null) (hi : ix.toInt = (ck : Int)) (hn : zn.toInt = (nn : Int)) (hm : zl.toInt = (md : Int)) (hbb : ck + nn ≤ md) :
    own_M l Z yN37 jdk_42_method_157_code 3 (some .int) ws (own_R 1 0 0 15) #[(.int ix), (.int zn), (.int zl)] h0 (Qcbo_n Z ix zn zl ck nn md h0 n0) := by
  refine own_b (own := jS) rfl (plainFor_of_name pn_1) (fun m => efcbo_n m ix zn zl) n0 fun p e s m below meth c s₁ Bd hZ hx hby hml hown X0 e0 N0 => ?_
  refine own_go (B := s₁.setTop (mkF m 3 #[.val (.int ix), .val (.int zn), .val (.int zl)] [(.int zl), (.int zn), (.int ix)])) (fun t k => ?_) ?_
  · refine XS.iloadN X0.here hx rfl (od hby dc57 0 rfl) rfl ?_
    refine XS.iloadN X0.here hx rfl (od hby dc57 1 rfl) rfl ?_
    refine XS.iloadN X0.here hx rfl (od hby dc57 2 rfl) rfl ?_
    exact k
  obtain ⟨T546, X546, e546, st546⟩ := getS2 X0 hx hZ hown (host := "") (Or.inl (own_w hw 82 rfl)) Via.refl e0 P0 (g := (mkF m 3 #[.val (.int ix), .val (.int zn), .val (.int zl)] [(.int zl), (.int zn), (.int ix)])) rfl (od hby dc57 3 rfl)
  refine own_go st546 ?_
  obtain ⟨_, _, ⟨T547, L547, k547, n547⟩, -, X547, ⟨Lc547, hQ547, l547, y547, z547⟩, st547⟩ := Jvm.LawKit.callS X546 hx (y := yN36) hown (mvT hZ (own_w hw 262 rfl)) (mvT hZ (own_w hw 263 rfl)) (mvT hZ (own_w hw 83 rfl)) (mvT hZ (own_w hw 264 rfl)) (by decide) (backOf (W := 0) (cfs_n l Z a0 hw [] ix zn zl ck nn md h0 n0 Z0 hi hn hm hbb) hZ (own_w hw 264 rfl) (own_w hw 83 rfl) (by decide) (by decide)) (g := (mkF m 6 #[.val (.int ix), .val (.int zn), .val (.int zl)] [.null, (.int zl), (.int zn), (.int ix)])) rfl (by rw [hml]; rfl) (argsL := [(.int ix), (.int zn), (.int zl), .null]) (rest := []) (lenOf pd_23 rfl) rfl (own_W0 rfl) (od hby dc57 4 rfl) (fun _ _ => ⟨rfl, e546, (by decide : 0 + 0 ≤ _), (by decide : 0 + 0 ≤ _)⟩)
  dsimp only [Pt.U, Pt.locs, Pt.cells, Pt.slots] at X547 l547 y547 z547 st547 hQ547
  subst l547 y547 z547
  obtain ⟨rfl, Nq547, e547⟩ := hQ547
  have N547 := Fr.app N0 Nq547
  refine own_go (B := T547.setTop (mkF m 9 #[.val (.int ix), .val (.int zn), .val (.int zl)] [(.int ix)])) st547 ?_
  exact own_rI Bd X547 hx (od hby dc57 5 rfl) (by rw [e547]; exact ⟨rfl, N547, rfl⟩) (by decide)
def Qcfs_r (Z : State) (ix zn zl : Int32) (fa : Addr) (ck nn md : Nat) (h0 : Heap) (n0 : Nat) (v : Option Value) (h : Heap) (L : List Loc) : Prop := v = some (.int ix) ∧ Fr n0 L ∧ h = h0
theorem efcfs_r (m : MethodId) (x0 : Int32) (x1 : Int32) (x2 : Int32) (x3 : Addr) : entryFrame m #[(.int x0), (.int x1), (.int x2), (.ref x3)] 4 = mkF m 0 #[.val (.int x0), .val (.int x1), .val (.int x2), .val (.ref x3)] [] := by first | (simp [entryFrame, mkF, argsToLocals, Value.category]; done) | rfl
set_option maxRecDepth 65536 in
set_option maxHeartbeats 40000000 in
theorem cfs_r (l : Launch) (Z : State) (a0 : Array Value) (hw : own_HW a0 Z) (ws : List Jvm.Cond) (ix zn zl : Int32) (fa : Addr) (ck nn md : Nat) (h0 : Heap) (n0 : Nat) (Z0 : n0 ≤ h0.size) (hi : ix.toInt = (ck : Int)) (hn : zn.toInt = (nn : Int)) (hm : zl.toInt = (md : Int)) (hbb : ck + nn ≤ md) :
    own_M l Z yN36 jdk_41_method_13_code 4 (some .int) ws (own_R 0 0 0 0) #[(.int ix), (.int zn), (.int zl), (.ref fa)] h0 (Qcfs_r Z ix zn zl fa ck nn md h0 n0) := by
  refine own_b (own := jP) rfl (plainFor_of_name pn_3) (fun m => efcfs_r m ix zn zl fa) n0 fun p e s m below meth c s₁ Bd hZ hx hby hml hown X0 e0 N0 => ?_
  refine own_go (B := s₁.setTop (mkF m 5 #[.val (.int ix), .val (.int zn), .val (.int zl), .val (.ref fa)] [(.int ((zl ||| ix) ||| zn))])) (fun t k => ?_) ?_
  · refine XS.iloadN X0.here hx rfl (od hby dc58 0 rfl) rfl ?_
    refine XS.iloadN X0.here hx rfl (od hby dc58 1 rfl) rfl ?_
    refine XS.ior X0.here hx rfl (od hby dc58 2 rfl) rfl ?_
    refine XS.iloadN X0.here hx rfl (od hby dc58 3 rfl) rfl ?_
    refine XS.ior X0.here hx rfl (od hby dc58 4 rfl) rfl ?_
    exact k
  have hc5_548 : ¬ (((zl ||| ix) ||| zn) < (0 : Int32)) := (own_or3 hm hi hn)
  refine own_go (B := s₁.setTop (mkF m 12 #[.val (.int ix), .val (.int zn), .val (.int zl), .val (.ref fa)] [(.int (zl - ix)), (.int zn)])) (fun t k => ?_) ?_
  · refine XS.ifNo X0.here hx rfl (od hby dc58 5 rfl) rfl ((if0 _ _).trans (flt hc5_548).1) ?_
    refine XS.iloadN X0.here hx rfl (od hby dc58 6 rfl) rfl ?_
    refine XS.iloadN X0.here hx rfl (od hby dc58 7 rfl) rfl ?_
    refine XS.iloadN X0.here hx rfl (od hby dc58 8 rfl) rfl ?_
    refine XS.isub X0.here hx rfl (od hby dc58 9 rfl) rfl ?_
    exact k
  have hc12_549 : ¬ ((zl - ix) < zn) := (own_sbn hm hi hn hbb)
  refine own_go (B := s₁.setTop (mkF m 24 #[.val (.int ix), .val (.int zn), .val (.int zl), .val (.ref fa)] [(.int ix)])) (fun t k => ?_) ?_
  · refine XS.icmpYes X0.here hx rfl (pc0 := 12) (pc' := 23) rfl (od hby dc58 10 rfl) rfl (flt hc12_549).2.2.2 (by decide) (by decide) ?_
    refine XS.iloadN X0.here hx rfl (od hby dc58 11 rfl) rfl ?_
    exact k
  exact own_rI Bd X0 hx (od hby dc58 12 rfl) (by rw [e0]; exact ⟨rfl, N0, rfl⟩) (by decide)
def Qcbo_r (Z : State) (ix zn zl : Int32) (fa : Addr) (ck nn md : Nat) (h0 : Heap) (n0 : Nat) (v : Option Value) (h : Heap) (L : List Loc) : Prop := v = some (.int ix) ∧ Fr n0 L ∧ h = h0
theorem efcbo_r (m : MethodId) (x0 : Int32) (x1 : Int32) (x2 : Int32) : entryFrame m #[(.int x0), (.int x1), (.int x2)] 3 = mkF m 0 #[.val (.int x0), .val (.int x1), .val (.int x2)] [] := by first | (simp [entryFrame, mkF, argsToLocals, Value.category]; done) | rfl
set_option maxRecDepth 65536 in
set_option maxHeartbeats 40000000 in
theorem cbo_r (l : Launch) (Z : State) (a0 : Array Value) (hw : own_HW a0 Z) (ws : List Jvm.Cond) (ix zn zl : Int32) (fa : Addr) (ck nn md : Nat) (h0 : Heap) (n0 : Nat) (Z0 : n0 ≤ h0.size) (P0 : Sta Z h0 jP "SIOOBE_FORMATTER" "Ljava/util/function/BiFunction;" (.ref fa)) (hi : ix.toInt = (ck : Int)) (hn : zn.toInt = (nn : Int)) (hm : zl.toInt = (md : Int)) (hbb : ck + nn ≤ md) :
    own_M l Z yN37 jdk_42_method_157_code 3 (some .int) ws (own_R 1 0 0 15) #[(.int ix), (.int zn), (.int zl)] h0 (Qcbo_r Z ix zn zl fa ck nn md h0 n0) := by
  refine own_b (own := jS) rfl (plainFor_of_name pn_1) (fun m => efcbo_r m ix zn zl) n0 fun p e s m below meth c s₁ Bd hZ hx hby hml hown X0 e0 N0 => ?_
  refine own_go (B := s₁.setTop (mkF m 3 #[.val (.int ix), .val (.int zn), .val (.int zl)] [(.int zl), (.int zn), (.int ix)])) (fun t k => ?_) ?_
  · refine XS.iloadN X0.here hx rfl (od hby dc57 0 rfl) rfl ?_
    refine XS.iloadN X0.here hx rfl (od hby dc57 1 rfl) rfl ?_
    refine XS.iloadN X0.here hx rfl (od hby dc57 2 rfl) rfl ?_
    exact k
  obtain ⟨T550, X550, e550, st550⟩ := getS2 X0 hx hZ hown (host := "") (Or.inl (own_w hw 82 rfl)) Via.refl e0 P0 (g := (mkF m 3 #[.val (.int ix), .val (.int zn), .val (.int zl)] [(.int zl), (.int zn), (.int ix)])) rfl (od hby dc57 3 rfl)
  refine own_go st550 ?_
  obtain ⟨_, _, ⟨T551, L551, k551, n551⟩, -, X551, ⟨Lc551, hQ551, l551, y551, z551⟩, st551⟩ := Jvm.LawKit.callS X550 hx (y := yN36) hown (mvT hZ (own_w hw 262 rfl)) (mvT hZ (own_w hw 263 rfl)) (mvT hZ (own_w hw 83 rfl)) (mvT hZ (own_w hw 264 rfl)) (by decide) (backOf (W := 0) (cfs_r l Z a0 hw [] ix zn zl fa ck nn md h0 n0 Z0 hi hn hm hbb) hZ (own_w hw 264 rfl) (own_w hw 83 rfl) (by decide) (by decide)) (g := (mkF m 6 #[.val (.int ix), .val (.int zn), .val (.int zl)] [(.ref fa), (.int zl), (.int zn), (.int ix)])) rfl (by rw [hml]; rfl) (argsL := [(.int ix), (.int zn), (.int zl), (.ref fa)]) (rest := []) (lenOf pd_23 rfl) rfl (own_W0 rfl) (od hby dc57 4 rfl) (fun _ _ => ⟨rfl, e550, (by decide : 0 + 0 ≤ _), (by decide : 0 + 0 ≤ _)⟩)
  dsimp only [Pt.U, Pt.locs, Pt.cells, Pt.slots] at X551 l551 y551 z551 st551 hQ551
  subst l551 y551 z551
  obtain ⟨rfl, Nq551, e551⟩ := hQ551
  have N551 := Fr.app N0 Nq551
  refine own_go (B := T551.setTop (mkF m 9 #[.val (.int ix), .val (.int zn), .val (.int zl)] [(.int ix)])) st551 ?_
  exact own_rI Bd X551 hx (od hby dc57 5 rfl) (by rw [e551]; exact ⟨rfl, N551, rfl⟩) (by decide)
def Qcbo (Z : State) (ix zn zl : Int32) (ck nn md : Nat) (h0 : Heap) (n0 : Nat) (v : Option Value) (h : Heap) (L : List Loc) : Prop := v = some (.int ix) ∧ Fr n0 L ∧ h = h0
theorem cbo (l : Launch) (Z : State) (a0 : Array Value) (hw : own_HW a0 Z) (ws : List Jvm.Cond) (ix zn zl : Int32) (ck nn md : Nat) (h0 : Heap) (n0 : Nat) (Z0 : n0 ≤ h0.size) (P0 : own_SI Z h0) (hi : ix.toInt = (ck : Int)) (hn : zn.toInt = (nn : Int)) (hm : zl.toInt = (md : Int)) (hbb : ck + nn ≤ md) :
    own_M l Z yN37 jdk_42_method_157_code 3 (some .int) ws (own_R 1 0 0 15) #[(.int ix), (.int zn), (.int zl)] h0 (Qcbo Z ix zn zl ck nn md h0 n0) := by
  rcases P0 with P | ⟨fa, P⟩
  · exact cbo_n l Z a0 hw ws ix zn zl ck nn md h0 n0 Z0 P hi hn hm hbb
  · exact cbo_r l Z a0 hw ws ix zn zl fa ck nn md h0 n0 Z0 P hi hn hm hbb
def Qucb (Z : State) (ix zn : Int32) (bd : Addr) (kd : ClassId) (zd : Int32) (xs : List Int32) (zl : Int32) (ck nn md : Nat) (h0 : Heap) (n0 : Nat) (v : Option Value) (h : Heap) (L : List Loc) : Prop := v = none ∧ Fr n0 L ∧ h = h0
theorem efucb (m : MethodId) (x0 : Int32) (x1 : Int32) (x2 : Addr) : entryFrame m #[(.int x0), (.int x1), (.ref x2)] 3 = mkF m 0 #[.val (.int x0), .val (.int x1), .val (.ref x2)] [] := by first | (simp [entryFrame, mkF, argsToLocals, Value.category]; done) | rfl
set_option maxRecDepth 65536 in
set_option maxHeartbeats 40000000 in
theorem ucb (l : Launch) (Z : State) (a0 : Array Value) (hw : own_HW a0 Z) (ws : List Jvm.Cond) (ix zn : Int32) (bd : Addr) (kd : ClassId) (zd : Int32) (xs : List Int32) (zl : Int32) (ck nn md : Nat) (h0 : Heap) (n0 : Nat) (Z0 : n0 ≤ h0.size) (P0 : own_SI Z h0) (P1 : Arv Z h0 bd kd .byte zd (own_I xs) (.int 0)) (hi : ix.toInt = (ck : Int)) (hn : zn.toInt = (nn : Int)) (hm : zl.toInt = (md : Int)) (hbb : ck + nn ≤ md) (hln : (zd >>> ((1 : Int32) &&& 31)) = zl) :
    own_M l Z yN38 jdk_52_method_94_code 3 none ws (own_R 2 0 0 29) #[(.int ix), (.int zn), (.ref bd)] h0 (Qucb Z ix zn bd kd zd xs zl ck nn md h0 n0) := by
  refine own_b (own := jU) rfl (plainFor_of_name pn_0) (fun m => efucb m ix zn bd) n0 fun p e s m below meth c s₁ Bd hZ hx hby hml hown X0 e0 N0 => ?_
  refine own_go (B := s₁.setTop (mkF m 3 #[.val (.int ix), .val (.int zn), .val (.ref bd)] [(.ref bd), (.int zn), (.int ix)])) (fun t k => ?_) ?_
  · refine XS.iloadN X0.here hx rfl (od hby dc56 0 rfl) rfl ?_
    refine XS.iloadN X0.here hx rfl (od hby dc56 1 rfl) rfl ?_
    refine XS.aloadN X0.here hx rfl (od hby dc56 2 rfl) rfl rfl ?_
    exact k
  obtain ⟨_, _, ⟨T552, L552, k552, n552⟩, -, X552, ⟨Lc552, hQ552, l552, y552, z552⟩, st552⟩ := Jvm.LawKit.callS X0 hx (y := yN18) hown (mvT hZ (own_w hw 239 rfl)) (mvT hZ (own_w hw 240 rfl)) (mvT hZ (own_w hw 44 rfl)) (mvT hZ (own_w hw 241 rfl)) (by decide) (backOf (W := 2) (ule l Z a0 hw [] bd kd zd xs zl h0 n0 Z0 P1 hln) hZ (own_w hw 241 rfl) (own_w hw 44 rfl) (by decide) (by decide)) (g := (mkF m 3 #[.val (.int ix), .val (.int zn), .val (.ref bd)] [(.ref bd), (.int zn), (.int ix)])) rfl (by rw [hml]; rfl) (argsL := [(.ref bd)]) (rest := [(.int zn), (.int ix)]) (lenOf pd_12 rfl) rfl (own_W0 rfl) (od hby dc56 3 rfl) (fun _ _ => ⟨rfl, e0, (by decide : 0 + 0 ≤ _), (by decide : 0 + 0 ≤ _)⟩)
  dsimp only [Pt.U, Pt.locs, Pt.cells, Pt.slots] at X552 l552 y552 z552 st552 hQ552
  subst l552 y552 z552
  obtain ⟨rfl, Nq552, e552⟩ := hQ552
  have N552 := Fr.app N0 Nq552
  refine own_go (B := T552.setTop (mkF m 6 #[.val (.int ix), .val (.int zn), .val (.ref bd)] [(.int zl), (.int zn), (.int ix)])) st552 ?_
  obtain ⟨_, _, ⟨T553, L553, k553, n553⟩, -, X553, ⟨Lc553, hQ553, l553, y553, z553⟩, st553⟩ := Jvm.LawKit.callS X552 hx (y := yN37) hown (mvT hZ (own_w hw 259 rfl)) (mvT hZ (own_w hw 260 rfl)) (mvT hZ (own_w hw 9 rfl)) (mvT hZ (own_w hw 261 rfl)) (by decide) (backOf (W := 0) (cbo l Z a0 hw [] ix zn zl ck nn md h0 n0 Z0 P0 hi hn hm hbb) hZ (own_w hw 261 rfl) (own_w hw 9 rfl) (by decide) (by decide)) (g := (mkF m 6 #[.val (.int ix), .val (.int zn), .val (.ref bd)] [(.int zl), (.int zn), (.int ix)])) rfl (by rw [hml]; rfl) (argsL := [(.int ix), (.int zn), (.int zl)]) (rest := []) (lenOf pd_21 rfl) rfl (own_W0 rfl) (od hby dc56 4 rfl) (fun _ _ => ⟨rfl, e552, (by decide : 0 + 0 ≤ _), (by decide : 0 + 0 ≤ _)⟩)
  dsimp only [Pt.U, Pt.locs, Pt.cells, Pt.slots] at X553 l553 y553 z553 st553 hQ553
  subst l553 y553 z553
  obtain ⟨rfl, Nq553, e553⟩ := hQ553
  have N553 := Fr.app N552 Nq553
  refine own_go (B := T553.setTop (mkF m 9 #[.val (.int ix), .val (.int zn), .val (.ref bd)] [(.int ix)])) st553 ?_
  refine own_go (B := T553.setTop (mkF m 10 #[.val (.int ix), .val (.int zn), .val (.ref bd)] [])) (fun t k => ?_) ?_
  · refine XS.pop X553.here hx rfl (od hby dc56 5 rfl) rfl rfl ?_
    exact k
  exact own_rV Bd X553 hx (od hby dc56 6 rfl) (by rw [e553]; exact ⟨rfl, N553, rfl⟩) (by decide)
def Qinl (Z : State) (ar bd : Addr) (ix zn : Int32) (ka : ClassId) (za : Int32) (us : List Int32) (kd : ClassId) (zd : Int32) (xs : List Int32) (zl : Int32) (chl : List Int32) (ma ck nn md : Nat) (h0 : Heap) (n0 : Nat) (v : Option Value) (h : Heap) (L : List Loc) : Prop := ∃ ys : List Int32, v = none ∧ Fr n0 L ∧ Keep h0 h [bd] ∧ Arv Z h bd kd .byte zd (own_I ys) (.int 0) ∧ (ys.length = 2 * md) ∧ (own_U ys chl (ck + nn))
theorem efinl (m : MethodId) (x0 : Addr) (x2 : Addr) (x3 : Int32) (x4 : Int32) : entryFrame m #[(.ref x0), (.int 0), (.ref x2), (.int x3), (.int x4)] 6 = mkF m 0 #[.val (.ref x0), .val (.int 0), .val (.ref x2), .val (.int x3), .val (.int x4), .unset] [] := by first | (simp [entryFrame, mkF, argsToLocals, Value.category]; done) | rfl
set_option maxRecDepth 65536 in
set_option maxHeartbeats 40000000 in
theorem inl (l : Launch) (Z : State) (a0 : Array Value) (hw : own_HW a0 Z) (ws : List Jvm.Cond) (ar bd : Addr) (ix zn : Int32) (ka : ClassId) (za : Int32) (us : List Int32) (kd : ClassId) (zd : Int32) (xs : List Int32) (zl : Int32) (chl : List Int32) (ma ck nn md : Nat) (h0 : Heap) (n0 : Nat) (Z0 : n0 ≤ h0.size) (P0 : Arv Z h0 ar ka .byte za (own_I us) (.int 0)) (P1 : Arv Z h0 bd kd .byte zd (own_I xs) (.int 0)) (P2 : own_SI Z h0) (P3 : Sta Z h0 jU "$assertionsDisabled" "Z" (.int 1)) (P4 : Sta Z h0 jU "HI_BYTE_SHIFT" "I" (.int 0)) (P5 : Sta Z h0 jU "LO_BYTE_SHIFT" "I" (.int 8)) (g_bd : n0 ≤ bd) (ne_ar_bd : ar ≠ bd) (hi : ix.toInt = (ck : Int)) (hn : zn.toInt = (nn : Int)) (hm : zl.toInt = (md : Int)) (hbb : ck + nn ≤ md) (hln : (zd >>> ((1 : Int32) &&& 31)) = zl) (hzd : zd.toInt = ((2 * md : Nat) : Int)) (hza : za.toInt = (ma : Int)) (hna : nn ≤ ma) (hs : md ≤ 1000) (hxl : xs.length = 2 * md) (hpre : own_U xs chl ck) (hsrc : ∀ q, q < nn → own_g8 (us.getD q 0) = chl.getD (ck + q) 0) :
    own_M l Z yN39 jdk_52_method_86_code 6 none ws (own_R 3 0 0 43) #[(.ref ar), (.int 0), (.ref bd), (.int ix), (.int zn)] h0 (Qinl Z ar bd ix zn ka za us kd zd xs zl chl ma ck nn md h0 n0) := by
  refine own_b (own := jU) rfl (plainFor_of_name pn_0) (fun m => efinl m ar bd ix zn) n0 fun p e s m below meth c s₁ Bd hZ hx hby hml hown X0 e0 N0 => ?_
  have K0 : Keep h0 h0 [bd] := Keep.refl h0 _
  refine own_go (B := s₁.setTop (mkF m 4 #[.val (.ref ar), .val (.int 0), .val (.ref bd), .val (.int ix), .val (.int zn), .unset] [(.ref bd), (.int zn), (.int ix)])) (fun t k => ?_) ?_
  · refine XS.iloadN X0.here hx rfl (od hby dc55 0 rfl) rfl ?_
    refine XS.iload X0.here hx rfl (od hby dc55 1 rfl) rfl ?_
    refine XS.aloadN X0.here hx rfl (od hby dc55 2 rfl) rfl rfl ?_
    exact k
  obtain ⟨_, _, ⟨T554, L554, k554, n554⟩, -, X554, ⟨Lc554, hQ554, l554, y554, z554⟩, st554⟩ := Jvm.LawKit.callS X0 hx (y := yN38) hown (mvT hZ (own_w hw 256 rfl)) (mvT hZ (own_w hw 257 rfl)) (mvT hZ (own_w hw 44 rfl)) (mvT hZ (own_w hw 258 rfl)) (by decide) (backOf (W := 0) (ucb l Z a0 hw [] ix zn bd kd zd xs zl ck nn md h0 n0 Z0 P2 P1 hi hn hm hbb hln) hZ (own_w hw 258 rfl) (own_w hw 44 rfl) (by decide) (by decide)) (g := (mkF m 4 #[.val (.ref ar), .val (.int 0), .val (.ref bd), .val (.int ix), .val (.int zn), .unset] [(.ref bd), (.int zn), (.int ix)])) rfl (by rw [hml]; rfl) (argsL := [(.int ix), (.int zn), (.ref bd)]) (rest := []) (lenOf pd_24 rfl) rfl (own_W0 rfl) (od hby dc55 3 rfl) (fun _ _ => ⟨rfl, e0, (by decide : 0 + 0 ≤ _), (by decide : 0 + 0 ≤ _)⟩)
  dsimp only [Pt.U, Pt.locs, Pt.cells, Pt.slots] at X554 l554 y554 z554 st554 hQ554
  subst l554 y554 z554
  obtain ⟨rfl, Nq554, e554⟩ := hQ554
  have N554 := Fr.app N0 Nq554
  refine own_go (B := T554.setTop (mkF m 7 #[.val (.ref ar), .val (.int 0), .val (.ref bd), .val (.int ix), .val (.int zn), .unset] [])) st554 ?_
  refine own_go (B := T554.setTop (mkF m 10 #[.val (.ref ar), .val (.int 0), .val (.ref bd), .val (.int ix), .val (.int zn), .val (.int 0)] [])) (fun t k => ?_) ?_
  · refine XS.iconst X554.here hx rfl (od hby dc55 4 rfl) ?_
    refine XS.istore X554.here hx rfl (od hby dc55 5 rfl) rfl (l' := #[.val (.ref ar), .val (.int 0), .val (.ref bd), .val (.int ix), .val (.int zn), .val (.int 0)]) rfl ?_
    exact k
  have loop555 : ∀ (N : Nat) (i1 : Int32) (i3 : Int32) (i5 : Int32) (jq : Nat) (yq : List Int32) (Tq555 : State) (Lq555 : List Loc) (hq555 : Heap), (nn - jq) < N → i1.toInt = (jq : Int) → i3.toInt = ((ck + jq : Nat) : Int) → i5.toInt = (jq : Int) → jq ≤ nn → yq.length = 2 * md → own_U yq chl (ck + jq) → Stand p l e (own_R 3 0 0 43) s m #[(.ref ar), (.int 0), (.ref bd), (.int ix), (.int zn)] below meth c Tq555 Lq555 0 0 → Tq555.heap = hq555 → Fr n0 Lq555 → (Arv Z hq555 ar ka .byte za (own_I us) (.int 0)) → (Arv Z hq555 bd kd .byte zd (own_I yq) (.int 0)) → (own_SI Z hq555) → (Sta Z hq555 jU "$assertionsDisabled" "Z" (.int 1)) → (Sta Z hq555 jU "HI_BYTE_SHIFT" "I" (.int 0)) → (Sta Z hq555 jU "LO_BYTE_SHIFT" "I" (.int 8)) → (n0 ≤ hq555.size) → (Keep h0 hq555 [bd]) → ∃ s₂ o, Steps p.tables e below (Tq555.setTop (mkF m 10 #[.val (.ref ar), .val (.int i1), .val (.ref bd), .val (.int i3), .val (.int zn), .val (.int i5)] [])) s₂ ∧ s₂.status = .running ∧ Ended s₂ below o ∧ ∃ v L, o = .returned v ∧ Qinl Z ar bd ix zn ka za us kd zd xs zl chl ma ck nn md h0 n0 v s₂.heap L ∧ FrameEnd s o s₂ L (own_R 3 0 0 43).cells (own_R 3 0 0 43).slots := by
    intro N
    induction N with
    | zero => intro i1 i3 i5 jq yq Tq555 Lq555 hq555 hmu; exact absurd hmu (Nat.not_lt_zero _)
    | succ N ih =>
      intro i1 i3 i5 jq yq Tq555 Lq555 hq555 hmu q1 q3 q5 qm qy qp Xq555 eq555 Nq555 Fq555_0 Fq555_1 Fq555_2 Fq555_3 Fq555_4 Fq555_5 Zq555 Kq555
      refine own_go (B := Tq555.setTop (mkF m 14 #[.val (.ref ar), .val (.int i1), .val (.ref bd), .val (.int i3), .val (.int zn), .val (.int i5)] [(.int zn), (.int i5)])) (fun t k => ?_) ?_
      · refine XS.iload Xq555.here hx rfl (od hby dc55 6 rfl) rfl ?_
        refine XS.iload Xq555.here hx rfl (od hby dc55 7 rfl) rfl ?_
        exact k
      by_cases hc14_556 : i5 < zn
      · refine own_go (B := Tq555.setTop (mkF m 17 #[.val (.ref ar), .val (.int i1), .val (.ref bd), .val (.int i3), .val (.int zn), .val (.int i5)] [])) (fun t k => ?_) ?_
        · refine XS.icmpNo Xq555.here hx rfl (od hby dc55 8 rfl) rfl (tlt hc14_556).2.1 ?_
          exact k
        have qlt : jq < nn := own_ltn q5 hn (by first | exact hc14_556 | (have := hc14_556; simpa using this))
        refine own_go (B := Tq555.setTop (mkF m 27 #[.val (.ref ar), .val (.int (i1 + (1 : Int32))), .val (.ref bd), .val (.int (i3 + (1 : Int32))), .val (.int zn), .val (.int i5)] [(.int i1), (.ref ar), (.int i3), (.ref bd)])) (fun t k => ?_) ?_
        · refine XS.aloadN Xq555.here hx rfl (od hby dc55 9 rfl) rfl rfl ?_
          refine XS.iloadN Xq555.here hx rfl (od hby dc55 10 rfl) rfl ?_
          refine XS.iinc Xq555.here hx rfl (od hby dc55 11 rfl) rfl (l' := #[.val (.ref ar), .val (.int i1), .val (.ref bd), .val (.int (i3 + (1 : Int32))), .val (.int zn), .val (.int i5)]) rfl ?_
          refine XS.aloadN Xq555.here hx rfl (od hby dc55 12 rfl) rfl rfl ?_
          refine XS.iloadN Xq555.here hx rfl (od hby dc55 13 rfl) rfl ?_
          refine XS.iinc Xq555.here hx rfl (od hby dc55 14 rfl) rfl (l' := #[.val (.ref ar), .val (.int (i1 + (1 : Int32))), .val (.ref bd), .val (.int (i3 + (1 : Int32))), .val (.int zn), .val (.int i5)]) rfl ?_
          exact k
        obtain ⟨cl557, Ar557, q557, S557, M557, Ha557, G557⟩ := id Fq555_0
        have hin557 : ¬ (i1 < 0 ∨ cl557.slots.size ≤ (i1).toNatClampNeg) := inb_of S557 (own_jb q1 hza (by omega))
        refine own_go (Xq555.baloadBytes hx (j := i1) (v := (.int (us.getD (jq) 0))) (by rw [eq555]; exact Ar557.1) (State.isArrayOf_alike hZ.alike Ar557.2.1) Ar557.2.2 hin557 (Has.at Ha557 hin557 (own_getI2 _ (own_jn q1))) (g := (mkF m 27 #[.val (.ref ar), .val (.int (i1 + (1 : Int32))), .val (.ref bd), .val (.int (i3 + (1 : Int32))), .val (.int zn), .val (.int i5)] [(.int i1), (.ref ar), (.int i3), (.ref bd)])) rfl rfl (od hby dc55 15 rfl)) ?_
        refine own_go (B := Tq555.setTop (mkF m 32 #[.val (.ref ar), .val (.int (i1 + (1 : Int32))), .val (.ref bd), .val (.int (i3 + (1 : Int32))), .val (.int zn), .val (.int i5)] [(.int ((us.getD (jq) 0) &&& (255 : Int32))), (.int i3), (.ref bd)])) (fun t k => ?_) ?_
        · refine XS.sipush Xq555.here hx rfl (od hby dc55 16 rfl) ?_
          refine XS.iand Xq555.here hx rfl (od hby dc55 17 rfl) rfl ?_
          exact k
        obtain ⟨_, _, ⟨T558, L558, k558, n558⟩, -, X558, ⟨Lc558, hQ558, l558, y558, z558⟩, st558⟩ := Jvm.LawKit.callS Xq555 hx (y := yN0) hown (mvT hZ (own_w hw 224 rfl)) (mvT hZ (own_w hw 225 rfl)) (mvT hZ (own_w hw 44 rfl)) (mvT hZ (own_w hw 226 rfl)) (by decide) (backOf (W := 0) (pch l Z a0 hw [] bd i3 ((us.getD (jq) 0) &&& (255 : Int32)) kd zd yq (ck + jq) (2 * md) hq555 n0 Zq555 Fq555_1 Fq555_3 Fq555_4 Fq555_5 g_bd q3 (by omega) hzd (by omega) qy) hZ (own_w hw 226 rfl) (own_w hw 44 rfl) (by decide) (by decide)) (g := (mkF m 32 #[.val (.ref ar), .val (.int (i1 + (1 : Int32))), .val (.ref bd), .val (.int (i3 + (1 : Int32))), .val (.int zn), .val (.int i5)] [(.int ((us.getD (jq) 0) &&& (255 : Int32))), (.int i3), (.ref bd)])) rfl (by rw [hml]; rfl) (argsL := [(.ref bd), (.int i3), (.int ((us.getD (jq) 0) &&& (255 : Int32)))]) (rest := []) (lenOf pd_2 rfl) rfl (own_W0 rfl) (od hby dc55 18 rfl) (fun _ _ => ⟨rfl, eq555, (by decide : 0 + 0 ≤ _), (by decide : 0 + 0 ≤ _)⟩)
        dsimp only [Pt.U, Pt.locs, Pt.cells, Pt.slots] at X558 l558 y558 z558 st558 hQ558
        subst l558 y558 z558
        obtain ⟨rfl, Nq558, Kq558, U558_0⟩ := hQ558
        have Q559 := Fq555_0.keep Kq558 (ninS ne_ar_bd nin0)
        have Q560 := own_SIK Fq555_2 Kq558 (nsS (own_nsV Fq555_1) ns0)
        have Q561 := own_staK Fq555_3 Kq558 (nsS (own_nsV Fq555_1) ns0)
        have Q562 := own_staK Fq555_4 Kq558 (nsS (own_nsV Fq555_1) ns0)
        have Q563 := own_staK Fq555_5 Kq558 (nsS (own_nsV Fq555_1) ns0)
        have Z558 : n0 ≤ T558.heap.size := Nat.le_trans Zq555 Kq558.1
        have K558 : Keep h0 T558.heap [bd] := Kq555.trans Kq558 (allS (Or.inl (List.mem_of_getElem? (i := 0) rfl)) all0)
        have N558 := Fr.app Nq555 Nq558
        refine own_go (B := T558.setTop (mkF m 35 #[.val (.ref ar), .val (.int (i1 + (1 : Int32))), .val (.ref bd), .val (.int (i3 + (1 : Int32))), .val (.int zn), .val (.int i5)] [])) st558 ?_
        refine own_go (B := T558.setTop (mkF m 10 #[.val (.ref ar), .val (.int (i1 + (1 : Int32))), .val (.ref bd), .val (.int (i3 + (1 : Int32))), .val (.int zn), .val (.int (i5 + (1 : Int32)))] [])) (fun t k => ?_) ?_
        · refine XS.iinc X558.here hx rfl (od hby dc55 19 rfl) rfl (l' := #[.val (.ref ar), .val (.int (i1 + (1 : Int32))), .val (.ref bd), .val (.int (i3 + (1 : Int32))), .val (.int zn), .val (.int (i5 + (1 : Int32)))]) rfl ?_
          refine XS.goto X558.here hx rfl (pc0 := 38) (pc' := 10) rfl (od hby dc55 20 rfl) (by decide) (by decide) ?_
          exact k
        exact ih ((i1 + (1 : Int32))) ((i3 + (1 : Int32))) ((i5 + (1 : Int32))) (jq + 1) (((yq.set (2 * (ck + jq)) (own_lo ((us.getD (jq) 0) &&& (255 : Int32)))).set (2 * (ck + jq) + 1) (own_hi ((us.getD (jq) 0) &&& (255 : Int32))))) T558 _ T558.heap (by omega) (own_inc q1 (by omega)) (own_inc (j := ck + jq) q3 (by omega)) (own_inc q5 (by omega)) (by omega) (by rw [List.length_set, List.length_set]; exact qy) (own_Us qp (by omega) (hsrc jq qlt)) X558 rfl N558 Q559 U558_0 Q560 Q561 Q562 Q563 Z558 K558
      · refine own_go (B := Tq555.setTop (mkF m 41 #[.val (.ref ar), .val (.int i1), .val (.ref bd), .val (.int i3), .val (.int zn), .val (.int i5)] [])) (fun t k => ?_) ?_
        · refine XS.icmpYes Xq555.here hx rfl (pc0 := 14) (pc' := 41) rfl (od hby dc55 8 rfl) rfl (flt hc14_556).2.1 (by decide) (by decide) ?_
          exact k
        exact own_rV Bd Xq555 hx (od hby dc55 21 rfl) (by rw [eq555]; exact ⟨yq, rfl, Nq555, Kq555, Fq555_1, qy, (by have := own_gen q5 hn hc14_556; have e9 : jq = nn := (by omega); rw [e9] at qp; exact qp)⟩) (by decide)
  exact loop555 _ ((0 : Int32)) (ix) ((0 : Int32)) (0) (xs) T554 _ h0 (Nat.lt_succ_self _) (rfl) (hi) (rfl) (Nat.zero_le _) (hxl) (hpre) X554 e554 N554 P0 P1 P2 P3 P4 P5 Z0 K0
def Ql1i (Z : State) (ar bd : Addr) (ix zn : Int32) (ka : ClassId) (za : Int32) (us : List Int32) (kd : ClassId) (zd : Int32) (xs : List Int32) (zl : Int32) (chl : List Int32) (ma ck nn md : Nat) (h0 : Heap) (n0 : Nat) (v : Option Value) (h : Heap) (L : List Loc) : Prop := ∃ ys : List Int32, v = none ∧ Fr n0 L ∧ Keep h0 h [bd] ∧ Arv Z h bd kd .byte zd (own_I ys) (.int 0) ∧ (ys.length = 2 * md) ∧ (own_U ys chl (ck + nn))
theorem efl1i (m : MethodId) (x0 : Addr) (x2 : Addr) (x3 : Int32) (x4 : Int32) : entryFrame m #[(.ref x0), (.int 0), (.ref x2), (.int x3), (.int x4)] 5 = mkF m 0 #[.val (.ref x0), .val (.int 0), .val (.ref x2), .val (.int x3), .val (.int x4)] [] := by first | (simp [entryFrame, mkF, argsToLocals, Value.category]; done) | rfl
set_option maxRecDepth 65536 in
set_option maxHeartbeats 40000000 in
theorem l1i (l : Launch) (Z : State) (a0 : Array Value) (hw : own_HW a0 Z) (ws : List Jvm.Cond) (ar bd : Addr) (ix zn : Int32) (ka : ClassId) (za : Int32) (us : List Int32) (kd : ClassId) (zd : Int32) (xs : List Int32) (zl : Int32) (chl : List Int32) (ma ck nn md : Nat) (h0 : Heap) (n0 : Nat) (Z0 : n0 ≤ h0.size) (P0 : Arv Z h0 ar ka .byte za (own_I us) (.int 0)) (P1 : Arv Z h0 bd kd .byte zd (own_I xs) (.int 0)) (P2 : own_SI Z h0) (P3 : Sta Z h0 jU "$assertionsDisabled" "Z" (.int 1)) (P4 : Sta Z h0 jU "HI_BYTE_SHIFT" "I" (.int 0)) (P5 : Sta Z h0 jU "LO_BYTE_SHIFT" "I" (.int 8)) (g_bd : n0 ≤ bd) (ne_ar_bd : ar ≠ bd) (hi : ix.toInt = (ck : Int)) (hn : zn.toInt = (nn : Int)) (hm : zl.toInt = (md : Int)) (hbb : ck + nn ≤ md) (hln : (zd >>> ((1 : Int32) &&& 31)) = zl) (hzd : zd.toInt = ((2 * md : Nat) : Int)) (hza : za.toInt = (ma : Int)) (hna : nn ≤ ma) (hs : md ≤ 1000) (hxl : xs.length = 2 * md) (hpre : own_U xs chl ck) (hsrc : ∀ q, q < nn → own_g8 (us.getD q 0) = chl.getD (ck + q) 0) :
    own_M l Z yN40 jdk_43_method_50_code 5 none ws (own_R 4 0 0 60) #[(.ref ar), (.int 0), (.ref bd), (.int ix), (.int zn)] h0 (Ql1i Z ar bd ix zn ka za us kd zd xs zl chl ma ck nn md h0 n0) := by
  refine own_b (own := jX) rfl (plainFor_of_name pn_4) (fun m => efl1i m ar bd ix zn) n0 fun p e s m below meth c s₁ Bd hZ hx hby hml hown X0 e0 N0 => ?_
  have K0 : Keep h0 h0 [bd] := Keep.refl h0 _
  refine own_go (B := s₁.setTop (mkF m 6 #[.val (.ref ar), .val (.int 0), .val (.ref bd), .val (.int ix), .val (.int zn)] [(.int zn), (.int ix), (.ref bd), (.int 0), (.ref ar)])) (fun t k => ?_) ?_
  · refine XS.aloadN X0.here hx rfl (od hby dc54 0 rfl) rfl rfl ?_
    refine XS.iloadN X0.here hx rfl (od hby dc54 1 rfl) rfl ?_
    refine XS.aloadN X0.here hx rfl (od hby dc54 2 rfl) rfl rfl ?_
    refine XS.iloadN X0.here hx rfl (od hby dc54 3 rfl) rfl ?_
    refine XS.iload X0.here hx rfl (od hby dc54 4 rfl) rfl ?_
    exact k
  obtain ⟨_, _, ⟨T564, L564, k564, n564⟩, -, X564, ⟨Lc564, hQ564, l564, y564, z564⟩, st564⟩ := Jvm.LawKit.callS X0 hx (y := yN39) hown (mvT hZ (own_w hw 253 rfl)) (mvT hZ (own_w hw 254 rfl)) (mvT hZ (own_w hw 44 rfl)) (mvT hZ (own_w hw 255 rfl)) (by decide) (backOf (W := 0) (inl l Z a0 hw [] ar bd ix zn ka za us kd zd xs zl chl ma ck nn md h0 n0 Z0 P0 P1 P2 P3 P4 P5 g_bd ne_ar_bd hi hn hm hbb hln hzd hza hna hs hxl hpre hsrc) hZ (own_w hw 255 rfl) (own_w hw 44 rfl) (by decide) (by decide)) (g := (mkF m 6 #[.val (.ref ar), .val (.int 0), .val (.ref bd), .val (.int ix), .val (.int zn)] [(.int zn), (.int ix), (.ref bd), (.int 0), (.ref ar)])) rfl (by rw [hml]; rfl) (argsL := [(.ref ar), (.int 0), (.ref bd), (.int ix), (.int zn)]) (rest := []) (lenOf pd_25 rfl) rfl (own_W0 rfl) (od hby dc54 5 rfl) (fun _ _ => ⟨rfl, e0, (by decide : 0 + 0 ≤ _), (by decide : 0 + 0 ≤ _)⟩)
  dsimp only [Pt.U, Pt.locs, Pt.cells, Pt.slots] at X564 l564 y564 z564 st564 hQ564
  subst l564 y564 z564
  obtain ⟨ys_564, rfl, Nq564, Kq564, U564_0, Pq564_0, Pq564_1⟩ := hQ564
  have K564 : Keep h0 T564.heap [bd] := K0.trans Kq564 (allS (Or.inl (List.mem_of_getElem? (i := 0) rfl)) all0)
  have N564 := Fr.app N0 Nq564
  refine own_go (B := T564.setTop (mkF m 9 #[.val (.ref ar), .val (.int 0), .val (.ref bd), .val (.int ix), .val (.int zn)] [])) st564 ?_
  exact own_rV Bd X564 hx (od hby dc54 6 rfl) ⟨ys_564, rfl, N564, K564, U564_0, Pq564_0, Pq564_1⟩ (by decide)
def QgbL (Z : State) (so bd : Addr) (ix : Int32) (bs : Addr) (ks : ClassId) (za : Int32) (us : List Int32) (kd : ClassId) (zd : Int32) (xs : List Int32) (cs : Int32) (chl : List Int32) (ck nn md : Nat) (h0 : Heap) (n0 : Nat) (v : Option Value) (h : Heap) (L : List Loc) : Prop := ∃ ys : List Int32, v = none ∧ Fr n0 L ∧ Keep h0 h [bd] ∧ Arv Z h bd kd .byte zd (own_I ys) (.int 0) ∧ (ys.length = md) ∧ (own_L ys chl (ck + nn))
theorem efgbL (m : MethodId) (x0 : Addr) (x1 : Addr) (x2 : Int32) : entryFrame m #[(.ref x0), (.ref x1), (.int x2), (.int 0)] 4 = mkF m 0 #[.val (.ref x0), .val (.ref x1), .val (.int x2), .val (.int 0)] [] := by first | (simp [entryFrame, mkF, argsToLocals, Value.category]; done) | rfl
set_option maxRecDepth 65536 in
set_option maxHeartbeats 40000000 in
theorem gbL (l : Launch) (Z : State) (a0 : Array Value) (hw : own_HW a0 Z) (ws : List Jvm.Cond) (so bd : Addr) (ix : Int32) (bs : Addr) (ks : ClassId) (za : Int32) (us : List Int32) (kd : ClassId) (zd : Int32) (xs : List Int32) (cs : Int32) (chl : List Int32) (ck nn md : Nat) (h0 : Heap) (n0 : Nat) (Z0 : n0 ≤ h0.size) (P0 : Exa Z h0 so jS) (P1 : Fld Z h0 so jS "coder" "B" (.int 0)) (P2 : Fld Z h0 so jS "value" "[B" (.ref bs)) (P3 : Arv Z h0 bs ks .byte za (own_I us) (.int 0)) (P4 : Arv Z h0 bd kd .byte zd (own_I xs) (.int 0)) (P5 : Sta Z h0 jS "COMPACT_STRINGS" "Z" (.int cs)) (g_bd : n0 ≤ bd) (hcs : cs ≠ (0 : Int32)) (hi : ix.toInt = (ck : Int)) (hn : za.toInt = (nn : Int)) (hzd : zd.toInt = (md : Int)) (hbb : ck + nn ≤ md) (hxl : xs.length = md) (hpre : own_L xs chl ck) (hsrc : ∀ q, q < nn → own_g8 (us.getD q 0) = chl.getD (ck + q) 0) :
    own_M l Z yN41 jdk_42_method_147_code 4 none ws (own_R 1 0 0 18) #[(.ref so), (.ref bd), (.int ix), (.int 0)] h0 (QgbL Z so bd ix bs ks za us kd zd xs cs chl ck nn md h0 n0) := by
  refine own_b (own := jS) rfl (plainFor_of_name pn_1) (fun m => efgbL m so bd ix) n0 fun p e s m below meth c s₁ Bd hZ hx hby hml hown X0 e0 N0 => ?_
  have K0 : Keep h0 h0 [bd] := Keep.refl h0 _
  refine own_go (B := s₁.setTop (mkF m 1 #[.val (.ref so), .val (.ref bd), .val (.int ix), .val (.int 0)] [(.ref so)])) (fun t k => ?_) ?_
  · refine XS.aloadN X0.here hx rfl (od hby dc34 0 rfl) rfl rfl ?_
    exact k
  obtain ⟨cq570, kq570, q570a, q570b, q570c⟩ := isOf hZ e0 P0
  obtain ⟨_, _, ⟨T570, L570, k570, n570⟩, -, X570, ⟨Lc570, hQ570, l570, y570, z570⟩, st570⟩ := X0.virtualBack hx (y := yN11) (z := yN11) hown (mvT hZ (own_w hw 57 rfl)) (mvT hZ (own_w hw 58 rfl)) (notFace_of_selects (args := #[]) (mvT hZ (own_w hw 60 rfl))) (mvT hZ (own_w hw 60 rfl)) (mvT hZ (own_w hw 59 rfl)) (by decide) (backOf (W := 0) (cod_0 l Z a0 hw [] so cs h0 n0 Z0 P1 P5 hcs) hZ (own_w hw 61 rfl) (own_w hw 9 rfl) (by decide) (by decide)) q570a q570c (g := (mkF m 1 #[.val (.ref so), .val (.ref bd), .val (.int ix), .val (.int 0)] [(.ref so)])) rfl (by rw [hml]; rfl) (Steps.refl _) (argsL := []) (rest := []) (lenOf pd_9 rfl) rfl (own_W0 rfl) (od hby dc34 1 rfl) (fun _ _ => ⟨rfl, e0, (by decide : 0 + 0 ≤ _), (by decide : 0 + 0 ≤ _)⟩)
  dsimp only [Pt.U, Pt.locs, Pt.cells, Pt.slots] at X570 l570 y570 z570 st570 hQ570
  subst l570 y570 z570
  obtain ⟨rfl, Nq570, e570⟩ := hQ570
  have N570 := Fr.app N0 Nq570
  refine own_go (B := T570.setTop (mkF m 4 #[.val (.ref so), .val (.ref bd), .val (.int ix), .val (.int 0)] [(.int 0)])) (fun t k => st570.trans k) ?_
  refine own_go (B := T570.setTop (mkF m 9 #[.val (.ref so), .val (.ref bd), .val (.int ix), .val (.int 0)] [(.ref so)])) (fun t k => ?_) ?_
  · refine XS.iloadN X570.here hx rfl (od hby dc34 2 rfl) rfl ?_
    refine XS.icmpNo X570.here hx rfl (od hby dc34 3 rfl) rfl (teq (rfl : (0 : Int32) = (0 : Int32))).2 ?_
    refine XS.aloadN X570.here hx rfl (od hby dc34 4 rfl) rfl rfl ?_
    exact k
  obtain ⟨T572, X572, e572, st572⟩ := getF X570 hx hZ hown (host := "") (Or.inl (own_w hw 27 rfl)) Via.refl e570 P2 (g := (mkF m 9 #[.val (.ref so), .val (.ref bd), .val (.int ix), .val (.int 0)] [(.ref so)])) rfl rfl (od hby dc34 5 rfl)
  refine own_go st572 ?_
  refine own_go (B := T572.setTop (mkF m 18 #[.val (.ref so), .val (.ref bd), .val (.int ix), .val (.int 0)] [(.ref so), (.int (ix <<< ((0 : Int32) &&& 31))), (.ref bd), (.int 0), (.ref bs)])) (fun t k => ?_) ?_
  · refine XS.iconst X572.here hx rfl (od hby dc34 6 rfl) ?_
    refine XS.aloadN X572.here hx rfl (od hby dc34 7 rfl) rfl rfl ?_
    refine XS.iloadN X572.here hx rfl (od hby dc34 8 rfl) rfl ?_
    refine XS.iloadN X572.here hx rfl (od hby dc34 9 rfl) rfl ?_
    refine XS.ishl X572.here hx rfl (od hby dc34 10 rfl) rfl ?_
    refine XS.aloadN X572.here hx rfl (od hby dc34 11 rfl) rfl rfl ?_
    exact k
  obtain ⟨T573, X573, e573, st573⟩ := getF X572 hx hZ hown (host := "") (Or.inl (own_w hw 27 rfl)) Via.refl e572 P2 (g := (mkF m 18 #[.val (.ref so), .val (.ref bd), .val (.int ix), .val (.int 0)] [(.ref so), (.int (ix <<< ((0 : Int32) &&& 31))), (.ref bd), (.int 0), (.ref bs)])) rfl rfl (od hby dc34 12 rfl)
  refine own_go st573 ?_
  obtain ⟨cl574, Ar574, q574, S574, M574, Ha574, G574⟩ := id P3
  refine own_go (B := T573.setTop (mkF m 22 #[.val (.ref so), .val (.ref bd), .val (.int ix), .val (.int 0)] [(.int za), (.int (ix <<< ((0 : Int32) &&& 31))), (.ref bd), (.int 0), (.ref bs)])) (fun t k => ?_) ?_
  · refine X573.arraylength hx (by rw [e573]; exact Ar574.1) (State.isArrayOf_alike hZ.alike Ar574.2.1) (g := (mkF m 21 #[.val (.ref so), .val (.ref bd), .val (.int ix), .val (.int 0)] [(.ref bs), (.int (ix <<< ((0 : Int32) &&& 31))), (.ref bd), (.int 0), (.ref bs)])) rfl rfl (od hby dc34 13 rfl) _ ?_
    rw [len_of S574 M574]
    exact k
  obtain ⟨T575, h575, Lc575, X575, e575, N575, Kq575, Ua575, st575⟩ := cpA X573 hx hZ hown (own_w hw 172 rfl) (own_w hw 155 rfl) (own_w hw 153 rfl) (own_w hw 154 rfl) e573 P3 P4 (Or.inl ⟨rfl, rfl⟩) (own_nn ot0) (own_nn (own_shl0 hi)) (own_nn hn) (own_ac4 ot0 hn hn (Nat.le_of_eq (Nat.zero_add nn))) (own_ac4 (own_shl0 hi) hn hzd hbb) rfl (own_acl (own_shl0 hi) hn hxl hbb) N570 g_bd (g := (mkF m 22 #[.val (.ref so), .val (.ref bd), .val (.int ix), .val (.int 0)] [(.int za), (.int (ix <<< ((0 : Int32) &&& 31))), (.ref bd), (.int 0), (.ref bs)])) rfl (by rw [hml]; rfl) rfl (od hby dc34 14 rfl) (by decide) (W := 0) (own_W0 rfl) (by decide)
  have U575 : Arv Z h575 bd kd .byte zd (own_I (own_cp us xs (0) (ck) (nn))) (.int 0) := own_cpV ot0 (own_shl0 hi) hn Ua575
  have K575 : Keep h0 h575 [bd] := K0.trans Kq575 (allS (Or.inl (List.mem_of_getElem? (i := 0) rfl)) all0)
  refine own_go st575 ?_
  refine own_go (B := T575.setTop (mkF m 43 #[.val (.ref so), .val (.ref bd), .val (.int ix), .val (.int 0)] [])) (fun t k => ?_) ?_
  · refine XS.goto X575.here hx rfl (pc0 := 25) (pc' := 43) rfl (od hby dc34 15 rfl) (by decide) (by decide) ?_
    exact k
  exact own_rV Bd X575 hx (od hby dc34 16 rfl) (by rw [e575]; exact ⟨(own_cp us xs (0) (ck) (nn)), rfl, N575, K575, U575, (own_cpl (by rw [hxl]; exact hbb)).trans hxl, own_Lc hpre (by rw [hxl]; exact hbb) hsrc⟩) (by decide)
def QgbU (Z : State) (so bd : Addr) (ix : Int32) (bs : Addr) (ks : ClassId) (za : Int32) (us : List Int32) (kd : ClassId) (zd : Int32) (xs : List Int32) (cs : Int32) (chl : List Int32) (ck nn md : Nat) (h0 : Heap) (n0 : Nat) (v : Option Value) (h : Heap) (L : List Loc) : Prop := ∃ ys : List Int32, v = none ∧ Fr n0 L ∧ Keep h0 h [bd] ∧ Arv Z h bd kd .byte zd (own_I ys) (.int 0) ∧ (ys.length = 2 * md) ∧ (own_U ys chl (ck + nn))
theorem efgbU (m : MethodId) (x0 : Addr) (x1 : Addr) (x2 : Int32) : entryFrame m #[(.ref x0), (.ref x1), (.int x2), (.int 1)] 4 = mkF m 0 #[.val (.ref x0), .val (.ref x1), .val (.int x2), .val (.int 1)] [] := by first | (simp [entryFrame, mkF, argsToLocals, Value.category]; done) | rfl
set_option maxRecDepth 65536 in
set_option maxHeartbeats 40000000 in
theorem gbU (l : Launch) (Z : State) (a0 : Array Value) (hw : own_HW a0 Z) (ws : List Jvm.Cond) (so bd : Addr) (ix : Int32) (bs : Addr) (ks : ClassId) (za : Int32) (us : List Int32) (kd : ClassId) (zd : Int32) (xs : List Int32) (cs : Int32) (chl : List Int32) (ck nn md : Nat) (h0 : Heap) (n0 : Nat) (Z0 : n0 ≤ h0.size) (P0 : Exa Z h0 so jS) (P1 : Fld Z h0 so jS "coder" "B" (.int 1)) (P2 : Fld Z h0 so jS "value" "[B" (.ref bs)) (P3 : Arv Z h0 bs ks .byte za (own_I us) (.int 0)) (P4 : Arv Z h0 bd kd .byte zd (own_I xs) (.int 0)) (P5 : Sta Z h0 jS "COMPACT_STRINGS" "Z" (.int cs)) (g_bd : n0 ≤ bd) (hcs : cs ≠ (0 : Int32)) (hi : ix.toInt = (ck : Int)) (hn : za.toInt = ((2 * nn : Nat) : Int)) (hzd : zd.toInt = ((2 * md : Nat) : Int)) (hbb : ck + nn ≤ md) (hs : md ≤ 1000) (hxl : xs.length = 2 * md) (hpre : own_U xs chl ck) (hsrc : ∀ q, q < nn → own_gc (us.getD (2 * q) 0) (us.getD (2 * q + 1) 0) = chl.getD (ck + q) 0) :
    own_M l Z yN41 jdk_42_method_147_code 4 none ws (own_R 1 0 0 18) #[(.ref so), (.ref bd), (.int ix), (.int 1)] h0 (QgbU Z so bd ix bs ks za us kd zd xs cs chl ck nn md h0 n0) := by
  refine own_b (own := jS) rfl (plainFor_of_name pn_1) (fun m => efgbU m so bd ix) n0 fun p e s m below meth c s₁ Bd hZ hx hby hml hown X0 e0 N0 => ?_
  have K0 : Keep h0 h0 [bd] := Keep.refl h0 _
  refine own_go (B := s₁.setTop (mkF m 1 #[.val (.ref so), .val (.ref bd), .val (.int ix), .val (.int 1)] [(.ref so)])) (fun t k => ?_) ?_
  · refine XS.aloadN X0.here hx rfl (od hby dc34 0 rfl) rfl rfl ?_
    exact k
  obtain ⟨cq578, kq578, q578a, q578b, q578c⟩ := isOf hZ e0 P0
  obtain ⟨_, _, ⟨T578, L578, k578, n578⟩, -, X578, ⟨Lc578, hQ578, l578, y578, z578⟩, st578⟩ := X0.virtualBack hx (y := yN11) (z := yN11) hown (mvT hZ (own_w hw 57 rfl)) (mvT hZ (own_w hw 58 rfl)) (notFace_of_selects (args := #[]) (mvT hZ (own_w hw 60 rfl))) (mvT hZ (own_w hw 60 rfl)) (mvT hZ (own_w hw 59 rfl)) (by decide) (backOf (W := 0) (cod_1 l Z a0 hw [] so cs h0 n0 Z0 P1 P5 hcs) hZ (own_w hw 61 rfl) (own_w hw 9 rfl) (by decide) (by decide)) q578a q578c (g := (mkF m 1 #[.val (.ref so), .val (.ref bd), .val (.int ix), .val (.int 1)] [(.ref so)])) rfl (by rw [hml]; rfl) (Steps.refl _) (argsL := []) (rest := []) (lenOf pd_9 rfl) rfl (own_W0 rfl) (od hby dc34 1 rfl) (fun _ _ => ⟨rfl, e0, (by decide : 0 + 0 ≤ _), (by decide : 0 + 0 ≤ _)⟩)
  dsimp only [Pt.U, Pt.locs, Pt.cells, Pt.slots] at X578 l578 y578 z578 st578 hQ578
  subst l578 y578 z578
  obtain ⟨rfl, Nq578, e578⟩ := hQ578
  have N578 := Fr.app N0 Nq578
  refine own_go (B := T578.setTop (mkF m 4 #[.val (.ref so), .val (.ref bd), .val (.int ix), .val (.int 1)] [(.int 1)])) (fun t k => st578.trans k) ?_
  refine own_go (B := T578.setTop (mkF m 9 #[.val (.ref so), .val (.ref bd), .val (.int ix), .val (.int 1)] [(.ref so)])) (fun t k => ?_) ?_
  · refine XS.iloadN X578.here hx rfl (od hby dc34 2 rfl) rfl ?_
    refine XS.icmpNo X578.here hx rfl (od hby dc34 3 rfl) rfl (teq (rfl : (1 : Int32) = (1 : Int32))).2 ?_
    refine XS.aloadN X578.here hx rfl (od hby dc34 4 rfl) rfl rfl ?_
    exact k
  obtain ⟨T580, X580, e580, st580⟩ := getF X578 hx hZ hown (host := "") (Or.inl (own_w hw 27 rfl)) Via.refl e578 P2 (g := (mkF m 9 #[.val (.ref so), .val (.ref bd), .val (.int ix), .val (.int 1)] [(.ref so)])) rfl rfl (od hby dc34 5 rfl)
  refine own_go st580 ?_
  refine own_go (B := T580.setTop (mkF m 18 #[.val (.ref so), .val (.ref bd), .val (.int ix), .val (.int 1)] [(.ref so), (.int (ix <<< ((1 : Int32) &&& 31))), (.ref bd), (.int 0), (.ref bs)])) (fun t k => ?_) ?_
  · refine XS.iconst X580.here hx rfl (od hby dc34 6 rfl) ?_
    refine XS.aloadN X580.here hx rfl (od hby dc34 7 rfl) rfl rfl ?_
    refine XS.iloadN X580.here hx rfl (od hby dc34 8 rfl) rfl ?_
    refine XS.iloadN X580.here hx rfl (od hby dc34 9 rfl) rfl ?_
    refine XS.ishl X580.here hx rfl (od hby dc34 10 rfl) rfl ?_
    refine XS.aloadN X580.here hx rfl (od hby dc34 11 rfl) rfl rfl ?_
    exact k
  obtain ⟨T581, X581, e581, st581⟩ := getF X580 hx hZ hown (host := "") (Or.inl (own_w hw 27 rfl)) Via.refl e580 P2 (g := (mkF m 18 #[.val (.ref so), .val (.ref bd), .val (.int ix), .val (.int 1)] [(.ref so), (.int (ix <<< ((1 : Int32) &&& 31))), (.ref bd), (.int 0), (.ref bs)])) rfl rfl (od hby dc34 12 rfl)
  refine own_go st581 ?_
  obtain ⟨cl582, Ar582, q582, S582, M582, Ha582, G582⟩ := id P3
  refine own_go (B := T581.setTop (mkF m 22 #[.val (.ref so), .val (.ref bd), .val (.int ix), .val (.int 1)] [(.int za), (.int (ix <<< ((1 : Int32) &&& 31))), (.ref bd), (.int 0), (.ref bs)])) (fun t k => ?_) ?_
  · refine X581.arraylength hx (by rw [e581]; exact Ar582.1) (State.isArrayOf_alike hZ.alike Ar582.2.1) (g := (mkF m 21 #[.val (.ref so), .val (.ref bd), .val (.int ix), .val (.int 1)] [(.ref bs), (.int (ix <<< ((1 : Int32) &&& 31))), (.ref bd), (.int 0), (.ref bs)])) rfl rfl (od hby dc34 13 rfl) _ ?_
    rw [len_of S582 M582]
    exact k
  obtain ⟨T583, h583, Lc583, X583, e583, N583, Kq583, Ua583, st583⟩ := cpA X581 hx hZ hown (own_w hw 172 rfl) (own_w hw 155 rfl) (own_w hw 153 rfl) (own_w hw 154 rfl) e581 P3 P4 (Or.inl ⟨rfl, rfl⟩) (own_nn ot0) (own_nn (own_sh1 hi (by omega))) (own_nn hn) (own_ac4 ot0 hn hn (Nat.le_of_eq (Nat.zero_add (2 * nn)))) (own_ac4 (own_sh1 hi (by omega)) hn hzd (by omega : 2 * ck + 2 * nn ≤ 2 * md)) rfl (own_acl (own_sh1 hi (by omega)) hn hxl (by omega : 2 * ck + 2 * nn ≤ 2 * md)) N578 g_bd (g := (mkF m 22 #[.val (.ref so), .val (.ref bd), .val (.int ix), .val (.int 1)] [(.int za), (.int (ix <<< ((1 : Int32) &&& 31))), (.ref bd), (.int 0), (.ref bs)])) rfl (by rw [hml]; rfl) rfl (od hby dc34 14 rfl) (by decide) (W := 0) (own_W0 rfl) (by decide)
  have U583 : Arv Z h583 bd kd .byte zd (own_I (own_cp us xs (0) (2 * ck) (2 * nn))) (.int 0) := own_cpV ot0 (own_sh1 hi (by omega)) hn Ua583
  have K583 : Keep h0 h583 [bd] := K0.trans Kq583 (allS (Or.inl (List.mem_of_getElem? (i := 0) rfl)) all0)
  refine own_go st583 ?_
  refine own_go (B := T583.setTop (mkF m 43 #[.val (.ref so), .val (.ref bd), .val (.int ix), .val (.int 1)] [])) (fun t k => ?_) ?_
  · refine XS.goto X583.here hx rfl (pc0 := 25) (pc' := 43) rfl (od hby dc34 15 rfl) (by decide) (by decide) ?_
    exact k
  exact own_rV Bd X583 hx (od hby dc34 16 rfl) (by rw [e583]; exact ⟨(own_cp us xs (0) (2 * ck) (2 * nn)), rfl, N583, K583, U583, (own_cpl (by rw [hxl]; omega)).trans hxl, own_Uc hpre (by rw [hxl]; omega) hsrc⟩) (by decide)
def QgbI (Z : State) (so bd : Addr) (ix : Int32) (bs : Addr) (ks : ClassId) (za : Int32) (us : List Int32) (kd : ClassId) (zd : Int32) (xs : List Int32) (cs : Int32) (chl : List Int32) (ck nn md : Nat) (zl : Int32) (h0 : Heap) (n0 : Nat) (v : Option Value) (h : Heap) (L : List Loc) : Prop := ∃ ys : List Int32, v = none ∧ Fr n0 L ∧ Keep h0 h [bd] ∧ Arv Z h bd kd .byte zd (own_I ys) (.int 0) ∧ (ys.length = 2 * md) ∧ (own_U ys chl (ck + nn))
theorem efgbI (m : MethodId) (x0 : Addr) (x1 : Addr) (x2 : Int32) : entryFrame m #[(.ref x0), (.ref x1), (.int x2), (.int 1)] 4 = mkF m 0 #[.val (.ref x0), .val (.ref x1), .val (.int x2), .val (.int 1)] [] := by first | (simp [entryFrame, mkF, argsToLocals, Value.category]; done) | rfl
set_option maxRecDepth 65536 in
set_option maxHeartbeats 40000000 in
theorem gbI (l : Launch) (Z : State) (a0 : Array Value) (hw : own_HW a0 Z) (ws : List Jvm.Cond) (so bd : Addr) (ix : Int32) (bs : Addr) (ks : ClassId) (za : Int32) (us : List Int32) (kd : ClassId) (zd : Int32) (xs : List Int32) (cs : Int32) (chl : List Int32) (ck nn md : Nat) (zl : Int32) (h0 : Heap) (n0 : Nat) (Z0 : n0 ≤ h0.size) (P0 : Exa Z h0 so jS) (P1 : Fld Z h0 so jS "coder" "B" (.int 0)) (P2 : Fld Z h0 so jS "value" "[B" (.ref bs)) (P3 : Arv Z h0 bs ks .byte za (own_I us) (.int 0)) (P4 : Arv Z h0 bd kd .byte zd (own_I xs) (.int 0)) (P5 : Sta Z h0 jS "COMPACT_STRINGS" "Z" (.int cs)) (P6 : own_SI Z h0) (P7 : Sta Z h0 jU "$assertionsDisabled" "Z" (.int 1)) (P8 : Sta Z h0 jU "HI_BYTE_SHIFT" "I" (.int 0)) (P9 : Sta Z h0 jU "LO_BYTE_SHIFT" "I" (.int 8)) (g_bd : n0 ≤ bd) (ne_bs_bd : bs ≠ bd) (hcs : cs ≠ (0 : Int32)) (hi : ix.toInt = (ck : Int)) (hn : za.toInt = (nn : Int)) (hzd : zd.toInt = ((2 * md : Nat) : Int)) (hbb : ck + nn ≤ md) (hs : md ≤ 1000) (hxl : xs.length = 2 * md) (hpre : own_U xs chl ck) (hsrc : ∀ q, q < nn → own_g8 (us.getD q 0) = chl.getD (ck + q) 0) (hln : (zd >>> ((1 : Int32) &&& 31)) = zl) (hm : zl.toInt = (md : Int)) :
    own_M l Z yN41 jdk_42_method_147_code 4 none ws (own_R 5 0 0 76) #[(.ref so), (.ref bd), (.int ix), (.int 1)] h0 (QgbI Z so bd ix bs ks za us kd zd xs cs chl ck nn md zl h0 n0) := by
  refine own_b (own := jS) rfl (plainFor_of_name pn_1) (fun m => efgbI m so bd ix) n0 fun p e s m below meth c s₁ Bd hZ hx hby hml hown X0 e0 N0 => ?_
  have K0 : Keep h0 h0 [bd] := Keep.refl h0 _
  refine own_go (B := s₁.setTop (mkF m 1 #[.val (.ref so), .val (.ref bd), .val (.int ix), .val (.int 1)] [(.ref so)])) (fun t k => ?_) ?_
  · refine XS.aloadN X0.here hx rfl (od hby dc34 0 rfl) rfl rfl ?_
    exact k
  obtain ⟨cq586, kq586, q586a, q586b, q586c⟩ := isOf hZ e0 P0
  obtain ⟨_, _, ⟨T586, L586, k586, n586⟩, -, X586, ⟨Lc586, hQ586, l586, y586, z586⟩, st586⟩ := X0.virtualBack hx (y := yN11) (z := yN11) hown (mvT hZ (own_w hw 57 rfl)) (mvT hZ (own_w hw 58 rfl)) (notFace_of_selects (args := #[]) (mvT hZ (own_w hw 60 rfl))) (mvT hZ (own_w hw 60 rfl)) (mvT hZ (own_w hw 59 rfl)) (by decide) (backOf (W := 0) (cod_0 l Z a0 hw [] so cs h0 n0 Z0 P1 P5 hcs) hZ (own_w hw 61 rfl) (own_w hw 9 rfl) (by decide) (by decide)) q586a q586c (g := (mkF m 1 #[.val (.ref so), .val (.ref bd), .val (.int ix), .val (.int 1)] [(.ref so)])) rfl (by rw [hml]; rfl) (Steps.refl _) (argsL := []) (rest := []) (lenOf pd_9 rfl) rfl (own_W0 rfl) (od hby dc34 1 rfl) (fun _ _ => ⟨rfl, e0, (by decide : 0 + 0 ≤ _), (by decide : 0 + 0 ≤ _)⟩)
  dsimp only [Pt.U, Pt.locs, Pt.cells, Pt.slots] at X586 l586 y586 z586 st586 hQ586
  subst l586 y586 z586
  obtain ⟨rfl, Nq586, e586⟩ := hQ586
  have N586 := Fr.app N0 Nq586
  refine own_go (B := T586.setTop (mkF m 4 #[.val (.ref so), .val (.ref bd), .val (.int ix), .val (.int 1)] [(.int 0)])) (fun t k => st586.trans k) ?_
  refine own_go (B := T586.setTop (mkF m 29 #[.val (.ref so), .val (.ref bd), .val (.int ix), .val (.int 1)] [(.ref so)])) (fun t k => ?_) ?_
  · refine XS.iloadN X586.here hx rfl (od hby dc34 2 rfl) rfl ?_
    refine XS.icmpYes X586.here hx rfl (pc0 := 5) (pc' := 28) rfl (od hby dc34 3 rfl) rfl (feq (by decide : ¬ ((0 : Int32) = (1 : Int32)))).2 (by decide) (by decide) ?_
    refine XS.aloadN X586.here hx rfl (od hby dc34 17 rfl) rfl rfl ?_
    exact k
  obtain ⟨T588, X588, e588, st588⟩ := getF X586 hx hZ hown (host := "") (Or.inl (own_w hw 27 rfl)) Via.refl e586 P2 (g := (mkF m 29 #[.val (.ref so), .val (.ref bd), .val (.int ix), .val (.int 1)] [(.ref so)])) rfl rfl (od hby dc34 18 rfl)
  refine own_go st588 ?_
  refine own_go (B := T588.setTop (mkF m 36 #[.val (.ref so), .val (.ref bd), .val (.int ix), .val (.int 1)] [(.ref so), (.int ix), (.ref bd), (.int 0), (.ref bs)])) (fun t k => ?_) ?_
  · refine XS.iconst X588.here hx rfl (od hby dc34 19 rfl) ?_
    refine XS.aloadN X588.here hx rfl (od hby dc34 20 rfl) rfl rfl ?_
    refine XS.iloadN X588.here hx rfl (od hby dc34 21 rfl) rfl ?_
    refine XS.aloadN X588.here hx rfl (od hby dc34 22 rfl) rfl rfl ?_
    exact k
  obtain ⟨T589, X589, e589, st589⟩ := getF X588 hx hZ hown (host := "") (Or.inl (own_w hw 27 rfl)) Via.refl e588 P2 (g := (mkF m 36 #[.val (.ref so), .val (.ref bd), .val (.int ix), .val (.int 1)] [(.ref so), (.int ix), (.ref bd), (.int 0), (.ref bs)])) rfl rfl (od hby dc34 23 rfl)
  refine own_go st589 ?_
  obtain ⟨cl590, Ar590, q590, S590, M590, Ha590, G590⟩ := id P3
  refine own_go (B := T589.setTop (mkF m 40 #[.val (.ref so), .val (.ref bd), .val (.int ix), .val (.int 1)] [(.int za), (.int ix), (.ref bd), (.int 0), (.ref bs)])) (fun t k => ?_) ?_
  · refine X589.arraylength hx (by rw [e589]; exact Ar590.1) (State.isArrayOf_alike hZ.alike Ar590.2.1) (g := (mkF m 39 #[.val (.ref so), .val (.ref bd), .val (.int ix), .val (.int 1)] [(.ref bs), (.int ix), (.ref bd), (.int 0), (.ref bs)])) rfl rfl (od hby dc34 24 rfl) _ ?_
    rw [len_of S590 M590]
    exact k
  obtain ⟨_, _, ⟨T591, L591, k591, n591⟩, -, X591, ⟨Lc591, hQ591, l591, y591, z591⟩, st591⟩ := Jvm.LawKit.callS X589 hx (y := yN40) hown (mvT hZ (own_w hw 265 rfl)) (mvT hZ (own_w hw 251 rfl)) (mvT hZ (own_w hw 77 rfl)) (mvT hZ (own_w hw 252 rfl)) (by decide) (backOf (W := 0) (l1i l Z a0 hw [] bs bd ix za ks za us kd zd xs zl chl nn ck nn md h0 n0 Z0 P3 P4 P6 P7 P8 P9 g_bd ne_bs_bd hi hn hm hbb hln hzd hn (Nat.le_refl _) hs hxl hpre hsrc) hZ (own_w hw 252 rfl) (own_w hw 77 rfl) (by decide) (by decide)) (g := (mkF m 40 #[.val (.ref so), .val (.ref bd), .val (.int ix), .val (.int 1)] [(.int za), (.int ix), (.ref bd), (.int 0), (.ref bs)])) rfl (by rw [hml]; rfl) (argsL := [(.ref bs), (.int 0), (.ref bd), (.int ix), (.int za)]) (rest := []) (lenOf pd_25 rfl) rfl (own_W0 rfl) (od hby dc34 25 rfl) (fun _ _ => ⟨rfl, e589, (by decide : 0 + 0 ≤ _), (by decide : 0 + 0 ≤ _)⟩)
  dsimp only [Pt.U, Pt.locs, Pt.cells, Pt.slots] at X591 l591 y591 z591 st591 hQ591
  subst l591 y591 z591
  obtain ⟨ys_591, rfl, Nq591, Kq591, U591_0, Pq591_0, Pq591_1⟩ := hQ591
  have K591 : Keep h0 T591.heap [bd] := K0.trans Kq591 (allS (Or.inl (List.mem_of_getElem? (i := 0) rfl)) all0)
  have N591 := Fr.app N586 Nq591
  refine own_go (B := T591.setTop (mkF m 43 #[.val (.ref so), .val (.ref bd), .val (.int ix), .val (.int 1)] [])) st591 ?_
  exact own_rV Bd X591 hx (od hby dc34 16 rfl) ⟨ys_591, rfl, N591, K591, U591_0, Pq591_0, Pq591_1⟩ (by decide)
def Qifn_00 (Z : State) (sb so : Addr) (cs : Int32) (h0 : Heap) (n0 : Nat) (v : Option Value) (h : Heap) (L : List Loc) : Prop := v = none ∧ Fr n0 L ∧ h = h0
theorem efifn_00 (m : MethodId) (x0 : Addr) (x1 : Addr) : entryFrame m #[(.ref x0), (.ref x1)] 2 = mkF m 0 #[.val (.ref x0), .val (.ref x1)] [] := by first | (simp [entryFrame, mkF, argsToLocals, Value.category]; done) | rfl
set_option maxRecDepth 65536 in
set_option maxHeartbeats 40000000 in
theorem ifn_00 (l : Launch) (Z : State) (a0 : Array Value) (hw : own_HW a0 Z) (ws : List Jvm.Cond) (sb so : Addr) (cs : Int32) (h0 : Heap) (n0 : Nat) (Z0 : n0 ≤ h0.size) (P0 : Fld Z h0 sb jA "coder" "B" (.int 0)) (P1 : Exa Z h0 so jS) (P2 : Fld Z h0 so jS "coder" "B" (.int 0)) (P3 : Sta Z h0 jS "COMPACT_STRINGS" "Z" (.int cs)) (hcs : cs ≠ (0 : Int32)) :
    own_M l Z yN42 jdk_68_method_71_code 2 none ws (own_R 1 0 0 13) #[(.ref sb), (.ref so)] h0 (Qifn_00 Z sb so cs h0 n0) := by
  refine own_b (own := jA) rfl (plainFor_of_name pn_6) (fun m => efifn_00 m sb so) n0 fun p e s m below meth c s₁ Bd hZ hx hby hml hown X0 e0 N0 => ?_
  obtain ⟨T599, X599, e599, st599⟩ := getS2 X0 hx hZ hown (host := "") (Or.inl (own_w hw 107 rfl)) Via.refl e0 P3 (g := (mkF m 0 #[.val (.ref sb), .val (.ref so)] [])) rfl (od hby dc33 0 rfl)
  refine own_go st599 ?_
  have hc3_600 : ¬ (cs = (0 : Int32)) := hcs
  refine own_go (B := T599.setTop (mkF m 7 #[.val (.ref sb), .val (.ref so)] [(.ref sb)])) (fun t k => ?_) ?_
  · refine XS.ifNo X599.here hx rfl (od hby dc33 1 rfl) rfl ((if0 _ _).trans (feq hc3_600).1) ?_
    refine XS.aloadN X599.here hx rfl (od hby dc33 2 rfl) rfl rfl ?_
    exact k
  obtain ⟨T601, X601, e601, st601⟩ := getF X599 hx hZ hown (host := "") (Or.inl (own_w hw 110 rfl)) Via.refl e599 P0 (g := (mkF m 7 #[.val (.ref sb), .val (.ref so)] [(.ref sb)])) rfl rfl (od hby dc33 3 rfl)
  refine own_go st601 ?_
  refine own_go (B := T601.setTop (mkF m 11 #[.val (.ref sb), .val (.ref so)] [(.ref so), (.int 0)])) (fun t k => ?_) ?_
  · refine XS.aloadN X601.here hx rfl (od hby dc33 4 rfl) rfl rfl ?_
    exact k
  obtain ⟨cq602, kq602, q602a, q602b, q602c⟩ := isOf hZ e601 P1
  obtain ⟨_, _, ⟨T602, L602, k602, n602⟩, -, X602, ⟨Lc602, hQ602, l602, y602, z602⟩, st602⟩ := X601.virtualBack hx (y := yN11) (z := yN11) hown (mvT hZ (own_w hw 166 rfl)) (mvT hZ (own_w hw 58 rfl)) (notFace_of_selects (args := #[]) (mvT hZ (own_w hw 60 rfl))) (mvT hZ (own_w hw 60 rfl)) (mvT hZ (own_w hw 59 rfl)) (by decide) (backOf (W := 1) (cod_0 l Z a0 hw [] so cs h0 n0 Z0 P2 P3 hcs) hZ (own_w hw 61 rfl) (own_w hw 9 rfl) (by decide) (by decide)) q602a q602c (g := (mkF m 11 #[.val (.ref sb), .val (.ref so)] [(.ref so), (.int 0)])) rfl (by rw [hml]; rfl) (Steps.refl _) (argsL := []) (rest := [(.int 0)]) (lenOf pd_9 rfl) rfl (own_W0 rfl) (od hby dc33 5 rfl) (fun _ _ => ⟨rfl, e601, (by decide : 0 + 0 ≤ _), (by decide : 0 + 0 ≤ _)⟩)
  dsimp only [Pt.U, Pt.locs, Pt.cells, Pt.slots] at X602 l602 y602 z602 st602 hQ602
  subst l602 y602 z602
  obtain ⟨rfl, Nq602, e602⟩ := hQ602
  have N602 := Fr.app N0 Nq602
  refine own_go (B := T602.setTop (mkF m 14 #[.val (.ref sb), .val (.ref so)] [(.int 0), (.int 0)])) (fun t k => st602.trans k) ?_
  refine own_go (B := T602.setTop (mkF m 21 #[.val (.ref sb), .val (.ref so)] [])) (fun t k => ?_) ?_
  · refine XS.icmpYes X602.here hx rfl (pc0 := 14) (pc' := 21) rfl (od hby dc33 6 rfl) rfl (teq (rfl : (0 : Int32) = (0 : Int32))).1 (by decide) (by decide) ?_
    exact k
  exact own_rV Bd X602 hx (od hby dc33 7 rfl) (by rw [e602]; exact ⟨rfl, N602, rfl⟩) (by decide)
def Qinf_1 (Z : State) (sb : Addr) (cs : Int32) (h0 : Heap) (n0 : Nat) (v : Option Value) (h : Heap) (L : List Loc) : Prop := v = none ∧ Fr n0 L ∧ h = h0
theorem efinf_1 (m : MethodId) (x0 : Addr) : entryFrame m #[(.ref x0)] 2 = mkF m 0 #[.val (.ref x0), .unset] [] := by first | (simp [entryFrame, mkF, argsToLocals, Value.category]; done) | rfl
set_option maxRecDepth 65536 in
set_option maxHeartbeats 40000000 in
theorem inf_1 (l : Launch) (Z : State) (a0 : Array Value) (hw : own_HW a0 Z) (ws : List Jvm.Cond) (sb : Addr) (cs : Int32) (h0 : Heap) (n0 : Nat) (Z0 : n0 ≤ h0.size) (P0 : Exa Z h0 sb jB) (P1 : Fld Z h0 sb jA "coder" "B" (.int 1)) (P2 : Sta Z h0 jS "COMPACT_STRINGS" "Z" (.int cs)) (hcs : cs ≠ (0 : Int32)) :
    own_M l Z yN43 jdk_68_method_11_code 2 none ws (own_R 1 0 0 12) #[(.ref sb)] h0 (Qinf_1 Z sb cs h0 n0) := by
  refine own_b (own := jA) rfl (plainFor_of_name pn_6) (fun m => efinf_1 m sb) n0 fun p e s m below meth c s₁ Bd hZ hx hby hml hown X0 e0 N0 => ?_
  refine own_go (B := s₁.setTop (mkF m 1 #[.val (.ref sb), .unset] [(.ref sb)])) (fun t k => ?_) ?_
  · refine XS.aloadN X0.here hx rfl (od hby dc53 0 rfl) rfl rfl ?_
    exact k
  obtain ⟨cq604, kq604, q604a, q604b, q604c⟩ := isOf hZ e0 P0
  obtain ⟨_, _, ⟨T604, L604, k604, n604⟩, -, X604, ⟨Lc604, hQ604, l604, y604, z604⟩, st604⟩ := X0.virtualBack hx (y := yN29) (z := yN29) hown (mvT hZ (own_w hw 248 rfl)) (mvT hZ (own_w hw 201 rfl)) (notFace_of_selects (args := #[]) (mvT hZ (own_w hw 203 rfl))) (mvT hZ (own_w hw 203 rfl)) (mvT hZ (own_w hw 202 rfl)) (by decide) (backOf (W := 0) (asl_1 l Z a0 hw [] sb cs h0 n0 Z0 P1 P2 hcs) hZ (own_w hw 204 rfl) (own_w hw 104 rfl) (by decide) (by decide)) q604a q604c (g := (mkF m 1 #[.val (.ref sb), .unset] [(.ref sb)])) rfl (by rw [hml]; rfl) (Steps.refl _) (argsL := []) (rest := []) (lenOf pd_14 rfl) rfl (own_W0 rfl) (od hby dc53 1 rfl) (fun _ _ => ⟨rfl, e0, (by decide : 0 + 0 ≤ _), (by decide : 0 + 0 ≤ _)⟩)
  dsimp only [Pt.U, Pt.locs, Pt.cells, Pt.slots] at X604 l604 y604 z604 st604 hQ604
  subst l604 y604 z604
  obtain ⟨rfl, Nq604, e604⟩ := hQ604
  have N604 := Fr.app N0 Nq604
  refine own_go (B := T604.setTop (mkF m 4 #[.val (.ref sb), .unset] [(.int 0)])) (fun t k => st604.trans k) ?_
  refine own_go (B := T604.setTop (mkF m 7 #[.val (.ref sb), .unset] [])) (fun t k => ?_) ?_
  · refine XS.ifNo X604.here hx rfl (od hby dc53 2 rfl) rfl ((if0 _ _).trans (teq (rfl : (0 : Int32) = (0 : Int32))).2) ?_
    exact k
  exact own_rV Bd X604 hx (od hby dc53 3 rfl) (by rw [e604]; exact ⟨rfl, N604, rfl⟩) (by decide)
def Qifn_10 (Z : State) (sb so : Addr) (cs : Int32) (h0 : Heap) (n0 : Nat) (v : Option Value) (h : Heap) (L : List Loc) : Prop := v = none ∧ Fr n0 L ∧ h = h0
theorem efifn_10 (m : MethodId) (x0 : Addr) (x1 : Addr) : entryFrame m #[(.ref x0), (.ref x1)] 2 = mkF m 0 #[.val (.ref x0), .val (.ref x1)] [] := by first | (simp [entryFrame, mkF, argsToLocals, Value.category]; done) | rfl
set_option maxRecDepth 65536 in
set_option maxHeartbeats 40000000 in
theorem ifn_10 (l : Launch) (Z : State) (a0 : Array Value) (hw : own_HW a0 Z) (ws : List Jvm.Cond) (sb so : Addr) (cs : Int32) (h0 : Heap) (n0 : Nat) (Z0 : n0 ≤ h0.size) (P0 : Exa Z h0 sb jB) (P1 : Fld Z h0 sb jA "coder" "B" (.int 1)) (P2 : Exa Z h0 so jS) (P3 : Fld Z h0 so jS "coder" "B" (.int 0)) (P4 : Sta Z h0 jS "COMPACT_STRINGS" "Z" (.int cs)) (hcs : cs ≠ (0 : Int32)) :
    own_M l Z yN42 jdk_68_method_71_code 2 none ws (own_R 2 0 0 25) #[(.ref sb), (.ref so)] h0 (Qifn_10 Z sb so cs h0 n0) := by
  refine own_b (own := jA) rfl (plainFor_of_name pn_6) (fun m => efifn_10 m sb so) n0 fun p e s m below meth c s₁ Bd hZ hx hby hml hown X0 e0 N0 => ?_
  obtain ⟨T606, X606, e606, st606⟩ := getS2 X0 hx hZ hown (host := "") (Or.inl (own_w hw 107 rfl)) Via.refl e0 P4 (g := (mkF m 0 #[.val (.ref sb), .val (.ref so)] [])) rfl (od hby dc33 0 rfl)
  refine own_go st606 ?_
  have hc3_607 : ¬ (cs = (0 : Int32)) := hcs
  refine own_go (B := T606.setTop (mkF m 7 #[.val (.ref sb), .val (.ref so)] [(.ref sb)])) (fun t k => ?_) ?_
  · refine XS.ifNo X606.here hx rfl (od hby dc33 1 rfl) rfl ((if0 _ _).trans (feq hc3_607).1) ?_
    refine XS.aloadN X606.here hx rfl (od hby dc33 2 rfl) rfl rfl ?_
    exact k
  obtain ⟨T608, X608, e608, st608⟩ := getF X606 hx hZ hown (host := "") (Or.inl (own_w hw 110 rfl)) Via.refl e606 P1 (g := (mkF m 7 #[.val (.ref sb), .val (.ref so)] [(.ref sb)])) rfl rfl (od hby dc33 3 rfl)
  refine own_go st608 ?_
  refine own_go (B := T608.setTop (mkF m 11 #[.val (.ref sb), .val (.ref so)] [(.ref so), (.int 1)])) (fun t k => ?_) ?_
  · refine XS.aloadN X608.here hx rfl (od hby dc33 4 rfl) rfl rfl ?_
    exact k
  obtain ⟨cq609, kq609, q609a, q609b, q609c⟩ := isOf hZ e608 P2
  obtain ⟨_, _, ⟨T609, L609, k609, n609⟩, -, X609, ⟨Lc609, hQ609, l609, y609, z609⟩, st609⟩ := X608.virtualBack hx (y := yN11) (z := yN11) hown (mvT hZ (own_w hw 166 rfl)) (mvT hZ (own_w hw 58 rfl)) (notFace_of_selects (args := #[]) (mvT hZ (own_w hw 60 rfl))) (mvT hZ (own_w hw 60 rfl)) (mvT hZ (own_w hw 59 rfl)) (by decide) (backOf (W := 1) (cod_0 l Z a0 hw [] so cs h0 n0 Z0 P3 P4 hcs) hZ (own_w hw 61 rfl) (own_w hw 9 rfl) (by decide) (by decide)) q609a q609c (g := (mkF m 11 #[.val (.ref sb), .val (.ref so)] [(.ref so), (.int 1)])) rfl (by rw [hml]; rfl) (Steps.refl _) (argsL := []) (rest := [(.int 1)]) (lenOf pd_9 rfl) rfl (own_W0 rfl) (od hby dc33 5 rfl) (fun _ _ => ⟨rfl, e608, (by decide : 0 + 0 ≤ _), (by decide : 0 + 0 ≤ _)⟩)
  dsimp only [Pt.U, Pt.locs, Pt.cells, Pt.slots] at X609 l609 y609 z609 st609 hQ609
  subst l609 y609 z609
  obtain ⟨rfl, Nq609, e609⟩ := hQ609
  have N609 := Fr.app N0 Nq609
  refine own_go (B := T609.setTop (mkF m 14 #[.val (.ref sb), .val (.ref so)] [(.int 0), (.int 1)])) (fun t k => st609.trans k) ?_
  refine own_go (B := T609.setTop (mkF m 18 #[.val (.ref sb), .val (.ref so)] [(.ref sb)])) (fun t k => ?_) ?_
  · refine XS.icmpNo X609.here hx rfl (od hby dc33 6 rfl) rfl (feq (by decide : ¬ ((1 : Int32) = (0 : Int32)))).1 ?_
    refine XS.aloadN X609.here hx rfl (od hby dc33 8 rfl) rfl rfl ?_
    exact k
  obtain ⟨cq611, q611, q611'⟩ := P0.cell
  obtain ⟨_, _, ⟨T611, L611, k611, n611⟩, -, X611, ⟨Lc611, hQ611, l611, y611, z611⟩, st611⟩ := X609.privateBack hx (y := yN43) hown (mvT hZ (own_w hw 243 rfl)) (mvT hZ (own_w hw 244 rfl)) (own_selp (mvT hZ (own_w hw 128 rfl)) rfl (Cond.privateMethod_at (mvP hZ (own_w hw 245 rfl) (args := #[]))) (mvT hZ (own_w hw 244 rfl)) (by decide)) (Cond.privateMethod_at (mvP hZ (own_w hw 245 rfl) (args := #[]))) (mvT hZ (own_w hw 247 rfl)) (by decide) (backOf (W := 0) (inf_1 l Z a0 hw [] sb cs h0 n0 Z0 P0 P1 P4 hcs) hZ (own_w hw 247 rfl) (own_w hw 104 rfl) (by decide) (by decide)) (g := (mkF m 18 #[.val (.ref sb), .val (.ref so)] [(.ref sb)])) rfl (by rw [hml]; rfl) (Steps.refl _) (a := sb) (by rw [e609]; exact q611) q611' (argsL := []) (rest := []) (lenOf pd_26 rfl) rfl (own_W0 rfl) (od hby dc33 9 rfl) (fun _ _ => ⟨rfl, e609, (by decide : 0 + 0 ≤ _), (by decide : 0 + 0 ≤ _)⟩)
  dsimp only [Pt.U, Pt.locs, Pt.cells, Pt.slots] at X611 l611 y611 z611 st611 hQ611
  subst l611 y611 z611
  obtain ⟨rfl, Nq611, e611⟩ := hQ611
  have N611 := Fr.app N609 Nq611
  refine own_go (B := T611.setTop (mkF m 21 #[.val (.ref sb), .val (.ref so)] [])) (fun t k => st611.trans k) ?_
  exact own_rV Bd X611 hx (od hby dc33 7 rfl) (by rw [e611]; exact ⟨rfl, N611, rfl⟩) (by decide)
def Qinf_0 (Z : State) (sb br : Addr) (kb : ClassId) (ns : List Int32) (cs : Int32) (chl : List Int32) (h0 : Heap) (n0 : Nat) (v : Option Value) (h : Heap) (L : List Loc) : Prop := ∃ nr : Addr, ∃ kn : ClassId, ∃ ys : List Int32, v = none ∧ Fr n0 L ∧ Keep h0 h [sb] ∧ h0.size ≤ nr ∧ sb ≠ nr ∧ Fld Z h sb jA "value" "[B" (.ref nr) ∧ Fld Z h sb jA "coder" "B" (.int 1) ∧ Fld Z h sb jA "count" "I" (.int 93) ∧ Fld Z h sb jA "maybeLatin1" "Z" (.int 0) ∧ Arv Z h nr kn .byte (372 : Int32) (own_I ys) (.int 0) ∧ (ys.length = 372) ∧ (own_U ys chl 93)
theorem efinf_0 (m : MethodId) (x0 : Addr) : entryFrame m #[(.ref x0)] 2 = mkF m 0 #[.val (.ref x0), .unset] [] := by first | (simp [entryFrame, mkF, argsToLocals, Value.category]; done) | rfl
set_option maxRecDepth 65536 in
set_option maxHeartbeats 40000000 in
theorem inf_0 (l : Launch) (Z : State) (a0 : Array Value) (hw : own_HW a0 Z) (ws : List Jvm.Cond) (sb br : Addr) (kb : ClassId) (ns : List Int32) (cs : Int32) (chl : List Int32) (h0 : Heap) (n0 : Nat) (Z0 : n0 ≤ h0.size) (P0 : Exa Z h0 sb jB) (P1 : Fld Z h0 sb jA "value" "[B" (.ref br)) (P2 : Fld Z h0 sb jA "coder" "B" (.int 0)) (P3 : Fld Z h0 sb jA "count" "I" (.int 93)) (P4 : Fld Z h0 sb jA "maybeLatin1" "Z" (.int 0)) (P5 : Arv Z h0 br kb .byte (186 : Int32) (own_I ns) (.int 0)) (P6 : Sta Z h0 jS "COMPACT_STRINGS" "Z" (.int cs)) (P7 : own_SI Z h0) (P8 : Sta Z h0 jU "$assertionsDisabled" "Z" (.int 1)) (P9 : Sta Z h0 jU "HI_BYTE_SHIFT" "I" (.int 0)) (P10 : Sta Z h0 jU "LO_BYTE_SHIFT" "I" (.int 8)) (g_sb : n0 ≤ sb) (ne_sb_br : sb ≠ br) (hcs : cs ≠ (0 : Int32)) (hpre : own_L ns chl 93) :
    own_M l Z yN43 jdk_68_method_11_code 2 none ws (own_R 5 1 372 76) #[(.ref sb)] h0 (Qinf_0 Z sb br kb ns cs chl h0 n0) := by
  refine own_b (own := jA) rfl (plainFor_of_name pn_6) (fun m => efinf_0 m sb) n0 fun p e s m below meth c s₁ Bd hZ hx hby hml hown X0 e0 N0 => ?_
  have K0 : Keep h0 h0 [sb] := Keep.refl h0 _
  refine own_go (B := s₁.setTop (mkF m 1 #[.val (.ref sb), .unset] [(.ref sb)])) (fun t k => ?_) ?_
  · refine XS.aloadN X0.here hx rfl (od hby dc53 0 rfl) rfl rfl ?_
    exact k
  obtain ⟨cq612, kq612, q612a, q612b, q612c⟩ := isOf hZ e0 P0
  obtain ⟨_, _, ⟨T612, L612, k612, n612⟩, -, X612, ⟨Lc612, hQ612, l612, y612, z612⟩, st612⟩ := X0.virtualBack hx (y := yN29) (z := yN29) hown (mvT hZ (own_w hw 248 rfl)) (mvT hZ (own_w hw 201 rfl)) (notFace_of_selects (args := #[]) (mvT hZ (own_w hw 203 rfl))) (mvT hZ (own_w hw 203 rfl)) (mvT hZ (own_w hw 202 rfl)) (by decide) (backOf (W := 0) (asl_0 l Z a0 hw [] sb cs h0 n0 Z0 P2 P6 hcs) hZ (own_w hw 204 rfl) (own_w hw 104 rfl) (by decide) (by decide)) q612a q612c (g := (mkF m 1 #[.val (.ref sb), .unset] [(.ref sb)])) rfl (by rw [hml]; rfl) (Steps.refl _) (argsL := []) (rest := []) (lenOf pd_14 rfl) rfl (own_W0 rfl) (od hby dc53 1 rfl) (fun _ _ => ⟨rfl, e0, (by decide : 0 + 0 ≤ _), (by decide : 0 + 0 ≤ _)⟩)
  dsimp only [Pt.U, Pt.locs, Pt.cells, Pt.slots] at X612 l612 y612 z612 st612 hQ612
  subst l612 y612 z612
  obtain ⟨rfl, Nq612, e612⟩ := hQ612
  have N612 := Fr.app N0 Nq612
  refine own_go (B := T612.setTop (mkF m 4 #[.val (.ref sb), .unset] [(.int 1)])) (fun t k => st612.trans k) ?_
  refine own_go (B := T612.setTop (mkF m 9 #[.val (.ref sb), .unset] [(.ref sb)])) (fun t k => ?_) ?_
  · refine XS.ifYes X612.here hx rfl (pc0 := 4) (pc' := 8) rfl (od hby dc53 2 rfl) rfl ((if0 _ _).trans (feq (by decide : ¬ ((1 : Int32) = (0 : Int32)))).2) (by decide) (by decide) ?_
    refine XS.aloadN X612.here hx rfl (od hby dc53 4 rfl) rfl rfl ?_
    exact k
  obtain ⟨T614, X614, e614, st614⟩ := getF X612 hx hZ hown (host := "") (Or.inl (own_w hw 108 rfl)) Via.refl e612 P1 (g := (mkF m 9 #[.val (.ref sb), .unset] [(.ref sb)])) rfl rfl (od hby dc53 5 rfl)
  refine own_go st614 ?_
  obtain ⟨cl615, Ar615, q615, S615, M615, Ha615, G615⟩ := id P5
  refine own_go (B := T614.setTop (mkF m 13 #[.val (.ref sb), .unset] [(.int 186)])) (fun t k => ?_) ?_
  · refine X614.arraylength hx (by rw [e614]; exact Ar615.1) (State.isArrayOf_alike hZ.alike Ar615.2.1) (g := (mkF m 12 #[.val (.ref sb), .unset] [(.ref br)])) rfl rfl (od hby dc53 6 rfl) _ ?_
    rw [len_of S615 M615]
    exact k
  obtain ⟨_, _, ⟨T616, L616, k616, n616⟩, -, X616, ⟨Lc616, hQ616, l616, y616, z616⟩, st616⟩ := Jvm.LawKit.callS X614 hx (y := yN4) hown (mvT hZ (own_w hw 249 rfl)) (mvT hZ (own_w hw 218 rfl)) (mvT hZ (own_w hw 44 rfl)) (mvT hZ (own_w hw 219 rfl)) (by decide) (backOf (W := 0) (nbf l Z a0 hw [] (186 : Int32) 186 h0 n0 Z0 ot186 (by decide)) hZ (own_w hw 219 rfl) (own_w hw 44 rfl) (by decide) (by decide)) (g := (mkF m 13 #[.val (.ref sb), .unset] [(.int 186)])) rfl (by rw [hml]; rfl) (argsL := [(.int 186)]) (rest := []) (lenOf pd_1 rfl) rfl (own_W0 rfl) (od hby dc53 7 rfl) (fun _ _ => ⟨rfl, e614, (by decide : 0 + 1 ≤ _), (by decide : 0 + 372 ≤ _)⟩)
  dsimp only [Pt.U, Pt.locs, Pt.cells, Pt.slots] at X616 l616 y616 z616 st616 hQ616
  subst l616 y616 z616
  obtain ⟨br_616, kb_616, rfl, Nq616, Kq616, sq_br_616, U616_0⟩ := hQ616
  have ne_br_br_616 : br ≠ br_616 := Nat.ne_of_lt (Nat.lt_of_lt_of_le P5.lt sq_br_616)
  have ne_sb_br_616 : sb ≠ br_616 := Nat.ne_of_lt (Nat.lt_of_lt_of_le P0.lt sq_br_616)
  have low_br_616 : n0 ≤ br_616 := Nat.le_trans Z0 sq_br_616
  have sz_br_616 : h0.size ≤ br_616 := Nat.le_trans K0.1 sq_br_616
  have Q617 := P0.keep Kq616
  have Q618 := P1.keep Kq616 nin0
  have Q619 := P2.keep Kq616 nin0
  have Q620 := P3.keep Kq616 nin0
  have Q621 := P4.keep Kq616 nin0
  have Q622 := P5.keep Kq616 nin0
  have Q624 := own_SIK P7 Kq616 ns0
  have Q625 := own_staK P8 Kq616 ns0
  have Q626 := own_staK P9 Kq616 ns0
  have Q627 := own_staK P10 Kq616 ns0
  have U616_0n : Arv Z T616.heap br_616 kb_616 .byte (372 : Int32) (own_I (List.replicate (2 * 186) 0)) (.int 0) := U616_0
  have Z616 : n0 ≤ T616.heap.size := Nat.le_trans Z0 Kq616.1
  have K616 : Keep h0 T616.heap [sb] := K0.trans Kq616 all0
  have N616 := Fr.app N612 Nq616
  refine own_go (B := T616.setTop (mkF m 16 #[.val (.ref sb), .unset] [(.ref br_616)])) st616 ?_
  refine own_go (B := T616.setTop (mkF m 18 #[.val (.ref sb), .val (.ref br_616)] [(.ref sb)])) (fun t k => ?_) ?_
  · refine XS.astoreN X616.here hx rfl (od hby dc53 8 rfl) rfl rfl (l' := #[.val (.ref sb), .val (.ref br_616)]) rfl ?_
    refine XS.aloadN X616.here hx rfl (od hby dc53 9 rfl) rfl rfl ?_
    exact k
  obtain ⟨T628, X628, e628, st628⟩ := getF X616 hx hZ hown (host := "") (Or.inl (own_w hw 108 rfl)) Via.refl rfl Q618 (g := (mkF m 18 #[.val (.ref sb), .val (.ref br_616)] [(.ref sb)])) rfl rfl (od hby dc53 10 rfl)
  refine own_go st628 ?_
  refine own_go (B := T628.setTop (mkF m 25 #[.val (.ref sb), .val (.ref br_616)] [(.ref sb), (.int 0), (.ref br_616), (.int 0), (.ref br)])) (fun t k => ?_) ?_
  · refine XS.iconst X628.here hx rfl (od hby dc53 11 rfl) ?_
    refine XS.aloadN X628.here hx rfl (od hby dc53 12 rfl) rfl rfl ?_
    refine XS.iconst X628.here hx rfl (od hby dc53 13 rfl) ?_
    refine XS.aloadN X628.here hx rfl (od hby dc53 14 rfl) rfl rfl ?_
    exact k
  obtain ⟨T629, X629, e629, st629⟩ := getF X628 hx hZ hown (host := "") (Or.inl (own_w hw 123 rfl)) Via.refl e628 Q620 (g := (mkF m 25 #[.val (.ref sb), .val (.ref br_616)] [(.ref sb), (.int 0), (.ref br_616), (.int 0), (.ref br)])) rfl rfl (od hby dc53 15 rfl)
  refine own_go st629 ?_
  obtain ⟨_, _, ⟨T630, L630, k630, n630⟩, -, X630, ⟨Lc630, hQ630, l630, y630, z630⟩, st630⟩ := Jvm.LawKit.callS X629 hx (y := yN40) hown (mvT hZ (own_w hw 250 rfl)) (mvT hZ (own_w hw 251 rfl)) (mvT hZ (own_w hw 77 rfl)) (mvT hZ (own_w hw 252 rfl)) (by decide) (backOf (W := 0) (l1i l Z a0 hw [] br br_616 (0 : Int32) (93 : Int32) kb (186 : Int32) ns kb_616 (372 : Int32) (List.replicate (2 * 186) 0) (186 : Int32) chl 186 0 93 186 T616.heap n0 Z616 Q622 U616_0n Q624 Q625 Q626 Q627 low_br_616 ne_br_br_616 ot0 ot93 ot186 (by decide) (by decide) otd ot186 (by decide) (by decide) List.length_replicate (own_U0 _ _) (fun q h => by rw [Nat.zero_add]; exact hpre q h)) hZ (own_w hw 252 rfl) (own_w hw 77 rfl) (by decide) (by decide)) (g := (mkF m 28 #[.val (.ref sb), .val (.ref br_616)] [(.int 93), (.int 0), (.ref br_616), (.int 0), (.ref br)])) rfl (by rw [hml]; rfl) (argsL := [(.ref br), (.int 0), (.ref br_616), (.int 0), (.int 93)]) (rest := []) (lenOf pd_25 rfl) rfl (own_W0 rfl) (od hby dc53 16 rfl) (fun _ _ => ⟨rfl, e629, (by decide : 1 + 0 ≤ _), (by decide : 372 + 0 ≤ _)⟩)
  dsimp only [Pt.U, Pt.locs, Pt.cells, Pt.slots] at X630 l630 y630 z630 st630 hQ630
  subst l630 y630 z630
  obtain ⟨ys_630, rfl, Nq630, Kq630, U630_0, Pq630_0, Pq630_1⟩ := hQ630
  have Q631 := Q617.keep Kq630
  have Q632 := Q618.keep Kq630 (ninS ne_sb_br_616 nin0)
  have Q633 := Q619.keep Kq630 (ninS ne_sb_br_616 nin0)
  have Q634 := Q620.keep Kq630 (ninS ne_sb_br_616 nin0)
  have Q635 := Q621.keep Kq630 (ninS ne_sb_br_616 nin0)
  have K630 : Keep h0 T630.heap [sb] := K616.trans Kq630 (allS (Or.inr sz_br_616) all0)
  have N630 := Fr.app N616 Nq630
  refine own_go (B := T630.setTop (mkF m 31 #[.val (.ref sb), .val (.ref br_616)] [])) st630 ?_
  refine own_go (B := T630.setTop (mkF m 33 #[.val (.ref sb), .val (.ref br_616)] [(.ref br_616), (.ref sb)])) (fun t k => ?_) ?_
  · refine XS.aloadN X630.here hx rfl (od hby dc53 17 rfl) rfl rfl ?_
    refine XS.aloadN X630.here hx rfl (od hby dc53 18 rfl) rfl rfl ?_
    exact k
  obtain ⟨T642, h642, X642, e642, W642, st642⟩ := putF X630 hx hZ hown (host := "") (Or.inl (own_w hw 108 rfl)) Via.refl rfl Q632 Q631 (Or.inl (own_w hw 109 rfl)) (own_w hw 95 rfl) (ty := (.array .byte)) (by decide) rfl rfl (g := (mkF m 33 #[.val (.ref sb), .val (.ref br_616)] [(.ref br_616), (.ref sb)])) rfl rfl (od hby dc53 19 rfl)
  have Q643 := Q631.wr W642
  have Q644 := Q633.other W642 (Or.inr (slot_ne (Or.inl (own_w hw 111 rfl)) (Or.inl (own_w hw 109 rfl)) (by decide) (t := .byte) (t' := (.array .byte)) (by decide) (by decide)))
  have Q645 := Q634.other W642 (Or.inr (slot_ne (Or.inl (own_w hw 124 rfl)) (Or.inl (own_w hw 109 rfl)) (by decide) (t := .int) (t' := (.array .byte)) (by decide) (by decide)))
  have Q646 := Q635.other W642 (Or.inr (slot_ne (Or.inl (own_w hw 267 rfl)) (Or.inl (own_w hw 109 rfl)) (by decide) (t := .boolean) (t' := (.array .byte)) (by decide) (by decide)))
  have Q653 := U630_0.other W642 (Ne.symm ne_sb_br_616)
  have U642 : Fld Z h642 sb jA "value" "[B" (.ref br_616) := Q632.same W642
  have N642 := Fr.snoc X642 N630 g_sb
  have K642 := K630.wr W642 (Or.inl (List.mem_of_getElem? (i := 0) rfl))
  refine own_go st642 ?_
  refine own_go (B := T642.setTop (mkF m 38 #[.val (.ref sb), .val (.ref br_616)] [(.int 1), (.ref sb)])) (fun t k => ?_) ?_
  · refine XS.aloadN X642.here hx rfl (od hby dc53 20 rfl) rfl rfl ?_
    refine XS.iconst X642.here hx rfl (od hby dc53 21 rfl) ?_
    exact k
  obtain ⟨T654, h654, X654, e654, W654, st654⟩ := putFN (v' := (.int 1)) X642 hx hZ hown (own_w hw 110 rfl) Via.refl e642 Q644 Q643 (Or.inl (own_w hw 111 rfl)) (own_w hw 95 rfl) (ty := .byte) (by decide) rfl rfl (g := (mkF m 38 #[.val (.ref sb), .val (.ref br_616)] [(.int 1), (.ref sb)])) rfl rfl (od hby dc53 22 rfl)
  have Q656 := Q645.other W654 (Or.inr (slot_ne (Or.inl (own_w hw 124 rfl)) (Or.inl (own_w hw 111 rfl)) (by decide) (t := .int) (t' := .byte) (by decide) (by decide)))
  have Q657 := Q646.other W654 (Or.inr (slot_ne (Or.inl (own_w hw 267 rfl)) (Or.inl (own_w hw 111 rfl)) (by decide) (t := .boolean) (t' := .byte) (by decide) (by decide)))
  have Q664 := Q653.other W654 (Ne.symm ne_sb_br_616)
  have Q665 := U642.other W654 (Or.inr (slot_ne (Or.inl (own_w hw 109 rfl)) (Or.inl (own_w hw 111 rfl)) (by decide) (t := (.array .byte)) (t' := .byte) (by decide) (by decide)))
  have U654 : Fld Z h654 sb jA "coder" "B" (.int 1) := Q644.same W654
  have N654 := Fr.snoc X654 N642 g_sb
  have K654 := K642.wr W654 (Or.inl (List.mem_of_getElem? (i := 0) rfl))
  refine own_go st654 ?_
  exact own_rV Bd X654 hx (od hby dc53 23 rfl) (by rw [e654]; exact ⟨br_616, kb_616, ys_630, rfl, N654, K654, sz_br_616, ne_sb_br_616, Q665, U654, Q656, Q657, Q664, Pq630_0, Pq630_1⟩) (by decide)
def Qifn_01 (Z : State) (sb so br : Addr) (kb : ClassId) (ns : List Int32) (cs : Int32) (chl : List Int32) (h0 : Heap) (n0 : Nat) (v : Option Value) (h : Heap) (L : List Loc) : Prop := ∃ nr : Addr, ∃ kn : ClassId, ∃ ys : List Int32, v = none ∧ Fr n0 L ∧ Keep h0 h [sb] ∧ h0.size ≤ nr ∧ sb ≠ nr ∧ Fld Z h sb jA "value" "[B" (.ref nr) ∧ Fld Z h sb jA "coder" "B" (.int 1) ∧ Fld Z h sb jA "count" "I" (.int 93) ∧ Fld Z h sb jA "maybeLatin1" "Z" (.int 0) ∧ Arv Z h nr kn .byte (372 : Int32) (own_I ys) (.int 0) ∧ (ys.length = 372) ∧ (own_U ys chl 93)
theorem efifn_01 (m : MethodId) (x0 : Addr) (x1 : Addr) : entryFrame m #[(.ref x0), (.ref x1)] 2 = mkF m 0 #[.val (.ref x0), .val (.ref x1)] [] := by first | (simp [entryFrame, mkF, argsToLocals, Value.category]; done) | rfl
set_option maxRecDepth 65536 in
set_option maxHeartbeats 40000000 in
theorem ifn_01 (l : Launch) (Z : State) (a0 : Array Value) (hw : own_HW a0 Z) (ws : List Jvm.Cond) (sb so br : Addr) (kb : ClassId) (ns : List Int32) (cs : Int32) (chl : List Int32) (h0 : Heap) (n0 : Nat) (Z0 : n0 ≤ h0.size) (P0 : Exa Z h0 sb jB) (P1 : Fld Z h0 sb jA "value" "[B" (.ref br)) (P2 : Fld Z h0 sb jA "coder" "B" (.int 0)) (P3 : Fld Z h0 sb jA "count" "I" (.int 93)) (P4 : Fld Z h0 sb jA "maybeLatin1" "Z" (.int 0)) (P5 : Arv Z h0 br kb .byte (186 : Int32) (own_I ns) (.int 0)) (P6 : Sta Z h0 jS "COMPACT_STRINGS" "Z" (.int cs)) (P7 : own_SI Z h0) (P8 : Sta Z h0 jU "$assertionsDisabled" "Z" (.int 1)) (P9 : Sta Z h0 jU "HI_BYTE_SHIFT" "I" (.int 0)) (P10 : Sta Z h0 jU "LO_BYTE_SHIFT" "I" (.int 8)) (P11 : Exa Z h0 so jS) (P12 : Fld Z h0 so jS "coder" "B" (.int 1)) (g_sb : n0 ≤ sb) (ne_sb_br : sb ≠ br) (hcs : cs ≠ (0 : Int32)) (hpre : own_L ns chl 93) :
    own_M l Z yN42 jdk_68_method_71_code 2 none ws (own_R 6 1 372 89) #[(.ref sb), (.ref so)] h0 (Qifn_01 Z sb so br kb ns cs chl h0 n0) := by
  refine own_b (own := jA) rfl (plainFor_of_name pn_6) (fun m => efifn_01 m sb so) n0 fun p e s m below meth c s₁ Bd hZ hx hby hml hown X0 e0 N0 => ?_
  have K0 : Keep h0 h0 [sb] := Keep.refl h0 _
  obtain ⟨T666, X666, e666, st666⟩ := getS2 X0 hx hZ hown (host := "") (Or.inl (own_w hw 107 rfl)) Via.refl e0 P6 (g := (mkF m 0 #[.val (.ref sb), .val (.ref so)] [])) rfl (od hby dc33 0 rfl)
  refine own_go st666 ?_
  have hc3_667 : ¬ (cs = (0 : Int32)) := hcs
  refine own_go (B := T666.setTop (mkF m 7 #[.val (.ref sb), .val (.ref so)] [(.ref sb)])) (fun t k => ?_) ?_
  · refine XS.ifNo X666.here hx rfl (od hby dc33 1 rfl) rfl ((if0 _ _).trans (feq hc3_667).1) ?_
    refine XS.aloadN X666.here hx rfl (od hby dc33 2 rfl) rfl rfl ?_
    exact k
  obtain ⟨T668, X668, e668, st668⟩ := getF X666 hx hZ hown (host := "") (Or.inl (own_w hw 110 rfl)) Via.refl e666 P2 (g := (mkF m 7 #[.val (.ref sb), .val (.ref so)] [(.ref sb)])) rfl rfl (od hby dc33 3 rfl)
  refine own_go st668 ?_
  refine own_go (B := T668.setTop (mkF m 11 #[.val (.ref sb), .val (.ref so)] [(.ref so), (.int 0)])) (fun t k => ?_) ?_
  · refine XS.aloadN X668.here hx rfl (od hby dc33 4 rfl) rfl rfl ?_
    exact k
  obtain ⟨cq669, kq669, q669a, q669b, q669c⟩ := isOf hZ e668 P11
  obtain ⟨_, _, ⟨T669, L669, k669, n669⟩, -, X669, ⟨Lc669, hQ669, l669, y669, z669⟩, st669⟩ := X668.virtualBack hx (y := yN11) (z := yN11) hown (mvT hZ (own_w hw 166 rfl)) (mvT hZ (own_w hw 58 rfl)) (notFace_of_selects (args := #[]) (mvT hZ (own_w hw 60 rfl))) (mvT hZ (own_w hw 60 rfl)) (mvT hZ (own_w hw 59 rfl)) (by decide) (backOf (W := 1) (cod_1 l Z a0 hw [] so cs h0 n0 Z0 P12 P6 hcs) hZ (own_w hw 61 rfl) (own_w hw 9 rfl) (by decide) (by decide)) q669a q669c (g := (mkF m 11 #[.val (.ref sb), .val (.ref so)] [(.ref so), (.int 0)])) rfl (by rw [hml]; rfl) (Steps.refl _) (argsL := []) (rest := [(.int 0)]) (lenOf pd_9 rfl) rfl (own_W0 rfl) (od hby dc33 5 rfl) (fun _ _ => ⟨rfl, e668, (by decide : 0 + 0 ≤ _), (by decide : 0 + 0 ≤ _)⟩)
  dsimp only [Pt.U, Pt.locs, Pt.cells, Pt.slots] at X669 l669 y669 z669 st669 hQ669
  subst l669 y669 z669
  obtain ⟨rfl, Nq669, e669⟩ := hQ669
  have N669 := Fr.app N0 Nq669
  refine own_go (B := T669.setTop (mkF m 14 #[.val (.ref sb), .val (.ref so)] [(.int 1), (.int 0)])) (fun t k => st669.trans k) ?_
  refine own_go (B := T669.setTop (mkF m 18 #[.val (.ref sb), .val (.ref so)] [(.ref sb)])) (fun t k => ?_) ?_
  · refine XS.icmpNo X669.here hx rfl (od hby dc33 6 rfl) rfl (feq (by decide : ¬ ((0 : Int32) = (1 : Int32)))).1 ?_
    refine XS.aloadN X669.here hx rfl (od hby dc33 8 rfl) rfl rfl ?_
    exact k
  obtain ⟨cq671, q671, q671'⟩ := P0.cell
  obtain ⟨_, _, ⟨T671, L671, k671, n671⟩, -, X671, ⟨Lc671, hQ671, l671, y671, z671⟩, st671⟩ := X669.privateBack hx (y := yN43) hown (mvT hZ (own_w hw 243 rfl)) (mvT hZ (own_w hw 244 rfl)) (own_selp (mvT hZ (own_w hw 128 rfl)) rfl (Cond.privateMethod_at (mvP hZ (own_w hw 245 rfl) (args := #[]))) (mvT hZ (own_w hw 244 rfl)) (by decide)) (Cond.privateMethod_at (mvP hZ (own_w hw 245 rfl) (args := #[]))) (mvT hZ (own_w hw 247 rfl)) (by decide) (backOf (W := 0) (inf_0 l Z a0 hw [] sb br kb ns cs chl h0 n0 Z0 P0 P1 P2 P3 P4 P5 P6 P7 P8 P9 P10 g_sb ne_sb_br hcs hpre) hZ (own_w hw 247 rfl) (own_w hw 104 rfl) (by decide) (by decide)) (g := (mkF m 18 #[.val (.ref sb), .val (.ref so)] [(.ref sb)])) rfl (by rw [hml]; rfl) (Steps.refl _) (a := sb) (by rw [e669]; exact q671) q671' (argsL := []) (rest := []) (lenOf pd_26 rfl) rfl (own_W0 rfl) (od hby dc33 9 rfl) (fun _ _ => ⟨rfl, e669, (by decide : 0 + 1 ≤ _), (by decide : 0 + 372 ≤ _)⟩)
  dsimp only [Pt.U, Pt.locs, Pt.cells, Pt.slots] at X671 l671 y671 z671 st671 hQ671
  subst l671 y671 z671
  obtain ⟨nr_671, kn_671, ys_671, rfl, Nq671, Kq671, sq_nr_671, pq671_0, U671_0, U671_1, U671_2, U671_3, U671_4, Pq671_0, Pq671_1⟩ := hQ671
  have ne_sb_nr_671 : sb ≠ nr_671 := Nat.ne_of_lt (Nat.lt_of_lt_of_le P0.lt sq_nr_671)
  have sz_nr_671 : h0.size ≤ nr_671 := Nat.le_trans K0.1 sq_nr_671
  have K671 : Keep h0 T671.heap [sb] := K0.trans Kq671 (allS (Or.inl (List.mem_of_getElem? (i := 0) rfl)) all0)
  have N671 := Fr.app N669 Nq671
  refine own_go (B := T671.setTop (mkF m 21 #[.val (.ref sb), .val (.ref so)] [])) (fun t k => st671.trans k) ?_
  exact own_rV Bd X671 hx (od hby dc33 7 rfl) ⟨nr_671, kn_671, ys_671, rfl, N671, K671, sz_nr_671, ne_sb_nr_671, U671_0, U671_1, U671_2, U671_3, U671_4, Pq671_0, Pq671_1⟩ (by decide)
def QpsL (Z : State) (sb : Addr) (ix : Int32) (so bd bs : Addr) (ks : ClassId) (za : Int32) (us : List Int32) (kd : ClassId) (zd : Int32) (xs : List Int32) (cs : Int32) (chl : List Int32) (ck nn md : Nat) (h0 : Heap) (n0 : Nat) (v : Option Value) (h : Heap) (L : List Loc) : Prop := ∃ ys : List Int32, v = none ∧ Fr n0 L ∧ Keep h0 h [bd] ∧ Arv Z h bd kd .byte zd (own_I ys) (.int 0) ∧ (ys.length = md) ∧ (own_L ys chl (ck + nn))
theorem efpsL (m : MethodId) (x0 : Addr) (x1 : Int32) (x2 : Addr) : entryFrame m #[(.ref x0), (.int x1), (.ref x2)] 3 = mkF m 0 #[.val (.ref x0), .val (.int x1), .val (.ref x2)] [] := by first | (simp [entryFrame, mkF, argsToLocals, Value.category]; done) | rfl
set_option maxRecDepth 65536 in
set_option maxHeartbeats 40000000 in
theorem psL (l : Launch) (Z : State) (a0 : Array Value) (hw : own_HW a0 Z) (ws : List Jvm.Cond) (sb : Addr) (ix : Int32) (so bd bs : Addr) (ks : ClassId) (za : Int32) (us : List Int32) (kd : ClassId) (zd : Int32) (xs : List Int32) (cs : Int32) (chl : List Int32) (ck nn md : Nat) (h0 : Heap) (n0 : Nat) (Z0 : n0 ≤ h0.size) (P0 : Exa Z h0 sb jB) (P1 : Fld Z h0 sb jA "value" "[B" (.ref bd)) (P2 : Fld Z h0 sb jA "coder" "B" (.int 0)) (P3 : Exa Z h0 so jS) (P4 : Fld Z h0 so jS "coder" "B" (.int 0)) (P5 : Fld Z h0 so jS "value" "[B" (.ref bs)) (P6 : Arv Z h0 bs ks .byte za (own_I us) (.int 0)) (P7 : Arv Z h0 bd kd .byte zd (own_I xs) (.int 0)) (P8 : Sta Z h0 jS "COMPACT_STRINGS" "Z" (.int cs)) (g_bd : n0 ≤ bd) (hcs : cs ≠ (0 : Int32)) (hi : ix.toInt = (ck : Int)) (hn : za.toInt = (nn : Int)) (hzd : zd.toInt = (md : Int)) (hbb : ck + nn ≤ md) (hxl : xs.length = md) (hpre : own_L xs chl ck) (hsrc : ∀ q, q < nn → own_g8 (us.getD q 0) = chl.getD (ck + q) 0) :
    own_M l Z yN44 jdk_68_method_73_code 3 none ws (own_R 2 0 0 33) #[(.ref sb), (.int ix), (.ref so)] h0 (QpsL Z sb ix so bd bs ks za us kd zd xs cs chl ck nn md h0 n0) := by
  refine own_b (own := jA) rfl (plainFor_of_name pn_6) (fun m => efpsL m sb ix so) n0 fun p e s m below meth c s₁ Bd hZ hx hby hml hown X0 e0 N0 => ?_
  have K0 : Keep h0 h0 [bd] := Keep.refl h0 _
  refine own_go (B := s₁.setTop (mkF m 2 #[.val (.ref sb), .val (.int ix), .val (.ref so)] [(.ref so), (.ref sb)])) (fun t k => ?_) ?_
  · refine XS.aloadN X0.here hx rfl (od hby dc32 0 rfl) rfl rfl ?_
    refine XS.aloadN X0.here hx rfl (od hby dc32 1 rfl) rfl rfl ?_
    exact k
  obtain ⟨cq680, q680, q680'⟩ := P0.cell
  obtain ⟨_, _, ⟨T680, L680, k680, n680⟩, -, X680, ⟨Lc680, hQ680, l680, y680, z680⟩, st680⟩ := X0.privateBack hx (y := yN42) hown (mvT hZ (own_w hw 161 rfl)) (mvT hZ (own_w hw 162 rfl)) (own_selp (mvT hZ (own_w hw 128 rfl)) rfl (Cond.privateMethod_at (mvP hZ (own_w hw 163 rfl) (args := #[]))) (mvT hZ (own_w hw 162 rfl)) (by decide)) (Cond.privateMethod_at (mvP hZ (own_w hw 163 rfl) (args := #[]))) (mvT hZ (own_w hw 165 rfl)) (by decide) (backOf (W := 0) (ifn_00 l Z a0 hw [] sb so cs h0 n0 Z0 P2 P3 P4 P8 hcs) hZ (own_w hw 165 rfl) (own_w hw 104 rfl) (by decide) (by decide)) (g := (mkF m 2 #[.val (.ref sb), .val (.int ix), .val (.ref so)] [(.ref so), (.ref sb)])) rfl (by rw [hml]; rfl) (Steps.refl _) (a := sb) (by rw [e0]; exact q680) q680' (argsL := [(.ref so)]) (rest := []) (lenOf pd_27 rfl) rfl (own_W0 rfl) (od hby dc32 2 rfl) (fun _ _ => ⟨rfl, e0, (by decide : 0 + 0 ≤ _), (by decide : 0 + 0 ≤ _)⟩)
  dsimp only [Pt.U, Pt.locs, Pt.cells, Pt.slots] at X680 l680 y680 z680 st680 hQ680
  subst l680 y680 z680
  obtain ⟨rfl, Nq680, e680⟩ := hQ680
  have N680 := Fr.app N0 Nq680
  refine own_go (B := T680.setTop (mkF m 5 #[.val (.ref sb), .val (.int ix), .val (.ref so)] [])) (fun t k => st680.trans k) ?_
  refine own_go (B := T680.setTop (mkF m 7 #[.val (.ref sb), .val (.int ix), .val (.ref so)] [(.ref sb), (.ref so)])) (fun t k => ?_) ?_
  · refine XS.aloadN X680.here hx rfl (od hby dc32 3 rfl) rfl rfl ?_
    refine XS.aloadN X680.here hx rfl (od hby dc32 4 rfl) rfl rfl ?_
    exact k
  obtain ⟨T681, X681, e681, st681⟩ := getF X680 hx hZ hown (host := "") (Or.inl (own_w hw 108 rfl)) Via.refl e680 P1 (g := (mkF m 7 #[.val (.ref sb), .val (.int ix), .val (.ref so)] [(.ref sb), (.ref so)])) rfl rfl (od hby dc32 5 rfl)
  refine own_go st681 ?_
  refine own_go (B := T681.setTop (mkF m 12 #[.val (.ref sb), .val (.int ix), .val (.ref so)] [(.ref sb), (.int ix), (.ref bd), (.ref so)])) (fun t k => ?_) ?_
  · refine XS.iloadN X681.here hx rfl (od hby dc32 6 rfl) rfl ?_
    refine XS.aloadN X681.here hx rfl (od hby dc32 7 rfl) rfl rfl ?_
    exact k
  obtain ⟨T682, X682, e682, st682⟩ := getF X681 hx hZ hown (host := "") (Or.inl (own_w hw 110 rfl)) Via.refl e681 P2 (g := (mkF m 12 #[.val (.ref sb), .val (.int ix), .val (.ref so)] [(.ref sb), (.int ix), (.ref bd), (.ref so)])) rfl rfl (od hby dc32 8 rfl)
  refine own_go st682 ?_
  obtain ⟨cq683, kq683, q683a, q683b, q683c⟩ := isOf hZ e682 P3
  obtain ⟨_, _, ⟨T683, L683, k683, n683⟩, -, X683, ⟨Lc683, hQ683, l683, y683, z683⟩, st683⟩ := X682.virtualBack hx (y := yN41) (z := yN41) hown (mvT hZ (own_w hw 167 rfl)) (mvT hZ (own_w hw 168 rfl)) (notFace_of_selects (args := #[]) (mvT hZ (own_w hw 170 rfl))) (mvT hZ (own_w hw 170 rfl)) (mvT hZ (own_w hw 169 rfl)) (by decide) (backOf (W := 0) (gbL l Z a0 hw [] so bd ix bs ks za us kd zd xs cs chl ck nn md h0 n0 Z0 P3 P4 P5 P6 P7 P8 g_bd hcs hi hn hzd hbb hxl hpre hsrc) hZ (own_w hw 171 rfl) (own_w hw 9 rfl) (by decide) (by decide)) q683a q683c (g := (mkF m 15 #[.val (.ref sb), .val (.int ix), .val (.ref so)] [(.int 0), (.int ix), (.ref bd), (.ref so)])) rfl (by rw [hml]; rfl) (Steps.refl _) (argsL := [(.ref bd), (.int ix), (.int 0)]) (rest := []) (lenOf pd_28 rfl) rfl (own_W0 rfl) (od hby dc32 9 rfl) (fun _ _ => ⟨rfl, e682, (by decide : 0 + 0 ≤ _), (by decide : 0 + 0 ≤ _)⟩)
  dsimp only [Pt.U, Pt.locs, Pt.cells, Pt.slots] at X683 l683 y683 z683 st683 hQ683
  subst l683 y683 z683
  obtain ⟨ys_683, rfl, Nq683, Kq683, U683_0, Pq683_0, Pq683_1⟩ := hQ683
  have K683 : Keep h0 T683.heap [bd] := K0.trans Kq683 (allS (Or.inl (List.mem_of_getElem? (i := 0) rfl)) all0)
  have N683 := Fr.app N680 Nq683
  refine own_go (B := T683.setTop (mkF m 18 #[.val (.ref sb), .val (.int ix), .val (.ref so)] [])) (fun t k => st683.trans k) ?_
  exact own_rV Bd X683 hx (od hby dc32 10 rfl) ⟨ys_683, rfl, N683, K683, U683_0, Pq683_0, Pq683_1⟩ (by decide)
def QpsI (Z : State) (sb : Addr) (ix : Int32) (so bd bs : Addr) (ks : ClassId) (za : Int32) (us : List Int32) (kd : ClassId) (zd : Int32) (xs : List Int32) (cs : Int32) (chl : List Int32) (ck nn md : Nat) (zl : Int32) (h0 : Heap) (n0 : Nat) (v : Option Value) (h : Heap) (L : List Loc) : Prop := ∃ ys : List Int32, v = none ∧ Fr n0 L ∧ Keep h0 h [bd] ∧ Arv Z h bd kd .byte zd (own_I ys) (.int 0) ∧ (ys.length = 2 * md) ∧ (own_U ys chl (ck + nn))
theorem efpsI (m : MethodId) (x0 : Addr) (x1 : Int32) (x2 : Addr) : entryFrame m #[(.ref x0), (.int x1), (.ref x2)] 3 = mkF m 0 #[.val (.ref x0), .val (.int x1), .val (.ref x2)] [] := by first | (simp [entryFrame, mkF, argsToLocals, Value.category]; done) | rfl
set_option maxRecDepth 65536 in
set_option maxHeartbeats 40000000 in
theorem psI (l : Launch) (Z : State) (a0 : Array Value) (hw : own_HW a0 Z) (ws : List Jvm.Cond) (sb : Addr) (ix : Int32) (so bd bs : Addr) (ks : ClassId) (za : Int32) (us : List Int32) (kd : ClassId) (zd : Int32) (xs : List Int32) (cs : Int32) (chl : List Int32) (ck nn md : Nat) (zl : Int32) (h0 : Heap) (n0 : Nat) (Z0 : n0 ≤ h0.size) (P0 : Exa Z h0 sb jB) (P1 : Fld Z h0 sb jA "value" "[B" (.ref bd)) (P2 : Fld Z h0 sb jA "coder" "B" (.int 1)) (P3 : Exa Z h0 so jS) (P4 : Fld Z h0 so jS "coder" "B" (.int 0)) (P5 : Fld Z h0 so jS "value" "[B" (.ref bs)) (P6 : Arv Z h0 bs ks .byte za (own_I us) (.int 0)) (P7 : Arv Z h0 bd kd .byte zd (own_I xs) (.int 0)) (P8 : Sta Z h0 jS "COMPACT_STRINGS" "Z" (.int cs)) (P9 : own_SI Z h0) (P10 : Sta Z h0 jU "$assertionsDisabled" "Z" (.int 1)) (P11 : Sta Z h0 jU "HI_BYTE_SHIFT" "I" (.int 0)) (P12 : Sta Z h0 jU "LO_BYTE_SHIFT" "I" (.int 8)) (g_bd : n0 ≤ bd) (ne_bs_bd : bs ≠ bd) (hcs : cs ≠ (0 : Int32)) (hi : ix.toInt = (ck : Int)) (hn : za.toInt = (nn : Int)) (hzd : zd.toInt = ((2 * md : Nat) : Int)) (hbb : ck + nn ≤ md) (hs : md ≤ 1000) (hxl : xs.length = 2 * md) (hpre : own_U xs chl ck) (hsrc : ∀ q, q < nn → own_g8 (us.getD q 0) = chl.getD (ck + q) 0) (hln : (zd >>> ((1 : Int32) &&& 31)) = zl) (hm : zl.toInt = (md : Int)) :
    own_M l Z yN44 jdk_68_method_73_code 3 none ws (own_R 6 0 0 91) #[(.ref sb), (.int ix), (.ref so)] h0 (QpsI Z sb ix so bd bs ks za us kd zd xs cs chl ck nn md zl h0 n0) := by
  refine own_b (own := jA) rfl (plainFor_of_name pn_6) (fun m => efpsI m sb ix so) n0 fun p e s m below meth c s₁ Bd hZ hx hby hml hown X0 e0 N0 => ?_
  have K0 : Keep h0 h0 [bd] := Keep.refl h0 _
  refine own_go (B := s₁.setTop (mkF m 2 #[.val (.ref sb), .val (.int ix), .val (.ref so)] [(.ref so), (.ref sb)])) (fun t k => ?_) ?_
  · refine XS.aloadN X0.here hx rfl (od hby dc32 0 rfl) rfl rfl ?_
    refine XS.aloadN X0.here hx rfl (od hby dc32 1 rfl) rfl rfl ?_
    exact k
  obtain ⟨cq687, q687, q687'⟩ := P0.cell
  obtain ⟨_, _, ⟨T687, L687, k687, n687⟩, -, X687, ⟨Lc687, hQ687, l687, y687, z687⟩, st687⟩ := X0.privateBack hx (y := yN42) hown (mvT hZ (own_w hw 161 rfl)) (mvT hZ (own_w hw 162 rfl)) (own_selp (mvT hZ (own_w hw 128 rfl)) rfl (Cond.privateMethod_at (mvP hZ (own_w hw 163 rfl) (args := #[]))) (mvT hZ (own_w hw 162 rfl)) (by decide)) (Cond.privateMethod_at (mvP hZ (own_w hw 163 rfl) (args := #[]))) (mvT hZ (own_w hw 165 rfl)) (by decide) (backOf (W := 0) (ifn_10 l Z a0 hw [] sb so cs h0 n0 Z0 P0 P2 P3 P4 P8 hcs) hZ (own_w hw 165 rfl) (own_w hw 104 rfl) (by decide) (by decide)) (g := (mkF m 2 #[.val (.ref sb), .val (.int ix), .val (.ref so)] [(.ref so), (.ref sb)])) rfl (by rw [hml]; rfl) (Steps.refl _) (a := sb) (by rw [e0]; exact q687) q687' (argsL := [(.ref so)]) (rest := []) (lenOf pd_27 rfl) rfl (own_W0 rfl) (od hby dc32 2 rfl) (fun _ _ => ⟨rfl, e0, (by decide : 0 + 0 ≤ _), (by decide : 0 + 0 ≤ _)⟩)
  dsimp only [Pt.U, Pt.locs, Pt.cells, Pt.slots] at X687 l687 y687 z687 st687 hQ687
  subst l687 y687 z687
  obtain ⟨rfl, Nq687, e687⟩ := hQ687
  have N687 := Fr.app N0 Nq687
  refine own_go (B := T687.setTop (mkF m 5 #[.val (.ref sb), .val (.int ix), .val (.ref so)] [])) (fun t k => st687.trans k) ?_
  refine own_go (B := T687.setTop (mkF m 7 #[.val (.ref sb), .val (.int ix), .val (.ref so)] [(.ref sb), (.ref so)])) (fun t k => ?_) ?_
  · refine XS.aloadN X687.here hx rfl (od hby dc32 3 rfl) rfl rfl ?_
    refine XS.aloadN X687.here hx rfl (od hby dc32 4 rfl) rfl rfl ?_
    exact k
  obtain ⟨T688, X688, e688, st688⟩ := getF X687 hx hZ hown (host := "") (Or.inl (own_w hw 108 rfl)) Via.refl e687 P1 (g := (mkF m 7 #[.val (.ref sb), .val (.int ix), .val (.ref so)] [(.ref sb), (.ref so)])) rfl rfl (od hby dc32 5 rfl)
  refine own_go st688 ?_
  refine own_go (B := T688.setTop (mkF m 12 #[.val (.ref sb), .val (.int ix), .val (.ref so)] [(.ref sb), (.int ix), (.ref bd), (.ref so)])) (fun t k => ?_) ?_
  · refine XS.iloadN X688.here hx rfl (od hby dc32 6 rfl) rfl ?_
    refine XS.aloadN X688.here hx rfl (od hby dc32 7 rfl) rfl rfl ?_
    exact k
  obtain ⟨T689, X689, e689, st689⟩ := getF X688 hx hZ hown (host := "") (Or.inl (own_w hw 110 rfl)) Via.refl e688 P2 (g := (mkF m 12 #[.val (.ref sb), .val (.int ix), .val (.ref so)] [(.ref sb), (.int ix), (.ref bd), (.ref so)])) rfl rfl (od hby dc32 8 rfl)
  refine own_go st689 ?_
  obtain ⟨cq690, kq690, q690a, q690b, q690c⟩ := isOf hZ e689 P3
  obtain ⟨_, _, ⟨T690, L690, k690, n690⟩, -, X690, ⟨Lc690, hQ690, l690, y690, z690⟩, st690⟩ := X689.virtualBack hx (y := yN41) (z := yN41) hown (mvT hZ (own_w hw 167 rfl)) (mvT hZ (own_w hw 168 rfl)) (notFace_of_selects (args := #[]) (mvT hZ (own_w hw 170 rfl))) (mvT hZ (own_w hw 170 rfl)) (mvT hZ (own_w hw 169 rfl)) (by decide) (backOf (W := 0) (gbI l Z a0 hw [] so bd ix bs ks za us kd zd xs cs chl ck nn md zl h0 n0 Z0 P3 P4 P5 P6 P7 P8 P9 P10 P11 P12 g_bd ne_bs_bd hcs hi hn hzd hbb hs hxl hpre hsrc hln hm) hZ (own_w hw 171 rfl) (own_w hw 9 rfl) (by decide) (by decide)) q690a q690c (g := (mkF m 15 #[.val (.ref sb), .val (.int ix), .val (.ref so)] [(.int 1), (.int ix), (.ref bd), (.ref so)])) rfl (by rw [hml]; rfl) (Steps.refl _) (argsL := [(.ref bd), (.int ix), (.int 1)]) (rest := []) (lenOf pd_28 rfl) rfl (own_W0 rfl) (od hby dc32 9 rfl) (fun _ _ => ⟨rfl, e689, (by decide : 0 + 0 ≤ _), (by decide : 0 + 0 ≤ _)⟩)
  dsimp only [Pt.U, Pt.locs, Pt.cells, Pt.slots] at X690 l690 y690 z690 st690 hQ690
  subst l690 y690 z690
  obtain ⟨ys_690, rfl, Nq690, Kq690, U690_0, Pq690_0, Pq690_1⟩ := hQ690
  have K690 : Keep h0 T690.heap [bd] := K0.trans Kq690 (allS (Or.inl (List.mem_of_getElem? (i := 0) rfl)) all0)
  have N690 := Fr.app N687 Nq690
  refine own_go (B := T690.setTop (mkF m 18 #[.val (.ref sb), .val (.int ix), .val (.ref so)] [])) (fun t k => st690.trans k) ?_
  exact own_rV Bd X690 hx (od hby dc32 10 rfl) ⟨ys_690, rfl, N690, K690, U690_0, Pq690_0, Pq690_1⟩ (by decide)
def QpsU (Z : State) (sb so br : Addr) (kb : ClassId) (ns : List Int32) (bs : Addr) (ks : ClassId) (za : Int32) (us : List Int32) (cs : Int32) (chl : List Int32) (nn : Nat) (h0 : Heap) (n0 : Nat) (v : Option Value) (h : Heap) (L : List Loc) : Prop := ∃ nr : Addr, ∃ kn : ClassId, ∃ ys : List Int32, v = none ∧ Fr n0 L ∧ Keep h0 h [sb] ∧ h0.size ≤ nr ∧ sb ≠ nr ∧ Fld Z h sb jA "value" "[B" (.ref nr) ∧ Fld Z h sb jA "coder" "B" (.int 1) ∧ Fld Z h sb jA "count" "I" (.int 93) ∧ Fld Z h sb jA "maybeLatin1" "Z" (.int 0) ∧ Arv Z h nr kn .byte (372 : Int32) (own_I ys) (.int 0) ∧ (ys.length = 372) ∧ (own_U ys chl (93 + nn))
theorem efpsU (m : MethodId) (x0 : Addr) (x2 : Addr) : entryFrame m #[(.ref x0), (.int 93), (.ref x2)] 3 = mkF m 0 #[.val (.ref x0), .val (.int 93), .val (.ref x2)] [] := by first | (simp [entryFrame, mkF, argsToLocals, Value.category]; done) | rfl
set_option maxRecDepth 65536 in
set_option maxHeartbeats 40000000 in
theorem psU (l : Launch) (Z : State) (a0 : Array Value) (hw : own_HW a0 Z) (ws : List Jvm.Cond) (sb so br : Addr) (kb : ClassId) (ns : List Int32) (bs : Addr) (ks : ClassId) (za : Int32) (us : List Int32) (cs : Int32) (chl : List Int32) (nn : Nat) (h0 : Heap) (n0 : Nat) (Z0 : n0 ≤ h0.size) (P0 : Exa Z h0 sb jB) (P1 : Fld Z h0 sb jA "value" "[B" (.ref br)) (P2 : Fld Z h0 sb jA "coder" "B" (.int 0)) (P3 : Fld Z h0 sb jA "count" "I" (.int 93)) (P4 : Fld Z h0 sb jA "maybeLatin1" "Z" (.int 0)) (P5 : Arv Z h0 br kb .byte (186 : Int32) (own_I ns) (.int 0)) (P6 : Sta Z h0 jS "COMPACT_STRINGS" "Z" (.int cs)) (P7 : own_SI Z h0) (P8 : Sta Z h0 jU "$assertionsDisabled" "Z" (.int 1)) (P9 : Sta Z h0 jU "HI_BYTE_SHIFT" "I" (.int 0)) (P10 : Sta Z h0 jU "LO_BYTE_SHIFT" "I" (.int 8)) (P11 : Exa Z h0 so jS) (P12 : Fld Z h0 so jS "coder" "B" (.int 1)) (P13 : Fld Z h0 so jS "value" "[B" (.ref bs)) (P14 : Arv Z h0 bs ks .byte za (own_I us) (.int 0)) (g_sb : n0 ≤ sb) (ne_sb_br : sb ≠ br) (ne_sb_so : sb ≠ so) (ne_sb_bs : sb ≠ bs) (hcs : cs ≠ (0 : Int32)) (hn : za.toInt = ((2 * nn : Nat) : Int)) (h4 : nn ≤ 4) (hpre : own_L ns chl 93) (hsrc : ∀ q, q < nn → own_gc (us.getD (2 * q) 0) (us.getD (2 * q + 1) 0) = chl.getD (93 + q) 0) :
    own_M l Z yN44 jdk_68_method_73_code 3 none ws (own_R 7 1 372 102) #[(.ref sb), (.int 93), (.ref so)] h0 (QpsU Z sb so br kb ns bs ks za us cs chl nn h0 n0) := by
  refine own_b (own := jA) rfl (plainFor_of_name pn_6) (fun m => efpsU m sb so) n0 fun p e s m below meth c s₁ Bd hZ hx hby hml hown X0 e0 N0 => ?_
  have K0 : Keep h0 h0 [sb] := Keep.refl h0 _
  refine own_go (B := s₁.setTop (mkF m 2 #[.val (.ref sb), .val (.int 93), .val (.ref so)] [(.ref so), (.ref sb)])) (fun t k => ?_) ?_
  · refine XS.aloadN X0.here hx rfl (od hby dc32 0 rfl) rfl rfl ?_
    refine XS.aloadN X0.here hx rfl (od hby dc32 1 rfl) rfl rfl ?_
    exact k
  obtain ⟨cq699, q699, q699'⟩ := P0.cell
  obtain ⟨_, _, ⟨T699, L699, k699, n699⟩, -, X699, ⟨Lc699, hQ699, l699, y699, z699⟩, st699⟩ := X0.privateBack hx (y := yN42) hown (mvT hZ (own_w hw 161 rfl)) (mvT hZ (own_w hw 162 rfl)) (own_selp (mvT hZ (own_w hw 128 rfl)) rfl (Cond.privateMethod_at (mvP hZ (own_w hw 163 rfl) (args := #[]))) (mvT hZ (own_w hw 162 rfl)) (by decide)) (Cond.privateMethod_at (mvP hZ (own_w hw 163 rfl) (args := #[]))) (mvT hZ (own_w hw 165 rfl)) (by decide) (backOf (W := 0) (ifn_01 l Z a0 hw [] sb so br kb ns cs chl h0 n0 Z0 P0 P1 P2 P3 P4 P5 P6 P7 P8 P9 P10 P11 P12 g_sb ne_sb_br hcs hpre) hZ (own_w hw 165 rfl) (own_w hw 104 rfl) (by decide) (by decide)) (g := (mkF m 2 #[.val (.ref sb), .val (.int 93), .val (.ref so)] [(.ref so), (.ref sb)])) rfl (by rw [hml]; rfl) (Steps.refl _) (a := sb) (by rw [e0]; exact q699) q699' (argsL := [(.ref so)]) (rest := []) (lenOf pd_27 rfl) rfl (own_W0 rfl) (od hby dc32 2 rfl) (fun _ _ => ⟨rfl, e0, (by decide : 0 + 1 ≤ _), (by decide : 0 + 372 ≤ _)⟩)
  dsimp only [Pt.U, Pt.locs, Pt.cells, Pt.slots] at X699 l699 y699 z699 st699 hQ699
  subst l699 y699 z699
  obtain ⟨nr_699, kn_699, ys_699, rfl, Nq699, Kq699, sq_nr_699, pq699_0, U699_0, U699_1, U699_2, U699_3, U699_4, Pq699_0, Pq699_1⟩ := hQ699
  have ne_sb_nr_699 : sb ≠ nr_699 := Nat.ne_of_lt (Nat.lt_of_lt_of_le P0.lt sq_nr_699)
  have low_nr_699 : n0 ≤ nr_699 := Nat.le_trans Z0 sq_nr_699
  have sz_nr_699 : h0.size ≤ nr_699 := Nat.le_trans K0.1 sq_nr_699
  have Q702 := own_staK P6 Kq699 (nsS (own_nsE P0) ns0)
  have Q707 := P11.keep Kq699
  have Q708 := P12.keep Kq699 (ninS (Ne.symm ne_sb_so) nin0)
  have Q709 := P13.keep Kq699 (ninS (Ne.symm ne_sb_so) nin0)
  have Q710 := P14.keep Kq699 (ninS (Ne.symm ne_sb_bs) nin0)
  have Z699 : n0 ≤ T699.heap.size := Nat.le_trans Z0 Kq699.1
  have K699 : Keep h0 T699.heap [sb] := K0.trans Kq699 (allS (Or.inl (List.mem_of_getElem? (i := 0) rfl)) all0)
  have N699 := Fr.app N0 Nq699
  refine own_go (B := T699.setTop (mkF m 5 #[.val (.ref sb), .val (.int 93), .val (.ref so)] [])) (fun t k => st699.trans k) ?_
  refine own_go (B := T699.setTop (mkF m 7 #[.val (.ref sb), .val (.int 93), .val (.ref so)] [(.ref sb), (.ref so)])) (fun t k => ?_) ?_
  · refine XS.aloadN X699.here hx rfl (od hby dc32 3 rfl) rfl rfl ?_
    refine XS.aloadN X699.here hx rfl (od hby dc32 4 rfl) rfl rfl ?_
    exact k
  obtain ⟨T711, X711, e711, st711⟩ := getF X699 hx hZ hown (host := "") (Or.inl (own_w hw 108 rfl)) Via.refl rfl U699_0 (g := (mkF m 7 #[.val (.ref sb), .val (.int 93), .val (.ref so)] [(.ref sb), (.ref so)])) rfl rfl (od hby dc32 5 rfl)
  refine own_go st711 ?_
  refine own_go (B := T711.setTop (mkF m 12 #[.val (.ref sb), .val (.int 93), .val (.ref so)] [(.ref sb), (.int 93), (.ref nr_699), (.ref so)])) (fun t k => ?_) ?_
  · refine XS.iloadN X711.here hx rfl (od hby dc32 6 rfl) rfl ?_
    refine XS.aloadN X711.here hx rfl (od hby dc32 7 rfl) rfl rfl ?_
    exact k
  obtain ⟨T712, X712, e712, st712⟩ := getF X711 hx hZ hown (host := "") (Or.inl (own_w hw 110 rfl)) Via.refl e711 U699_1 (g := (mkF m 12 #[.val (.ref sb), .val (.int 93), .val (.ref so)] [(.ref sb), (.int 93), (.ref nr_699), (.ref so)])) rfl rfl (od hby dc32 8 rfl)
  refine own_go st712 ?_
  obtain ⟨cq713, kq713, q713a, q713b, q713c⟩ := isOf hZ e712 Q707
  obtain ⟨_, _, ⟨T713, L713, k713, n713⟩, -, X713, ⟨Lc713, hQ713, l713, y713, z713⟩, st713⟩ := X712.virtualBack hx (y := yN41) (z := yN41) hown (mvT hZ (own_w hw 167 rfl)) (mvT hZ (own_w hw 168 rfl)) (notFace_of_selects (args := #[]) (mvT hZ (own_w hw 170 rfl))) (mvT hZ (own_w hw 170 rfl)) (mvT hZ (own_w hw 169 rfl)) (by decide) (backOf (W := 0) (gbU l Z a0 hw [] so nr_699 (93 : Int32) bs ks za us kn_699 (372 : Int32) ys_699 cs chl 93 nn 186 T699.heap n0 Z699 Q707 Q708 Q709 Q710 U699_4 Q702 low_nr_699 hcs ot93 hn otd (by omega) (by decide) Pq699_0 Pq699_1 hsrc) hZ (own_w hw 171 rfl) (own_w hw 9 rfl) (by decide) (by decide)) q713a q713c (g := (mkF m 15 #[.val (.ref sb), .val (.int 93), .val (.ref so)] [(.int 1), (.int 93), (.ref nr_699), (.ref so)])) rfl (by rw [hml]; rfl) (Steps.refl _) (argsL := [(.ref nr_699), (.int 93), (.int 1)]) (rest := []) (lenOf pd_28 rfl) rfl (own_W0 rfl) (od hby dc32 9 rfl) (fun _ _ => ⟨rfl, e712, (by decide : 1 + 0 ≤ _), (by decide : 372 + 0 ≤ _)⟩)
  dsimp only [Pt.U, Pt.locs, Pt.cells, Pt.slots] at X713 l713 y713 z713 st713 hQ713
  subst l713 y713 z713
  obtain ⟨ys_713, rfl, Nq713, Kq713, U713_0, Pq713_0, Pq713_1⟩ := hQ713
  have Q725 := U699_0.keep Kq713 (ninS ne_sb_nr_699 nin0)
  have Q726 := U699_1.keep Kq713 (ninS ne_sb_nr_699 nin0)
  have Q727 := U699_2.keep Kq713 (ninS ne_sb_nr_699 nin0)
  have Q728 := U699_3.keep Kq713 (ninS ne_sb_nr_699 nin0)
  have K713 : Keep h0 T713.heap [sb] := K699.trans Kq713 (allS (Or.inr sz_nr_699) all0)
  have N713 := Fr.app N699 Nq713
  refine own_go (B := T713.setTop (mkF m 18 #[.val (.ref sb), .val (.int 93), .val (.ref so)] [])) (fun t k => st713.trans k) ?_
  exact own_rV Bd X713 hx (od hby dc32 10 rfl) ⟨nr_699, kn_699, ys_713, rfl, N713, K713, sz_nr_699, ne_sb_nr_699, Q725, Q726, Q727, Q728, U713_0, Pq713_0, Pq713_1⟩ (by decide)
def QapG_16 (Z : State) (sb so br : Addr) (kb : ClassId) (ns : List Int32) (bs : Addr) (ks : ClassId) (us : List Int32) (cs : Int32) (chl : List Int32) (h0 : Heap) (n0 : Nat) (v : Option Value) (h : Heap) (L : List Loc) : Prop := ∃ nr : Addr, ∃ kn : ClassId, ∃ ys : List Int32, v = some (.ref sb) ∧ Fr n0 L ∧ Keep h0 h [sb] ∧ h0.size ≤ nr ∧ sb ≠ nr ∧ Fld Z h sb jA "value" "[B" (.ref nr) ∧ Fld Z h sb jA "coder" "B" (.int 0) ∧ Fld Z h sb jA "count" "I" (.int 92) ∧ Fld Z h sb jA "maybeLatin1" "Z" (.int 0) ∧ Arv Z h nr kn .byte (92 : Int32) (own_I ys) (.int 0) ∧ (ys.length = 92) ∧ (own_L ys chl 92)
theorem efapG_16 (m : MethodId) (x0 : Addr) (x1 : Addr) : entryFrame m #[(.ref x0), (.ref x1)] 3 = mkF m 0 #[.val (.ref x0), .val (.ref x1), .unset] [] := by first | (simp [entryFrame, mkF, argsToLocals, Value.category]; done) | rfl
set_option maxRecDepth 65536 in
set_option maxHeartbeats 40000000 in
theorem apG_16 (l : Launch) (Z : State) (a0 : Array Value) (hw : own_HW a0 Z) (ws : List Jvm.Cond) (sb so br : Addr) (kb : ClassId) (ns : List Int32) (bs : Addr) (ks : ClassId) (us : List Int32) (cs : Int32) (chl : List Int32) (h0 : Heap) (n0 : Nat) (Z0 : n0 ≤ h0.size) (P0 : Exa Z h0 sb jB) (P1 : Fld Z h0 sb jA "value" "[B" (.ref br)) (P2 : Fld Z h0 sb jA "coder" "B" (.int 0)) (P3 : Fld Z h0 sb jA "count" "I" (.int 0)) (P4 : Fld Z h0 sb jA "maybeLatin1" "Z" (.int 0)) (P5 : Arv Z h0 br kb .byte (16 : Int32) (own_I ns) (.int 0)) (P6 : Exa Z h0 so jS) (P7 : Fld Z h0 so jS "coder" "B" (.int 0)) (P8 : Fld Z h0 so jS "value" "[B" (.ref bs)) (P9 : Arv Z h0 bs ks .byte (92 : Int32) (own_I us) (.int 0)) (P10 : Sta Z h0 jS "COMPACT_STRINGS" "Z" (.int cs)) (g_sb : n0 ≤ sb) (ne_sb_br : sb ≠ br) (ne_sb_so : sb ≠ so) (ne_sb_bs : sb ≠ bs) (hcs : cs ≠ (0 : Int32)) (hpre : own_L ns chl 0) (hsrc : ∀ q, q < 92 → own_g8 (us.getD q 0) = chl.getD (0 + q) 0) :
    own_M l Z yN45 jdk_68_method_22_code 3 (some (.object jA)) ws (own_R 8 1 372 116) #[(.ref sb), (.ref so)] h0 (QapG_16 Z sb so br kb ns bs ks us cs chl h0 n0) := by
  refine own_b (own := jA) rfl (plainFor_of_name pn_6) (fun m => efapG_16 m sb so) n0 fun p e s m below meth c s₁ Bd hZ hx hby hml hown X0 e0 N0 => ?_
  have K0 : Keep h0 h0 [sb] := Keep.refl h0 _
  refine own_go (B := s₁.setTop (mkF m 10 #[.val (.ref sb), .val (.ref so), .unset] [(.ref so)])) (fun t k => ?_) ?_
  · refine XS.aloadN X0.here hx rfl (od hby dc25 0 rfl) rfl rfl ?_
    refine XS.ifnonnullYes X0.here hx rfl (pc0 := 1) (pc' := 9) rfl (od hby dc25 1 rfl) rfl (by decide) (by decide) ?_
    refine XS.aloadN X0.here hx rfl (od hby dc25 2 rfl) rfl rfl ?_
    exact k
  obtain ⟨cq885, kq885, q885a, q885b, q885c⟩ := isOf hZ e0 P6
  obtain ⟨_, _, ⟨T885, L885, k885, n885⟩, -, X885, ⟨Lc885, hQ885, l885, y885, z885⟩, st885⟩ := X0.virtualBack hx (y := yN12) (z := yN12) hown (mvT hZ (own_w hw 122 rfl)) (mvT hZ (own_w hw 53 rfl)) (notFace_of_selects (args := #[]) (mvT hZ (own_w hw 55 rfl))) (mvT hZ (own_w hw 55 rfl)) (mvT hZ (own_w hw 54 rfl)) (by decide) (backOf (W := 0) (len_0 l Z a0 hw [] so bs ks (92 : Int32) us cs (92 : Int32) h0 n0 Z0 P6 P7 P8 P9 P10 hcs (by decide)) hZ (own_w hw 56 rfl) (own_w hw 9 rfl) (by decide) (by decide)) q885a q885c (g := (mkF m 10 #[.val (.ref sb), .val (.ref so), .unset] [(.ref so)])) rfl (by rw [hml]; rfl) (Steps.refl _) (argsL := []) (rest := []) (lenOf pd_15 rfl) rfl (own_W0 rfl) (od hby dc25 3 rfl) (fun _ _ => ⟨rfl, e0, (by decide : 0 + 0 ≤ _), (by decide : 0 + 0 ≤ _)⟩)
  dsimp only [Pt.U, Pt.locs, Pt.cells, Pt.slots] at X885 l885 y885 z885 st885 hQ885
  subst l885 y885 z885
  obtain ⟨rfl, Nq885, e885⟩ := hQ885
  have N885 := Fr.app N0 Nq885
  refine own_go (B := T885.setTop (mkF m 13 #[.val (.ref sb), .val (.ref so), .unset] [(.int 92)])) (fun t k => st885.trans k) ?_
  refine own_go (B := T885.setTop (mkF m 16 #[.val (.ref sb), .val (.ref so), .val (.int 92)] [(.ref sb), (.ref sb)])) (fun t k => ?_) ?_
  · refine XS.istoreN X885.here hx rfl (od hby dc25 4 rfl) rfl (l' := #[.val (.ref sb), .val (.ref so), .val (.int 92)]) rfl ?_
    refine XS.aloadN X885.here hx rfl (od hby dc25 5 rfl) rfl rfl ?_
    refine XS.aloadN X885.here hx rfl (od hby dc25 6 rfl) rfl rfl ?_
    exact k
  obtain ⟨T886, X886, e886, st886⟩ := getF X885 hx hZ hown (host := "") (Or.inl (own_w hw 123 rfl)) Via.refl e885 P3 (g := (mkF m 16 #[.val (.ref sb), .val (.ref so), .val (.int 92)] [(.ref sb), (.ref sb)])) rfl rfl (od hby dc25 7 rfl)
  refine own_go st886 ?_
  refine own_go (B := T886.setTop (mkF m 21 #[.val (.ref sb), .val (.ref so), .val (.int 92)] [(.int 92), (.ref sb)])) (fun t k => ?_) ?_
  · refine XS.iloadN X886.here hx rfl (od hby dc25 8 rfl) rfl ?_
    refine XS.iadd X886.here hx rfl (od hby dc25 9 rfl) rfl ?_
    exact k
  obtain ⟨cq887, q887, q887'⟩ := P0.cell
  obtain ⟨_, _, ⟨T887, L887, k887, n887⟩, -, X887, ⟨Lc887, hQ887, l887, y887, z887⟩, st887⟩ := X886.privateBack hx (y := yN35) hown (mvT hZ (own_w hw 125 rfl)) (mvT hZ (own_w hw 126 rfl)) (own_selp (mvT hZ (own_w hw 128 rfl)) rfl (Cond.privateMethod_at (mvP hZ (own_w hw 127 rfl) (args := #[]))) (mvT hZ (own_w hw 126 rfl)) (by decide)) (Cond.privateMethod_at (mvP hZ (own_w hw 127 rfl) (args := #[]))) (mvT hZ (own_w hw 129 rfl)) (by decide) (backOf (W := 0) (ecp_16 l Z a0 hw [] sb br kb ns (0 : Int32) h0 n0 Z0 P0 P1 P2 P3 P4 P5 g_sb ne_sb_br) hZ (own_w hw 129 rfl) (own_w hw 104 rfl) (by decide) (by decide)) (g := (mkF m 21 #[.val (.ref sb), .val (.ref so), .val (.int 92)] [(.int 92), (.ref sb)])) rfl (by rw [hml]; rfl) (Steps.refl _) (a := sb) (by rw [e886]; exact q887) q887' (argsL := [(.int 92)]) (rest := []) (lenOf pd_19 rfl) rfl (own_W0 rfl) (od hby dc25 10 rfl) (fun _ _ => ⟨rfl, e886, (by decide : 0 + 1 ≤ _), (by decide : 0 + 92 ≤ _)⟩)
  dsimp only [Pt.U, Pt.locs, Pt.cells, Pt.slots] at X887 l887 y887 z887 st887 hQ887
  subst l887 y887 z887
  obtain ⟨nr_887, kn_887, ys_887, rfl, Nq887, Kq887, sq_nr_887, pq887_0, U887_0, U887_1, U887_2, U887_3, U887_4, Pq887_0, Pq887_1⟩ := hQ887
  have ne_sb_nr_887 : sb ≠ nr_887 := Nat.ne_of_lt (Nat.lt_of_lt_of_le P0.lt sq_nr_887)
  have low_nr_887 : n0 ≤ nr_887 := Nat.le_trans Z0 sq_nr_887
  have sz_nr_887 : h0.size ≤ nr_887 := Nat.le_trans K0.1 sq_nr_887
  have Q888 := P0.keep Kq887
  have Q890 := P6.keep Kq887
  have Q891 := P7.keep Kq887 (ninS (Ne.symm ne_sb_so) nin0)
  have Q892 := P8.keep Kq887 (ninS (Ne.symm ne_sb_so) nin0)
  have Q893 := P9.keep Kq887 (ninS (Ne.symm ne_sb_bs) nin0)
  have Q894 := own_staK P10 Kq887 (nsS (own_nsE P0) ns0)
  have Z887 : n0 ≤ T887.heap.size := Nat.le_trans Z0 Kq887.1
  have K887 : Keep h0 T887.heap [sb] := K0.trans Kq887 (allS (Or.inl (List.mem_of_getElem? (i := 0) rfl)) all0)
  have N887 := Fr.app N885 Nq887
  refine own_go (B := T887.setTop (mkF m 24 #[.val (.ref sb), .val (.ref so), .val (.int 92)] [])) (fun t k => st887.trans k) ?_
  refine own_go (B := T887.setTop (mkF m 26 #[.val (.ref sb), .val (.ref so), .val (.int 92)] [(.ref sb), (.ref sb)])) (fun t k => ?_) ?_
  · refine XS.aloadN X887.here hx rfl (od hby dc25 11 rfl) rfl rfl ?_
    refine XS.aloadN X887.here hx rfl (od hby dc25 12 rfl) rfl rfl ?_
    exact k
  obtain ⟨T895, X895, e895, st895⟩ := getF X887 hx hZ hown (host := "") (Or.inl (own_w hw 123 rfl)) Via.refl rfl U887_2 (g := (mkF m 26 #[.val (.ref sb), .val (.ref so), .val (.int 92)] [(.ref sb), (.ref sb)])) rfl rfl (od hby dc25 13 rfl)
  refine own_go st895 ?_
  refine own_go (B := T895.setTop (mkF m 30 #[.val (.ref sb), .val (.ref so), .val (.int 92)] [(.ref so), (.int 0), (.ref sb)])) (fun t k => ?_) ?_
  · refine XS.aloadN X895.here hx rfl (od hby dc25 14 rfl) rfl rfl ?_
    exact k
  obtain ⟨cq896, q896, q896'⟩ := Q888.cell
  obtain ⟨_, _, ⟨T896, L896, k896, n896⟩, -, X896, ⟨Lc896, hQ896, l896, y896, z896⟩, st896⟩ := X895.privateBack hx (y := yN44) hown (mvT hZ (own_w hw 156 rfl)) (mvT hZ (own_w hw 157 rfl)) (own_selp (mvT hZ (own_w hw 128 rfl)) rfl (Cond.privateMethod_at (mvP hZ (own_w hw 158 rfl) (args := #[]))) (mvT hZ (own_w hw 157 rfl)) (by decide)) (Cond.privateMethod_at (mvP hZ (own_w hw 158 rfl) (args := #[]))) (mvT hZ (own_w hw 160 rfl)) (by decide) (backOf (W := 0) (psL l Z a0 hw [] sb (0 : Int32) so nr_887 bs ks (92 : Int32) us kn_887 (92 : Int32) ys_887 cs chl 0 92 92 T887.heap n0 Z887 Q888 U887_0 U887_1 Q890 Q891 Q892 Q893 U887_4 Q894 low_nr_887 hcs ot0 ot92 ot92 (by decide) Pq887_0 (own_LL Pq887_1 hpre (by decide)) hsrc) hZ (own_w hw 160 rfl) (own_w hw 104 rfl) (by decide) (by decide)) (g := (mkF m 30 #[.val (.ref sb), .val (.ref so), .val (.int 92)] [(.ref so), (.int 0), (.ref sb)])) rfl (by rw [hml]; rfl) (Steps.refl _) (a := sb) (by rw [e895]; exact q896) q896' (argsL := [(.int 0), (.ref so)]) (rest := []) (lenOf pd_29 rfl) rfl (own_W0 rfl) (od hby dc25 15 rfl) (fun _ _ => ⟨rfl, e895, (by decide : 1 + 0 ≤ _), (by decide : 92 + 0 ≤ _)⟩)
  dsimp only [Pt.U, Pt.locs, Pt.cells, Pt.slots] at X896 l896 y896 z896 st896 hQ896
  subst l896 y896 z896
  obtain ⟨ys_896, rfl, Nq896, Kq896, U896_0, Pq896_0, Pq896_1⟩ := hQ896
  have Q897 := Q888.keep Kq896
  have Q904 := U887_0.keep Kq896 (ninS ne_sb_nr_887 nin0)
  have Q905 := U887_1.keep Kq896 (ninS ne_sb_nr_887 nin0)
  have Q906 := U887_2.keep Kq896 (ninS ne_sb_nr_887 nin0)
  have Q907 := U887_3.keep Kq896 (ninS ne_sb_nr_887 nin0)
  have K896 : Keep h0 T896.heap [sb] := K887.trans Kq896 (allS (Or.inr sz_nr_887) all0)
  have N896 := Fr.app N887 Nq896
  refine own_go (B := T896.setTop (mkF m 33 #[.val (.ref sb), .val (.ref so), .val (.int 92)] [])) (fun t k => st896.trans k) ?_
  refine own_go (B := T896.setTop (mkF m 35 #[.val (.ref sb), .val (.ref so), .val (.int 92)] [(.ref sb), (.ref sb)])) (fun t k => ?_) ?_
  · refine XS.aloadN X896.here hx rfl (od hby dc25 16 rfl) rfl rfl ?_
    refine XS.dup X896.here hx rfl (od hby dc25 17 rfl) rfl rfl ?_
    exact k
  obtain ⟨T908, X908, e908, st908⟩ := getF X896 hx hZ hown (host := "") (Or.inl (own_w hw 123 rfl)) Via.refl rfl Q906 (g := (mkF m 35 #[.val (.ref sb), .val (.ref so), .val (.int 92)] [(.ref sb), (.ref sb)])) rfl rfl (od hby dc25 18 rfl)
  refine own_go st908 ?_
  refine own_go (B := T908.setTop (mkF m 40 #[.val (.ref sb), .val (.ref so), .val (.int 92)] [(.int 92), (.ref sb)])) (fun t k => ?_) ?_
  · refine XS.iloadN X908.here hx rfl (od hby dc25 19 rfl) rfl ?_
    refine XS.iadd X908.here hx rfl (od hby dc25 20 rfl) rfl ?_
    exact k
  obtain ⟨T909, h909, X909, e909, W909, st909⟩ := putF X908 hx hZ hown (host := "") (Or.inl (own_w hw 123 rfl)) Via.refl e908 Q906 Q897 (Or.inl (own_w hw 124 rfl)) (own_w hw 95 rfl) (ty := .int) (by decide) rfl rfl (g := (mkF m 40 #[.val (.ref sb), .val (.ref so), .val (.int 92)] [(.int 92), (.ref sb)])) rfl rfl (od hby dc25 21 rfl)
  have Q917 := Q904.other W909 (Or.inr (slot_ne (Or.inl (own_w hw 109 rfl)) (Or.inl (own_w hw 124 rfl)) (by decide) (t := (.array .byte)) (t' := .int) (by decide) (by decide)))
  have Q918 := Q905.other W909 (Or.inr (slot_ne (Or.inl (own_w hw 111 rfl)) (Or.inl (own_w hw 124 rfl)) (by decide) (t := .byte) (t' := .int) (by decide) (by decide)))
  have Q919 := Q907.other W909 (Or.inr (slot_ne (Or.inl (own_w hw 267 rfl)) (Or.inl (own_w hw 124 rfl)) (by decide) (t := .boolean) (t' := .int) (by decide) (by decide)))
  have Q920 := U896_0.other W909 (Ne.symm ne_sb_nr_887)
  have U909 : Fld Z h909 sb jA "count" "I" (.int 92) := Q906.same W909
  have N909 := Fr.snoc X909 N896 g_sb
  have K909 := K896.wr W909 (Or.inl (List.mem_of_getElem? (i := 0) rfl))
  refine own_go st909 ?_
  refine own_go (B := T909.setTop (mkF m 44 #[.val (.ref sb), .val (.ref so), .val (.int 92)] [(.ref sb)])) (fun t k => ?_) ?_
  · refine XS.aloadN X909.here hx rfl (od hby dc25 22 rfl) rfl rfl ?_
    exact k
  exact own_rA Bd X909 hx rfl rfl rfl (od hby dc25 23 rfl) (by rw [e909]; exact ⟨nr_887, kn_887, ys_896, rfl, N909, K909, sz_nr_887, ne_sb_nr_887, Q917, Q918, U909, Q919, Q920, Pq896_0, Pq896_1⟩) (by decide)
def QapG_92 (Z : State) (sb so br : Addr) (kb : ClassId) (ns : List Int32) (bs : Addr) (ks : ClassId) (us : List Int32) (cs : Int32) (chl : List Int32) (h0 : Heap) (n0 : Nat) (v : Option Value) (h : Heap) (L : List Loc) : Prop := ∃ nr : Addr, ∃ kn : ClassId, ∃ ys : List Int32, v = some (.ref sb) ∧ Fr n0 L ∧ Keep h0 h [sb] ∧ h0.size ≤ nr ∧ sb ≠ nr ∧ Fld Z h sb jA "value" "[B" (.ref nr) ∧ Fld Z h sb jA "coder" "B" (.int 0) ∧ Fld Z h sb jA "count" "I" (.int 93) ∧ Fld Z h sb jA "maybeLatin1" "Z" (.int 0) ∧ Arv Z h nr kn .byte (186 : Int32) (own_I ys) (.int 0) ∧ (ys.length = 186) ∧ (own_L ys chl 93)
theorem efapG_92 (m : MethodId) (x0 : Addr) (x1 : Addr) : entryFrame m #[(.ref x0), (.ref x1)] 3 = mkF m 0 #[.val (.ref x0), .val (.ref x1), .unset] [] := by first | (simp [entryFrame, mkF, argsToLocals, Value.category]; done) | rfl
set_option maxRecDepth 65536 in
set_option maxHeartbeats 40000000 in
theorem apG_92 (l : Launch) (Z : State) (a0 : Array Value) (hw : own_HW a0 Z) (ws : List Jvm.Cond) (sb so br : Addr) (kb : ClassId) (ns : List Int32) (bs : Addr) (ks : ClassId) (us : List Int32) (cs : Int32) (chl : List Int32) (h0 : Heap) (n0 : Nat) (Z0 : n0 ≤ h0.size) (P0 : Exa Z h0 sb jB) (P1 : Fld Z h0 sb jA "value" "[B" (.ref br)) (P2 : Fld Z h0 sb jA "coder" "B" (.int 0)) (P3 : Fld Z h0 sb jA "count" "I" (.int 92)) (P4 : Fld Z h0 sb jA "maybeLatin1" "Z" (.int 0)) (P5 : Arv Z h0 br kb .byte (92 : Int32) (own_I ns) (.int 0)) (P6 : Exa Z h0 so jS) (P7 : Fld Z h0 so jS "coder" "B" (.int 0)) (P8 : Fld Z h0 so jS "value" "[B" (.ref bs)) (P9 : Arv Z h0 bs ks .byte (1 : Int32) (own_I us) (.int 0)) (P10 : Sta Z h0 jS "COMPACT_STRINGS" "Z" (.int cs)) (g_sb : n0 ≤ sb) (ne_sb_br : sb ≠ br) (ne_sb_so : sb ≠ so) (ne_sb_bs : sb ≠ bs) (hcs : cs ≠ (0 : Int32)) (hpre : own_L ns chl 92) (hsrc : ∀ q, q < 1 → own_g8 (us.getD q 0) = chl.getD (92 + q) 0) :
    own_M l Z yN45 jdk_68_method_22_code 3 (some (.object jA)) ws (own_R 8 1 372 116) #[(.ref sb), (.ref so)] h0 (QapG_92 Z sb so br kb ns bs ks us cs chl h0 n0) := by
  refine own_b (own := jA) rfl (plainFor_of_name pn_6) (fun m => efapG_92 m sb so) n0 fun p e s m below meth c s₁ Bd hZ hx hby hml hown X0 e0 N0 => ?_
  have K0 : Keep h0 h0 [sb] := Keep.refl h0 _
  refine own_go (B := s₁.setTop (mkF m 10 #[.val (.ref sb), .val (.ref so), .unset] [(.ref so)])) (fun t k => ?_) ?_
  · refine XS.aloadN X0.here hx rfl (od hby dc25 0 rfl) rfl rfl ?_
    refine XS.ifnonnullYes X0.here hx rfl (pc0 := 1) (pc' := 9) rfl (od hby dc25 1 rfl) rfl (by decide) (by decide) ?_
    refine XS.aloadN X0.here hx rfl (od hby dc25 2 rfl) rfl rfl ?_
    exact k
  obtain ⟨cq921, kq921, q921a, q921b, q921c⟩ := isOf hZ e0 P6
  obtain ⟨_, _, ⟨T921, L921, k921, n921⟩, -, X921, ⟨Lc921, hQ921, l921, y921, z921⟩, st921⟩ := X0.virtualBack hx (y := yN12) (z := yN12) hown (mvT hZ (own_w hw 122 rfl)) (mvT hZ (own_w hw 53 rfl)) (notFace_of_selects (args := #[]) (mvT hZ (own_w hw 55 rfl))) (mvT hZ (own_w hw 55 rfl)) (mvT hZ (own_w hw 54 rfl)) (by decide) (backOf (W := 0) (len_0 l Z a0 hw [] so bs ks (1 : Int32) us cs (1 : Int32) h0 n0 Z0 P6 P7 P8 P9 P10 hcs (by decide)) hZ (own_w hw 56 rfl) (own_w hw 9 rfl) (by decide) (by decide)) q921a q921c (g := (mkF m 10 #[.val (.ref sb), .val (.ref so), .unset] [(.ref so)])) rfl (by rw [hml]; rfl) (Steps.refl _) (argsL := []) (rest := []) (lenOf pd_15 rfl) rfl (own_W0 rfl) (od hby dc25 3 rfl) (fun _ _ => ⟨rfl, e0, (by decide : 0 + 0 ≤ _), (by decide : 0 + 0 ≤ _)⟩)
  dsimp only [Pt.U, Pt.locs, Pt.cells, Pt.slots] at X921 l921 y921 z921 st921 hQ921
  subst l921 y921 z921
  obtain ⟨rfl, Nq921, e921⟩ := hQ921
  have N921 := Fr.app N0 Nq921
  refine own_go (B := T921.setTop (mkF m 13 #[.val (.ref sb), .val (.ref so), .unset] [(.int 1)])) (fun t k => st921.trans k) ?_
  refine own_go (B := T921.setTop (mkF m 16 #[.val (.ref sb), .val (.ref so), .val (.int 1)] [(.ref sb), (.ref sb)])) (fun t k => ?_) ?_
  · refine XS.istoreN X921.here hx rfl (od hby dc25 4 rfl) rfl (l' := #[.val (.ref sb), .val (.ref so), .val (.int 1)]) rfl ?_
    refine XS.aloadN X921.here hx rfl (od hby dc25 5 rfl) rfl rfl ?_
    refine XS.aloadN X921.here hx rfl (od hby dc25 6 rfl) rfl rfl ?_
    exact k
  obtain ⟨T922, X922, e922, st922⟩ := getF X921 hx hZ hown (host := "") (Or.inl (own_w hw 123 rfl)) Via.refl e921 P3 (g := (mkF m 16 #[.val (.ref sb), .val (.ref so), .val (.int 1)] [(.ref sb), (.ref sb)])) rfl rfl (od hby dc25 7 rfl)
  refine own_go st922 ?_
  refine own_go (B := T922.setTop (mkF m 21 #[.val (.ref sb), .val (.ref so), .val (.int 1)] [(.int 93), (.ref sb)])) (fun t k => ?_) ?_
  · refine XS.iloadN X922.here hx rfl (od hby dc25 8 rfl) rfl ?_
    refine XS.iadd X922.here hx rfl (od hby dc25 9 rfl) rfl ?_
    exact k
  obtain ⟨cq923, q923, q923'⟩ := P0.cell
  obtain ⟨_, _, ⟨T923, L923, k923, n923⟩, -, X923, ⟨Lc923, hQ923, l923, y923, z923⟩, st923⟩ := X922.privateBack hx (y := yN35) hown (mvT hZ (own_w hw 125 rfl)) (mvT hZ (own_w hw 126 rfl)) (own_selp (mvT hZ (own_w hw 128 rfl)) rfl (Cond.privateMethod_at (mvP hZ (own_w hw 127 rfl) (args := #[]))) (mvT hZ (own_w hw 126 rfl)) (by decide)) (Cond.privateMethod_at (mvP hZ (own_w hw 127 rfl) (args := #[]))) (mvT hZ (own_w hw 129 rfl)) (by decide) (backOf (W := 0) (ecp_92 l Z a0 hw [] sb br kb ns (92 : Int32) h0 n0 Z0 P0 P1 P2 P3 P4 P5 g_sb ne_sb_br) hZ (own_w hw 129 rfl) (own_w hw 104 rfl) (by decide) (by decide)) (g := (mkF m 21 #[.val (.ref sb), .val (.ref so), .val (.int 1)] [(.int 93), (.ref sb)])) rfl (by rw [hml]; rfl) (Steps.refl _) (a := sb) (by rw [e922]; exact q923) q923' (argsL := [(.int 93)]) (rest := []) (lenOf pd_19 rfl) rfl (own_W0 rfl) (od hby dc25 10 rfl) (fun _ _ => ⟨rfl, e922, (by decide : 0 + 1 ≤ _), (by decide : 0 + 186 ≤ _)⟩)
  dsimp only [Pt.U, Pt.locs, Pt.cells, Pt.slots] at X923 l923 y923 z923 st923 hQ923
  subst l923 y923 z923
  obtain ⟨nr_923, kn_923, ys_923, rfl, Nq923, Kq923, sq_nr_923, pq923_0, U923_0, U923_1, U923_2, U923_3, U923_4, Pq923_0, Pq923_1⟩ := hQ923
  have ne_sb_nr_923 : sb ≠ nr_923 := Nat.ne_of_lt (Nat.lt_of_lt_of_le P0.lt sq_nr_923)
  have low_nr_923 : n0 ≤ nr_923 := Nat.le_trans Z0 sq_nr_923
  have sz_nr_923 : h0.size ≤ nr_923 := Nat.le_trans K0.1 sq_nr_923
  have Q924 := P0.keep Kq923
  have Q926 := P6.keep Kq923
  have Q927 := P7.keep Kq923 (ninS (Ne.symm ne_sb_so) nin0)
  have Q928 := P8.keep Kq923 (ninS (Ne.symm ne_sb_so) nin0)
  have Q929 := P9.keep Kq923 (ninS (Ne.symm ne_sb_bs) nin0)
  have Q930 := own_staK P10 Kq923 (nsS (own_nsE P0) ns0)
  have Z923 : n0 ≤ T923.heap.size := Nat.le_trans Z0 Kq923.1
  have K923 : Keep h0 T923.heap [sb] := K0.trans Kq923 (allS (Or.inl (List.mem_of_getElem? (i := 0) rfl)) all0)
  have N923 := Fr.app N921 Nq923
  refine own_go (B := T923.setTop (mkF m 24 #[.val (.ref sb), .val (.ref so), .val (.int 1)] [])) (fun t k => st923.trans k) ?_
  refine own_go (B := T923.setTop (mkF m 26 #[.val (.ref sb), .val (.ref so), .val (.int 1)] [(.ref sb), (.ref sb)])) (fun t k => ?_) ?_
  · refine XS.aloadN X923.here hx rfl (od hby dc25 11 rfl) rfl rfl ?_
    refine XS.aloadN X923.here hx rfl (od hby dc25 12 rfl) rfl rfl ?_
    exact k
  obtain ⟨T931, X931, e931, st931⟩ := getF X923 hx hZ hown (host := "") (Or.inl (own_w hw 123 rfl)) Via.refl rfl U923_2 (g := (mkF m 26 #[.val (.ref sb), .val (.ref so), .val (.int 1)] [(.ref sb), (.ref sb)])) rfl rfl (od hby dc25 13 rfl)
  refine own_go st931 ?_
  refine own_go (B := T931.setTop (mkF m 30 #[.val (.ref sb), .val (.ref so), .val (.int 1)] [(.ref so), (.int 92), (.ref sb)])) (fun t k => ?_) ?_
  · refine XS.aloadN X931.here hx rfl (od hby dc25 14 rfl) rfl rfl ?_
    exact k
  obtain ⟨cq932, q932, q932'⟩ := Q924.cell
  obtain ⟨_, _, ⟨T932, L932, k932, n932⟩, -, X932, ⟨Lc932, hQ932, l932, y932, z932⟩, st932⟩ := X931.privateBack hx (y := yN44) hown (mvT hZ (own_w hw 156 rfl)) (mvT hZ (own_w hw 157 rfl)) (own_selp (mvT hZ (own_w hw 128 rfl)) rfl (Cond.privateMethod_at (mvP hZ (own_w hw 158 rfl) (args := #[]))) (mvT hZ (own_w hw 157 rfl)) (by decide)) (Cond.privateMethod_at (mvP hZ (own_w hw 158 rfl) (args := #[]))) (mvT hZ (own_w hw 160 rfl)) (by decide) (backOf (W := 0) (psL l Z a0 hw [] sb (92 : Int32) so nr_923 bs ks (1 : Int32) us kn_923 (186 : Int32) ys_923 cs chl 92 1 186 T923.heap n0 Z923 Q924 U923_0 U923_1 Q926 Q927 Q928 Q929 U923_4 Q930 low_nr_923 hcs ot92 ot1 ot186 (by decide) Pq923_0 (own_LL Pq923_1 hpre (by decide)) hsrc) hZ (own_w hw 160 rfl) (own_w hw 104 rfl) (by decide) (by decide)) (g := (mkF m 30 #[.val (.ref sb), .val (.ref so), .val (.int 1)] [(.ref so), (.int 92), (.ref sb)])) rfl (by rw [hml]; rfl) (Steps.refl _) (a := sb) (by rw [e931]; exact q932) q932' (argsL := [(.int 92), (.ref so)]) (rest := []) (lenOf pd_29 rfl) rfl (own_W0 rfl) (od hby dc25 15 rfl) (fun _ _ => ⟨rfl, e931, (by decide : 1 + 0 ≤ _), (by decide : 186 + 0 ≤ _)⟩)
  dsimp only [Pt.U, Pt.locs, Pt.cells, Pt.slots] at X932 l932 y932 z932 st932 hQ932
  subst l932 y932 z932
  obtain ⟨ys_932, rfl, Nq932, Kq932, U932_0, Pq932_0, Pq932_1⟩ := hQ932
  have Q933 := Q924.keep Kq932
  have Q940 := U923_0.keep Kq932 (ninS ne_sb_nr_923 nin0)
  have Q941 := U923_1.keep Kq932 (ninS ne_sb_nr_923 nin0)
  have Q942 := U923_2.keep Kq932 (ninS ne_sb_nr_923 nin0)
  have Q943 := U923_3.keep Kq932 (ninS ne_sb_nr_923 nin0)
  have K932 : Keep h0 T932.heap [sb] := K923.trans Kq932 (allS (Or.inr sz_nr_923) all0)
  have N932 := Fr.app N923 Nq932
  refine own_go (B := T932.setTop (mkF m 33 #[.val (.ref sb), .val (.ref so), .val (.int 1)] [])) (fun t k => st932.trans k) ?_
  refine own_go (B := T932.setTop (mkF m 35 #[.val (.ref sb), .val (.ref so), .val (.int 1)] [(.ref sb), (.ref sb)])) (fun t k => ?_) ?_
  · refine XS.aloadN X932.here hx rfl (od hby dc25 16 rfl) rfl rfl ?_
    refine XS.dup X932.here hx rfl (od hby dc25 17 rfl) rfl rfl ?_
    exact k
  obtain ⟨T944, X944, e944, st944⟩ := getF X932 hx hZ hown (host := "") (Or.inl (own_w hw 123 rfl)) Via.refl rfl Q942 (g := (mkF m 35 #[.val (.ref sb), .val (.ref so), .val (.int 1)] [(.ref sb), (.ref sb)])) rfl rfl (od hby dc25 18 rfl)
  refine own_go st944 ?_
  refine own_go (B := T944.setTop (mkF m 40 #[.val (.ref sb), .val (.ref so), .val (.int 1)] [(.int 93), (.ref sb)])) (fun t k => ?_) ?_
  · refine XS.iloadN X944.here hx rfl (od hby dc25 19 rfl) rfl ?_
    refine XS.iadd X944.here hx rfl (od hby dc25 20 rfl) rfl ?_
    exact k
  obtain ⟨T945, h945, X945, e945, W945, st945⟩ := putF X944 hx hZ hown (host := "") (Or.inl (own_w hw 123 rfl)) Via.refl e944 Q942 Q933 (Or.inl (own_w hw 124 rfl)) (own_w hw 95 rfl) (ty := .int) (by decide) rfl rfl (g := (mkF m 40 #[.val (.ref sb), .val (.ref so), .val (.int 1)] [(.int 93), (.ref sb)])) rfl rfl (od hby dc25 21 rfl)
  have Q953 := Q940.other W945 (Or.inr (slot_ne (Or.inl (own_w hw 109 rfl)) (Or.inl (own_w hw 124 rfl)) (by decide) (t := (.array .byte)) (t' := .int) (by decide) (by decide)))
  have Q954 := Q941.other W945 (Or.inr (slot_ne (Or.inl (own_w hw 111 rfl)) (Or.inl (own_w hw 124 rfl)) (by decide) (t := .byte) (t' := .int) (by decide) (by decide)))
  have Q955 := Q943.other W945 (Or.inr (slot_ne (Or.inl (own_w hw 267 rfl)) (Or.inl (own_w hw 124 rfl)) (by decide) (t := .boolean) (t' := .int) (by decide) (by decide)))
  have Q956 := U932_0.other W945 (Ne.symm ne_sb_nr_923)
  have U945 : Fld Z h945 sb jA "count" "I" (.int 93) := Q942.same W945
  have N945 := Fr.snoc X945 N932 g_sb
  have K945 := K932.wr W945 (Or.inl (List.mem_of_getElem? (i := 0) rfl))
  refine own_go st945 ?_
  refine own_go (B := T945.setTop (mkF m 44 #[.val (.ref sb), .val (.ref so), .val (.int 1)] [(.ref sb)])) (fun t k => ?_) ?_
  · refine XS.aloadN X945.here hx rfl (od hby dc25 22 rfl) rfl rfl ?_
    exact k
  exact own_rA Bd X945 hx rfl rfl rfl (od hby dc25 23 rfl) (by rw [e945]; exact ⟨nr_923, kn_923, ys_932, rfl, N945, K945, sz_nr_923, ne_sb_nr_923, Q953, Q954, U945, Q955, Q956, Pq932_0, Pq932_1⟩) (by decide)
def QapN (Z : State) (sb so br : Addr) (kb : ClassId) (ns : List Int32) (bs : Addr) (ks : ClassId) (za : Int32) (us : List Int32) (cs : Int32) (chl : List Int32) (zc : Int32) (ck nn : Nat) (h0 : Heap) (n0 : Nat) (v : Option Value) (h : Heap) (L : List Loc) : Prop := ∃ ys : List Int32, v = some (.ref sb) ∧ Fr n0 L ∧ Keep h0 h [sb, br] ∧ Fld Z h sb jA "value" "[B" (.ref br) ∧ Fld Z h sb jA "coder" "B" (.int 0) ∧ Fld Z h sb jA "count" "I" (.int (zc + za)) ∧ Fld Z h sb jA "maybeLatin1" "Z" (.int 0) ∧ Arv Z h br kb .byte (186 : Int32) (own_I ys) (.int 0) ∧ (ys.length = 186) ∧ (own_L ys chl (ck + nn))
theorem efapN (m : MethodId) (x0 : Addr) (x1 : Addr) : entryFrame m #[(.ref x0), (.ref x1)] 3 = mkF m 0 #[.val (.ref x0), .val (.ref x1), .unset] [] := by first | (simp [entryFrame, mkF, argsToLocals, Value.category]; done) | rfl
set_option maxRecDepth 65536 in
set_option maxHeartbeats 40000000 in
theorem apN (l : Launch) (Z : State) (a0 : Array Value) (hw : own_HW a0 Z) (ws : List Jvm.Cond) (sb so br : Addr) (kb : ClassId) (ns : List Int32) (bs : Addr) (ks : ClassId) (za : Int32) (us : List Int32) (cs : Int32) (chl : List Int32) (zc : Int32) (ck nn : Nat) (h0 : Heap) (n0 : Nat) (Z0 : n0 ≤ h0.size) (P0 : Exa Z h0 sb jB) (P1 : Fld Z h0 sb jA "value" "[B" (.ref br)) (P2 : Fld Z h0 sb jA "coder" "B" (.int 0)) (P3 : Fld Z h0 sb jA "count" "I" (.int zc)) (P4 : Fld Z h0 sb jA "maybeLatin1" "Z" (.int 0)) (P5 : Arv Z h0 br kb .byte (186 : Int32) (own_I ns) (.int 0)) (P6 : Exa Z h0 so jS) (P7 : Fld Z h0 so jS "coder" "B" (.int 0)) (P8 : Fld Z h0 so jS "value" "[B" (.ref bs)) (P9 : Arv Z h0 bs ks .byte za (own_I us) (.int 0)) (P10 : Sta Z h0 jS "COMPACT_STRINGS" "Z" (.int cs)) (g_sb : n0 ≤ sb) (g_br : n0 ≤ br) (ne_sb_br : sb ≠ br) (hcs : cs ≠ (0 : Int32)) (hc : zc.toInt = (ck : Int)) (hn : za.toInt = (nn : Int)) (hbb : ck + nn ≤ 186) (hnl : ns.length = 186) (hpre : own_L ns chl ck) (hsrc : ∀ q, q < nn → own_g8 (us.getD q 0) = chl.getD (ck + q) 0) :
    own_M l Z yN45 jdk_68_method_22_code 3 (some (.object jA)) ws (own_R 8 1 372 116) #[(.ref sb), (.ref so)] h0 (QapN Z sb so br kb ns bs ks za us cs chl zc ck nn h0 n0) := by
  refine own_b (own := jA) rfl (plainFor_of_name pn_6) (fun m => efapN m sb so) n0 fun p e s m below meth c s₁ Bd hZ hx hby hml hown X0 e0 N0 => ?_
  have K0 : Keep h0 h0 [sb, br] := Keep.refl h0 _
  refine own_go (B := s₁.setTop (mkF m 10 #[.val (.ref sb), .val (.ref so), .unset] [(.ref so)])) (fun t k => ?_) ?_
  · refine XS.aloadN X0.here hx rfl (od hby dc25 0 rfl) rfl rfl ?_
    refine XS.ifnonnullYes X0.here hx rfl (pc0 := 1) (pc' := 9) rfl (od hby dc25 1 rfl) rfl (by decide) (by decide) ?_
    refine XS.aloadN X0.here hx rfl (od hby dc25 2 rfl) rfl rfl ?_
    exact k
  obtain ⟨cq957, kq957, q957a, q957b, q957c⟩ := isOf hZ e0 P6
  obtain ⟨_, _, ⟨T957, L957, k957, n957⟩, -, X957, ⟨Lc957, hQ957, l957, y957, z957⟩, st957⟩ := X0.virtualBack hx (y := yN12) (z := yN12) hown (mvT hZ (own_w hw 122 rfl)) (mvT hZ (own_w hw 53 rfl)) (notFace_of_selects (args := #[]) (mvT hZ (own_w hw 55 rfl))) (mvT hZ (own_w hw 55 rfl)) (mvT hZ (own_w hw 54 rfl)) (by decide) (backOf (W := 0) (len_0 l Z a0 hw [] so bs ks za us cs za h0 n0 Z0 P6 P7 P8 P9 P10 hcs (own_shr0 _)) hZ (own_w hw 56 rfl) (own_w hw 9 rfl) (by decide) (by decide)) q957a q957c (g := (mkF m 10 #[.val (.ref sb), .val (.ref so), .unset] [(.ref so)])) rfl (by rw [hml]; rfl) (Steps.refl _) (argsL := []) (rest := []) (lenOf pd_15 rfl) rfl (own_W0 rfl) (od hby dc25 3 rfl) (fun _ _ => ⟨rfl, e0, (by decide : 0 + 0 ≤ _), (by decide : 0 + 0 ≤ _)⟩)
  dsimp only [Pt.U, Pt.locs, Pt.cells, Pt.slots] at X957 l957 y957 z957 st957 hQ957
  subst l957 y957 z957
  obtain ⟨rfl, Nq957, e957⟩ := hQ957
  have N957 := Fr.app N0 Nq957
  refine own_go (B := T957.setTop (mkF m 13 #[.val (.ref sb), .val (.ref so), .unset] [(.int za)])) (fun t k => st957.trans k) ?_
  refine own_go (B := T957.setTop (mkF m 16 #[.val (.ref sb), .val (.ref so), .val (.int za)] [(.ref sb), (.ref sb)])) (fun t k => ?_) ?_
  · refine XS.istoreN X957.here hx rfl (od hby dc25 4 rfl) rfl (l' := #[.val (.ref sb), .val (.ref so), .val (.int za)]) rfl ?_
    refine XS.aloadN X957.here hx rfl (od hby dc25 5 rfl) rfl rfl ?_
    refine XS.aloadN X957.here hx rfl (od hby dc25 6 rfl) rfl rfl ?_
    exact k
  obtain ⟨T958, X958, e958, st958⟩ := getF X957 hx hZ hown (host := "") (Or.inl (own_w hw 123 rfl)) Via.refl e957 P3 (g := (mkF m 16 #[.val (.ref sb), .val (.ref so), .val (.int za)] [(.ref sb), (.ref sb)])) rfl rfl (od hby dc25 7 rfl)
  refine own_go st958 ?_
  refine own_go (B := T958.setTop (mkF m 21 #[.val (.ref sb), .val (.ref so), .val (.int za)] [(.int (zc + za)), (.ref sb)])) (fun t k => ?_) ?_
  · refine XS.iloadN X958.here hx rfl (od hby dc25 8 rfl) rfl ?_
    refine XS.iadd X958.here hx rfl (od hby dc25 9 rfl) rfl ?_
    exact k
  obtain ⟨cq959, q959, q959'⟩ := P0.cell
  obtain ⟨_, _, ⟨T959, L959, k959, n959⟩, -, X959, ⟨Lc959, hQ959, l959, y959, z959⟩, st959⟩ := X958.privateBack hx (y := yN35) hown (mvT hZ (own_w hw 125 rfl)) (mvT hZ (own_w hw 126 rfl)) (own_selp (mvT hZ (own_w hw 128 rfl)) rfl (Cond.privateMethod_at (mvP hZ (own_w hw 127 rfl) (args := #[]))) (mvT hZ (own_w hw 126 rfl)) (by decide)) (Cond.privateMethod_at (mvP hZ (own_w hw 127 rfl) (args := #[]))) (mvT hZ (own_w hw 129 rfl)) (by decide) (backOf (W := 0) (ecn_0 l Z a0 hw [] sb (zc + za) br kb ns h0 n0 Z0 P1 P2 P5 (own_le0 (own_addn hc hn (by omega)) hbb)) hZ (own_w hw 129 rfl) (own_w hw 104 rfl) (by decide) (by decide)) (g := (mkF m 21 #[.val (.ref sb), .val (.ref so), .val (.int za)] [(.int (zc + za)), (.ref sb)])) rfl (by rw [hml]; rfl) (Steps.refl _) (a := sb) (by rw [e958]; exact q959) q959' (argsL := [(.int (zc + za))]) (rest := []) (lenOf pd_19 rfl) rfl (own_W0 rfl) (od hby dc25 10 rfl) (fun _ _ => ⟨rfl, e958, (by decide : 0 + 0 ≤ _), (by decide : 0 + 0 ≤ _)⟩)
  dsimp only [Pt.U, Pt.locs, Pt.cells, Pt.slots] at X959 l959 y959 z959 st959 hQ959
  subst l959 y959 z959
  obtain ⟨rfl, Nq959, e959⟩ := hQ959
  have N959 := Fr.app N957 Nq959
  refine own_go (B := T959.setTop (mkF m 24 #[.val (.ref sb), .val (.ref so), .val (.int za)] [])) (fun t k => st959.trans k) ?_
  refine own_go (B := T959.setTop (mkF m 26 #[.val (.ref sb), .val (.ref so), .val (.int za)] [(.ref sb), (.ref sb)])) (fun t k => ?_) ?_
  · refine XS.aloadN X959.here hx rfl (od hby dc25 11 rfl) rfl rfl ?_
    refine XS.aloadN X959.here hx rfl (od hby dc25 12 rfl) rfl rfl ?_
    exact k
  obtain ⟨T960, X960, e960, st960⟩ := getF X959 hx hZ hown (host := "") (Or.inl (own_w hw 123 rfl)) Via.refl e959 P3 (g := (mkF m 26 #[.val (.ref sb), .val (.ref so), .val (.int za)] [(.ref sb), (.ref sb)])) rfl rfl (od hby dc25 13 rfl)
  refine own_go st960 ?_
  refine own_go (B := T960.setTop (mkF m 30 #[.val (.ref sb), .val (.ref so), .val (.int za)] [(.ref so), (.int zc), (.ref sb)])) (fun t k => ?_) ?_
  · refine XS.aloadN X960.here hx rfl (od hby dc25 14 rfl) rfl rfl ?_
    exact k
  obtain ⟨cq961, q961, q961'⟩ := P0.cell
  obtain ⟨_, _, ⟨T961, L961, k961, n961⟩, -, X961, ⟨Lc961, hQ961, l961, y961, z961⟩, st961⟩ := X960.privateBack hx (y := yN44) hown (mvT hZ (own_w hw 156 rfl)) (mvT hZ (own_w hw 157 rfl)) (own_selp (mvT hZ (own_w hw 128 rfl)) rfl (Cond.privateMethod_at (mvP hZ (own_w hw 158 rfl) (args := #[]))) (mvT hZ (own_w hw 157 rfl)) (by decide)) (Cond.privateMethod_at (mvP hZ (own_w hw 158 rfl) (args := #[]))) (mvT hZ (own_w hw 160 rfl)) (by decide) (backOf (W := 0) (psL l Z a0 hw [] sb zc so br bs ks za us kb (186 : Int32) ns cs chl ck nn 186 h0 n0 Z0 P0 P1 P2 P6 P7 P8 P9 P5 P10 g_br hcs hc hn ot186 hbb hnl hpre hsrc) hZ (own_w hw 160 rfl) (own_w hw 104 rfl) (by decide) (by decide)) (g := (mkF m 30 #[.val (.ref sb), .val (.ref so), .val (.int za)] [(.ref so), (.int zc), (.ref sb)])) rfl (by rw [hml]; rfl) (Steps.refl _) (a := sb) (by rw [e960]; exact q961) q961' (argsL := [(.int zc), (.ref so)]) (rest := []) (lenOf pd_29 rfl) rfl (own_W0 rfl) (od hby dc25 15 rfl) (fun _ _ => ⟨rfl, e960, (by decide : 0 + 0 ≤ _), (by decide : 0 + 0 ≤ _)⟩)
  dsimp only [Pt.U, Pt.locs, Pt.cells, Pt.slots] at X961 l961 y961 z961 st961 hQ961
  subst l961 y961 z961
  obtain ⟨ys_961, rfl, Nq961, Kq961, U961_0, Pq961_0, Pq961_1⟩ := hQ961
  have Q962 := P0.keep Kq961
  have Q963 := P1.keep Kq961 (ninS ne_sb_br nin0)
  have Q964 := P2.keep Kq961 (ninS ne_sb_br nin0)
  have Q965 := P3.keep Kq961 (ninS ne_sb_br nin0)
  have Q966 := P4.keep Kq961 (ninS ne_sb_br nin0)
  have K961 : Keep h0 T961.heap [sb, br] := K0.trans Kq961 (allS (Or.inl (List.mem_of_getElem? (i := 1) rfl)) all0)
  have N961 := Fr.app N959 Nq961
  refine own_go (B := T961.setTop (mkF m 33 #[.val (.ref sb), .val (.ref so), .val (.int za)] [])) (fun t k => st961.trans k) ?_
  refine own_go (B := T961.setTop (mkF m 35 #[.val (.ref sb), .val (.ref so), .val (.int za)] [(.ref sb), (.ref sb)])) (fun t k => ?_) ?_
  · refine XS.aloadN X961.here hx rfl (od hby dc25 16 rfl) rfl rfl ?_
    refine XS.dup X961.here hx rfl (od hby dc25 17 rfl) rfl rfl ?_
    exact k
  obtain ⟨T969, X969, e969, st969⟩ := getF X961 hx hZ hown (host := "") (Or.inl (own_w hw 123 rfl)) Via.refl rfl Q965 (g := (mkF m 35 #[.val (.ref sb), .val (.ref so), .val (.int za)] [(.ref sb), (.ref sb)])) rfl rfl (od hby dc25 18 rfl)
  refine own_go st969 ?_
  refine own_go (B := T969.setTop (mkF m 40 #[.val (.ref sb), .val (.ref so), .val (.int za)] [(.int (zc + za)), (.ref sb)])) (fun t k => ?_) ?_
  · refine XS.iloadN X969.here hx rfl (od hby dc25 19 rfl) rfl ?_
    refine XS.iadd X969.here hx rfl (od hby dc25 20 rfl) rfl ?_
    exact k
  obtain ⟨T970, h970, X970, e970, W970, st970⟩ := putF X969 hx hZ hown (host := "") (Or.inl (own_w hw 123 rfl)) Via.refl e969 Q965 Q962 (Or.inl (own_w hw 124 rfl)) (own_w hw 95 rfl) (ty := .int) (by decide) rfl rfl (g := (mkF m 40 #[.val (.ref sb), .val (.ref so), .val (.int za)] [(.int (zc + za)), (.ref sb)])) rfl rfl (od hby dc25 21 rfl)
  have Q972 := Q963.other W970 (Or.inr (slot_ne (Or.inl (own_w hw 109 rfl)) (Or.inl (own_w hw 124 rfl)) (by decide) (t := (.array .byte)) (t' := .int) (by decide) (by decide)))
  have Q973 := Q964.other W970 (Or.inr (slot_ne (Or.inl (own_w hw 111 rfl)) (Or.inl (own_w hw 124 rfl)) (by decide) (t := .byte) (t' := .int) (by decide) (by decide)))
  have Q974 := Q966.other W970 (Or.inr (slot_ne (Or.inl (own_w hw 267 rfl)) (Or.inl (own_w hw 124 rfl)) (by decide) (t := .boolean) (t' := .int) (by decide) (by decide)))
  have Q977 := U961_0.other W970 (Ne.symm ne_sb_br)
  have U970 : Fld Z h970 sb jA "count" "I" (.int (zc + za)) := Q965.same W970
  have N970 := Fr.snoc X970 N961 g_sb
  have K970 := K961.wr W970 (Or.inl (List.mem_of_getElem? (i := 0) rfl))
  refine own_go st970 ?_
  refine own_go (B := T970.setTop (mkF m 44 #[.val (.ref sb), .val (.ref so), .val (.int za)] [(.ref sb)])) (fun t k => ?_) ?_
  · refine XS.aloadN X970.here hx rfl (od hby dc25 22 rfl) rfl rfl ?_
    exact k
  exact own_rA Bd X970 hx rfl rfl rfl (od hby dc25 23 rfl) (by rw [e970]; exact ⟨ys_961, rfl, N970, K970, Q972, Q973, U970, Q974, Q977, Pq961_0, Pq961_1⟩) (by decide)
def QapI (Z : State) (sb so br : Addr) (kb : ClassId) (ns : List Int32) (bs : Addr) (ks : ClassId) (za : Int32) (us : List Int32) (cs : Int32) (chl : List Int32) (zc : Int32) (ck nn : Nat) (h0 : Heap) (n0 : Nat) (v : Option Value) (h : Heap) (L : List Loc) : Prop := ∃ ys : List Int32, v = some (.ref sb) ∧ Fr n0 L ∧ Keep h0 h [sb, br] ∧ Fld Z h sb jA "value" "[B" (.ref br) ∧ Fld Z h sb jA "coder" "B" (.int 1) ∧ Fld Z h sb jA "count" "I" (.int (zc + za)) ∧ Fld Z h sb jA "maybeLatin1" "Z" (.int 0) ∧ Arv Z h br kb .byte (372 : Int32) (own_I ys) (.int 0) ∧ (ys.length = 372) ∧ (own_U ys chl (ck + nn))
theorem efapI (m : MethodId) (x0 : Addr) (x1 : Addr) : entryFrame m #[(.ref x0), (.ref x1)] 3 = mkF m 0 #[.val (.ref x0), .val (.ref x1), .unset] [] := by first | (simp [entryFrame, mkF, argsToLocals, Value.category]; done) | rfl
set_option maxRecDepth 65536 in
set_option maxHeartbeats 40000000 in
theorem apI (l : Launch) (Z : State) (a0 : Array Value) (hw : own_HW a0 Z) (ws : List Jvm.Cond) (sb so br : Addr) (kb : ClassId) (ns : List Int32) (bs : Addr) (ks : ClassId) (za : Int32) (us : List Int32) (cs : Int32) (chl : List Int32) (zc : Int32) (ck nn : Nat) (h0 : Heap) (n0 : Nat) (Z0 : n0 ≤ h0.size) (P0 : Exa Z h0 sb jB) (P1 : Fld Z h0 sb jA "value" "[B" (.ref br)) (P2 : Fld Z h0 sb jA "coder" "B" (.int 1)) (P3 : Fld Z h0 sb jA "count" "I" (.int zc)) (P4 : Fld Z h0 sb jA "maybeLatin1" "Z" (.int 0)) (P5 : Arv Z h0 br kb .byte (372 : Int32) (own_I ns) (.int 0)) (P6 : Exa Z h0 so jS) (P7 : Fld Z h0 so jS "coder" "B" (.int 0)) (P8 : Fld Z h0 so jS "value" "[B" (.ref bs)) (P9 : Arv Z h0 bs ks .byte za (own_I us) (.int 0)) (P10 : Sta Z h0 jS "COMPACT_STRINGS" "Z" (.int cs)) (P11 : own_SI Z h0) (P12 : Sta Z h0 jU "$assertionsDisabled" "Z" (.int 1)) (P13 : Sta Z h0 jU "HI_BYTE_SHIFT" "I" (.int 0)) (P14 : Sta Z h0 jU "LO_BYTE_SHIFT" "I" (.int 8)) (g_sb : n0 ≤ sb) (g_br : n0 ≤ br) (ne_sb_br : sb ≠ br) (ne_bs_br : bs ≠ br) (hcs : cs ≠ (0 : Int32)) (hc : zc.toInt = (ck : Int)) (hn : za.toInt = (nn : Int)) (hbb : ck + nn ≤ 186) (hnl : ns.length = 372) (hpre : own_U ns chl ck) (hsrc : ∀ q, q < nn → own_g8 (us.getD q 0) = chl.getD (ck + q) 0) :
    own_M l Z yN45 jdk_68_method_22_code 3 (some (.object jA)) ws (own_R 8 1 372 116) #[(.ref sb), (.ref so)] h0 (QapI Z sb so br kb ns bs ks za us cs chl zc ck nn h0 n0) := by
  refine own_b (own := jA) rfl (plainFor_of_name pn_6) (fun m => efapI m sb so) n0 fun p e s m below meth c s₁ Bd hZ hx hby hml hown X0 e0 N0 => ?_
  have K0 : Keep h0 h0 [sb, br] := Keep.refl h0 _
  refine own_go (B := s₁.setTop (mkF m 10 #[.val (.ref sb), .val (.ref so), .unset] [(.ref so)])) (fun t k => ?_) ?_
  · refine XS.aloadN X0.here hx rfl (od hby dc25 0 rfl) rfl rfl ?_
    refine XS.ifnonnullYes X0.here hx rfl (pc0 := 1) (pc' := 9) rfl (od hby dc25 1 rfl) rfl (by decide) (by decide) ?_
    refine XS.aloadN X0.here hx rfl (od hby dc25 2 rfl) rfl rfl ?_
    exact k
  obtain ⟨cq978, kq978, q978a, q978b, q978c⟩ := isOf hZ e0 P6
  obtain ⟨_, _, ⟨T978, L978, k978, n978⟩, -, X978, ⟨Lc978, hQ978, l978, y978, z978⟩, st978⟩ := X0.virtualBack hx (y := yN12) (z := yN12) hown (mvT hZ (own_w hw 122 rfl)) (mvT hZ (own_w hw 53 rfl)) (notFace_of_selects (args := #[]) (mvT hZ (own_w hw 55 rfl))) (mvT hZ (own_w hw 55 rfl)) (mvT hZ (own_w hw 54 rfl)) (by decide) (backOf (W := 0) (len_0 l Z a0 hw [] so bs ks za us cs za h0 n0 Z0 P6 P7 P8 P9 P10 hcs (own_shr0 _)) hZ (own_w hw 56 rfl) (own_w hw 9 rfl) (by decide) (by decide)) q978a q978c (g := (mkF m 10 #[.val (.ref sb), .val (.ref so), .unset] [(.ref so)])) rfl (by rw [hml]; rfl) (Steps.refl _) (argsL := []) (rest := []) (lenOf pd_15 rfl) rfl (own_W0 rfl) (od hby dc25 3 rfl) (fun _ _ => ⟨rfl, e0, (by decide : 0 + 0 ≤ _), (by decide : 0 + 0 ≤ _)⟩)
  dsimp only [Pt.U, Pt.locs, Pt.cells, Pt.slots] at X978 l978 y978 z978 st978 hQ978
  subst l978 y978 z978
  obtain ⟨rfl, Nq978, e978⟩ := hQ978
  have N978 := Fr.app N0 Nq978
  refine own_go (B := T978.setTop (mkF m 13 #[.val (.ref sb), .val (.ref so), .unset] [(.int za)])) (fun t k => st978.trans k) ?_
  refine own_go (B := T978.setTop (mkF m 16 #[.val (.ref sb), .val (.ref so), .val (.int za)] [(.ref sb), (.ref sb)])) (fun t k => ?_) ?_
  · refine XS.istoreN X978.here hx rfl (od hby dc25 4 rfl) rfl (l' := #[.val (.ref sb), .val (.ref so), .val (.int za)]) rfl ?_
    refine XS.aloadN X978.here hx rfl (od hby dc25 5 rfl) rfl rfl ?_
    refine XS.aloadN X978.here hx rfl (od hby dc25 6 rfl) rfl rfl ?_
    exact k
  obtain ⟨T979, X979, e979, st979⟩ := getF X978 hx hZ hown (host := "") (Or.inl (own_w hw 123 rfl)) Via.refl e978 P3 (g := (mkF m 16 #[.val (.ref sb), .val (.ref so), .val (.int za)] [(.ref sb), (.ref sb)])) rfl rfl (od hby dc25 7 rfl)
  refine own_go st979 ?_
  refine own_go (B := T979.setTop (mkF m 21 #[.val (.ref sb), .val (.ref so), .val (.int za)] [(.int (zc + za)), (.ref sb)])) (fun t k => ?_) ?_
  · refine XS.iloadN X979.here hx rfl (od hby dc25 8 rfl) rfl ?_
    refine XS.iadd X979.here hx rfl (od hby dc25 9 rfl) rfl ?_
    exact k
  obtain ⟨cq980, q980, q980'⟩ := P0.cell
  obtain ⟨_, _, ⟨T980, L980, k980, n980⟩, -, X980, ⟨Lc980, hQ980, l980, y980, z980⟩, st980⟩ := X979.privateBack hx (y := yN35) hown (mvT hZ (own_w hw 125 rfl)) (mvT hZ (own_w hw 126 rfl)) (own_selp (mvT hZ (own_w hw 128 rfl)) rfl (Cond.privateMethod_at (mvP hZ (own_w hw 127 rfl) (args := #[]))) (mvT hZ (own_w hw 126 rfl)) (by decide)) (Cond.privateMethod_at (mvP hZ (own_w hw 127 rfl) (args := #[]))) (mvT hZ (own_w hw 129 rfl)) (by decide) (backOf (W := 0) (ecn_1 l Z a0 hw [] sb (zc + za) br kb ns h0 n0 Z0 P1 P2 P5 (own_le0 (own_addn hc hn (by omega)) hbb)) hZ (own_w hw 129 rfl) (own_w hw 104 rfl) (by decide) (by decide)) (g := (mkF m 21 #[.val (.ref sb), .val (.ref so), .val (.int za)] [(.int (zc + za)), (.ref sb)])) rfl (by rw [hml]; rfl) (Steps.refl _) (a := sb) (by rw [e979]; exact q980) q980' (argsL := [(.int (zc + za))]) (rest := []) (lenOf pd_19 rfl) rfl (own_W0 rfl) (od hby dc25 10 rfl) (fun _ _ => ⟨rfl, e979, (by decide : 0 + 0 ≤ _), (by decide : 0 + 0 ≤ _)⟩)
  dsimp only [Pt.U, Pt.locs, Pt.cells, Pt.slots] at X980 l980 y980 z980 st980 hQ980
  subst l980 y980 z980
  obtain ⟨rfl, Nq980, e980⟩ := hQ980
  have N980 := Fr.app N978 Nq980
  refine own_go (B := T980.setTop (mkF m 24 #[.val (.ref sb), .val (.ref so), .val (.int za)] [])) (fun t k => st980.trans k) ?_
  refine own_go (B := T980.setTop (mkF m 26 #[.val (.ref sb), .val (.ref so), .val (.int za)] [(.ref sb), (.ref sb)])) (fun t k => ?_) ?_
  · refine XS.aloadN X980.here hx rfl (od hby dc25 11 rfl) rfl rfl ?_
    refine XS.aloadN X980.here hx rfl (od hby dc25 12 rfl) rfl rfl ?_
    exact k
  obtain ⟨T981, X981, e981, st981⟩ := getF X980 hx hZ hown (host := "") (Or.inl (own_w hw 123 rfl)) Via.refl e980 P3 (g := (mkF m 26 #[.val (.ref sb), .val (.ref so), .val (.int za)] [(.ref sb), (.ref sb)])) rfl rfl (od hby dc25 13 rfl)
  refine own_go st981 ?_
  refine own_go (B := T981.setTop (mkF m 30 #[.val (.ref sb), .val (.ref so), .val (.int za)] [(.ref so), (.int zc), (.ref sb)])) (fun t k => ?_) ?_
  · refine XS.aloadN X981.here hx rfl (od hby dc25 14 rfl) rfl rfl ?_
    exact k
  obtain ⟨cq982, q982, q982'⟩ := P0.cell
  obtain ⟨_, _, ⟨T982, L982, k982, n982⟩, -, X982, ⟨Lc982, hQ982, l982, y982, z982⟩, st982⟩ := X981.privateBack hx (y := yN44) hown (mvT hZ (own_w hw 156 rfl)) (mvT hZ (own_w hw 157 rfl)) (own_selp (mvT hZ (own_w hw 128 rfl)) rfl (Cond.privateMethod_at (mvP hZ (own_w hw 158 rfl) (args := #[]))) (mvT hZ (own_w hw 157 rfl)) (by decide)) (Cond.privateMethod_at (mvP hZ (own_w hw 158 rfl) (args := #[]))) (mvT hZ (own_w hw 160 rfl)) (by decide) (backOf (W := 0) (psI l Z a0 hw [] sb zc so br bs ks za us kb (372 : Int32) ns cs chl ck nn 186 (186 : Int32) h0 n0 Z0 P0 P1 P2 P6 P7 P8 P9 P5 P10 P11 P12 P13 P14 g_br ne_bs_br hcs hc hn otd hbb (by decide) hnl hpre hsrc (by decide) ot186) hZ (own_w hw 160 rfl) (own_w hw 104 rfl) (by decide) (by decide)) (g := (mkF m 30 #[.val (.ref sb), .val (.ref so), .val (.int za)] [(.ref so), (.int zc), (.ref sb)])) rfl (by rw [hml]; rfl) (Steps.refl _) (a := sb) (by rw [e981]; exact q982) q982' (argsL := [(.int zc), (.ref so)]) (rest := []) (lenOf pd_29 rfl) rfl (own_W0 rfl) (od hby dc25 15 rfl) (fun _ _ => ⟨rfl, e981, (by decide : 0 + 0 ≤ _), (by decide : 0 + 0 ≤ _)⟩)
  dsimp only [Pt.U, Pt.locs, Pt.cells, Pt.slots] at X982 l982 y982 z982 st982 hQ982
  subst l982 y982 z982
  obtain ⟨ys_982, rfl, Nq982, Kq982, U982_0, Pq982_0, Pq982_1⟩ := hQ982
  have Q983 := P0.keep Kq982
  have Q984 := P1.keep Kq982 (ninS ne_sb_br nin0)
  have Q985 := P2.keep Kq982 (ninS ne_sb_br nin0)
  have Q986 := P3.keep Kq982 (ninS ne_sb_br nin0)
  have Q987 := P4.keep Kq982 (ninS ne_sb_br nin0)
  have K982 : Keep h0 T982.heap [sb, br] := K0.trans Kq982 (allS (Or.inl (List.mem_of_getElem? (i := 1) rfl)) all0)
  have N982 := Fr.app N980 Nq982
  refine own_go (B := T982.setTop (mkF m 33 #[.val (.ref sb), .val (.ref so), .val (.int za)] [])) (fun t k => st982.trans k) ?_
  refine own_go (B := T982.setTop (mkF m 35 #[.val (.ref sb), .val (.ref so), .val (.int za)] [(.ref sb), (.ref sb)])) (fun t k => ?_) ?_
  · refine XS.aloadN X982.here hx rfl (od hby dc25 16 rfl) rfl rfl ?_
    refine XS.dup X982.here hx rfl (od hby dc25 17 rfl) rfl rfl ?_
    exact k
  obtain ⟨T995, X995, e995, st995⟩ := getF X982 hx hZ hown (host := "") (Or.inl (own_w hw 123 rfl)) Via.refl rfl Q986 (g := (mkF m 35 #[.val (.ref sb), .val (.ref so), .val (.int za)] [(.ref sb), (.ref sb)])) rfl rfl (od hby dc25 18 rfl)
  refine own_go st995 ?_
  refine own_go (B := T995.setTop (mkF m 40 #[.val (.ref sb), .val (.ref so), .val (.int za)] [(.int (zc + za)), (.ref sb)])) (fun t k => ?_) ?_
  · refine XS.iloadN X995.here hx rfl (od hby dc25 19 rfl) rfl ?_
    refine XS.iadd X995.here hx rfl (od hby dc25 20 rfl) rfl ?_
    exact k
  obtain ⟨T996, h996, X996, e996, W996, st996⟩ := putF X995 hx hZ hown (host := "") (Or.inl (own_w hw 123 rfl)) Via.refl e995 Q986 Q983 (Or.inl (own_w hw 124 rfl)) (own_w hw 95 rfl) (ty := .int) (by decide) rfl rfl (g := (mkF m 40 #[.val (.ref sb), .val (.ref so), .val (.int za)] [(.int (zc + za)), (.ref sb)])) rfl rfl (od hby dc25 21 rfl)
  have Q998 := Q984.other W996 (Or.inr (slot_ne (Or.inl (own_w hw 109 rfl)) (Or.inl (own_w hw 124 rfl)) (by decide) (t := (.array .byte)) (t' := .int) (by decide) (by decide)))
  have Q999 := Q985.other W996 (Or.inr (slot_ne (Or.inl (own_w hw 111 rfl)) (Or.inl (own_w hw 124 rfl)) (by decide) (t := .byte) (t' := .int) (by decide) (by decide)))
  have Q1000 := Q987.other W996 (Or.inr (slot_ne (Or.inl (own_w hw 267 rfl)) (Or.inl (own_w hw 124 rfl)) (by decide) (t := .boolean) (t' := .int) (by decide) (by decide)))
  have Q1007 := U982_0.other W996 (Ne.symm ne_sb_br)
  have U996 : Fld Z h996 sb jA "count" "I" (.int (zc + za)) := Q986.same W996
  have N996 := Fr.snoc X996 N982 g_sb
  have K996 := K982.wr W996 (Or.inl (List.mem_of_getElem? (i := 0) rfl))
  refine own_go st996 ?_
  refine own_go (B := T996.setTop (mkF m 44 #[.val (.ref sb), .val (.ref so), .val (.int za)] [(.ref sb)])) (fun t k => ?_) ?_
  · refine XS.aloadN X996.here hx rfl (od hby dc25 22 rfl) rfl rfl ?_
    exact k
  exact own_rA Bd X996 hx rfl rfl rfl (od hby dc25 23 rfl) (by rw [e996]; exact ⟨ys_982, rfl, N996, K996, Q998, Q999, U996, Q1000, Q1007, Pq982_0, Pq982_1⟩) (by decide)
def QapU (Z : State) (sb so br : Addr) (kb : ClassId) (ns : List Int32) (bs : Addr) (ks : ClassId) (za : Int32) (us : List Int32) (cs : Int32) (chl : List Int32) (nn : Nat) (zl : Int32) (h0 : Heap) (n0 : Nat) (v : Option Value) (h : Heap) (L : List Loc) : Prop := ∃ nr : Addr, ∃ kn : ClassId, ∃ ys : List Int32, v = some (.ref sb) ∧ Fr n0 L ∧ Keep h0 h [sb] ∧ h0.size ≤ nr ∧ sb ≠ nr ∧ Fld Z h sb jA "value" "[B" (.ref nr) ∧ Fld Z h sb jA "coder" "B" (.int 1) ∧ Fld Z h sb jA "count" "I" (.int ((93 : Int32) + zl)) ∧ Fld Z h sb jA "maybeLatin1" "Z" (.int 0) ∧ Arv Z h nr kn .byte (372 : Int32) (own_I ys) (.int 0) ∧ (ys.length = 372) ∧ (own_U ys chl (93 + nn))
theorem efapU (m : MethodId) (x0 : Addr) (x1 : Addr) : entryFrame m #[(.ref x0), (.ref x1)] 3 = mkF m 0 #[.val (.ref x0), .val (.ref x1), .unset] [] := by first | (simp [entryFrame, mkF, argsToLocals, Value.category]; done) | rfl
set_option maxRecDepth 65536 in
set_option maxHeartbeats 40000000 in
theorem apU (l : Launch) (Z : State) (a0 : Array Value) (hw : own_HW a0 Z) (ws : List Jvm.Cond) (sb so br : Addr) (kb : ClassId) (ns : List Int32) (bs : Addr) (ks : ClassId) (za : Int32) (us : List Int32) (cs : Int32) (chl : List Int32) (nn : Nat) (zl : Int32) (h0 : Heap) (n0 : Nat) (Z0 : n0 ≤ h0.size) (P0 : Exa Z h0 sb jB) (P1 : Fld Z h0 sb jA "value" "[B" (.ref br)) (P2 : Fld Z h0 sb jA "coder" "B" (.int 0)) (P3 : Fld Z h0 sb jA "count" "I" (.int 93)) (P4 : Fld Z h0 sb jA "maybeLatin1" "Z" (.int 0)) (P5 : Arv Z h0 br kb .byte (186 : Int32) (own_I ns) (.int 0)) (P6 : Sta Z h0 jS "COMPACT_STRINGS" "Z" (.int cs)) (P7 : own_SI Z h0) (P8 : Sta Z h0 jU "$assertionsDisabled" "Z" (.int 1)) (P9 : Sta Z h0 jU "HI_BYTE_SHIFT" "I" (.int 0)) (P10 : Sta Z h0 jU "LO_BYTE_SHIFT" "I" (.int 8)) (P11 : Exa Z h0 so jS) (P12 : Fld Z h0 so jS "coder" "B" (.int 1)) (P13 : Fld Z h0 so jS "value" "[B" (.ref bs)) (P14 : Arv Z h0 bs ks .byte za (own_I us) (.int 0)) (g_sb : n0 ≤ sb) (ne_sb_br : sb ≠ br) (ne_sb_so : sb ≠ so) (ne_sb_bs : sb ≠ bs) (hcs : cs ≠ (0 : Int32)) (hln : (za >>> ((1 : Int32) &&& 31)) = zl) (hz : zl.toInt = (nn : Int)) (hn : za.toInt = ((2 * nn : Nat) : Int)) (h4 : nn ≤ 4) (hpre : own_L ns chl 93) (hsrc : ∀ q, q < nn → own_gc (us.getD (2 * q) 0) (us.getD (2 * q + 1) 0) = chl.getD (93 + q) 0) :
    own_M l Z yN45 jdk_68_method_22_code 3 (some (.object jA)) ws (own_R 8 1 372 116) #[(.ref sb), (.ref so)] h0 (QapU Z sb so br kb ns bs ks za us cs chl nn zl h0 n0) := by
  refine own_b (own := jA) rfl (plainFor_of_name pn_6) (fun m => efapU m sb so) n0 fun p e s m below meth c s₁ Bd hZ hx hby hml hown X0 e0 N0 => ?_
  have K0 : Keep h0 h0 [sb] := Keep.refl h0 _
  refine own_go (B := s₁.setTop (mkF m 10 #[.val (.ref sb), .val (.ref so), .unset] [(.ref so)])) (fun t k => ?_) ?_
  · refine XS.aloadN X0.here hx rfl (od hby dc25 0 rfl) rfl rfl ?_
    refine XS.ifnonnullYes X0.here hx rfl (pc0 := 1) (pc' := 9) rfl (od hby dc25 1 rfl) rfl (by decide) (by decide) ?_
    refine XS.aloadN X0.here hx rfl (od hby dc25 2 rfl) rfl rfl ?_
    exact k
  obtain ⟨cq1008, kq1008, q1008a, q1008b, q1008c⟩ := isOf hZ e0 P11
  obtain ⟨_, _, ⟨T1008, L1008, k1008, n1008⟩, -, X1008, ⟨Lc1008, hQ1008, l1008, y1008, z1008⟩, st1008⟩ := X0.virtualBack hx (y := yN12) (z := yN12) hown (mvT hZ (own_w hw 122 rfl)) (mvT hZ (own_w hw 53 rfl)) (notFace_of_selects (args := #[]) (mvT hZ (own_w hw 55 rfl))) (mvT hZ (own_w hw 55 rfl)) (mvT hZ (own_w hw 54 rfl)) (by decide) (backOf (W := 0) (len_1 l Z a0 hw [] so bs ks za us cs zl h0 n0 Z0 P11 P12 P13 P14 P6 hcs hln) hZ (own_w hw 56 rfl) (own_w hw 9 rfl) (by decide) (by decide)) q1008a q1008c (g := (mkF m 10 #[.val (.ref sb), .val (.ref so), .unset] [(.ref so)])) rfl (by rw [hml]; rfl) (Steps.refl _) (argsL := []) (rest := []) (lenOf pd_15 rfl) rfl (own_W0 rfl) (od hby dc25 3 rfl) (fun _ _ => ⟨rfl, e0, (by decide : 0 + 0 ≤ _), (by decide : 0 + 0 ≤ _)⟩)
  dsimp only [Pt.U, Pt.locs, Pt.cells, Pt.slots] at X1008 l1008 y1008 z1008 st1008 hQ1008
  subst l1008 y1008 z1008
  obtain ⟨rfl, Nq1008, e1008⟩ := hQ1008
  have N1008 := Fr.app N0 Nq1008
  refine own_go (B := T1008.setTop (mkF m 13 #[.val (.ref sb), .val (.ref so), .unset] [(.int zl)])) (fun t k => st1008.trans k) ?_
  refine own_go (B := T1008.setTop (mkF m 16 #[.val (.ref sb), .val (.ref so), .val (.int zl)] [(.ref sb), (.ref sb)])) (fun t k => ?_) ?_
  · refine XS.istoreN X1008.here hx rfl (od hby dc25 4 rfl) rfl (l' := #[.val (.ref sb), .val (.ref so), .val (.int zl)]) rfl ?_
    refine XS.aloadN X1008.here hx rfl (od hby dc25 5 rfl) rfl rfl ?_
    refine XS.aloadN X1008.here hx rfl (od hby dc25 6 rfl) rfl rfl ?_
    exact k
  obtain ⟨T1009, X1009, e1009, st1009⟩ := getF X1008 hx hZ hown (host := "") (Or.inl (own_w hw 123 rfl)) Via.refl e1008 P3 (g := (mkF m 16 #[.val (.ref sb), .val (.ref so), .val (.int zl)] [(.ref sb), (.ref sb)])) rfl rfl (od hby dc25 7 rfl)
  refine own_go st1009 ?_
  refine own_go (B := T1009.setTop (mkF m 21 #[.val (.ref sb), .val (.ref so), .val (.int zl)] [(.int ((93 : Int32) + zl)), (.ref sb)])) (fun t k => ?_) ?_
  · refine XS.iloadN X1009.here hx rfl (od hby dc25 8 rfl) rfl ?_
    refine XS.iadd X1009.here hx rfl (od hby dc25 9 rfl) rfl ?_
    exact k
  obtain ⟨cq1010, q1010, q1010'⟩ := P0.cell
  obtain ⟨_, _, ⟨T1010, L1010, k1010, n1010⟩, -, X1010, ⟨Lc1010, hQ1010, l1010, y1010, z1010⟩, st1010⟩ := X1009.privateBack hx (y := yN35) hown (mvT hZ (own_w hw 125 rfl)) (mvT hZ (own_w hw 126 rfl)) (own_selp (mvT hZ (own_w hw 128 rfl)) rfl (Cond.privateMethod_at (mvP hZ (own_w hw 127 rfl) (args := #[]))) (mvT hZ (own_w hw 126 rfl)) (by decide)) (Cond.privateMethod_at (mvP hZ (own_w hw 127 rfl) (args := #[]))) (mvT hZ (own_w hw 129 rfl)) (by decide) (backOf (W := 0) (ecn_0 l Z a0 hw [] sb ((93 : Int32) + zl) br kb ns h0 n0 Z0 P1 P2 P5 (own_le0 (own_addn ot93 hz (by omega)) (by omega))) hZ (own_w hw 129 rfl) (own_w hw 104 rfl) (by decide) (by decide)) (g := (mkF m 21 #[.val (.ref sb), .val (.ref so), .val (.int zl)] [(.int ((93 : Int32) + zl)), (.ref sb)])) rfl (by rw [hml]; rfl) (Steps.refl _) (a := sb) (by rw [e1009]; exact q1010) q1010' (argsL := [(.int ((93 : Int32) + zl))]) (rest := []) (lenOf pd_19 rfl) rfl (own_W0 rfl) (od hby dc25 10 rfl) (fun _ _ => ⟨rfl, e1009, (by decide : 0 + 0 ≤ _), (by decide : 0 + 0 ≤ _)⟩)
  dsimp only [Pt.U, Pt.locs, Pt.cells, Pt.slots] at X1010 l1010 y1010 z1010 st1010 hQ1010
  subst l1010 y1010 z1010
  obtain ⟨rfl, Nq1010, e1010⟩ := hQ1010
  have N1010 := Fr.app N1008 Nq1010
  refine own_go (B := T1010.setTop (mkF m 24 #[.val (.ref sb), .val (.ref so), .val (.int zl)] [])) (fun t k => st1010.trans k) ?_
  refine own_go (B := T1010.setTop (mkF m 26 #[.val (.ref sb), .val (.ref so), .val (.int zl)] [(.ref sb), (.ref sb)])) (fun t k => ?_) ?_
  · refine XS.aloadN X1010.here hx rfl (od hby dc25 11 rfl) rfl rfl ?_
    refine XS.aloadN X1010.here hx rfl (od hby dc25 12 rfl) rfl rfl ?_
    exact k
  obtain ⟨T1011, X1011, e1011, st1011⟩ := getF X1010 hx hZ hown (host := "") (Or.inl (own_w hw 123 rfl)) Via.refl e1010 P3 (g := (mkF m 26 #[.val (.ref sb), .val (.ref so), .val (.int zl)] [(.ref sb), (.ref sb)])) rfl rfl (od hby dc25 13 rfl)
  refine own_go st1011 ?_
  refine own_go (B := T1011.setTop (mkF m 30 #[.val (.ref sb), .val (.ref so), .val (.int zl)] [(.ref so), (.int 93), (.ref sb)])) (fun t k => ?_) ?_
  · refine XS.aloadN X1011.here hx rfl (od hby dc25 14 rfl) rfl rfl ?_
    exact k
  obtain ⟨cq1012, q1012, q1012'⟩ := P0.cell
  obtain ⟨_, _, ⟨T1012, L1012, k1012, n1012⟩, -, X1012, ⟨Lc1012, hQ1012, l1012, y1012, z1012⟩, st1012⟩ := X1011.privateBack hx (y := yN44) hown (mvT hZ (own_w hw 156 rfl)) (mvT hZ (own_w hw 157 rfl)) (own_selp (mvT hZ (own_w hw 128 rfl)) rfl (Cond.privateMethod_at (mvP hZ (own_w hw 158 rfl) (args := #[]))) (mvT hZ (own_w hw 157 rfl)) (by decide)) (Cond.privateMethod_at (mvP hZ (own_w hw 158 rfl) (args := #[]))) (mvT hZ (own_w hw 160 rfl)) (by decide) (backOf (W := 0) (psU l Z a0 hw [] sb so br kb ns bs ks za us cs chl nn h0 n0 Z0 P0 P1 P2 P3 P4 P5 P6 P7 P8 P9 P10 P11 P12 P13 P14 g_sb ne_sb_br ne_sb_so ne_sb_bs hcs hn h4 hpre hsrc) hZ (own_w hw 160 rfl) (own_w hw 104 rfl) (by decide) (by decide)) (g := (mkF m 30 #[.val (.ref sb), .val (.ref so), .val (.int zl)] [(.ref so), (.int 93), (.ref sb)])) rfl (by rw [hml]; rfl) (Steps.refl _) (a := sb) (by rw [e1011]; exact q1012) q1012' (argsL := [(.int 93), (.ref so)]) (rest := []) (lenOf pd_29 rfl) rfl (own_W0 rfl) (od hby dc25 15 rfl) (fun _ _ => ⟨rfl, e1011, (by decide : 0 + 1 ≤ _), (by decide : 0 + 372 ≤ _)⟩)
  dsimp only [Pt.U, Pt.locs, Pt.cells, Pt.slots] at X1012 l1012 y1012 z1012 st1012 hQ1012
  subst l1012 y1012 z1012
  obtain ⟨nr_1012, kn_1012, ys_1012, rfl, Nq1012, Kq1012, sq_nr_1012, pq1012_0, U1012_0, U1012_1, U1012_2, U1012_3, U1012_4, Pq1012_0, Pq1012_1⟩ := hQ1012
  have ne_sb_nr_1012 : sb ≠ nr_1012 := Nat.ne_of_lt (Nat.lt_of_lt_of_le P0.lt sq_nr_1012)
  have sz_nr_1012 : h0.size ≤ nr_1012 := Nat.le_trans K0.1 sq_nr_1012
  have Q1013 := P0.keep Kq1012
  have K1012 : Keep h0 T1012.heap [sb] := K0.trans Kq1012 (allS (Or.inl (List.mem_of_getElem? (i := 0) rfl)) all0)
  have N1012 := Fr.app N1010 Nq1012
  refine own_go (B := T1012.setTop (mkF m 33 #[.val (.ref sb), .val (.ref so), .val (.int zl)] [])) (fun t k => st1012.trans k) ?_
  refine own_go (B := T1012.setTop (mkF m 35 #[.val (.ref sb), .val (.ref so), .val (.int zl)] [(.ref sb), (.ref sb)])) (fun t k => ?_) ?_
  · refine XS.aloadN X1012.here hx rfl (od hby dc25 16 rfl) rfl rfl ?_
    refine XS.dup X1012.here hx rfl (od hby dc25 17 rfl) rfl rfl ?_
    exact k
  obtain ⟨T1024, X1024, e1024, st1024⟩ := getF X1012 hx hZ hown (host := "") (Or.inl (own_w hw 123 rfl)) Via.refl rfl U1012_2 (g := (mkF m 35 #[.val (.ref sb), .val (.ref so), .val (.int zl)] [(.ref sb), (.ref sb)])) rfl rfl (od hby dc25 18 rfl)
  refine own_go st1024 ?_
  refine own_go (B := T1024.setTop (mkF m 40 #[.val (.ref sb), .val (.ref so), .val (.int zl)] [(.int ((93 : Int32) + zl)), (.ref sb)])) (fun t k => ?_) ?_
  · refine XS.iloadN X1024.here hx rfl (od hby dc25 19 rfl) rfl ?_
    refine XS.iadd X1024.here hx rfl (od hby dc25 20 rfl) rfl ?_
    exact k
  obtain ⟨T1025, h1025, X1025, e1025, W1025, st1025⟩ := putF X1024 hx hZ hown (host := "") (Or.inl (own_w hw 123 rfl)) Via.refl e1024 U1012_2 Q1013 (Or.inl (own_w hw 124 rfl)) (own_w hw 95 rfl) (ty := .int) (by decide) rfl rfl (g := (mkF m 40 #[.val (.ref sb), .val (.ref so), .val (.int zl)] [(.int ((93 : Int32) + zl)), (.ref sb)])) rfl rfl (od hby dc25 21 rfl)
  have Q1037 := U1012_0.other W1025 (Or.inr (slot_ne (Or.inl (own_w hw 109 rfl)) (Or.inl (own_w hw 124 rfl)) (by decide) (t := (.array .byte)) (t' := .int) (by decide) (by decide)))
  have Q1038 := U1012_1.other W1025 (Or.inr (slot_ne (Or.inl (own_w hw 111 rfl)) (Or.inl (own_w hw 124 rfl)) (by decide) (t := .byte) (t' := .int) (by decide) (by decide)))
  have Q1039 := U1012_3.other W1025 (Or.inr (slot_ne (Or.inl (own_w hw 267 rfl)) (Or.inl (own_w hw 124 rfl)) (by decide) (t := .boolean) (t' := .int) (by decide) (by decide)))
  have Q1040 := U1012_4.other W1025 (Ne.symm ne_sb_nr_1012)
  have U1025 : Fld Z h1025 sb jA "count" "I" (.int ((93 : Int32) + zl)) := U1012_2.same W1025
  have N1025 := Fr.snoc X1025 N1012 g_sb
  have K1025 := K1012.wr W1025 (Or.inl (List.mem_of_getElem? (i := 0) rfl))
  refine own_go st1025 ?_
  refine own_go (B := T1025.setTop (mkF m 44 #[.val (.ref sb), .val (.ref so), .val (.int zl)] [(.ref sb)])) (fun t k => ?_) ?_
  · refine XS.aloadN X1025.here hx rfl (od hby dc25 22 rfl) rfl rfl ?_
    exact k
  exact own_rA Bd X1025 hx rfl rfl rfl (od hby dc25 23 rfl) (by rw [e1025]; exact ⟨nr_1012, kn_1012, ys_1012, rfl, N1025, K1025, sz_nr_1012, ne_sb_nr_1012, Q1037, Q1038, U1025, Q1039, Q1040, Pq1012_0, Pq1012_1⟩) (by decide)
def Qsap (Z : State) (sb so : Addr) (Qx : Option Value → Heap → List Loc → Prop) (h0 : Heap) (n0 : Nat) (v : Option Value) (h : Heap) (L : List Loc) : Prop := Qx v h L
theorem efsap (m : MethodId) (x0 : Addr) (x1 : Addr) : entryFrame m #[(.ref x0), (.ref x1)] 2 = mkF m 0 #[.val (.ref x0), .val (.ref x1)] [] := by first | (simp [entryFrame, mkF, argsToLocals, Value.category]; done) | rfl
set_option maxRecDepth 65536 in
set_option maxHeartbeats 40000000 in
theorem sap (l : Launch) (Z : State) (a0 : Array Value) (hw : own_HW a0 Z) (ws : List Jvm.Cond) (sb so : Addr) (Qx : Option Value → Heap → List Loc → Prop) (h0 : Heap) (n0 : Nat) (Z0 : n0 ≤ h0.size) (P0 : Exa Z h0 sb jB) (hv : ∀ v h L, Qx v h L → v = some (.ref sb)) (H : own_M l Z yN45 jdk_68_method_22_code 3 (some (.object jA)) [] (own_R 8 1 372 116) #[(.ref sb), (.ref so)] h0 Qx) :
    own_M l Z yN46 jdk_67_method_7_code 2 (some (.object jB)) ws (own_R 9 1 372 130) #[(.ref sb), (.ref so)] h0 (Qsap Z sb so Qx h0 n0) := by
  refine own_b (own := jB) rfl (plainFor_of_name pn_7) (fun m => efsap m sb so) n0 fun p e s m below meth c s₁ Bd hZ hx hby hml hown X0 e0 N0 => ?_
  refine own_go (B := s₁.setTop (mkF m 2 #[.val (.ref sb), .val (.ref so)] [(.ref so), (.ref sb)])) (fun t k => ?_) ?_
  · refine XS.aloadN X0.here hx rfl (od hby dc24 0 rfl) rfl rfl ?_
    refine XS.aloadN X0.here hx rfl (od hby dc24 1 rfl) rfl rfl ?_
    exact k
  obtain ⟨_, _, ⟨T1041, L1041, k1041, n1041⟩, -, X1041, ⟨Lc1041, hQ1041, l1041, y1041, z1041⟩, st1041⟩ := superBack X0 hx hZ (y := yN45) hown (own_w hw 117 rfl) (own_same (own_w hw 128 rfl) rfl (own_w hw 118 rfl) (by decide)) (own_w hw 118 rfl) (own_w hw 119 rfl) (by decide) (backOf (W := 0) H hZ (own_w hw 121 rfl) (own_w hw 104 rfl) (by decide) (by decide)) e0 (Ins.self P0) (g := (mkF m 2 #[.val (.ref sb), .val (.ref so)] [(.ref so), (.ref sb)])) rfl (by rw [hml]; rfl) (own_w hw 121 rfl) (argsL := [(.ref so)]) (rest := []) (lenOf pd_30 rfl) rfl (own_W0 rfl) (od hby dc24 2 rfl) (fun _ _ => ⟨rfl, e0, (by decide : 0 + 1 ≤ _), (by decide : 0 + 372 ≤ _)⟩)
  dsimp only [Pt.U, Pt.locs, Pt.cells, Pt.slots] at X1041 l1041 y1041 z1041 st1041 hQ1041
  subst l1041 y1041 z1041
  obtain rfl := hv _ _ _ hQ1041
  have Nq1041 := Fr.nil n0
  refine own_go (B := T1041.setTop (mkF m 5 #[.val (.ref sb), .val (.ref so)] [(.ref sb)])) (fun t k => st1041.trans k) ?_
  refine own_go (B := T1041.setTop (mkF m 7 #[.val (.ref sb), .val (.ref so)] [(.ref sb)])) (fun t k => ?_) ?_
  · refine XS.pop X1041.here hx rfl (od hby dc24 3 rfl) rfl rfl ?_
    refine XS.aloadN X1041.here hx rfl (od hby dc24 4 rfl) rfl rfl ?_
    exact k
  exact own_rA Bd X1041 hx rfl rfl rfl (od hby dc24 5 rfl) (hQ1041) (by decide)
def Qgvl (Z : State) (sb br : Addr) (h0 : Heap) (n0 : Nat) (v : Option Value) (h : Heap) (L : List Loc) : Prop := v = some (.ref br) ∧ Fr n0 L ∧ h = h0
theorem efgvl (m : MethodId) (x0 : Addr) : entryFrame m #[(.ref x0)] 1 = mkF m 0 #[.val (.ref x0)] [] := by first | (simp [entryFrame, mkF, argsToLocals, Value.category]; done) | rfl
set_option maxRecDepth 65536 in
set_option maxHeartbeats 40000000 in
theorem gvl (l : Launch) (Z : State) (a0 : Array Value) (hw : own_HW a0 Z) (ws : List Jvm.Cond) (sb br : Addr) (h0 : Heap) (n0 : Nat) (Z0 : n0 ≤ h0.size) (P0 : Fld Z h0 sb jA "value" "[B" (.ref br)) :
    own_M l Z yN47 jdk_68_method_64_code 1 (some (.array .byte)) ws (own_R 0 0 0 0) #[(.ref sb)] h0 (Qgvl Z sb br h0 n0) := by
  refine own_b (own := jA) rfl (plainFor_of_name pn_6) (fun m => efgvl m sb) n0 fun p e s m below meth c s₁ Bd hZ hx hby hml hown X0 e0 N0 => ?_
  refine own_go (B := s₁.setTop (mkF m 1 #[.val (.ref sb)] [(.ref sb)])) (fun t k => ?_) ?_
  · refine XS.aloadN X0.here hx rfl (od hby dc38 0 rfl) rfl rfl ?_
    exact k
  obtain ⟨T1042, X1042, e1042, st1042⟩ := getF X0 hx hZ hown (host := "") (Or.inl (own_w hw 108 rfl)) Via.refl e0 P0 (g := (mkF m 1 #[.val (.ref sb)] [(.ref sb)])) rfl rfl (od hby dc38 1 rfl)
  refine own_go st1042 ?_
  exact own_rA Bd X1042 hx rfl rfl rfl (od hby dc38 2 rfl) (by rw [e1042]; exact ⟨rfl, N0, rfl⟩) (by decide)
def Qaln (Z : State) (sb : Addr) (zc : Int32) (h0 : Heap) (n0 : Nat) (v : Option Value) (h : Heap) (L : List Loc) : Prop := v = some (.int zc) ∧ Fr n0 L ∧ h = h0
theorem efaln (m : MethodId) (x0 : Addr) : entryFrame m #[(.ref x0)] 1 = mkF m 0 #[.val (.ref x0)] [] := by first | (simp [entryFrame, mkF, argsToLocals, Value.category]; done) | rfl
set_option maxRecDepth 65536 in
set_option maxHeartbeats 40000000 in
theorem aln (l : Launch) (Z : State) (a0 : Array Value) (hw : own_HW a0 Z) (ws : List Jvm.Cond) (sb : Addr) (zc : Int32) (h0 : Heap) (n0 : Nat) (Z0 : n0 ≤ h0.size) (P0 : Fld Z h0 sb jA "count" "I" (.int zc)) :
    own_M l Z yN48 jdk_68_method_6_code 1 (some .int) ws (own_R 0 0 0 0) #[(.ref sb)] h0 (Qaln Z sb zc h0 n0) := by
  refine own_b (own := jA) rfl (plainFor_of_name pn_6) (fun m => efaln m sb) n0 fun p e s m below meth c s₁ Bd hZ hx hby hml hown X0 e0 N0 => ?_
  refine own_go (B := s₁.setTop (mkF m 1 #[.val (.ref sb)] [(.ref sb)])) (fun t k => ?_) ?_
  · refine XS.aloadN X0.here hx rfl (od hby dc40 0 rfl) rfl rfl ?_
    exact k
  obtain ⟨T1043, X1043, e1043, st1043⟩ := getF X0 hx hZ hown (host := "") (Or.inl (own_w hw 123 rfl)) Via.refl e0 P0 (g := (mkF m 1 #[.val (.ref sb)] [(.ref sb)])) rfl rfl (od hby dc40 1 rfl)
  refine own_go st1043 ?_
  exact own_rI Bd X1043 hx (od hby dc40 2 rfl) (by rw [e1043]; exact ⟨rfl, N0, rfl⟩) (by decide)
def Qsln (Z : State) (sb : Addr) (zc : Int32) (h0 : Heap) (n0 : Nat) (v : Option Value) (h : Heap) (L : List Loc) : Prop := v = some (.int zc) ∧ Fr n0 L ∧ h = h0
theorem efsln (m : MethodId) (x0 : Addr) : entryFrame m #[(.ref x0)] 1 = mkF m 0 #[.val (.ref x0)] [] := by first | (simp [entryFrame, mkF, argsToLocals, Value.category]; done) | rfl
set_option maxRecDepth 65536 in
set_option maxHeartbeats 40000000 in
theorem sln (l : Launch) (Z : State) (a0 : Array Value) (hw : own_HW a0 Z) (ws : List Jvm.Cond) (sb : Addr) (zc : Int32) (h0 : Heap) (n0 : Nat) (Z0 : n0 ≤ h0.size) (P0 : Exa Z h0 sb jB) (P1 : Fld Z h0 sb jA "count" "I" (.int zc)) :
    own_M l Z yN49 jdk_67_method_93_code 1 (some .int) ws (own_R 1 0 0 12) #[(.ref sb)] h0 (Qsln Z sb zc h0 n0) := by
  refine own_b (own := jB) rfl (plainFor_of_name pn_7) (fun m => efsln m sb) n0 fun p e s m below meth c s₁ Bd hZ hx hby hml hown X0 e0 N0 => ?_
  refine own_go (B := s₁.setTop (mkF m 1 #[.val (.ref sb)] [(.ref sb)])) (fun t k => ?_) ?_
  · refine XS.aloadN X0.here hx rfl (od hby dc39 0 rfl) rfl rfl ?_
    exact k
  obtain ⟨_, _, ⟨T1044, L1044, k1044, n1044⟩, -, X1044, ⟨Lc1044, hQ1044, l1044, y1044, z1044⟩, st1044⟩ := superBack X0 hx hZ (y := yN48) hown (own_w hw 198 rfl) (own_same (own_w hw 128 rfl) rfl (own_w hw 194 rfl) (by decide)) (own_w hw 194 rfl) (own_w hw 119 rfl) (by decide) (backOf (W := 0) (aln l Z a0 hw [] sb zc h0 n0 Z0 P1) hZ (own_w hw 199 rfl) (own_w hw 104 rfl) (by decide) (by decide)) e0 (Ins.self P0) (g := (mkF m 1 #[.val (.ref sb)] [(.ref sb)])) rfl (by rw [hml]; rfl) (own_w hw 199 rfl) (argsL := []) (rest := []) (lenOf pd_15 rfl) rfl (own_W0 rfl) (od hby dc39 1 rfl) (fun _ _ => ⟨rfl, e0, (by decide : 0 + 0 ≤ _), (by decide : 0 + 0 ≤ _)⟩)
  dsimp only [Pt.U, Pt.locs, Pt.cells, Pt.slots] at X1044 l1044 y1044 z1044 st1044 hQ1044
  subst l1044 y1044 z1044
  obtain ⟨rfl, Nq1044, e1044⟩ := hQ1044
  have N1044 := Fr.app N0 Nq1044
  refine own_go (B := T1044.setTop (mkF m 4 #[.val (.ref sb)] [(.int zc)])) (fun t k => st1044.trans k) ?_
  exact own_rI Bd X1044 hx (od hby dc39 2 rfl) (by rw [e1044]; exact ⟨rfl, N1044, rfl⟩) (by decide)
def Qchk (Z : State) (zt : Int32) (mm : Nat) (h0 : Heap) (n0 : Nat) (v : Option Value) (h : Heap) (L : List Loc) : Prop := v = none ∧ Fr n0 L ∧ h = h0
theorem efchk (m : MethodId) (x1 : Int32) : entryFrame m #[(.int 0), (.int x1)] 2 = mkF m 0 #[.val (.int 0), .val (.int x1)] [] := by first | (simp [entryFrame, mkF, argsToLocals, Value.category]; done) | rfl
set_option maxRecDepth 65536 in
set_option maxHeartbeats 40000000 in
theorem chk (l : Launch) (Z : State) (a0 : Array Value) (hw : own_HW a0 Z) (ws : List Jvm.Cond) (zt : Int32) (mm : Nat) (h0 : Heap) (n0 : Nat) (Z0 : n0 ≤ h0.size) (hm : zt.toInt = (mm : Int)) :
    own_M l Z yN50 jdk_65_method_131_code 2 none ws (own_R 0 0 0 0) #[(.int 0), (.int zt)] h0 (Qchk Z zt mm h0 n0) := by
  refine own_b (own := jY) rfl (plainFor_of_name pn_9) (fun m => efchk m zt) n0 fun p e s m below meth c s₁ Bd hZ hx hby hml hown X0 e0 N0 => ?_
  refine own_go (B := s₁.setTop (mkF m 2 #[.val (.int 0), .val (.int zt)] [(.int 0), (.int zt)])) (fun t k => ?_) ?_
  · refine XS.iloadN X0.here hx rfl (od hby dc44 0 rfl) rfl ?_
    refine XS.iloadN X0.here hx rfl (od hby dc44 1 rfl) rfl ?_
    exact k
  have hc2_1045 : ¬ (zt < (0 : Int32)) := (own_nn hm)
  refine own_go (B := s₁.setTop (mkF m 37 #[.val (.int 0), .val (.int zt)] [])) (fun t k => ?_) ?_
  · refine XS.icmpYes X0.here hx rfl (pc0 := 2) (pc' := 37) rfl (od hby dc44 2 rfl) rfl (flt hc2_1045).2.1 (by decide) (by decide) ?_
    exact k
  exact own_rV Bd X0 hx (od hby dc44 3 rfl) (by rw [e0]; exact ⟨rfl, N0, rfl⟩) (by decide)
def Qcrb (Z : State) (br : Addr) (zt : Int32) (kb : ClassId) (zb : Int32) (xs : List Int32) (mm mb : Nat) (h0 : Heap) (n0 : Nat) (v : Option Value) (h : Heap) (L : List Loc) : Prop := ∃ nr : Addr, ∃ kn : ClassId, ∃ ys : List Int32, v = some (.ref nr) ∧ Fr n0 L ∧ Keep h0 h [] ∧ h0.size ≤ nr ∧ Arv Z h nr kn .byte zt (own_I ys) (.int 0) ∧ (ys.length = mm) ∧ (∀ q, q < mm → ys.getD q 0 = xs.getD q 0)
theorem efcrb (m : MethodId) (x0 : Addr) (x2 : Int32) : entryFrame m #[(.ref x0), (.int 0), (.int x2)] 5 = mkF m 0 #[.val (.ref x0), .val (.int 0), .val (.int x2), .unset, .unset] [] := by first | (simp [entryFrame, mkF, argsToLocals, Value.category]; done) | rfl
set_option maxRecDepth 65536 in
set_option maxHeartbeats 40000000 in
theorem crb (l : Launch) (Z : State) (a0 : Array Value) (hw : own_HW a0 Z) (ws : List Jvm.Cond) (br : Addr) (zt : Int32) (kb : ClassId) (zb : Int32) (xs : List Int32) (mm mb : Nat) (h0 : Heap) (n0 : Nat) (Z0 : n0 ≤ h0.size) (P0 : Arv Z h0 br kb .byte zb (own_I xs) (.int 0)) (hm : zt.toInt = (mm : Int)) (hzb : zb.toInt = (mb : Int)) (hlt : mm < mb) (hs : mm ≤ 202) :
    own_M l Z yN51 jdk_65_method_133_code 5 (some (.array .byte)) ws (own_R 1 1 202 18) #[(.ref br), (.int 0), (.int zt)] h0 (Qcrb Z br zt kb zb xs mm mb h0 n0) := by
  refine own_b (own := jY) rfl (plainFor_of_name pn_9) (fun m => efcrb m br zt) n0 fun p e s m below meth c s₁ Bd hZ hx hby hml hown X0 e0 N0 => ?_
  have K0 : Keep h0 h0 [] := Keep.refl h0 _
  refine own_go (B := s₁.setTop (mkF m 2 #[.val (.ref br), .val (.int 0), .val (.int zt), .unset, .unset] [(.int zt), (.int 0)])) (fun t k => ?_) ?_
  · refine XS.iloadN X0.here hx rfl (od hby dc43 0 rfl) rfl ?_
    refine XS.iloadN X0.here hx rfl (od hby dc43 1 rfl) rfl ?_
    exact k
  obtain ⟨_, _, ⟨T1046, L1046, k1046, n1046⟩, -, X1046, ⟨Lc1046, hQ1046, l1046, y1046, z1046⟩, st1046⟩ := Jvm.LawKit.callS X0 hx (y := yN50) hown (mvT hZ (own_w hw 211 rfl)) (mvT hZ (own_w hw 212 rfl)) (mvT hZ (own_w hw 147 rfl)) (mvT hZ (own_w hw 213 rfl)) (by decide) (backOf (W := 0) (chk l Z a0 hw [] zt mm h0 n0 Z0 hm) hZ (own_w hw 213 rfl) (own_w hw 147 rfl) (by decide) (by decide)) (g := (mkF m 2 #[.val (.ref br), .val (.int 0), .val (.int zt), .unset, .unset] [(.int zt), (.int 0)])) rfl (by rw [hml]; rfl) (argsL := [(.int 0), (.int zt)]) (rest := []) (lenOf pd_11 rfl) rfl (own_W0 rfl) (od hby dc43 2 rfl) (fun _ _ => ⟨rfl, e0, (by decide : 0 + 0 ≤ _), (by decide : 0 + 0 ≤ _)⟩)
  dsimp only [Pt.U, Pt.locs, Pt.cells, Pt.slots] at X1046 l1046 y1046 z1046 st1046 hQ1046
  subst l1046 y1046 z1046
  obtain ⟨rfl, Nq1046, e1046⟩ := hQ1046
  have N1046 := Fr.app N0 Nq1046
  refine own_go (B := T1046.setTop (mkF m 5 #[.val (.ref br), .val (.int 0), .val (.int zt), .unset, .unset] [])) st1046 ?_
  refine own_go (B := T1046.setTop (mkF m 8 #[.val (.ref br), .val (.int 0), .val (.int zt), .unset, .unset] [(.int (zt - (0 : Int32)))])) (fun t k => ?_) ?_
  · refine XS.iloadN X1046.here hx rfl (od hby dc43 3 rfl) rfl ?_
    refine XS.iloadN X1046.here hx rfl (od hby dc43 4 rfl) rfl ?_
    refine XS.isub X1046.here hx rfl (od hby dc43 5 rfl) rfl ?_
    exact k
  rw [own_sub0]
  refine own_go (B := T1046.setTop (mkF m 10 #[.val (.ref br), .val (.int 0), .val (.int zt), .val (.int zt), .unset] [(.int zt)])) (fun t k => ?_) ?_
  · refine XS.istoreN X1046.here hx rfl (od hby dc43 6 rfl) rfl (l' := #[.val (.ref br), .val (.int 0), .val (.int zt), .val (.int zt), .unset]) rfl ?_
    refine XS.iloadN X1046.here hx rfl (od hby dc43 7 rfl) rfl ?_
    exact k
  obtain ⟨T1047, h1047, k1047, X1047, e1047, E1047, A1047, st1047⟩ := newP X1046 hx hZ (own_w hw 22 rfl) e1046 (g := (mkF m 10 #[.val (.ref br), .val (.int 0), .val (.int zt), .val (.int zt), .unset] [(.int zt)])) rfl (od hby dc43 8 rfl) rfl (own_nn hm) (cap := 202) (own_capn hm hs) (by decide) (by decide) (by decide)
  obtain ⟨b1047, g1047⟩ : ∃ z, z = h0.size := ⟨_, rfl⟩
  rw [← g1047] at A1047 st1047
  have low1047 : n0 ≤ b1047 := Nat.le_trans Z0 (Nat.le_of_eq g1047.symm)
  have sz1047 : h0.size ≤ b1047 := Nat.le_trans K0.1 (Nat.le_of_eq g1047.symm)
  have Q1048 := P0.ext E1047
  have Z1047 : n0 ≤ h1047.size := Nat.le_trans Z0 E1047.1
  have K1047 := K0.ext E1047
  have V1047 : Arv Z h1047 b1047 k1047 .byte zt (own_I (List.replicate (mm) 0)) (.int 0) := own_newI (Arv.new A1047 (own_nn hm))
  refine own_go st1047 ?_
  refine own_go (B := T1047.setTop (mkF m 20 #[.val (.ref br), .val (.int 0), .val (.int zt), .val (.int zt), .val (.ref b1047)] [(.ref br), (.int 0), (.ref b1047), (.int 0), (.ref br)])) (fun t k => ?_) ?_
  · refine XS.astore X1047.here hx rfl (od hby dc43 9 rfl) rfl rfl (l' := #[.val (.ref br), .val (.int 0), .val (.int zt), .val (.int zt), .val (.ref b1047)]) rfl ?_
    refine XS.aloadN X1047.here hx rfl (od hby dc43 10 rfl) rfl rfl ?_
    refine XS.iloadN X1047.here hx rfl (od hby dc43 11 rfl) rfl ?_
    refine XS.aload X1047.here hx rfl (od hby dc43 12 rfl) rfl rfl ?_
    refine XS.iconst X1047.here hx rfl (od hby dc43 13 rfl) ?_
    refine XS.aloadN X1047.here hx rfl (od hby dc43 14 rfl) rfl rfl ?_
    exact k
  obtain ⟨cl1049, Ar1049, q1049, S1049, M1049, Ha1049, G1049⟩ := id Q1048
  refine own_go (B := T1047.setTop (mkF m 21 #[.val (.ref br), .val (.int 0), .val (.int zt), .val (.int zt), .val (.ref b1047)] [(.int zb), (.int 0), (.ref b1047), (.int 0), (.ref br)])) (fun t k => ?_) ?_
  · refine X1047.arraylength hx (by rw [e1047]; exact Ar1049.1) (State.isArrayOf_alike hZ.alike Ar1049.2.1) (g := (mkF m 20 #[.val (.ref br), .val (.int 0), .val (.int zt), .val (.int zt), .val (.ref b1047)] [(.ref br), (.int 0), (.ref b1047), (.int 0), (.ref br)])) rfl rfl (od hby dc43 15 rfl) _ ?_
    rw [len_of S1049 M1049]
    exact k
  refine own_go (B := T1047.setTop (mkF m 23 #[.val (.ref br), .val (.int 0), .val (.int zt), .val (.int zt), .val (.ref b1047)] [(.int (zb - (0 : Int32))), (.int 0), (.ref b1047), (.int 0), (.ref br)])) (fun t k => ?_) ?_
  · refine XS.iloadN X1047.here hx rfl (od hby dc43 16 rfl) rfl ?_
    refine XS.isub X1047.here hx rfl (od hby dc43 17 rfl) rfl ?_
    exact k
  rw [own_sub0]
  refine own_go (B := T1047.setTop (mkF m 24 #[.val (.ref br), .val (.int 0), .val (.int zt), .val (.int zt), .val (.ref b1047)] [(.int zt), (.int zb), (.int 0), (.ref b1047), (.int 0), (.ref br)])) (fun t k => ?_) ?_
  · refine XS.iloadN X1047.here hx rfl (od hby dc43 18 rfl) rfl ?_
    exact k
  obtain ⟨_, _, ⟨T1050, L1050, k1050, n1050⟩, -, X1050, ⟨Lc1050, hQ1050, l1050, y1050, z1050⟩, st1050⟩ := Jvm.LawKit.callS X1047 hx (y := yN31) hown (mvT hZ (own_w hw 149 rfl)) (mvT hZ (own_w hw 150 rfl)) (mvT hZ (own_w hw 141 rfl)) (mvT hZ (own_w hw 151 rfl)) (by decide) (backOf (W := 4) (minB l Z a0 hw [] zb zt h1047 n0 Z1047 (own_ciL hm hzb hlt)) hZ (own_w hw 151 rfl) (own_w hw 141 rfl) (by decide) (by decide)) (g := (mkF m 24 #[.val (.ref br), .val (.int 0), .val (.int zt), .val (.int zt), .val (.ref b1047)] [(.int zt), (.int zb), (.int 0), (.ref b1047), (.int 0), (.ref br)])) rfl (by rw [hml]; rfl) (argsL := [(.int zb), (.int zt)]) (rest := [(.int 0), (.ref b1047), (.int 0), (.ref br)]) (lenOf pd_20 rfl) rfl (own_W0 rfl) (od hby dc43 19 rfl) (fun _ _ => ⟨rfl, e1047, (by decide : 1 + 0 ≤ _), (by decide : 202 + 0 ≤ _)⟩)
  dsimp only [Pt.U, Pt.locs, Pt.cells, Pt.slots] at X1050 l1050 y1050 z1050 st1050 hQ1050
  subst l1050 y1050 z1050
  obtain ⟨rfl, Nq1050, e1050⟩ := hQ1050
  have N1050 := Fr.app N1046 Nq1050
  refine own_go (B := T1050.setTop (mkF m 27 #[.val (.ref br), .val (.int 0), .val (.int zt), .val (.int zt), .val (.ref b1047)] [(.int zt), (.int 0), (.ref b1047), (.int 0), (.ref br)])) st1050 ?_
  obtain ⟨T1051, h1051, Lc1051, X1051, e1051, N1051, Kq1051, Ua1051, st1051⟩ := cpA X1050 hx hZ hown (own_w hw 152 rfl) (own_w hw 155 rfl) (own_w hw 153 rfl) (own_w hw 154 rfl) e1050 Q1048 V1047 (Or.inl ⟨rfl, rfl⟩) (own_nn ot0) (own_nn ot0) (own_nn hm) (own_ac4 ot0 hm hzb (by omega : 0 + mm ≤ mb)) (own_ac4 ot0 hm hm (by omega : 0 + mm ≤ mm)) rfl (own_acl ot0 hm (List.length_replicate : (List.replicate mm (0 : Int32)).length = mm) (by omega : 0 + mm ≤ mm)) N1050 low1047 (g := (mkF m 27 #[.val (.ref br), .val (.int 0), .val (.int zt), .val (.int zt), .val (.ref b1047)] [(.int zt), (.int 0), (.ref b1047), (.int 0), (.ref br)])) rfl (by rw [hml]; rfl) rfl (od hby dc43 20 rfl) (by decide) (W := 0) (own_W0 rfl) (by decide)
  have U1051 : Arv Z h1051 b1047 k1047 .byte zt (own_I (own_cp xs (List.replicate (mm) 0) (0) (0) (mm))) (.int 0) := own_cpV ot0 ot0 hm Ua1051
  have K1051 : Keep h0 h1051 [] := K1047.trans Kq1051 (allS (Or.inr sz1047) all0)
  refine own_go st1051 ?_
  refine own_go (B := T1051.setTop (mkF m 32 #[.val (.ref br), .val (.int 0), .val (.int zt), .val (.int zt), .val (.ref b1047)] [(.ref b1047)])) (fun t k => ?_) ?_
  · refine XS.aload X1051.here hx rfl (od hby dc43 21 rfl) rfl rfl ?_
    exact k
  exact own_rA Bd X1051 hx rfl rfl rfl (od hby dc43 22 rfl) (by rw [e1051]; exact ⟨b1047, k1047, (own_cp xs (List.replicate (mm) 0) (0) (0) (mm)), rfl, N1051, K1051, sz1047, U1051, (own_cpl (by rw [List.length_replicate]; omega)).trans List.length_replicate, own_cpq (by rw [List.length_replicate]; exact Nat.le_refl _)⟩) (by decide)
def Qcrg (Z : State) (br : Addr) (zt : Int32) (kb : ClassId) (zb : Int32) (xs : List Int32) (mm mb : Nat) (h0 : Heap) (n0 : Nat) (v : Option Value) (h : Heap) (L : List Loc) : Prop := ∃ nr : Addr, ∃ kn : ClassId, ∃ ys : List Int32, v = some (.ref nr) ∧ Fr n0 L ∧ Keep h0 h [] ∧ h0.size ≤ nr ∧ Arv Z h nr kn .byte zt (own_I ys) (.int 0) ∧ (ys.length = mm) ∧ (∀ q, q < mm → ys.getD q 0 = xs.getD q 0)
theorem efcrg (m : MethodId) (x0 : Addr) (x2 : Int32) : entryFrame m #[(.ref x0), (.int 0), (.int x2)] 3 = mkF m 0 #[.val (.ref x0), .val (.int 0), .val (.int x2)] [] := by first | (simp [entryFrame, mkF, argsToLocals, Value.category]; done) | rfl
set_option maxRecDepth 65536 in
set_option maxHeartbeats 40000000 in
theorem crg (l : Launch) (Z : State) (a0 : Array Value) (hw : own_HW a0 Z) (ws : List Jvm.Cond) (br : Addr) (zt : Int32) (kb : ClassId) (zb : Int32) (xs : List Int32) (mm mb : Nat) (h0 : Heap) (n0 : Nat) (Z0 : n0 ≤ h0.size) (P0 : Arv Z h0 br kb .byte zb (own_I xs) (.int 0)) (hm : zt.toInt = (mm : Int)) (hzb : zb.toInt = (mb : Int)) (hlt : mm < mb) (hs : mm ≤ 202) :
    own_M l Z yN52 jdk_65_method_132_code 3 (some (.array .byte)) ws (own_R 2 1 202 34) #[(.ref br), (.int 0), (.int zt)] h0 (Qcrg Z br zt kb zb xs mm mb h0 n0) := by
  refine own_b (own := jY) rfl (plainFor_of_name pn_9) (fun m => efcrg m br zt) n0 fun p e s m below meth c s₁ Bd hZ hx hby hml hown X0 e0 N0 => ?_
  have K0 : Keep h0 h0 [] := Keep.refl h0 _
  refine own_go (B := s₁.setTop (mkF m 6 #[.val (.ref br), .val (.int 0), .val (.int zt)] [(.ref br), (.int zt)])) (fun t k => ?_) ?_
  · refine XS.iloadN X0.here hx rfl (od hby dc42 0 rfl) rfl ?_
    refine XS.ifNo X0.here hx rfl (od hby dc42 1 rfl) rfl ((if0 _ _).trans (teq (rfl : (0 : Int32) = (0 : Int32))).2) ?_
    refine XS.iloadN X0.here hx rfl (od hby dc42 2 rfl) rfl ?_
    refine XS.aloadN X0.here hx rfl (od hby dc42 3 rfl) rfl rfl ?_
    exact k
  obtain ⟨cl1054, Ar1054, q1054, S1054, M1054, Ha1054, G1054⟩ := id P0
  refine own_go (B := s₁.setTop (mkF m 7 #[.val (.ref br), .val (.int 0), .val (.int zt)] [(.int zb), (.int zt)])) (fun t k => ?_) ?_
  · refine X0.arraylength hx (by rw [e0]; exact Ar1054.1) (State.isArrayOf_alike hZ.alike Ar1054.2.1) (g := (mkF m 6 #[.val (.ref br), .val (.int 0), .val (.int zt)] [(.ref br), (.int zt)])) rfl rfl (od hby dc42 4 rfl) _ ?_
    rw [len_of S1054 M1054]
    exact k
  have hc7_1055 : ¬ (zt = zb) := (own_wnz hm hzb hlt)
  refine own_go (B := s₁.setTop (mkF m 13 #[.val (.ref br), .val (.int 0), .val (.int zt)] [(.int zt), (.int 0), (.ref br)])) (fun t k => ?_) ?_
  · refine XS.icmpNo X0.here hx rfl (od hby dc42 5 rfl) rfl (feq hc7_1055).1 ?_
    refine XS.aloadN X0.here hx rfl (od hby dc42 6 rfl) rfl rfl ?_
    refine XS.iloadN X0.here hx rfl (od hby dc42 7 rfl) rfl ?_
    refine XS.iloadN X0.here hx rfl (od hby dc42 8 rfl) rfl ?_
    exact k
  obtain ⟨_, _, ⟨T1056, L1056, k1056, n1056⟩, -, X1056, ⟨Lc1056, hQ1056, l1056, y1056, z1056⟩, st1056⟩ := Jvm.LawKit.callS X0 hx (y := yN51) hown (mvT hZ (own_w hw 208 rfl)) (mvT hZ (own_w hw 209 rfl)) (mvT hZ (own_w hw 147 rfl)) (mvT hZ (own_w hw 210 rfl)) (by decide) (backOf (W := 0) (crb l Z a0 hw [] br zt kb zb xs mm mb h0 n0 Z0 P0 hm hzb hlt hs) hZ (own_w hw 210 rfl) (own_w hw 147 rfl) (by decide) (by decide)) (g := (mkF m 13 #[.val (.ref br), .val (.int 0), .val (.int zt)] [(.int zt), (.int 0), (.ref br)])) rfl (by rw [hml]; rfl) (argsL := [(.ref br), (.int 0), (.int zt)]) (rest := []) (lenOf pd_31 rfl) rfl (own_W0 rfl) (od hby dc42 9 rfl) (fun _ _ => ⟨rfl, e0, (by decide : 0 + 1 ≤ _), (by decide : 0 + 202 ≤ _)⟩)
  dsimp only [Pt.U, Pt.locs, Pt.cells, Pt.slots] at X1056 l1056 y1056 z1056 st1056 hQ1056
  subst l1056 y1056 z1056
  obtain ⟨nr_1056, kn_1056, ys_1056, rfl, Nq1056, Kq1056, sq_nr_1056, U1056_0, Pq1056_0, Pq1056_1⟩ := hQ1056
  have sz_nr_1056 : h0.size ≤ nr_1056 := Nat.le_trans K0.1 sq_nr_1056
  have K1056 : Keep h0 T1056.heap [] := K0.trans Kq1056 all0
  have N1056 := Fr.app N0 Nq1056
  refine own_go (B := T1056.setTop (mkF m 16 #[.val (.ref br), .val (.int 0), .val (.int zt)] [(.ref nr_1056)])) st1056 ?_
  exact own_rA Bd X1056 hx rfl rfl rfl (od hby dc42 10 rfl) ⟨nr_1056, kn_1056, ys_1056, rfl, N1056, K1056, sz_nr_1056, U1056_0, Pq1056_0, Pq1056_1⟩ (by decide)
def QsiL (Z : State) (oo sb br : Addr) (kb : ClassId) (ns : List Int32) (zc : Int32) (mm : Nat) (cs : Int32) (h0 : Heap) (n0 : Nat) (v : Option Value) (h : Heap) (L : List Loc) : Prop := ∃ nr : Addr, ∃ kn : ClassId, ∃ ys : List Int32, v = none ∧ Fr n0 L ∧ Keep h0 h [oo] ∧ h0.size ≤ nr ∧ oo ≠ nr ∧ Fld Z h oo jS "value" "[B" (.ref nr) ∧ Fld Z h oo jS "coder" "B" (.int 0) ∧ Arv Z h nr kn .byte zc (own_I ys) (.int 0) ∧ (ys.length = mm) ∧ (∀ q, q < mm → ys.getD q 0 = ns.getD q 0)
theorem efsiL (m : MethodId) (x0 : Addr) (x1 : Addr) : entryFrame m #[(.ref x0), (.ref x1), .null] 5 = mkF m 0 #[.val (.ref x0), .val (.ref x1), .val .null, .unset, .unset] [] := by first | (simp [entryFrame, mkF, argsToLocals, Value.category]; done) | rfl
set_option maxRecDepth 65536 in
set_option maxHeartbeats 40000000 in
theorem siL (l : Launch) (Z : State) (a0 : Array Value) (hw : own_HW a0 Z) (ws : List Jvm.Cond) (oo sb br : Addr) (kb : ClassId) (ns : List Int32) (zc : Int32) (mm : Nat) (cs : Int32) (h0 : Heap) (n0 : Nat) (Z0 : n0 ≤ h0.size) (P0 : Exa Z h0 oo jS) (P1 : Fld Z h0 oo jS "value" "[B" .null) (P2 : Fld Z h0 oo jS "coder" "B" (.int 0)) (P3 : Exa Z h0 sb jB) (P4 : Fld Z h0 sb jA "value" "[B" (.ref br)) (P5 : Fld Z h0 sb jA "coder" "B" (.int 0)) (P6 : Fld Z h0 sb jA "count" "I" (.int zc)) (P7 : Fld Z h0 sb jA "maybeLatin1" "Z" (.int 0)) (P8 : Arv Z h0 br kb .byte (186 : Int32) (own_I ns) (.int 0)) (P9 : Sta Z h0 jS "COMPACT_STRINGS" "Z" (.int cs)) (g_oo : n0 ≤ oo) (ne_oo_sb : oo ≠ sb) (ne_oo_br : oo ≠ br) (hcs : cs ≠ (0 : Int32)) (hm : zc.toInt = (mm : Int)) (hmm : mm ≤ 101) :
    own_M l Z yN53 jdk_42_method_150_code 5 none ws (own_R 3 1 202 49) #[(.ref oo), (.ref sb), .null] h0 (QsiL Z oo sb br kb ns zc mm cs h0 n0) := by
  refine own_b (own := jS) rfl (plainFor_of_name pn_1) (fun m => efsiL m oo sb) n0 fun p e s m below meth c s₁ Bd hZ hx hby hml hown X0 e0 N0 => ?_
  have hnm := (name_of_methodNamed Bd.named Bd.method).1
  have K0 : Keep h0 h0 [oo] := Keep.refl h0 _
  refine own_go (B := s₁.setTop (mkF m 1 #[.val (.ref oo), .val (.ref sb), .val .null, .unset, .unset] [(.ref oo)])) (fun t k => ?_) ?_
  · refine XS.aloadN X0.here hx rfl (od hby dc37 0 rfl) rfl rfl ?_
    exact k
  obtain ⟨T1058, X1058, e1058, st1058⟩ := initO X0 hx hZ hown (own_w hw 18 rfl) (own_w hw 19 rfl) (own_w hw 20 rfl) e0 (g := (mkF m 1 #[.val (.ref oo), .val (.ref sb), .val .null, .unset, .unset] [(.ref oo)])) rfl (by rw [hml]; rfl) rfl (od hby dc37 1 rfl) (by decide) (W := 0) (own_W0 rfl) (by decide)
  refine own_go st1058 ?_
  refine own_go (B := T1058.setTop (mkF m 5 #[.val (.ref oo), .val (.ref sb), .val .null, .unset, .unset] [(.ref sb)])) (fun t k => ?_) ?_
  · refine XS.aloadN X1058.here hx rfl (od hby dc37 2 rfl) rfl rfl ?_
    exact k
  obtain ⟨cq1059, kq1059, q1059a, q1059b, q1059c⟩ := isOf hZ e1058 P3
  obtain ⟨_, _, ⟨T1059, L1059, k1059, n1059⟩, -, X1059, ⟨Lc1059, hQ1059, l1059, y1059, z1059⟩, st1059⟩ := X1058.virtualBack hx (y := yN47) (z := yN47) hown (mvT hZ (own_w hw 187 rfl)) (mvT hZ (own_w hw 188 rfl)) (notFace_of_selects (args := #[]) (mvT hZ (own_w hw 190 rfl))) (mvT hZ (own_w hw 190 rfl)) (mvT hZ (own_w hw 189 rfl)) (by decide) (backOf (W := 0) (gvl l Z a0 hw [] sb br h0 n0 Z0 P4) hZ (own_w hw 191 rfl) (own_w hw 104 rfl) (by decide) (by decide)) q1059a q1059c (g := (mkF m 5 #[.val (.ref oo), .val (.ref sb), .val .null, .unset, .unset] [(.ref sb)])) rfl (by rw [hml]; rfl) (Steps.refl _) (argsL := []) (rest := []) (lenOf pd_32 rfl) rfl (own_W0 rfl) (od hby dc37 3 rfl) (fun _ _ => ⟨rfl, e1058, (by decide : 0 + 0 ≤ _), (by decide : 0 + 0 ≤ _)⟩)
  dsimp only [Pt.U, Pt.locs, Pt.cells, Pt.slots] at X1059 l1059 y1059 z1059 st1059 hQ1059
  subst l1059 y1059 z1059
  obtain ⟨rfl, Nq1059, e1059⟩ := hQ1059
  have N1059 := Fr.app N0 Nq1059
  refine own_go (B := T1059.setTop (mkF m 8 #[.val (.ref oo), .val (.ref sb), .val .null, .unset, .unset] [(.ref br)])) (fun t k => st1059.trans k) ?_
  refine own_go (B := T1059.setTop (mkF m 10 #[.val (.ref oo), .val (.ref sb), .val .null, .val (.ref br), .unset] [(.ref sb)])) (fun t k => ?_) ?_
  · refine XS.astoreN X1059.here hx rfl (od hby dc37 4 rfl) rfl rfl (l' := #[.val (.ref oo), .val (.ref sb), .val .null, .val (.ref br), .unset]) rfl ?_
    refine XS.aloadN X1059.here hx rfl (od hby dc37 5 rfl) rfl rfl ?_
    exact k
  obtain ⟨cq1060, kq1060, q1060a, q1060b, q1060c⟩ := isOf hZ e1059 P3
  obtain ⟨_, _, ⟨T1060, L1060, k1060, n1060⟩, -, X1060, ⟨Lc1060, hQ1060, l1060, y1060, z1060⟩, st1060⟩ := X1059.virtualBack hx (y := yN48) (z := yN49) hown (mvT hZ (own_w hw 192 rfl)) (mvT hZ (own_w hw 193 rfl)) (own_nf (args := #[]) (mvT hZ (own_w hw 128 rfl)) rfl) (mvT hZ (own_w hw 195 rfl)) (mvT hZ (own_w hw 196 rfl)) (by decide) (backOf (W := 0) (sln l Z a0 hw [] sb zc h0 n0 Z0 P3 P6) hZ (own_w hw 197 rfl) (own_w hw 96 rfl) (by decide) (by decide)) q1060a q1060c (g := (mkF m 10 #[.val (.ref oo), .val (.ref sb), .val .null, .val (.ref br), .unset] [(.ref sb)])) rfl (by rw [hml]; rfl) (Steps.refl _) (argsL := []) (rest := []) (lenOf pd_15 rfl) rfl (own_W0 rfl) (od hby dc37 6 rfl) (fun _ _ => ⟨rfl, e1059, (by decide : 0 + 0 ≤ _), (by decide : 0 + 0 ≤ _)⟩)
  dsimp only [Pt.U, Pt.locs, Pt.cells, Pt.slots] at X1060 l1060 y1060 z1060 st1060 hQ1060
  subst l1060 y1060 z1060
  obtain ⟨rfl, Nq1060, e1060⟩ := hQ1060
  have N1060 := Fr.app N1059 Nq1060
  refine own_go (B := T1060.setTop (mkF m 13 #[.val (.ref oo), .val (.ref sb), .val .null, .val (.ref br), .unset] [(.int zc)])) (fun t k => st1060.trans k) ?_
  refine own_go (B := T1060.setTop (mkF m 16 #[.val (.ref oo), .val (.ref sb), .val .null, .val (.ref br), .val (.int zc)] [(.ref sb)])) (fun t k => ?_) ?_
  · refine XS.istore X1060.here hx rfl (od hby dc37 7 rfl) rfl (l' := #[.val (.ref oo), .val (.ref sb), .val .null, .val (.ref br), .val (.int zc)]) rfl ?_
    refine XS.aloadN X1060.here hx rfl (od hby dc37 8 rfl) rfl rfl ?_
    exact k
  obtain ⟨cq1061, kq1061, q1061a, q1061b, q1061c⟩ := isOf hZ e1060 P3
  obtain ⟨_, _, ⟨T1061, L1061, k1061, n1061⟩, -, X1061, ⟨Lc1061, hQ1061, l1061, y1061, z1061⟩, st1061⟩ := X1060.virtualBack hx (y := yN29) (z := yN29) hown (mvT hZ (own_w hw 200 rfl)) (mvT hZ (own_w hw 201 rfl)) (notFace_of_selects (args := #[]) (mvT hZ (own_w hw 203 rfl))) (mvT hZ (own_w hw 203 rfl)) (mvT hZ (own_w hw 202 rfl)) (by decide) (backOf (W := 0) (asl_0 l Z a0 hw [] sb cs h0 n0 Z0 P5 P9 hcs) hZ (own_w hw 204 rfl) (own_w hw 104 rfl) (by decide) (by decide)) q1061a q1061c (g := (mkF m 16 #[.val (.ref oo), .val (.ref sb), .val .null, .val (.ref br), .val (.int zc)] [(.ref sb)])) rfl (by rw [hml]; rfl) (Steps.refl _) (argsL := []) (rest := []) (lenOf pd_14 rfl) rfl (own_W0 rfl) (od hby dc37 9 rfl) (fun _ _ => ⟨rfl, e1060, (by decide : 0 + 0 ≤ _), (by decide : 0 + 0 ≤ _)⟩)
  dsimp only [Pt.U, Pt.locs, Pt.cells, Pt.slots] at X1061 l1061 y1061 z1061 st1061 hQ1061
  subst l1061 y1061 z1061
  obtain ⟨rfl, Nq1061, e1061⟩ := hQ1061
  have N1061 := Fr.app N1060 Nq1061
  refine own_go (B := T1061.setTop (mkF m 19 #[.val (.ref oo), .val (.ref sb), .val .null, .val (.ref br), .val (.int zc)] [(.int 1)])) (fun t k => st1061.trans k) ?_
  refine own_go (B := T1061.setTop (mkF m 24 #[.val (.ref oo), .val (.ref sb), .val .null, .val (.ref br), .val (.int zc)] [(.int 0), (.ref oo)])) (fun t k => ?_) ?_
  · refine XS.ifNo X1061.here hx rfl (od hby dc37 10 rfl) rfl ((if0 _ _).trans (feq (by decide : ¬ ((1 : Int32) = (0 : Int32)))).1) ?_
    refine XS.aloadN X1061.here hx rfl (od hby dc37 11 rfl) rfl rfl ?_
    refine XS.iconst X1061.here hx rfl (od hby dc37 12 rfl) ?_
    exact k
  obtain ⟨T1063, h1063, X1063, e1063, W1063, st1063⟩ := putFN (v' := (.int 0)) X1061 hx hZ hown (own_w hw 28 rfl) Via.refl e1061 P2 P0 (Or.inr ⟨(own_w hw 24 rfl), rfl, hnm⟩) (own_w hw 8 rfl) (ty := .byte) (by decide) rfl rfl (g := (mkF m 24 #[.val (.ref oo), .val (.ref sb), .val .null, .val (.ref br), .val (.int zc)] [(.int 0), (.ref oo)])) rfl rfl (od hby dc37 13 rfl)
  have Q1064 := P0.wr W1063
  have Q1065 := P1.other W1063 (Or.inr (slot_ne (Or.inr (own_w hw 23 rfl)) (Or.inr (own_w hw 24 rfl)) (by decide) (t := (.array .byte)) (t' := .byte) (by decide) (by decide)))
  have Q1071 := P8.other W1063 (Ne.symm ne_oo_br)
  have U1063 : Fld Z h1063 oo jS "coder" "B" (.int 0) := P2.same W1063
  have Z1063 : n0 ≤ h1063.size := Nat.le_trans Z0 (Keep.of_wr W1063).1
  have N1063 := Fr.snoc X1063 N1061 g_oo
  have K1063 := K0.wr W1063 (Or.inl (List.mem_of_getElem? (i := 0) rfl))
  refine own_go st1063 ?_
  refine own_go (B := T1063.setTop (mkF m 32 #[.val (.ref oo), .val (.ref sb), .val .null, .val (.ref br), .val (.int zc)] [(.int zc), (.int 0), (.ref br), (.ref oo)])) (fun t k => ?_) ?_
  · refine XS.aloadN X1063.here hx rfl (od hby dc37 14 rfl) rfl rfl ?_
    refine XS.aloadN X1063.here hx rfl (od hby dc37 15 rfl) rfl rfl ?_
    refine XS.iconst X1063.here hx rfl (od hby dc37 16 rfl) ?_
    refine XS.iload X1063.here hx rfl (od hby dc37 17 rfl) rfl ?_
    exact k
  obtain ⟨_, _, ⟨T1073, L1073, k1073, n1073⟩, -, X1073, ⟨Lc1073, hQ1073, l1073, y1073, z1073⟩, st1073⟩ := Jvm.LawKit.callS X1063 hx (y := yN52) hown (mvT hZ (own_w hw 205 rfl)) (mvT hZ (own_w hw 206 rfl)) (mvT hZ (own_w hw 147 rfl)) (mvT hZ (own_w hw 207 rfl)) (by decide) (backOf (W := 1) (crg l Z a0 hw [] br zc kb (186 : Int32) ns mm 186 h1063 n0 Z1063 Q1071 hm ot186 (by omega) (by omega)) hZ (own_w hw 207 rfl) (own_w hw 147 rfl) (by decide) (by decide)) (g := (mkF m 32 #[.val (.ref oo), .val (.ref sb), .val .null, .val (.ref br), .val (.int zc)] [(.int zc), (.int 0), (.ref br), (.ref oo)])) rfl (by rw [hml]; rfl) (argsL := [(.ref br), (.int 0), (.int zc)]) (rest := [(.ref oo)]) (lenOf pd_31 rfl) rfl (own_W0 rfl) (od hby dc37 18 rfl) (fun _ _ => ⟨rfl, e1063, (by decide : 0 + 1 ≤ _), (by decide : 0 + 202 ≤ _)⟩)
  dsimp only [Pt.U, Pt.locs, Pt.cells, Pt.slots] at X1073 l1073 y1073 z1073 st1073 hQ1073
  subst l1073 y1073 z1073
  obtain ⟨nr_1073, kn_1073, ys_1073, rfl, Nq1073, Kq1073, sq_nr_1073, U1073_0, Pq1073_0, Pq1073_1⟩ := hQ1073
  have ne_oo_nr_1073 : oo ≠ nr_1073 := Nat.ne_of_lt (Nat.lt_of_lt_of_le Q1064.lt sq_nr_1073)
  have sz_nr_1073 : h0.size ≤ nr_1073 := Nat.le_trans K1063.1 sq_nr_1073
  have Q1074 := Q1064.keep Kq1073
  have Q1075 := Q1065.keep Kq1073 nin0
  have Q1083 := U1063.keep Kq1073 nin0
  have K1073 : Keep h0 T1073.heap [oo] := K1063.trans Kq1073 all0
  have N1073 := Fr.app N1063 Nq1073
  refine own_go (B := T1073.setTop (mkF m 35 #[.val (.ref oo), .val (.ref sb), .val .null, .val (.ref br), .val (.int zc)] [(.ref nr_1073), (.ref oo)])) st1073 ?_
  obtain ⟨T1084, h1084, X1084, e1084, W1084, st1084⟩ := putF X1073 hx hZ hown (host := "") (Or.inl (own_w hw 27 rfl)) Via.refl rfl Q1075 Q1074 (Or.inr ⟨(own_w hw 23 rfl), rfl, hnm⟩) (own_w hw 8 rfl) (ty := (.array .byte)) (by decide) rfl rfl (g := (mkF m 35 #[.val (.ref oo), .val (.ref sb), .val .null, .val (.ref br), .val (.int zc)] [(.ref nr_1073), (.ref oo)])) rfl rfl (od hby dc37 19 rfl)
  have Q1093 := Q1083.other W1084 (Or.inr (slot_ne (Or.inr (own_w hw 24 rfl)) (Or.inr (own_w hw 23 rfl)) (by decide) (t := .byte) (t' := (.array .byte)) (by decide) (by decide)))
  have Q1094 := U1073_0.other W1084 (Ne.symm ne_oo_nr_1073)
  have U1084 : Fld Z h1084 oo jS "value" "[B" (.ref nr_1073) := Q1075.same W1084
  have N1084 := Fr.snoc X1084 N1073 g_oo
  have K1084 := K1073.wr W1084 (Or.inl (List.mem_of_getElem? (i := 0) rfl))
  refine own_go st1084 ?_
  refine own_go (B := T1084.setTop (mkF m 97 #[.val (.ref oo), .val (.ref sb), .val .null, .val (.ref br), .val (.int zc)] [])) (fun t k => ?_) ?_
  · refine XS.goto X1084.here hx rfl (pc0 := 38) (pc' := 97) rfl (od hby dc37 20 rfl) (by decide) (by decide) ?_
    exact k
  exact own_rV Bd X1084 hx (od hby dc37 21 rfl) (by rw [e1084]; exact ⟨nr_1073, kn_1073, ys_1073, rfl, N1084, K1084, sz_nr_1073, ne_oo_nr_1073, U1084, Q1093, Q1094, Pq1073_0, Pq1073_1⟩) (by decide)
def QsjL (Z : State) (oo sb br : Addr) (kb : ClassId) (ns : List Int32) (zc : Int32) (mm : Nat) (cs : Int32) (h0 : Heap) (n0 : Nat) (v : Option Value) (h : Heap) (L : List Loc) : Prop := ∃ nr : Addr, ∃ kn : ClassId, ∃ ys : List Int32, v = none ∧ Fr n0 L ∧ Keep h0 h [oo] ∧ h0.size ≤ nr ∧ oo ≠ nr ∧ Fld Z h oo jS "value" "[B" (.ref nr) ∧ Fld Z h oo jS "coder" "B" (.int 0) ∧ Arv Z h nr kn .byte zc (own_I ys) (.int 0) ∧ (ys.length = mm) ∧ (∀ q, q < mm → ys.getD q 0 = ns.getD q 0)
theorem efsjL (m : MethodId) (x0 : Addr) (x1 : Addr) : entryFrame m #[(.ref x0), (.ref x1)] 2 = mkF m 0 #[.val (.ref x0), .val (.ref x1)] [] := by first | (simp [entryFrame, mkF, argsToLocals, Value.category]; done) | rfl
set_option maxRecDepth 65536 in
set_option maxHeartbeats 40000000 in
theorem sjL (l : Launch) (Z : State) (a0 : Array Value) (hw : own_HW a0 Z) (ws : List Jvm.Cond) (oo sb br : Addr) (kb : ClassId) (ns : List Int32) (zc : Int32) (mm : Nat) (cs : Int32) (h0 : Heap) (n0 : Nat) (Z0 : n0 ≤ h0.size) (P0 : Exa Z h0 oo jS) (P1 : Fld Z h0 oo jS "value" "[B" .null) (P2 : Fld Z h0 oo jS "coder" "B" (.int 0)) (P3 : Exa Z h0 sb jB) (P4 : Fld Z h0 sb jA "value" "[B" (.ref br)) (P5 : Fld Z h0 sb jA "coder" "B" (.int 0)) (P6 : Fld Z h0 sb jA "count" "I" (.int zc)) (P7 : Fld Z h0 sb jA "maybeLatin1" "Z" (.int 0)) (P8 : Arv Z h0 br kb .byte (186 : Int32) (own_I ns) (.int 0)) (P9 : Sta Z h0 jS "COMPACT_STRINGS" "Z" (.int cs)) (g_oo : n0 ≤ oo) (ne_oo_sb : oo ≠ sb) (ne_oo_br : oo ≠ br) (hcs : cs ≠ (0 : Int32)) (hm : zc.toInt = (mm : Int)) (hmm : mm ≤ 101) :
    own_M l Z yN54 jdk_42_method_53_code 2 none ws (own_R 4 1 202 65) #[(.ref oo), (.ref sb)] h0 (QsjL Z oo sb br kb ns zc mm cs h0 n0) := by
  refine own_b (own := jS) rfl (plainFor_of_name pn_1) (fun m => efsjL m oo sb) n0 fun p e s m below meth c s₁ Bd hZ hx hby hml hown X0 e0 N0 => ?_
  have K0 : Keep h0 h0 [oo] := Keep.refl h0 _
  refine own_go (B := s₁.setTop (mkF m 3 #[.val (.ref oo), .val (.ref sb)] [.null, (.ref sb), (.ref oo)])) (fun t k => ?_) ?_
  · refine XS.aloadN X0.here hx rfl (od hby dc36 0 rfl) rfl rfl ?_
    refine XS.aloadN X0.here hx rfl (od hby dc36 1 rfl) rfl rfl ?_
    refine XS.aconstNull X0.here hx rfl (od hby dc36 2 rfl) ?_
    exact k
  obtain ⟨_, _, ⟨T1095, L1095, k1095, n1095⟩, -, X1095, ⟨Lc1095, hQ1095, l1095, y1095, z1095⟩, st1095⟩ := X0.specialBack hx (y := yN53) rfl hown (mvT hZ (own_w hw 184 rfl)) (mvT hZ (own_w hw 185 rfl)) (mvT hZ (own_w hw 186 rfl)) (by decide) (backOf (W := 0) (siL l Z a0 hw [] oo sb br kb ns zc mm cs h0 n0 Z0 P0 P1 P2 P3 P4 P5 P6 P7 P8 P9 g_oo ne_oo_sb ne_oo_br hcs hm hmm) hZ (own_w hw 186 rfl) (own_w hw 9 rfl) (by decide) (by decide)) (g := (mkF m 3 #[.val (.ref oo), .val (.ref sb)] [.null, (.ref sb), (.ref oo)])) rfl (by rw [hml]; rfl) (Steps.refl _) (a := oo) (argsL := [(.ref sb), .null]) (rest := []) (lenOf pd_33 rfl) rfl (own_W0 rfl) (od hby dc36 3 rfl) (fun _ _ => ⟨rfl, e0, (by decide : 0 + 1 ≤ _), (by decide : 0 + 202 ≤ _)⟩)
  dsimp only [Pt.U, Pt.locs, Pt.cells, Pt.slots] at X1095 l1095 y1095 z1095 st1095 hQ1095
  subst l1095 y1095 z1095
  obtain ⟨nr_1095, kn_1095, ys_1095, rfl, Nq1095, Kq1095, sq_nr_1095, pq1095_0, U1095_0, U1095_1, U1095_2, Pq1095_0, Pq1095_1⟩ := hQ1095
  have ne_oo_nr_1095 : oo ≠ nr_1095 := Nat.ne_of_lt (Nat.lt_of_lt_of_le P0.lt sq_nr_1095)
  have sz_nr_1095 : h0.size ≤ nr_1095 := Nat.le_trans K0.1 sq_nr_1095
  have K1095 : Keep h0 T1095.heap [oo] := K0.trans Kq1095 (allS (Or.inl (List.mem_of_getElem? (i := 0) rfl)) all0)
  have N1095 := Fr.app N0 Nq1095
  refine own_go (B := T1095.setTop (mkF m 6 #[.val (.ref oo), .val (.ref sb)] [])) (fun t k => st1095.trans k) ?_
  exact own_rV Bd X1095 hx (od hby dc36 4 rfl) ⟨nr_1095, kn_1095, ys_1095, rfl, N1095, K1095, sz_nr_1095, ne_oo_nr_1095, U1095_0, U1095_1, U1095_2, Pq1095_0, Pq1095_1⟩ (by decide)
def QtsL (Z : State) (sb br : Addr) (kb : ClassId) (ns : List Int32) (zc : Int32) (mm : Nat) (cs : Int32) (h0 : Heap) (n0 : Nat) (v : Option Value) (h : Heap) (L : List Loc) : Prop := ∃ rr : Addr, ∃ nr : Addr, ∃ kn : ClassId, ∃ ys : List Int32, v = some (.ref rr) ∧ Fr n0 L ∧ Keep h0 h [] ∧ h0.size ≤ rr ∧ h0.size ≤ nr ∧ rr ≠ nr ∧ Exa Z h rr jS ∧ Fld Z h rr jS "value" "[B" (.ref nr) ∧ Fld Z h rr jS "coder" "B" (.int 0) ∧ Arv Z h nr kn .byte zc (own_I ys) (.int 0) ∧ (ys.length = mm) ∧ (∀ q, q < mm → ys.getD q 0 = ns.getD q 0)
theorem eftsL (m : MethodId) (x0 : Addr) : entryFrame m #[(.ref x0)] 1 = mkF m 0 #[.val (.ref x0)] [] := by first | (simp [entryFrame, mkF, argsToLocals, Value.category]; done) | rfl
set_option maxRecDepth 65536 in
set_option maxHeartbeats 40000000 in
theorem tsL (l : Launch) (Z : State) (a0 : Array Value) (hw : own_HW a0 Z) (ws : List Jvm.Cond) (sb br : Addr) (kb : ClassId) (ns : List Int32) (zc : Int32) (mm : Nat) (cs : Int32) (h0 : Heap) (n0 : Nat) (Z0 : n0 ≤ h0.size) (P0 : Exa Z h0 sb jB) (P1 : Fld Z h0 sb jA "value" "[B" (.ref br)) (P2 : Fld Z h0 sb jA "coder" "B" (.int 0)) (P3 : Fld Z h0 sb jA "count" "I" (.int zc)) (P4 : Fld Z h0 sb jA "maybeLatin1" "Z" (.int 0)) (P5 : Arv Z h0 br kb .byte (186 : Int32) (own_I ns) (.int 0)) (P6 : Sta Z h0 jS "COMPACT_STRINGS" "Z" (.int cs)) (hcs : cs ≠ (0 : Int32)) (hm : zc.toInt = (mm : Int)) (hmm : mm ≤ 101) :
    own_M l Z yN55 jdk_67_method_42_code 1 (some (.object jS)) ws (own_R 5 2 206 79) #[(.ref sb)] h0 (QtsL Z sb br kb ns zc mm cs h0 n0) := by
  refine own_b (own := jB) rfl (plainFor_of_name pn_7) (fun m => eftsL m sb) n0 fun p e s m below meth c s₁ Bd hZ hx hby hml hown X0 e0 N0 => ?_
  have K0 : Keep h0 h0 [] := Keep.refl h0 _
  obtain ⟨T1104, h1104, X1104, e1104, E1104, A1104, D1104, -, st1104⟩ := newO X0 hx hZ hown (own_w hw 180 rfl) (own_w hw 8 rfl) (own_w hw 9 rfl) e0 (g := (mkF m 0 #[.val (.ref sb)] [])) rfl (od hby dc35 0 rfl) (by decide) (by decide)
  obtain ⟨b1104, g1104⟩ : ∃ z, z = h0.size := ⟨_, rfl⟩
  rw [← g1104] at A1104 D1104 st1104
  have ne1104_br : br ≠ b1104 := Nat.ne_of_lt (Nat.lt_of_lt_of_le P5.lt (Nat.le_of_eq g1104.symm))
  have ne1104_sb : sb ≠ b1104 := Nat.ne_of_lt (Nat.lt_of_lt_of_le P0.lt (Nat.le_of_eq g1104.symm))
  have low1104 : n0 ≤ b1104 := Nat.le_trans Z0 (Nat.le_of_eq g1104.symm)
  have sz1104 : h0.size ≤ b1104 := Nat.le_trans K0.1 (Nat.le_of_eq g1104.symm)
  have Q1105 := P0.ext E1104
  have Q1106 := P1.ext E1104
  have Q1107 := P2.ext E1104
  have Q1108 := P3.ext E1104
  have Q1109 := P4.ext E1104
  have Q1110 := P5.ext E1104
  have Q1111 := P6.ext E1104
  have Z1104 : n0 ≤ h1104.size := Nat.le_trans Z0 E1104.1
  have K1104 := K0.ext E1104
  have D1104_value_String : Fld Z h1104 b1104 jS "value" "[B" .null := D1104 (Or.inr (own_w hw 23 rfl)) (ty := (.array .byte)) (by decide)
  have D1104_coder_String : Fld Z h1104 b1104 jS "coder" "B" (.int 0) := D1104 (Or.inr (own_w hw 24 rfl)) (ty := .byte) (by decide)
  refine own_go st1104 ?_
  refine own_go (B := T1104.setTop (mkF m 5 #[.val (.ref sb)] [(.ref sb), (.ref b1104), (.ref b1104)])) (fun t k => ?_) ?_
  · refine XS.dup X1104.here hx rfl (od hby dc35 1 rfl) rfl rfl ?_
    refine XS.aloadN X1104.here hx rfl (od hby dc35 2 rfl) rfl rfl ?_
    exact k
  obtain ⟨_, _, ⟨T1112, L1112, k1112, n1112⟩, -, X1112, ⟨Lc1112, hQ1112, l1112, y1112, z1112⟩, st1112⟩ := X1104.specialBack hx (y := yN54) rfl hown (mvT hZ (own_w hw 181 rfl)) (mvT hZ (own_w hw 182 rfl)) (mvT hZ (own_w hw 183 rfl)) (by decide) (backOf (W := 1) (sjL l Z a0 hw [] b1104 sb br kb ns zc mm cs h1104 n0 Z1104 A1104 D1104_value_String D1104_coder_String Q1105 Q1106 Q1107 Q1108 Q1109 Q1110 Q1111 low1104 (Ne.symm ne1104_sb) (Ne.symm ne1104_br) hcs hm hmm) hZ (own_w hw 183 rfl) (own_w hw 9 rfl) (by decide) (by decide)) (g := (mkF m 5 #[.val (.ref sb)] [(.ref sb), (.ref b1104), (.ref b1104)])) rfl (by rw [hml]; rfl) (Steps.refl _) (a := b1104) (argsL := [(.ref sb)]) (rest := [(.ref b1104)]) (lenOf pd_34 rfl) rfl (own_W0 rfl) (od hby dc35 3 rfl) (fun _ _ => ⟨rfl, e1104, (by decide : 1 + 1 ≤ _), (by decide : 4 + 202 ≤ _)⟩)
  dsimp only [Pt.U, Pt.locs, Pt.cells, Pt.slots] at X1112 l1112 y1112 z1112 st1112 hQ1112
  subst l1112 y1112 z1112
  obtain ⟨nr_1112, kn_1112, ys_1112, rfl, Nq1112, Kq1112, sq_nr_1112, pq1112_0, U1112_0, U1112_1, U1112_2, Pq1112_0, Pq1112_1⟩ := hQ1112
  have ne_b1104_nr_1112 : b1104 ≠ nr_1112 := Nat.ne_of_lt (Nat.lt_of_lt_of_le A1104.lt sq_nr_1112)
  have sz_nr_1112 : h0.size ≤ nr_1112 := Nat.le_trans K1104.1 sq_nr_1112
  have Q1120 := A1104.keep Kq1112
  have K1112 : Keep h0 T1112.heap [] := K1104.trans Kq1112 (allS (Or.inr sz1104) all0)
  have N1112 := Fr.app N0 Nq1112
  refine own_go (B := T1112.setTop (mkF m 8 #[.val (.ref sb)] [(.ref b1104)])) (fun t k => st1112.trans k) ?_
  exact own_rA Bd X1112 hx rfl rfl rfl (od hby dc35 4 rfl) ⟨b1104, nr_1112, kn_1112, ys_1112, rfl, N1112, K1112, sz1104, sz_nr_1112, ne_b1104_nr_1112, Q1120, U1112_0, U1112_1, U1112_2, Pq1112_0, Pq1112_1⟩ (by decide)
def QsiU (Z : State) (oo sb br : Addr) (kb : ClassId) (ns : List Int32) (zc : Int32) (mm : Nat) (cs : Int32) (h0 : Heap) (n0 : Nat) (v : Option Value) (h : Heap) (L : List Loc) : Prop := ∃ nr : Addr, ∃ kn : ClassId, ∃ ys : List Int32, v = none ∧ Fr n0 L ∧ Keep h0 h [oo] ∧ h0.size ≤ nr ∧ oo ≠ nr ∧ Fld Z h oo jS "value" "[B" (.ref nr) ∧ Fld Z h oo jS "coder" "B" (.int 1) ∧ Arv Z h nr kn .byte (zc <<< ((1 : Int32) &&& 31)) (own_I ys) (.int 0) ∧ (ys.length = (2 * mm)) ∧ (∀ q, q < (2 * mm) → ys.getD q 0 = ns.getD q 0)
theorem efsiU (m : MethodId) (x0 : Addr) (x1 : Addr) : entryFrame m #[(.ref x0), (.ref x1), .null] 5 = mkF m 0 #[.val (.ref x0), .val (.ref x1), .val .null, .unset, .unset] [] := by first | (simp [entryFrame, mkF, argsToLocals, Value.category]; done) | rfl
set_option maxRecDepth 65536 in
set_option maxHeartbeats 40000000 in
theorem siU (l : Launch) (Z : State) (a0 : Array Value) (hw : own_HW a0 Z) (ws : List Jvm.Cond) (oo sb br : Addr) (kb : ClassId) (ns : List Int32) (zc : Int32) (mm : Nat) (cs : Int32) (h0 : Heap) (n0 : Nat) (Z0 : n0 ≤ h0.size) (P0 : Exa Z h0 oo jS) (P1 : Fld Z h0 oo jS "value" "[B" .null) (P2 : Fld Z h0 oo jS "coder" "B" (.int 0)) (P3 : Exa Z h0 sb jB) (P4 : Fld Z h0 sb jA "value" "[B" (.ref br)) (P5 : Fld Z h0 sb jA "coder" "B" (.int 1)) (P6 : Fld Z h0 sb jA "count" "I" (.int zc)) (P7 : Fld Z h0 sb jA "maybeLatin1" "Z" (.int 0)) (P8 : Arv Z h0 br kb .byte (372 : Int32) (own_I ns) (.int 0)) (P9 : Sta Z h0 jS "COMPACT_STRINGS" "Z" (.int cs)) (g_oo : n0 ≤ oo) (ne_oo_sb : oo ≠ sb) (ne_oo_br : oo ≠ br) (hcs : cs ≠ (0 : Int32)) (hm : zc.toInt = (mm : Int)) (hmm : mm ≤ 101) :
    own_M l Z yN53 jdk_42_method_150_code 5 none ws (own_R 3 1 202 49) #[(.ref oo), (.ref sb), .null] h0 (QsiU Z oo sb br kb ns zc mm cs h0 n0) := by
  refine own_b (own := jS) rfl (plainFor_of_name pn_1) (fun m => efsiU m oo sb) n0 fun p e s m below meth c s₁ Bd hZ hx hby hml hown X0 e0 N0 => ?_
  have hnm := (name_of_methodNamed Bd.named Bd.method).1
  have K0 : Keep h0 h0 [oo] := Keep.refl h0 _
  refine own_go (B := s₁.setTop (mkF m 1 #[.val (.ref oo), .val (.ref sb), .val .null, .unset, .unset] [(.ref oo)])) (fun t k => ?_) ?_
  · refine XS.aloadN X0.here hx rfl (od hby dc37 0 rfl) rfl rfl ?_
    exact k
  obtain ⟨T1121, X1121, e1121, st1121⟩ := initO X0 hx hZ hown (own_w hw 18 rfl) (own_w hw 19 rfl) (own_w hw 20 rfl) e0 (g := (mkF m 1 #[.val (.ref oo), .val (.ref sb), .val .null, .unset, .unset] [(.ref oo)])) rfl (by rw [hml]; rfl) rfl (od hby dc37 1 rfl) (by decide) (W := 0) (own_W0 rfl) (by decide)
  refine own_go st1121 ?_
  refine own_go (B := T1121.setTop (mkF m 5 #[.val (.ref oo), .val (.ref sb), .val .null, .unset, .unset] [(.ref sb)])) (fun t k => ?_) ?_
  · refine XS.aloadN X1121.here hx rfl (od hby dc37 2 rfl) rfl rfl ?_
    exact k
  obtain ⟨cq1122, kq1122, q1122a, q1122b, q1122c⟩ := isOf hZ e1121 P3
  obtain ⟨_, _, ⟨T1122, L1122, k1122, n1122⟩, -, X1122, ⟨Lc1122, hQ1122, l1122, y1122, z1122⟩, st1122⟩ := X1121.virtualBack hx (y := yN47) (z := yN47) hown (mvT hZ (own_w hw 187 rfl)) (mvT hZ (own_w hw 188 rfl)) (notFace_of_selects (args := #[]) (mvT hZ (own_w hw 190 rfl))) (mvT hZ (own_w hw 190 rfl)) (mvT hZ (own_w hw 189 rfl)) (by decide) (backOf (W := 0) (gvl l Z a0 hw [] sb br h0 n0 Z0 P4) hZ (own_w hw 191 rfl) (own_w hw 104 rfl) (by decide) (by decide)) q1122a q1122c (g := (mkF m 5 #[.val (.ref oo), .val (.ref sb), .val .null, .unset, .unset] [(.ref sb)])) rfl (by rw [hml]; rfl) (Steps.refl _) (argsL := []) (rest := []) (lenOf pd_32 rfl) rfl (own_W0 rfl) (od hby dc37 3 rfl) (fun _ _ => ⟨rfl, e1121, (by decide : 0 + 0 ≤ _), (by decide : 0 + 0 ≤ _)⟩)
  dsimp only [Pt.U, Pt.locs, Pt.cells, Pt.slots] at X1122 l1122 y1122 z1122 st1122 hQ1122
  subst l1122 y1122 z1122
  obtain ⟨rfl, Nq1122, e1122⟩ := hQ1122
  have N1122 := Fr.app N0 Nq1122
  refine own_go (B := T1122.setTop (mkF m 8 #[.val (.ref oo), .val (.ref sb), .val .null, .unset, .unset] [(.ref br)])) (fun t k => st1122.trans k) ?_
  refine own_go (B := T1122.setTop (mkF m 10 #[.val (.ref oo), .val (.ref sb), .val .null, .val (.ref br), .unset] [(.ref sb)])) (fun t k => ?_) ?_
  · refine XS.astoreN X1122.here hx rfl (od hby dc37 4 rfl) rfl rfl (l' := #[.val (.ref oo), .val (.ref sb), .val .null, .val (.ref br), .unset]) rfl ?_
    refine XS.aloadN X1122.here hx rfl (od hby dc37 5 rfl) rfl rfl ?_
    exact k
  obtain ⟨cq1123, kq1123, q1123a, q1123b, q1123c⟩ := isOf hZ e1122 P3
  obtain ⟨_, _, ⟨T1123, L1123, k1123, n1123⟩, -, X1123, ⟨Lc1123, hQ1123, l1123, y1123, z1123⟩, st1123⟩ := X1122.virtualBack hx (y := yN48) (z := yN49) hown (mvT hZ (own_w hw 192 rfl)) (mvT hZ (own_w hw 193 rfl)) (own_nf (args := #[]) (mvT hZ (own_w hw 128 rfl)) rfl) (mvT hZ (own_w hw 195 rfl)) (mvT hZ (own_w hw 196 rfl)) (by decide) (backOf (W := 0) (sln l Z a0 hw [] sb zc h0 n0 Z0 P3 P6) hZ (own_w hw 197 rfl) (own_w hw 96 rfl) (by decide) (by decide)) q1123a q1123c (g := (mkF m 10 #[.val (.ref oo), .val (.ref sb), .val .null, .val (.ref br), .unset] [(.ref sb)])) rfl (by rw [hml]; rfl) (Steps.refl _) (argsL := []) (rest := []) (lenOf pd_15 rfl) rfl (own_W0 rfl) (od hby dc37 6 rfl) (fun _ _ => ⟨rfl, e1122, (by decide : 0 + 0 ≤ _), (by decide : 0 + 0 ≤ _)⟩)
  dsimp only [Pt.U, Pt.locs, Pt.cells, Pt.slots] at X1123 l1123 y1123 z1123 st1123 hQ1123
  subst l1123 y1123 z1123
  obtain ⟨rfl, Nq1123, e1123⟩ := hQ1123
  have N1123 := Fr.app N1122 Nq1123
  refine own_go (B := T1123.setTop (mkF m 13 #[.val (.ref oo), .val (.ref sb), .val .null, .val (.ref br), .unset] [(.int zc)])) (fun t k => st1123.trans k) ?_
  refine own_go (B := T1123.setTop (mkF m 16 #[.val (.ref oo), .val (.ref sb), .val .null, .val (.ref br), .val (.int zc)] [(.ref sb)])) (fun t k => ?_) ?_
  · refine XS.istore X1123.here hx rfl (od hby dc37 7 rfl) rfl (l' := #[.val (.ref oo), .val (.ref sb), .val .null, .val (.ref br), .val (.int zc)]) rfl ?_
    refine XS.aloadN X1123.here hx rfl (od hby dc37 8 rfl) rfl rfl ?_
    exact k
  obtain ⟨cq1124, kq1124, q1124a, q1124b, q1124c⟩ := isOf hZ e1123 P3
  obtain ⟨_, _, ⟨T1124, L1124, k1124, n1124⟩, -, X1124, ⟨Lc1124, hQ1124, l1124, y1124, z1124⟩, st1124⟩ := X1123.virtualBack hx (y := yN29) (z := yN29) hown (mvT hZ (own_w hw 200 rfl)) (mvT hZ (own_w hw 201 rfl)) (notFace_of_selects (args := #[]) (mvT hZ (own_w hw 203 rfl))) (mvT hZ (own_w hw 203 rfl)) (mvT hZ (own_w hw 202 rfl)) (by decide) (backOf (W := 0) (asl_1 l Z a0 hw [] sb cs h0 n0 Z0 P5 P9 hcs) hZ (own_w hw 204 rfl) (own_w hw 104 rfl) (by decide) (by decide)) q1124a q1124c (g := (mkF m 16 #[.val (.ref oo), .val (.ref sb), .val .null, .val (.ref br), .val (.int zc)] [(.ref sb)])) rfl (by rw [hml]; rfl) (Steps.refl _) (argsL := []) (rest := []) (lenOf pd_14 rfl) rfl (own_W0 rfl) (od hby dc37 9 rfl) (fun _ _ => ⟨rfl, e1123, (by decide : 0 + 0 ≤ _), (by decide : 0 + 0 ≤ _)⟩)
  dsimp only [Pt.U, Pt.locs, Pt.cells, Pt.slots] at X1124 l1124 y1124 z1124 st1124 hQ1124
  subst l1124 y1124 z1124
  obtain ⟨rfl, Nq1124, e1124⟩ := hQ1124
  have N1124 := Fr.app N1123 Nq1124
  refine own_go (B := T1124.setTop (mkF m 19 #[.val (.ref oo), .val (.ref sb), .val .null, .val (.ref br), .val (.int zc)] [(.int 0)])) (fun t k => st1124.trans k) ?_
  refine own_go (B := T1124.setTop (mkF m 41 #[.val (.ref oo), .val (.ref sb), .val .null, .val (.ref br), .val (.int zc)] [])) (fun t k => ?_) ?_
  · refine XS.ifYes X1124.here hx rfl (pc0 := 19) (pc' := 41) rfl (od hby dc37 10 rfl) rfl ((if0 _ _).trans (teq (rfl : (0 : Int32) = (0 : Int32))).1) (by decide) (by decide) ?_
    exact k
  obtain ⟨T1126, X1126, e1126, st1126⟩ := getS2 X1124 hx hZ hown (host := "") (Or.inl (own_w hw 41 rfl)) Via.refl e1124 P9 (g := (mkF m 41 #[.val (.ref oo), .val (.ref sb), .val .null, .val (.ref br), .val (.int zc)] [])) rfl (od hby dc37 22 rfl)
  refine own_go st1126 ?_
  have hc44_1127 : ¬ (cs = (0 : Int32)) := hcs
  refine own_go (B := T1126.setTop (mkF m 48 #[.val (.ref oo), .val (.ref sb), .val .null, .val (.ref br), .val (.int zc)] [(.ref sb)])) (fun t k => ?_) ?_
  · refine XS.ifNo X1126.here hx rfl (od hby dc37 23 rfl) rfl ((if0 _ _).trans (feq hc44_1127).1) ?_
    refine XS.aloadN X1126.here hx rfl (od hby dc37 24 rfl) rfl rfl ?_
    exact k
  obtain ⟨T1128, X1128, e1128, st1128⟩ := getF X1126 hx hZ hown (host := "") (Or.inl (own_w hw 266 rfl)) Via.refl e1126 P7 (g := (mkF m 48 #[.val (.ref oo), .val (.ref sb), .val .null, .val (.ref br), .val (.int zc)] [(.ref sb)])) rfl rfl (od hby dc37 25 rfl)
  refine own_go st1128 ?_
  refine own_go (B := T1128.setTop (mkF m 81 #[.val (.ref oo), .val (.ref sb), .val .null, .val (.ref br), .val (.int zc)] [(.int 1), (.ref oo)])) (fun t k => ?_) ?_
  · refine XS.ifYes X1128.here hx rfl (pc0 := 51) (pc' := 79) rfl (od hby dc37 26 rfl) rfl ((if0 _ _).trans (teq (rfl : (0 : Int32) = (0 : Int32))).1) (by decide) (by decide) ?_
    refine XS.aloadN X1128.here hx rfl (od hby dc37 27 rfl) rfl rfl ?_
    refine XS.iconst X1128.here hx rfl (od hby dc37 28 rfl) ?_
    exact k
  obtain ⟨T1130, h1130, X1130, e1130, W1130, st1130⟩ := putFN (v' := (.int 1)) X1128 hx hZ hown (own_w hw 28 rfl) Via.refl e1128 P2 P0 (Or.inr ⟨(own_w hw 24 rfl), rfl, hnm⟩) (own_w hw 8 rfl) (ty := .byte) (by decide) rfl rfl (g := (mkF m 81 #[.val (.ref oo), .val (.ref sb), .val .null, .val (.ref br), .val (.int zc)] [(.int 1), (.ref oo)])) rfl rfl (od hby dc37 29 rfl)
  have Q1131 := P0.wr W1130
  have Q1132 := P1.other W1130 (Or.inr (slot_ne (Or.inr (own_w hw 23 rfl)) (Or.inr (own_w hw 24 rfl)) (by decide) (t := (.array .byte)) (t' := .byte) (by decide) (by decide)))
  have Q1138 := P8.other W1130 (Ne.symm ne_oo_br)
  have U1130 : Fld Z h1130 oo jS "coder" "B" (.int 1) := P2.same W1130
  have Z1130 : n0 ≤ h1130.size := Nat.le_trans Z0 (Keep.of_wr W1130).1
  have N1130 := Fr.snoc X1130 N1124 g_oo
  have K1130 := K0.wr W1130 (Or.inl (List.mem_of_getElem? (i := 0) rfl))
  refine own_go st1130 ?_
  refine own_go (B := T1130.setTop (mkF m 91 #[.val (.ref oo), .val (.ref sb), .val .null, .val (.ref br), .val (.int zc)] [(.int (zc <<< ((1 : Int32) &&& 31))), (.int 0), (.ref br), (.ref oo)])) (fun t k => ?_) ?_
  · refine XS.aloadN X1130.here hx rfl (od hby dc37 30 rfl) rfl rfl ?_
    refine XS.aloadN X1130.here hx rfl (od hby dc37 31 rfl) rfl rfl ?_
    refine XS.iconst X1130.here hx rfl (od hby dc37 32 rfl) ?_
    refine XS.iload X1130.here hx rfl (od hby dc37 33 rfl) rfl ?_
    refine XS.iconst X1130.here hx rfl (od hby dc37 34 rfl) ?_
    refine XS.ishl X1130.here hx rfl (od hby dc37 35 rfl) rfl ?_
    exact k
  obtain ⟨_, _, ⟨T1140, L1140, k1140, n1140⟩, -, X1140, ⟨Lc1140, hQ1140, l1140, y1140, z1140⟩, st1140⟩ := Jvm.LawKit.callS X1130 hx (y := yN52) hown (mvT hZ (own_w hw 205 rfl)) (mvT hZ (own_w hw 206 rfl)) (mvT hZ (own_w hw 147 rfl)) (mvT hZ (own_w hw 207 rfl)) (by decide) (backOf (W := 1) (crg l Z a0 hw [] br (zc <<< ((1 : Int32) &&& 31)) kb (372 : Int32) ns (2 * mm) 372 h1130 n0 Z1130 Q1138 (own_sh1 hm (by omega)) ot372 (by omega) (by omega)) hZ (own_w hw 207 rfl) (own_w hw 147 rfl) (by decide) (by decide)) (g := (mkF m 91 #[.val (.ref oo), .val (.ref sb), .val .null, .val (.ref br), .val (.int zc)] [(.int (zc <<< ((1 : Int32) &&& 31))), (.int 0), (.ref br), (.ref oo)])) rfl (by rw [hml]; rfl) (argsL := [(.ref br), (.int 0), (.int (zc <<< ((1 : Int32) &&& 31)))]) (rest := [(.ref oo)]) (lenOf pd_31 rfl) rfl (own_W0 rfl) (od hby dc37 36 rfl) (fun _ _ => ⟨rfl, e1130, (by decide : 0 + 1 ≤ _), (by decide : 0 + 202 ≤ _)⟩)
  dsimp only [Pt.U, Pt.locs, Pt.cells, Pt.slots] at X1140 l1140 y1140 z1140 st1140 hQ1140
  subst l1140 y1140 z1140
  obtain ⟨nr_1140, kn_1140, ys_1140, rfl, Nq1140, Kq1140, sq_nr_1140, U1140_0, Pq1140_0, Pq1140_1⟩ := hQ1140
  have ne_oo_nr_1140 : oo ≠ nr_1140 := Nat.ne_of_lt (Nat.lt_of_lt_of_le Q1131.lt sq_nr_1140)
  have sz_nr_1140 : h0.size ≤ nr_1140 := Nat.le_trans K1130.1 sq_nr_1140
  have Q1141 := Q1131.keep Kq1140
  have Q1142 := Q1132.keep Kq1140 nin0
  have Q1150 := U1130.keep Kq1140 nin0
  have K1140 : Keep h0 T1140.heap [oo] := K1130.trans Kq1140 all0
  have N1140 := Fr.app N1130 Nq1140
  refine own_go (B := T1140.setTop (mkF m 94 #[.val (.ref oo), .val (.ref sb), .val .null, .val (.ref br), .val (.int zc)] [(.ref nr_1140), (.ref oo)])) st1140 ?_
  obtain ⟨T1151, h1151, X1151, e1151, W1151, st1151⟩ := putF X1140 hx hZ hown (host := "") (Or.inl (own_w hw 27 rfl)) Via.refl rfl Q1142 Q1141 (Or.inr ⟨(own_w hw 23 rfl), rfl, hnm⟩) (own_w hw 8 rfl) (ty := (.array .byte)) (by decide) rfl rfl (g := (mkF m 94 #[.val (.ref oo), .val (.ref sb), .val .null, .val (.ref br), .val (.int zc)] [(.ref nr_1140), (.ref oo)])) rfl rfl (od hby dc37 37 rfl)
  have Q1160 := Q1150.other W1151 (Or.inr (slot_ne (Or.inr (own_w hw 24 rfl)) (Or.inr (own_w hw 23 rfl)) (by decide) (t := .byte) (t' := (.array .byte)) (by decide) (by decide)))
  have Q1161 := U1140_0.other W1151 (Ne.symm ne_oo_nr_1140)
  have U1151 : Fld Z h1151 oo jS "value" "[B" (.ref nr_1140) := Q1142.same W1151
  have N1151 := Fr.snoc X1151 N1140 g_oo
  have K1151 := K1140.wr W1151 (Or.inl (List.mem_of_getElem? (i := 0) rfl))
  refine own_go st1151 ?_
  exact own_rV Bd X1151 hx (od hby dc37 21 rfl) (by rw [e1151]; exact ⟨nr_1140, kn_1140, ys_1140, rfl, N1151, K1151, sz_nr_1140, ne_oo_nr_1140, U1151, Q1160, Q1161, Pq1140_0, Pq1140_1⟩) (by decide)
def QsjU (Z : State) (oo sb br : Addr) (kb : ClassId) (ns : List Int32) (zc : Int32) (mm : Nat) (cs : Int32) (h0 : Heap) (n0 : Nat) (v : Option Value) (h : Heap) (L : List Loc) : Prop := ∃ nr : Addr, ∃ kn : ClassId, ∃ ys : List Int32, v = none ∧ Fr n0 L ∧ Keep h0 h [oo] ∧ h0.size ≤ nr ∧ oo ≠ nr ∧ Fld Z h oo jS "value" "[B" (.ref nr) ∧ Fld Z h oo jS "coder" "B" (.int 1) ∧ Arv Z h nr kn .byte (zc <<< ((1 : Int32) &&& 31)) (own_I ys) (.int 0) ∧ (ys.length = (2 * mm)) ∧ (∀ q, q < (2 * mm) → ys.getD q 0 = ns.getD q 0)
theorem efsjU (m : MethodId) (x0 : Addr) (x1 : Addr) : entryFrame m #[(.ref x0), (.ref x1)] 2 = mkF m 0 #[.val (.ref x0), .val (.ref x1)] [] := by first | (simp [entryFrame, mkF, argsToLocals, Value.category]; done) | rfl
set_option maxRecDepth 65536 in
set_option maxHeartbeats 40000000 in
theorem sjU (l : Launch) (Z : State) (a0 : Array Value) (hw : own_HW a0 Z) (ws : List Jvm.Cond) (oo sb br : Addr) (kb : ClassId) (ns : List Int32) (zc : Int32) (mm : Nat) (cs : Int32) (h0 : Heap) (n0 : Nat) (Z0 : n0 ≤ h0.size) (P0 : Exa Z h0 oo jS) (P1 : Fld Z h0 oo jS "value" "[B" .null) (P2 : Fld Z h0 oo jS "coder" "B" (.int 0)) (P3 : Exa Z h0 sb jB) (P4 : Fld Z h0 sb jA "value" "[B" (.ref br)) (P5 : Fld Z h0 sb jA "coder" "B" (.int 1)) (P6 : Fld Z h0 sb jA "count" "I" (.int zc)) (P7 : Fld Z h0 sb jA "maybeLatin1" "Z" (.int 0)) (P8 : Arv Z h0 br kb .byte (372 : Int32) (own_I ns) (.int 0)) (P9 : Sta Z h0 jS "COMPACT_STRINGS" "Z" (.int cs)) (g_oo : n0 ≤ oo) (ne_oo_sb : oo ≠ sb) (ne_oo_br : oo ≠ br) (hcs : cs ≠ (0 : Int32)) (hm : zc.toInt = (mm : Int)) (hmm : mm ≤ 101) :
    own_M l Z yN54 jdk_42_method_53_code 2 none ws (own_R 4 1 202 65) #[(.ref oo), (.ref sb)] h0 (QsjU Z oo sb br kb ns zc mm cs h0 n0) := by
  refine own_b (own := jS) rfl (plainFor_of_name pn_1) (fun m => efsjU m oo sb) n0 fun p e s m below meth c s₁ Bd hZ hx hby hml hown X0 e0 N0 => ?_
  have K0 : Keep h0 h0 [oo] := Keep.refl h0 _
  refine own_go (B := s₁.setTop (mkF m 3 #[.val (.ref oo), .val (.ref sb)] [.null, (.ref sb), (.ref oo)])) (fun t k => ?_) ?_
  · refine XS.aloadN X0.here hx rfl (od hby dc36 0 rfl) rfl rfl ?_
    refine XS.aloadN X0.here hx rfl (od hby dc36 1 rfl) rfl rfl ?_
    refine XS.aconstNull X0.here hx rfl (od hby dc36 2 rfl) ?_
    exact k
  obtain ⟨_, _, ⟨T1162, L1162, k1162, n1162⟩, -, X1162, ⟨Lc1162, hQ1162, l1162, y1162, z1162⟩, st1162⟩ := X0.specialBack hx (y := yN53) rfl hown (mvT hZ (own_w hw 184 rfl)) (mvT hZ (own_w hw 185 rfl)) (mvT hZ (own_w hw 186 rfl)) (by decide) (backOf (W := 0) (siU l Z a0 hw [] oo sb br kb ns zc mm cs h0 n0 Z0 P0 P1 P2 P3 P4 P5 P6 P7 P8 P9 g_oo ne_oo_sb ne_oo_br hcs hm hmm) hZ (own_w hw 186 rfl) (own_w hw 9 rfl) (by decide) (by decide)) (g := (mkF m 3 #[.val (.ref oo), .val (.ref sb)] [.null, (.ref sb), (.ref oo)])) rfl (by rw [hml]; rfl) (Steps.refl _) (a := oo) (argsL := [(.ref sb), .null]) (rest := []) (lenOf pd_33 rfl) rfl (own_W0 rfl) (od hby dc36 3 rfl) (fun _ _ => ⟨rfl, e0, (by decide : 0 + 1 ≤ _), (by decide : 0 + 202 ≤ _)⟩)
  dsimp only [Pt.U, Pt.locs, Pt.cells, Pt.slots] at X1162 l1162 y1162 z1162 st1162 hQ1162
  subst l1162 y1162 z1162
  obtain ⟨nr_1162, kn_1162, ys_1162, rfl, Nq1162, Kq1162, sq_nr_1162, pq1162_0, U1162_0, U1162_1, U1162_2, Pq1162_0, Pq1162_1⟩ := hQ1162
  have ne_oo_nr_1162 : oo ≠ nr_1162 := Nat.ne_of_lt (Nat.lt_of_lt_of_le P0.lt sq_nr_1162)
  have sz_nr_1162 : h0.size ≤ nr_1162 := Nat.le_trans K0.1 sq_nr_1162
  have K1162 : Keep h0 T1162.heap [oo] := K0.trans Kq1162 (allS (Or.inl (List.mem_of_getElem? (i := 0) rfl)) all0)
  have N1162 := Fr.app N0 Nq1162
  refine own_go (B := T1162.setTop (mkF m 6 #[.val (.ref oo), .val (.ref sb)] [])) (fun t k => st1162.trans k) ?_
  exact own_rV Bd X1162 hx (od hby dc36 4 rfl) ⟨nr_1162, kn_1162, ys_1162, rfl, N1162, K1162, sz_nr_1162, ne_oo_nr_1162, U1162_0, U1162_1, U1162_2, Pq1162_0, Pq1162_1⟩ (by decide)
def QtsU (Z : State) (sb br : Addr) (kb : ClassId) (ns : List Int32) (zc : Int32) (mm : Nat) (cs : Int32) (h0 : Heap) (n0 : Nat) (v : Option Value) (h : Heap) (L : List Loc) : Prop := ∃ rr : Addr, ∃ nr : Addr, ∃ kn : ClassId, ∃ ys : List Int32, v = some (.ref rr) ∧ Fr n0 L ∧ Keep h0 h [] ∧ h0.size ≤ rr ∧ h0.size ≤ nr ∧ rr ≠ nr ∧ Exa Z h rr jS ∧ Fld Z h rr jS "value" "[B" (.ref nr) ∧ Fld Z h rr jS "coder" "B" (.int 1) ∧ Arv Z h nr kn .byte (zc <<< ((1 : Int32) &&& 31)) (own_I ys) (.int 0) ∧ (ys.length = (2 * mm)) ∧ (∀ q, q < (2 * mm) → ys.getD q 0 = ns.getD q 0)
theorem eftsU (m : MethodId) (x0 : Addr) : entryFrame m #[(.ref x0)] 1 = mkF m 0 #[.val (.ref x0)] [] := by first | (simp [entryFrame, mkF, argsToLocals, Value.category]; done) | rfl
set_option maxRecDepth 65536 in
set_option maxHeartbeats 40000000 in
theorem tsU (l : Launch) (Z : State) (a0 : Array Value) (hw : own_HW a0 Z) (ws : List Jvm.Cond) (sb br : Addr) (kb : ClassId) (ns : List Int32) (zc : Int32) (mm : Nat) (cs : Int32) (h0 : Heap) (n0 : Nat) (Z0 : n0 ≤ h0.size) (P0 : Exa Z h0 sb jB) (P1 : Fld Z h0 sb jA "value" "[B" (.ref br)) (P2 : Fld Z h0 sb jA "coder" "B" (.int 1)) (P3 : Fld Z h0 sb jA "count" "I" (.int zc)) (P4 : Fld Z h0 sb jA "maybeLatin1" "Z" (.int 0)) (P5 : Arv Z h0 br kb .byte (372 : Int32) (own_I ns) (.int 0)) (P6 : Sta Z h0 jS "COMPACT_STRINGS" "Z" (.int cs)) (hcs : cs ≠ (0 : Int32)) (hm : zc.toInt = (mm : Int)) (hmm : mm ≤ 101) :
    own_M l Z yN55 jdk_67_method_42_code 1 (some (.object jS)) ws (own_R 5 2 206 79) #[(.ref sb)] h0 (QtsU Z sb br kb ns zc mm cs h0 n0) := by
  refine own_b (own := jB) rfl (plainFor_of_name pn_7) (fun m => eftsU m sb) n0 fun p e s m below meth c s₁ Bd hZ hx hby hml hown X0 e0 N0 => ?_
  have K0 : Keep h0 h0 [] := Keep.refl h0 _
  obtain ⟨T1171, h1171, X1171, e1171, E1171, A1171, D1171, -, st1171⟩ := newO X0 hx hZ hown (own_w hw 180 rfl) (own_w hw 8 rfl) (own_w hw 9 rfl) e0 (g := (mkF m 0 #[.val (.ref sb)] [])) rfl (od hby dc35 0 rfl) (by decide) (by decide)
  obtain ⟨b1171, g1171⟩ : ∃ z, z = h0.size := ⟨_, rfl⟩
  rw [← g1171] at A1171 D1171 st1171
  have ne1171_br : br ≠ b1171 := Nat.ne_of_lt (Nat.lt_of_lt_of_le P5.lt (Nat.le_of_eq g1171.symm))
  have ne1171_sb : sb ≠ b1171 := Nat.ne_of_lt (Nat.lt_of_lt_of_le P0.lt (Nat.le_of_eq g1171.symm))
  have low1171 : n0 ≤ b1171 := Nat.le_trans Z0 (Nat.le_of_eq g1171.symm)
  have sz1171 : h0.size ≤ b1171 := Nat.le_trans K0.1 (Nat.le_of_eq g1171.symm)
  have Q1172 := P0.ext E1171
  have Q1173 := P1.ext E1171
  have Q1174 := P2.ext E1171
  have Q1175 := P3.ext E1171
  have Q1176 := P4.ext E1171
  have Q1177 := P5.ext E1171
  have Q1178 := P6.ext E1171
  have Z1171 : n0 ≤ h1171.size := Nat.le_trans Z0 E1171.1
  have K1171 := K0.ext E1171
  have D1171_value_String : Fld Z h1171 b1171 jS "value" "[B" .null := D1171 (Or.inr (own_w hw 23 rfl)) (ty := (.array .byte)) (by decide)
  have D1171_coder_String : Fld Z h1171 b1171 jS "coder" "B" (.int 0) := D1171 (Or.inr (own_w hw 24 rfl)) (ty := .byte) (by decide)
  refine own_go st1171 ?_
  refine own_go (B := T1171.setTop (mkF m 5 #[.val (.ref sb)] [(.ref sb), (.ref b1171), (.ref b1171)])) (fun t k => ?_) ?_
  · refine XS.dup X1171.here hx rfl (od hby dc35 1 rfl) rfl rfl ?_
    refine XS.aloadN X1171.here hx rfl (od hby dc35 2 rfl) rfl rfl ?_
    exact k
  obtain ⟨_, _, ⟨T1179, L1179, k1179, n1179⟩, -, X1179, ⟨Lc1179, hQ1179, l1179, y1179, z1179⟩, st1179⟩ := X1171.specialBack hx (y := yN54) rfl hown (mvT hZ (own_w hw 181 rfl)) (mvT hZ (own_w hw 182 rfl)) (mvT hZ (own_w hw 183 rfl)) (by decide) (backOf (W := 1) (sjU l Z a0 hw [] b1171 sb br kb ns zc mm cs h1171 n0 Z1171 A1171 D1171_value_String D1171_coder_String Q1172 Q1173 Q1174 Q1175 Q1176 Q1177 Q1178 low1171 (Ne.symm ne1171_sb) (Ne.symm ne1171_br) hcs hm hmm) hZ (own_w hw 183 rfl) (own_w hw 9 rfl) (by decide) (by decide)) (g := (mkF m 5 #[.val (.ref sb)] [(.ref sb), (.ref b1171), (.ref b1171)])) rfl (by rw [hml]; rfl) (Steps.refl _) (a := b1171) (argsL := [(.ref sb)]) (rest := [(.ref b1171)]) (lenOf pd_34 rfl) rfl (own_W0 rfl) (od hby dc35 3 rfl) (fun _ _ => ⟨rfl, e1171, (by decide : 1 + 1 ≤ _), (by decide : 4 + 202 ≤ _)⟩)
  dsimp only [Pt.U, Pt.locs, Pt.cells, Pt.slots] at X1179 l1179 y1179 z1179 st1179 hQ1179
  subst l1179 y1179 z1179
  obtain ⟨nr_1179, kn_1179, ys_1179, rfl, Nq1179, Kq1179, sq_nr_1179, pq1179_0, U1179_0, U1179_1, U1179_2, Pq1179_0, Pq1179_1⟩ := hQ1179
  have ne_b1171_nr_1179 : b1171 ≠ nr_1179 := Nat.ne_of_lt (Nat.lt_of_lt_of_le A1171.lt sq_nr_1179)
  have sz_nr_1179 : h0.size ≤ nr_1179 := Nat.le_trans K1171.1 sq_nr_1179
  have Q1187 := A1171.keep Kq1179
  have K1179 : Keep h0 T1179.heap [] := K1171.trans Kq1179 (allS (Or.inr sz1171) all0)
  have N1179 := Fr.app N0 Nq1179
  refine own_go (B := T1179.setTop (mkF m 8 #[.val (.ref sb)] [(.ref b1171)])) (fun t k => st1179.trans k) ?_
  exact own_rA Bd X1179 hx rfl rfl rfl (od hby dc35 4 rfl) ⟨b1171, nr_1179, kn_1179, ys_1179, rfl, N1179, K1179, sz1171, sz_nr_1179, ne_b1171_nr_1179, Q1187, U1179_0, U1179_1, U1179_2, Pq1179_0, Pq1179_1⟩ (by decide)
def QdltL (Z : State) (pp so bp : Addr) (kp : ClassId) (bs : Addr) (ks : ClassId) (za : Int32) (us : List Int32) (cs : Int32) (cl : List Int32) (nn : Nat) (h0 : Heap) (n0 : Nat) (v : Option Value) (h : Heap) (L : List Loc) : Prop := ∃ rr : Addr, ∃ br : Addr, ∃ kb : ClassId, ∃ ys : List Int32, v = some (.ref rr) ∧ Fr n0 L ∧ Keep h0 h [] ∧ h0.size ≤ rr ∧ h0.size ≤ br ∧ rr ≠ br ∧ Exa Z h rr jS ∧ Fld Z h rr jS "value" "[B" (.ref br) ∧ Fld Z h rr jS "coder" "B" (.int 0) ∧ Arv Z h br kb .byte (((93 : Int32) + za) + (4 : Int32)) (own_I ys) (.int 0) ∧ (ys.length = 93 + nn + 4) ∧ (own_L ys (own_full cl) (93 + nn + 4))
theorem efdltL (m : MethodId) (x0 : Addr) (x1 : Addr) : entryFrame m #[(.ref x0), (.ref x1)] 2 = mkF m 0 #[.val (.ref x0), .val (.ref x1)] [] := by first | (simp [entryFrame, mkF, argsToLocals, Value.category]; done) | rfl
set_option maxRecDepth 65536 in
set_option maxHeartbeats 40000000 in
theorem dltL (l : Launch) (Z : State) (a0 : Array Value) (hw : own_HW a0 Z) (ws : List Jvm.Cond) (pp so bp : Addr) (kp : ClassId) (bs : Addr) (ks : ClassId) (za : Int32) (us : List Int32) (cs : Int32) (cl : List Int32) (nn : Nat) (h0 : Heap) (n0 : Nat) (Z0 : n0 ≤ h0.size) (hEL : EW Z a0 consts_1) (P0 : Exa Z h0 pp jS) (P1 : Fld Z h0 pp jS "coder" "B" (.int 0)) (P2 : Fld Z h0 pp jS "value" "[B" (.ref bp)) (P3 : Arv Z h0 bp kp .byte (92 : Int32) (own_I (own_bs oP)) (.int 0)) (P4 : Exa Z h0 so jS) (P5 : Fld Z h0 so jS "coder" "B" (.int 0)) (P6 : Fld Z h0 so jS "value" "[B" (.ref bs)) (P7 : Arv Z h0 bs ks .byte za (own_I us) (.int 0)) (P8 : Sta Z h0 jS "COMPACT_STRINGS" "Z" (.int cs)) (hcs : cs ≠ (0 : Int32)) (hn : za.toInt = (nn : Int)) (h4 : nn ≤ 4) (hcl : cl.length = nn) (hsrc : ∀ q, q < nn → own_g8 (us.getD q 0) = cl.getD q 0) :
    MetFree l yN56 (head1 (Jvm.Cond.code yN56 prog_1_method_4_code 2 (some (.object jS)) :: ws) (own_R 10 12 1742 143)) (fun a U => a = #[(.ref pp), (.ref so)] ∧ Z.Warmed39 U.vm ∧ U.heap = h0 ∧ CHv Z consts_1 U.vm h0) (fun _ _ _ _ _ => True) (fun _ U o U' => ∃ v L, o = .returned v ∧ QdltL Z pp so bp kp bs ks za us cs cl nn h0 n0 v U'.heap L ∧ CHr Z consts_1 U.vm U.heap U'.vm U'.heap ∧ ReturnedEndW U o U' L (own_R 10 12 1742 143).cells (own_R 10 12 1742 143).slots) := by
  refine MetFree.of_bodySF (plainFor_of_name pn_5) hisR ?_
  intro p e s m args below meth c s₁ Bd hml0 hP hK
  obtain ⟨rfl, hZ, hh, hC⟩ := hP
  have hx := Bd.exec
  have hby := Bd.bytes
  have hml : c.maxLocals = 2 := hml0
  have hown : s.vm.findClass jN = some m.cls := findClass_of_methodNamed Bd.named
  have X0 : Stand p l e (own_R 10 12 1742 143) (s.setVm s.vm) m #[(.ref pp), (.ref so)] below meth c s₁ [] 0 0 := Stand.of_body Bd
  have e0 : s₁.heap = h0 := by rw [← hh, Bd.state]; rfl
  have N0 := Fr.nil n0
  have K0 : Keep h0 h0 [] := Keep.refl h0 _
  have hC0 : CHr Z consts_1 s.vm h0 s.vm h0 := CHr.refl hC
  have hS0 : s.Since s.vm h0.size := (State.WarmedH.refl s).since _
  have hk0 : h0.size ≤ h0.size := Nat.le_refl _
  refine own_go (B := s₁.setTop (mkF m 0 #[.val (.ref pp), .val (.ref so)] [])) (fun t k => castTop (efdltL m pp so) k) ?_
  obtain ⟨T1188, h1188, X1188, e1188, E1188, A1188, D1188, -, st1188⟩ := newO X0 hx hZ hown (own_w hw 94 rfl) (own_w hw 95 rfl) (own_w hw 96 rfl) e0 (g := (mkF m 0 #[.val (.ref pp), .val (.ref so)] [])) rfl (od hby dc21 0 rfl) (by decide) (by decide)
  obtain ⟨b1188, g1188⟩ : ∃ z, z = h0.size := ⟨_, rfl⟩
  rw [← g1188] at A1188 D1188 st1188
  have ne1188_bp : bp ≠ b1188 := Nat.ne_of_lt (Nat.lt_of_lt_of_le P3.lt (Nat.le_of_eq g1188.symm))
  have ne1188_bs : bs ≠ b1188 := Nat.ne_of_lt (Nat.lt_of_lt_of_le P7.lt (Nat.le_of_eq g1188.symm))
  have ne1188_pp : pp ≠ b1188 := Nat.ne_of_lt (Nat.lt_of_lt_of_le P0.lt (Nat.le_of_eq g1188.symm))
  have ne1188_so : so ≠ b1188 := Nat.ne_of_lt (Nat.lt_of_lt_of_le P4.lt (Nat.le_of_eq g1188.symm))
  have low1188 : n0 ≤ b1188 := Nat.le_trans Z0 (Nat.le_of_eq g1188.symm)
  have sz1188 : h0.size ≤ b1188 := Nat.le_trans K0.1 (Nat.le_of_eq g1188.symm)
  have sf1188_b1188 : Safe Z consts_1 _ _ b1188 := Safe.ext E1188 hC0.1 (Safe.new (Nat.le_of_eq g1188.symm))
  have CH1188 := hC0.trans (CHr.ext E1188 hC0.1)
  have hk1188 := Nat.le_trans hk0 E1188.1
  have Q1189 := P0.ext E1188
  have Q1190 := P1.ext E1188
  have Q1191 := P2.ext E1188
  have Q1192 := P3.ext E1188
  have Q1193 := P4.ext E1188
  have Q1194 := P5.ext E1188
  have Q1195 := P6.ext E1188
  have Q1196 := P7.ext E1188
  have Q1197 := P8.ext E1188
  have Z1188 : n0 ≤ h1188.size := Nat.le_trans Z0 E1188.1
  have K1188 := K0.ext E1188
  have D1188_value_AbstractStringBuilder : Fld Z h1188 b1188 jA "value" "[B" .null := D1188 (Or.inl (own_w hw 109 rfl)) (ty := (.array .byte)) (by decide)
  have D1188_coder_AbstractStringBuilder : Fld Z h1188 b1188 jA "coder" "B" (.int 0) := D1188 (Or.inl (own_w hw 111 rfl)) (ty := .byte) (by decide)
  have D1188_count_AbstractStringBuilder : Fld Z h1188 b1188 jA "count" "I" (.int 0) := D1188 (Or.inl (own_w hw 124 rfl)) (ty := .int) (by decide)
  have D1188_maybeLatin1_AbstractStringBuilder : Fld Z h1188 b1188 jA "maybeLatin1" "Z" (.int 0) := D1188 (Or.inl (own_w hw 267 rfl)) (ty := .boolean) (by decide)
  refine own_go st1188 ?_
  refine own_go (B := T1188.setTop (mkF m 4 #[.val (.ref pp), .val (.ref so)] [(.ref b1188), (.ref b1188)])) (fun t k => ?_) ?_
  · refine XS.dup X1188.here hx rfl (od hby dc21 1 rfl) rfl rfl ?_
    exact k
  obtain ⟨_, _, ⟨T1198, L1198, k1198, n1198⟩, -, X1198, ⟨Lc1198, hQ1198, l1198, y1198, z1198⟩, st1198⟩ := X1188.specialBack hx (y := yN28) rfl hown (mvT hZ (own_w hw 97 rfl)) (mvT hZ (own_w hw 98 rfl)) (mvT hZ (own_w hw 99 rfl)) (by decide) (backOf (W := 1) (sbI l Z a0 hw [] b1188 cs h1188 n0 Z1188 A1188 D1188_value_AbstractStringBuilder D1188_coder_AbstractStringBuilder D1188_count_AbstractStringBuilder D1188_maybeLatin1_AbstractStringBuilder Q1197 low1188 hcs) hZ (own_w hw 99 rfl) (own_w hw 96 rfl) (by decide) (by decide)) (g := (mkF m 4 #[.val (.ref pp), .val (.ref so)] [(.ref b1188), (.ref b1188)])) rfl (by rw [hml]; rfl) (Steps.refl _) (a := b1188) (argsL := []) (rest := [(.ref b1188)]) (lenOf pd_26 rfl) rfl (own_W0 rfl) (od hby dc21 2 rfl) (fun _ _ => ⟨rfl, e1188, (by decide : 1 + 1 ≤ _), (by decide : 4 + 16 ≤ _)⟩)
  dsimp only [Pt.U, Pt.locs, Pt.cells, Pt.slots] at X1198 l1198 y1198 z1198 st1198 hQ1198
  subst l1198 y1198 z1198
  obtain ⟨br_1198, kb_1198, rfl, Nq1198, Kq1198, sq_br_1198, pq1198_0, U1198_0, U1198_1, U1198_2, U1198_3, U1198_4⟩ := hQ1198
  have ne_b1188_br_1198 : b1188 ≠ br_1198 := Nat.ne_of_lt (Nat.lt_of_lt_of_le A1188.lt sq_br_1198)
  have sf1198_b1188 := Safe.keep Kq1198 (sfS sf1188_b1188 sf0) CH1188.1 sf1188_b1188
  have CH1198 := CH1188.trans (CHr.keep Kq1198 (sfS sf1188_b1188 sf0) CH1188.1)
  have hk1198 := Nat.le_trans hk1188 Kq1198.1
  have Q1199 := Q1189.keep Kq1198
  have Q1200 := Q1190.keep Kq1198 (ninS ne1188_pp nin0)
  have Q1201 := Q1191.keep Kq1198 (ninS ne1188_pp nin0)
  have Q1202 := Q1192.keep Kq1198 (ninS ne1188_bp nin0)
  have Q1203 := Q1193.keep Kq1198
  have Q1204 := Q1194.keep Kq1198 (ninS ne1188_so nin0)
  have Q1205 := Q1195.keep Kq1198 (ninS ne1188_so nin0)
  have Q1206 := Q1196.keep Kq1198 (ninS ne1188_bs nin0)
  have Q1207 := own_staK Q1197 Kq1198 (nsS (own_nsE A1188) ns0)
  have Q1208 := A1188.keep Kq1198
  have Z1198 : n0 ≤ T1198.heap.size := Nat.le_trans Z1188 Kq1198.1
  have K1198 : Keep h0 T1198.heap [] := K1188.trans Kq1198 (allS (Or.inr sz1188) all0)
  have N1198 := Fr.app N0 Nq1198
  refine own_go (B := T1198.setTop (mkF m 7 #[.val (.ref pp), .val (.ref so)] [(.ref b1188)])) (fun t k => st1198.trans k) ?_
  refine own_go (B := T1198.setTop (mkF m 8 #[.val (.ref pp), .val (.ref so)] [(.ref pp), (.ref b1188)])) (fun t k => ?_) ?_
  · refine XS.aloadN X1198.here hx rfl (od hby dc21 3 rfl) rfl rfl ?_
    exact k
  obtain ⟨cq1209, kq1209, q1209a, q1209b, q1209c⟩ := isOf hZ rfl Q1208
  obtain ⟨_, _, ⟨T1209, L1209, k1209, n1209⟩, -, X1209, ⟨Lc1209, hQ1209, l1209, y1209, z1209⟩, st1209⟩ := X1198.virtualBack hx (y := yN46) (z := yN46) hown (mvT hZ (own_w hw 112 rfl)) (mvT hZ (own_w hw 113 rfl)) (notFace_of_selects (args := #[]) (mvT hZ (own_w hw 115 rfl))) (mvT hZ (own_w hw 115 rfl)) (mvT hZ (own_w hw 114 rfl)) (by decide) (backOf (W := 0) (sap l Z a0 hw [] b1188 pp (QapG_16 Z b1188 pp br_1198 kb_1198 (List.replicate 16 0) bp kp (own_bs oP) cs (own_full cl) T1198.heap n0) T1198.heap n0 Z1198 Q1208 (fun _ _ _ q => by obtain ⟨_, _, _, rfl, -⟩ := q; rfl) (apG_16 l Z a0 hw [] b1188 pp br_1198 kb_1198 (List.replicate 16 0) bp kp (own_bs oP) cs (own_full cl) T1198.heap n0 Z1198 Q1208 U1198_0 U1198_1 U1198_2 U1198_3 U1198_4 Q1199 Q1200 Q1201 Q1202 Q1207 low1188 ne_b1188_br_1198 (Ne.symm ne1188_pp) (Ne.symm ne1188_bp) hcs (own_L0 _ _) (own_sP cl))) hZ (own_w hw 116 rfl) (own_w hw 96 rfl) (by decide) (by decide)) q1209a q1209c (g := (mkF m 8 #[.val (.ref pp), .val (.ref so)] [(.ref pp), (.ref b1188)])) rfl (by rw [hml]; rfl) (Steps.refl _) (argsL := [(.ref pp)]) (rest := []) (lenOf pd_35 rfl) rfl (own_W0 rfl) (od hby dc21 4 rfl) (fun _ _ => ⟨rfl, rfl, (by decide : 2 + 1 ≤ _), (by decide : 20 + 372 ≤ _)⟩)
  dsimp only [Pt.U, Pt.locs, Pt.cells, Pt.slots] at X1209 l1209 y1209 z1209 st1209 hQ1209
  subst l1209 y1209 z1209
  obtain ⟨nr_1209, kn_1209, ys_1209, rfl, Nq1209, Kq1209, sq_nr_1209, pq1209_0, U1209_0, U1209_1, U1209_2, U1209_3, U1209_4, Pq1209_0, Pq1209_1⟩ := hQ1209
  have ne_b1188_nr_1209 : b1188 ≠ nr_1209 := Nat.ne_of_lt (Nat.lt_of_lt_of_le Q1208.lt sq_nr_1209)
  have sf1209_b1188 := Safe.keep Kq1209 (sfS sf1198_b1188 sf0) CH1198.1 sf1198_b1188
  have CH1209 := CH1198.trans (CHr.keep Kq1209 (sfS sf1198_b1188 sf0) CH1198.1)
  have hk1209 := Nat.le_trans hk1198 Kq1209.1
  have Q1214 := Q1203.keep Kq1209
  have Q1215 := Q1204.keep Kq1209 (ninS ne1188_so nin0)
  have Q1216 := Q1205.keep Kq1209 (ninS ne1188_so nin0)
  have Q1217 := Q1206.keep Kq1209 (ninS ne1188_bs nin0)
  have Q1218 := own_staK Q1207 Kq1209 (nsS (own_nsE Q1208) ns0)
  have Q1219 := Q1208.keep Kq1209
  have Z1209 : n0 ≤ T1209.heap.size := Nat.le_trans Z1198 Kq1209.1
  have K1209 : Keep h0 T1209.heap [] := K1198.trans Kq1209 (allS (Or.inr sz1188) all0)
  have N1209 := Fr.app N1198 Nq1209
  refine own_go (B := T1209.setTop (mkF m 11 #[.val (.ref pp), .val (.ref so)] [(.ref b1188)])) (fun t k => st1209.trans k) ?_
  obtain ⟨a1221, T1221, h1221, k11221, b1221, kk1221, X1221, e1221, E1221, hS1221, hkq1221, hZ1221, hown1221, A1221, C1221, B1221, V1221, -, -, CHq1221, -, hnq1221, st1221⟩ := ldcCH X1209 hx hZ hown (own_w hw 173 rfl) (own_wS hw) rfl hS0 hk1209 hEL (List.mem_of_getElem? (i := 0) rfl) CH1209.1 (vs := own_vs ".") (z := (1 : Int32)) (own_ht "." (by decide)) (by decide) (own_vl "." 1 (by decide) (by decide)) (g := (mkF m 11 #[.val (.ref pp), .val (.ref so)] [(.ref b1188)])) rfl (od hby dc21 5 rfl) (n := 4) (by decide) (by decide) (by decide) (by decide)
  have sf1221_b1188 := CHr.safe CHq1221 Q1219.lt sf1209_b1188
  have CH1221 := CH1209.trans CHq1221
  have nl1221_b1188 := hnq1221 _ sf1221_b1188
  have Q1226 := Q1214.ext E1221
  have Q1227 := Q1215.ext E1221
  have Q1228 := Q1216.ext E1221
  have Q1229 := Q1217.ext E1221
  have Q1230 := Q1218.ext E1221
  have Q1231 := Q1219.ext E1221
  have Q1233 := U1209_0.ext E1221
  have Q1234 := U1209_1.ext E1221
  have Q1235 := U1209_2.ext E1221
  have Q1236 := U1209_3.ext E1221
  have Q1237 := U1209_4.ext E1221
  have Z1221 : n0 ≤ h1221.size := Nat.le_trans Z1209 E1221.1
  have K1221 := K1209.ext E1221
  have hZ := hZ1221
  have hown := hown1221
  have VI1221 : Arv Z h1221 b1221 kk1221 .byte (1 : Int32) (own_I (own_bs ".")) (.int 0) := own_arvS V1221
  refine own_go st1221 ?_
  obtain ⟨cq1238, kq1238, q1238a, q1238b, q1238c⟩ := isOf hZ e1221 Q1231
  obtain ⟨_, _, ⟨T1238, L1238, k1238, n1238⟩, -, X1238, ⟨Lc1238, hQ1238, l1238, y1238, z1238⟩, st1238⟩ := X1221.virtualBack hx (y := yN46) (z := yN46) hown (mvT hZ (own_w hw 112 rfl)) (mvT hZ (own_w hw 113 rfl)) (notFace_of_selects (args := #[]) (mvT hZ (own_w hw 115 rfl))) (mvT hZ (own_w hw 115 rfl)) (mvT hZ (own_w hw 114 rfl)) (by decide) (backOf (W := 0) (sap l Z a0 hw [] b1188 a1221 (QapG_92 Z b1188 a1221 nr_1209 kn_1209 ys_1209 b1221 kk1221 (own_bs ".") cs (own_full cl) h1221 n0) h1221 n0 Z1221 Q1231 (fun _ _ _ q => by obtain ⟨_, _, _, rfl, -⟩ := q; rfl) (apG_92 l Z a0 hw [] b1188 a1221 nr_1209 kn_1209 ys_1209 b1221 kk1221 (own_bs ".") cs (own_full cl) h1221 n0 Z1221 Q1231 Q1233 Q1234 Q1235 Q1236 Q1237 A1221 C1221 B1221 VI1221 Q1230 low1188 ne_b1188_nr_1209 nl1221_b1188.1 nl1221_b1188.2 hcs Pq1209_1 (own_sD cl))) hZ (own_w hw 116 rfl) (own_w hw 96 rfl) (by decide) (by decide)) q1238a q1238c (g := (mkF m 13 #[.val (.ref pp), .val (.ref so)] [(.ref a1221), (.ref b1188)])) rfl (by rw [hml]; rfl) (Steps.refl _) (argsL := [(.ref a1221)]) (rest := []) (lenOf pd_35 rfl) rfl (own_W0 rfl) (od hby dc21 6 rfl) (fun _ _ => ⟨rfl, e1221, (by decide : 5 + 1 ≤ _), (by decide : 400 + 372 ≤ _)⟩)
  dsimp only [Pt.U, Pt.locs, Pt.cells, Pt.slots] at X1238 l1238 y1238 z1238 st1238 hQ1238
  subst l1238 y1238 z1238
  obtain ⟨nr_1238, kn_1238, ys_1238, rfl, Nq1238, Kq1238, sq_nr_1238, pq1238_0, U1238_0, U1238_1, U1238_2, U1238_3, U1238_4, Pq1238_0, Pq1238_1⟩ := hQ1238
  have ne_b1188_nr_1238 : b1188 ≠ nr_1238 := Nat.ne_of_lt (Nat.lt_of_lt_of_le Q1231.lt sq_nr_1238)
  have low_nr_1238 : n0 ≤ nr_1238 := Nat.le_trans Z1221 sq_nr_1238
  have sz_nr_1238 : h0.size ≤ nr_1238 := Nat.le_trans K1221.1 sq_nr_1238
  have sfn_nr_1238 : Safe Z consts_1 T1221.vm h1221 nr_1238 := Safe.new sq_nr_1238
  have sf1238_b1188 := Safe.keep Kq1238 (sfS sf1221_b1188 sf0) CH1221.1 sf1221_b1188
  have sf1238_nr_1238 := Safe.keep Kq1238 (sfS sf1221_b1188 sf0) CH1221.1 sfn_nr_1238
  have CH1238 := CH1221.trans (CHr.keep Kq1238 (sfS sf1221_b1188 sf0) CH1221.1)
  have hk1238 := Nat.le_trans hkq1221 Kq1238.1
  have Q1243 := Q1226.keep Kq1238
  have Q1244 := Q1227.keep Kq1238 (ninS ne1188_so nin0)
  have Q1245 := Q1228.keep Kq1238 (ninS ne1188_so nin0)
  have Q1246 := Q1229.keep Kq1238 (ninS ne1188_bs nin0)
  have Q1247 := own_staK Q1230 Kq1238 (nsS (own_nsE Q1231) ns0)
  have Q1248 := Q1231.keep Kq1238
  have Z1238 : n0 ≤ T1238.heap.size := Nat.le_trans Z1221 Kq1238.1
  have K1238 : Keep h0 T1238.heap [] := K1221.trans Kq1238 (allS (Or.inr sz1188) all0)
  have N1238 := Fr.app N1209 Nq1238
  refine own_go (B := T1238.setTop (mkF m 16 #[.val (.ref pp), .val (.ref so)] [(.ref b1188)])) (fun t k => st1238.trans k) ?_
  refine own_go (B := T1238.setTop (mkF m 17 #[.val (.ref pp), .val (.ref so)] [(.ref so), (.ref b1188)])) (fun t k => ?_) ?_
  · refine XS.aloadN X1238.here hx rfl (od hby dc21 7 rfl) rfl rfl ?_
    exact k
  obtain ⟨cq1255, kq1255, q1255a, q1255b, q1255c⟩ := isOf hZ rfl Q1248
  obtain ⟨_, _, ⟨T1255, L1255, k1255, n1255⟩, -, X1255, ⟨Lc1255, hQ1255, l1255, y1255, z1255⟩, st1255⟩ := X1238.virtualBack hx (y := yN46) (z := yN46) hown (mvT hZ (own_w hw 112 rfl)) (mvT hZ (own_w hw 113 rfl)) (notFace_of_selects (args := #[]) (mvT hZ (own_w hw 115 rfl))) (mvT hZ (own_w hw 115 rfl)) (mvT hZ (own_w hw 114 rfl)) (by decide) (backOf (W := 0) (sap l Z a0 hw [] b1188 so (QapN Z b1188 so nr_1238 kn_1238 ys_1238 bs ks za us cs (own_full cl) (93 : Int32) 93 nn T1238.heap n0) T1238.heap n0 Z1238 Q1248 (fun _ _ _ q => by obtain ⟨_, rfl, -⟩ := q; rfl) (apN l Z a0 hw [] b1188 so nr_1238 kn_1238 ys_1238 bs ks za us cs (own_full cl) (93 : Int32) 93 nn T1238.heap n0 Z1238 Q1248 U1238_0 U1238_1 U1238_2 U1238_3 U1238_4 Q1243 Q1244 Q1245 Q1246 Q1247 low1188 low_nr_1238 ne_b1188_nr_1238 hcs ot93 hn (by omega) Pq1238_0 Pq1238_1 (own_sS hcl hsrc))) hZ (own_w hw 116 rfl) (own_w hw 96 rfl) (by decide) (by decide)) q1255a q1255c (g := (mkF m 17 #[.val (.ref pp), .val (.ref so)] [(.ref so), (.ref b1188)])) rfl (by rw [hml]; rfl) (Steps.refl _) (argsL := [(.ref so)]) (rest := []) (lenOf pd_35 rfl) rfl (own_W0 rfl) (od hby dc21 8 rfl) (fun _ _ => ⟨rfl, rfl, (by decide : 6 + 1 ≤ _), (by decide : 772 + 372 ≤ _)⟩)
  dsimp only [Pt.U, Pt.locs, Pt.cells, Pt.slots] at X1255 l1255 y1255 z1255 st1255 hQ1255
  subst l1255 y1255 z1255
  obtain ⟨ys_1255, rfl, Nq1255, Kq1255, U1255_0, U1255_1, U1255_2, U1255_3, U1255_4, Pq1255_0, Pq1255_1⟩ := hQ1255
  have sf1255_b1188 := Safe.keep Kq1255 (sfS sf1238_b1188 (sfS sf1238_nr_1238 sf0)) CH1238.1 sf1238_b1188
  have sf1255_nr_1238 := Safe.keep Kq1255 (sfS sf1238_b1188 (sfS sf1238_nr_1238 sf0)) CH1238.1 sf1238_nr_1238
  have CH1255 := CH1238.trans (CHr.keep Kq1255 (sfS sf1238_b1188 (sfS sf1238_nr_1238 sf0)) CH1238.1)
  have hk1255 := Nat.le_trans hk1238 Kq1255.1
  have Q1264 := own_staK Q1247 Kq1255 (nsS (own_nsE Q1248) (nsS (own_nsV U1238_4) ns0))
  have Q1265 := Q1248.keep Kq1255
  have Z1255 : n0 ≤ T1255.heap.size := Nat.le_trans Z1238 Kq1255.1
  have K1255 : Keep h0 T1255.heap [] := K1238.trans Kq1255 (allS (Or.inr sz1188) (allS (Or.inr sz_nr_1238) all0))
  have N1255 := Fr.app N1238 Nq1255
  refine own_go (B := T1255.setTop (mkF m 20 #[.val (.ref pp), .val (.ref so)] [(.ref b1188)])) (fun t k => st1255.trans k) ?_
  obtain ⟨a1272, T1272, h1272, k11272, b1272, kk1272, X1272, e1272, E1272, hS1272, hkq1272, hZ1272, hown1272, A1272, C1272, B1272, V1272, -, -, CHq1272, -, hnq1272, st1272⟩ := ldcCH X1255 hx hZ hown (own_w hw 174 rfl) (own_wS hw) rfl hS1221 hk1255 hEL (List.mem_of_getElem? (i := 1) rfl) CH1255.1 (vs := own_vs ".dlq") (z := (4 : Int32)) (own_ht ".dlq" (by decide)) (by decide) (own_vl ".dlq" 4 (by decide) (by decide)) (g := (mkF m 20 #[.val (.ref pp), .val (.ref so)] [(.ref b1188)])) rfl (od hby dc21 9 rfl) (n := 16) (by decide) (by decide) (by decide) (by decide)
  have sf1272_b1188 := CHr.safe CHq1272 Q1265.lt sf1255_b1188
  have sf1272_nr_1238 := CHr.safe CHq1272 U1255_4.lt sf1255_nr_1238
  have CH1272 := CH1255.trans CHq1272
  have Q1281 := Q1264.ext E1272
  have Q1282 := Q1265.ext E1272
  have Q1289 := U1255_0.ext E1272
  have Q1290 := U1255_1.ext E1272
  have Q1291 := U1255_2.ext E1272
  have Q1292 := U1255_3.ext E1272
  have Q1293 := U1255_4.ext E1272
  have Z1272 : n0 ≤ h1272.size := Nat.le_trans Z1255 E1272.1
  have K1272 := K1255.ext E1272
  have hZ := hZ1272
  have hown := hown1272
  have VI1272 : Arv Z h1272 b1272 kk1272 .byte (4 : Int32) (own_I (own_bs ".dlq")) (.int 0) := own_arvS V1272
  refine own_go st1272 ?_
  obtain ⟨cq1294, kq1294, q1294a, q1294b, q1294c⟩ := isOf hZ e1272 Q1282
  obtain ⟨_, _, ⟨T1294, L1294, k1294, n1294⟩, -, X1294, ⟨Lc1294, hQ1294, l1294, y1294, z1294⟩, st1294⟩ := X1272.virtualBack hx (y := yN46) (z := yN46) hown (mvT hZ (own_w hw 112 rfl)) (mvT hZ (own_w hw 113 rfl)) (notFace_of_selects (args := #[]) (mvT hZ (own_w hw 115 rfl))) (mvT hZ (own_w hw 115 rfl)) (mvT hZ (own_w hw 114 rfl)) (by decide) (backOf (W := 0) (sap l Z a0 hw [] b1188 a1272 (QapN Z b1188 a1272 nr_1238 kn_1238 ys_1255 b1272 kk1272 (4 : Int32) (own_bs ".dlq") cs (own_full cl) ((93 : Int32) + za) (93 + nn) 4 h1272 n0) h1272 n0 Z1272 Q1282 (fun _ _ _ q => by obtain ⟨_, rfl, -⟩ := q; rfl) (apN l Z a0 hw [] b1188 a1272 nr_1238 kn_1238 ys_1255 b1272 kk1272 (4 : Int32) (own_bs ".dlq") cs (own_full cl) ((93 : Int32) + za) (93 + nn) 4 h1272 n0 Z1272 Q1282 Q1289 Q1290 Q1291 Q1292 Q1293 A1272 C1272 B1272 VI1272 Q1281 low1188 low_nr_1238 ne_b1188_nr_1238 hcs (own_addn ot93 hn (by omega)) ot4 (by omega) Pq1255_0 Pq1255_1 (own_sQ hcl))) hZ (own_w hw 116 rfl) (own_w hw 96 rfl) (by decide) (by decide)) q1294a q1294c (g := (mkF m 22 #[.val (.ref pp), .val (.ref so)] [(.ref a1272), (.ref b1188)])) rfl (by rw [hml]; rfl) (Steps.refl _) (argsL := [(.ref a1272)]) (rest := []) (lenOf pd_35 rfl) rfl (own_W0 rfl) (od hby dc21 10 rfl) (fun _ _ => ⟨rfl, e1272, (by decide : 9 + 1 ≤ _), (by decide : 1164 + 372 ≤ _)⟩)
  dsimp only [Pt.U, Pt.locs, Pt.cells, Pt.slots] at X1294 l1294 y1294 z1294 st1294 hQ1294
  subst l1294 y1294 z1294
  obtain ⟨ys_1294, rfl, Nq1294, Kq1294, U1294_0, U1294_1, U1294_2, U1294_3, U1294_4, Pq1294_0, Pq1294_1⟩ := hQ1294
  have CH1294 := CH1272.trans (CHr.keep Kq1294 (sfS sf1272_b1188 (sfS sf1272_nr_1238 sf0)) CH1272.1)
  have hk1294 := Nat.le_trans hkq1272 Kq1294.1
  have Q1303 := own_staK Q1281 Kq1294 (nsS (own_nsE Q1282) (nsS (own_nsV Q1293) ns0))
  have Q1304 := Q1282.keep Kq1294
  have Z1294 : n0 ≤ T1294.heap.size := Nat.le_trans Z1272 Kq1294.1
  have K1294 : Keep h0 T1294.heap [] := K1272.trans Kq1294 (allS (Or.inr sz1188) (allS (Or.inr sz_nr_1238) all0))
  have N1294 := Fr.app N1255 Nq1294
  refine own_go (B := T1294.setTop (mkF m 25 #[.val (.ref pp), .val (.ref so)] [(.ref b1188)])) (fun t k => st1294.trans k) ?_
  obtain ⟨cq1315, kq1315, q1315a, q1315b, q1315c⟩ := isOf hZ rfl Q1304
  obtain ⟨_, _, ⟨T1315, L1315, k1315, n1315⟩, -, X1315, ⟨Lc1315, hQ1315, l1315, y1315, z1315⟩, st1315⟩ := X1294.virtualBack hx (y := yN55) (z := yN55) hown (mvT hZ (own_w hw 175 rfl)) (mvT hZ (own_w hw 176 rfl)) (notFace_of_selects (args := #[]) (mvT hZ (own_w hw 178 rfl))) (mvT hZ (own_w hw 178 rfl)) (mvT hZ (own_w hw 177 rfl)) (by decide) (backOf (W := 0) (tsL l Z a0 hw [] b1188 nr_1238 kn_1238 ys_1294 (((93 : Int32) + za) + (4 : Int32)) (93 + nn + 4) cs T1294.heap n0 Z1294 Q1304 U1294_0 U1294_1 U1294_2 U1294_3 U1294_4 Q1303 hcs (own_addn (own_addn ot93 hn (by omega)) ot4 (by omega)) (by omega)) hZ (own_w hw 179 rfl) (own_w hw 96 rfl) (by decide) (by decide)) q1315a q1315c (g := (mkF m 25 #[.val (.ref pp), .val (.ref so)] [(.ref b1188)])) rfl (by rw [hml]; rfl) (Steps.refl _) (argsL := []) (rest := []) (lenOf pd_36 rfl) rfl (own_W0 rfl) (od hby dc21 11 rfl) (fun _ _ => ⟨rfl, rfl, (by decide : 10 + 2 ≤ _), (by decide : 1536 + 206 ≤ _)⟩)
  dsimp only [Pt.U, Pt.locs, Pt.cells, Pt.slots] at X1315 l1315 y1315 z1315 st1315 hQ1315
  subst l1315 y1315 z1315
  obtain ⟨rr_1315, nr_1315, kn_1315, ys_1315, rfl, Nq1315, Kq1315, sq_rr_1315, sq_nr_1315, pq1315_0, U1315_0, U1315_1, U1315_2, U1315_3, Pq1315_0, Pq1315_1⟩ := hQ1315
  have sz_rr_1315 : h0.size ≤ rr_1315 := Nat.le_trans K1294.1 sq_rr_1315
  have sz_nr_1315 : h0.size ≤ nr_1315 := Nat.le_trans K1294.1 sq_nr_1315
  have CH1315 := CH1294.trans (CHr.keep Kq1315 sf0 CH1294.1)
  have hk1315 := Nat.le_trans hk1294 Kq1315.1
  have K1315 : Keep h0 T1315.heap [] := K1294.trans Kq1315 all0
  have N1315 := Fr.app N1294 Nq1315
  refine own_go (B := T1315.setTop (mkF m 28 #[.val (.ref pp), .val (.ref so)] [(.ref rr_1315)])) (fun t k => st1315.trans k) ?_
  obtain ⟨fs, hr, hrun, hended, hq⟩ := X1315.leaveW hS1272 hk1315 (v := some (.ref rr_1315)) (fun h => by rw [Bd.returns] at h; cases h)
  refine ⟨_, _, ?_, hrun, hended, _, _, rfl, ?_, ?_, hq.1, hq.2.1, hq.2.2.1, hq.2.2.2.mono (by decide) (by decide)⟩
  · show Steps p.tables e below (T1315.setTop (mkF m 28 #[.val (.ref pp), .val (.ref so)] [(.ref rr_1315)])) _
    exact retOut X1315 hx Bd.returns rfl (Or.inr (Or.inr (Or.inr (Or.inr ⟨rfl, rfl, rfl⟩)))) (od hby dc21 12 rfl) hr
  · show QdltL Z pp so bp kp bs ks za us cs cl nn h0 n0 _ T1315.heap _
    skip
    exact ⟨rr_1315, nr_1315, kn_1315, ys_1315, rfl, N1315, K1315, sz_rr_1315, sz_nr_1315, pq1315_0, U1315_0, U1315_1, U1315_2, U1315_3, Pq1315_0, own_LL Pq1315_1 Pq1294_1 (Nat.le_refl _)⟩
  · rw [hh]
    show CHr Z consts_1 _ _ T1315.vm T1315.heap
    skip
    exact CH1315.trans (CHv.at X1315 hZ hEL CH1315.1)
def QdltU (Z : State) (pp so bp : Addr) (kp : ClassId) (bs : Addr) (ks : ClassId) (za : Int32) (us : List Int32) (cs : Int32) (cl : List Int32) (nn : Nat) (zl : Int32) (h0 : Heap) (n0 : Nat) (v : Option Value) (h : Heap) (L : List Loc) : Prop := ∃ rr : Addr, ∃ br : Addr, ∃ kb : ClassId, ∃ ys : List Int32, v = some (.ref rr) ∧ Fr n0 L ∧ Keep h0 h [] ∧ h0.size ≤ rr ∧ h0.size ≤ br ∧ rr ≠ br ∧ Exa Z h rr jS ∧ Fld Z h rr jS "value" "[B" (.ref br) ∧ Fld Z h rr jS "coder" "B" (.int 1) ∧ Arv Z h br kb .byte ((((93 : Int32) + zl) + (4 : Int32)) <<< ((1 : Int32) &&& 31)) (own_I ys) (.int 0) ∧ (ys.length = 2 * (93 + nn + 4)) ∧ (own_U ys (own_full cl) (93 + nn + 4))
theorem efdltU (m : MethodId) (x0 : Addr) (x1 : Addr) : entryFrame m #[(.ref x0), (.ref x1)] 2 = mkF m 0 #[.val (.ref x0), .val (.ref x1)] [] := by first | (simp [entryFrame, mkF, argsToLocals, Value.category]; done) | rfl
set_option maxRecDepth 65536 in
set_option maxHeartbeats 40000000 in
theorem dltU (l : Launch) (Z : State) (a0 : Array Value) (hw : own_HW a0 Z) (ws : List Jvm.Cond) (pp so bp : Addr) (kp : ClassId) (bs : Addr) (ks : ClassId) (za : Int32) (us : List Int32) (cs : Int32) (cl : List Int32) (nn : Nat) (zl : Int32) (h0 : Heap) (n0 : Nat) (Z0 : n0 ≤ h0.size) (hEL : EW Z a0 consts_1) (P0 : Exa Z h0 pp jS) (P1 : Fld Z h0 pp jS "coder" "B" (.int 0)) (P2 : Fld Z h0 pp jS "value" "[B" (.ref bp)) (P3 : Arv Z h0 bp kp .byte (92 : Int32) (own_I (own_bs oP)) (.int 0)) (P4 : Exa Z h0 so jS) (P5 : Fld Z h0 so jS "coder" "B" (.int 1)) (P6 : Fld Z h0 so jS "value" "[B" (.ref bs)) (P7 : Arv Z h0 bs ks .byte za (own_I us) (.int 0)) (P8 : Sta Z h0 jS "COMPACT_STRINGS" "Z" (.int cs)) (P9 : own_SI Z h0) (P10 : Sta Z h0 jU "$assertionsDisabled" "Z" (.int 1)) (P11 : Sta Z h0 jU "HI_BYTE_SHIFT" "I" (.int 0)) (P12 : Sta Z h0 jU "LO_BYTE_SHIFT" "I" (.int 8)) (hcs : cs ≠ (0 : Int32)) (hln : (za >>> ((1 : Int32) &&& 31)) = zl) (hz : zl.toInt = (nn : Int)) (hn : za.toInt = ((2 * nn : Nat) : Int)) (h4 : nn ≤ 4) (hcl : cl.length = nn) (hsrc : ∀ q, q < nn → own_gc (us.getD (2 * q) 0) (us.getD (2 * q + 1) 0) = cl.getD q 0) :
    MetFree l yN56 (head1 (Jvm.Cond.code yN56 prog_1_method_4_code 2 (some (.object jS)) :: ws) (own_R 10 12 1742 143)) (fun a U => a = #[(.ref pp), (.ref so)] ∧ Z.Warmed39 U.vm ∧ U.heap = h0 ∧ CHv Z consts_1 U.vm h0) (fun _ _ _ _ _ => True) (fun _ U o U' => ∃ v L, o = .returned v ∧ QdltU Z pp so bp kp bs ks za us cs cl nn zl h0 n0 v U'.heap L ∧ CHr Z consts_1 U.vm U.heap U'.vm U'.heap ∧ ReturnedEndW U o U' L (own_R 10 12 1742 143).cells (own_R 10 12 1742 143).slots) := by
  refine MetFree.of_bodySF (plainFor_of_name pn_5) hisR ?_
  intro p e s m args below meth c s₁ Bd hml0 hP hK
  obtain ⟨rfl, hZ, hh, hC⟩ := hP
  have hx := Bd.exec
  have hby := Bd.bytes
  have hml : c.maxLocals = 2 := hml0
  have hown : s.vm.findClass jN = some m.cls := findClass_of_methodNamed Bd.named
  have X0 : Stand p l e (own_R 10 12 1742 143) (s.setVm s.vm) m #[(.ref pp), (.ref so)] below meth c s₁ [] 0 0 := Stand.of_body Bd
  have e0 : s₁.heap = h0 := by rw [← hh, Bd.state]; rfl
  have N0 := Fr.nil n0
  have K0 : Keep h0 h0 [] := Keep.refl h0 _
  have hC0 : CHr Z consts_1 s.vm h0 s.vm h0 := CHr.refl hC
  have hS0 : s.Since s.vm h0.size := (State.WarmedH.refl s).since _
  have hk0 : h0.size ≤ h0.size := Nat.le_refl _
  refine own_go (B := s₁.setTop (mkF m 0 #[.val (.ref pp), .val (.ref so)] [])) (fun t k => castTop (efdltU m pp so) k) ?_
  obtain ⟨T1341, h1341, X1341, e1341, E1341, A1341, D1341, -, st1341⟩ := newO X0 hx hZ hown (own_w hw 94 rfl) (own_w hw 95 rfl) (own_w hw 96 rfl) e0 (g := (mkF m 0 #[.val (.ref pp), .val (.ref so)] [])) rfl (od hby dc21 0 rfl) (by decide) (by decide)
  obtain ⟨b1341, g1341⟩ : ∃ z, z = h0.size := ⟨_, rfl⟩
  rw [← g1341] at A1341 D1341 st1341
  have ne1341_bp : bp ≠ b1341 := Nat.ne_of_lt (Nat.lt_of_lt_of_le P3.lt (Nat.le_of_eq g1341.symm))
  have ne1341_bs : bs ≠ b1341 := Nat.ne_of_lt (Nat.lt_of_lt_of_le P7.lt (Nat.le_of_eq g1341.symm))
  have ne1341_pp : pp ≠ b1341 := Nat.ne_of_lt (Nat.lt_of_lt_of_le P0.lt (Nat.le_of_eq g1341.symm))
  have ne1341_so : so ≠ b1341 := Nat.ne_of_lt (Nat.lt_of_lt_of_le P4.lt (Nat.le_of_eq g1341.symm))
  have low1341 : n0 ≤ b1341 := Nat.le_trans Z0 (Nat.le_of_eq g1341.symm)
  have sz1341 : h0.size ≤ b1341 := Nat.le_trans K0.1 (Nat.le_of_eq g1341.symm)
  have sf1341_b1341 : Safe Z consts_1 _ _ b1341 := Safe.ext E1341 hC0.1 (Safe.new (Nat.le_of_eq g1341.symm))
  have CH1341 := hC0.trans (CHr.ext E1341 hC0.1)
  have hk1341 := Nat.le_trans hk0 E1341.1
  have Q1342 := P0.ext E1341
  have Q1343 := P1.ext E1341
  have Q1344 := P2.ext E1341
  have Q1345 := P3.ext E1341
  have Q1346 := P4.ext E1341
  have Q1347 := P5.ext E1341
  have Q1348 := P6.ext E1341
  have Q1349 := P7.ext E1341
  have Q1350 := P8.ext E1341
  have Q1351 := P9.ext E1341
  have Q1352 := P10.ext E1341
  have Q1353 := P11.ext E1341
  have Q1354 := P12.ext E1341
  have Z1341 : n0 ≤ h1341.size := Nat.le_trans Z0 E1341.1
  have K1341 := K0.ext E1341
  have D1341_value_AbstractStringBuilder : Fld Z h1341 b1341 jA "value" "[B" .null := D1341 (Or.inl (own_w hw 109 rfl)) (ty := (.array .byte)) (by decide)
  have D1341_coder_AbstractStringBuilder : Fld Z h1341 b1341 jA "coder" "B" (.int 0) := D1341 (Or.inl (own_w hw 111 rfl)) (ty := .byte) (by decide)
  have D1341_count_AbstractStringBuilder : Fld Z h1341 b1341 jA "count" "I" (.int 0) := D1341 (Or.inl (own_w hw 124 rfl)) (ty := .int) (by decide)
  have D1341_maybeLatin1_AbstractStringBuilder : Fld Z h1341 b1341 jA "maybeLatin1" "Z" (.int 0) := D1341 (Or.inl (own_w hw 267 rfl)) (ty := .boolean) (by decide)
  refine own_go st1341 ?_
  refine own_go (B := T1341.setTop (mkF m 4 #[.val (.ref pp), .val (.ref so)] [(.ref b1341), (.ref b1341)])) (fun t k => ?_) ?_
  · refine XS.dup X1341.here hx rfl (od hby dc21 1 rfl) rfl rfl ?_
    exact k
  obtain ⟨_, _, ⟨T1355, L1355, k1355, n1355⟩, -, X1355, ⟨Lc1355, hQ1355, l1355, y1355, z1355⟩, st1355⟩ := X1341.specialBack hx (y := yN28) rfl hown (mvT hZ (own_w hw 97 rfl)) (mvT hZ (own_w hw 98 rfl)) (mvT hZ (own_w hw 99 rfl)) (by decide) (backOf (W := 1) (sbI l Z a0 hw [] b1341 cs h1341 n0 Z1341 A1341 D1341_value_AbstractStringBuilder D1341_coder_AbstractStringBuilder D1341_count_AbstractStringBuilder D1341_maybeLatin1_AbstractStringBuilder Q1350 low1341 hcs) hZ (own_w hw 99 rfl) (own_w hw 96 rfl) (by decide) (by decide)) (g := (mkF m 4 #[.val (.ref pp), .val (.ref so)] [(.ref b1341), (.ref b1341)])) rfl (by rw [hml]; rfl) (Steps.refl _) (a := b1341) (argsL := []) (rest := [(.ref b1341)]) (lenOf pd_26 rfl) rfl (own_W0 rfl) (od hby dc21 2 rfl) (fun _ _ => ⟨rfl, e1341, (by decide : 1 + 1 ≤ _), (by decide : 4 + 16 ≤ _)⟩)
  dsimp only [Pt.U, Pt.locs, Pt.cells, Pt.slots] at X1355 l1355 y1355 z1355 st1355 hQ1355
  subst l1355 y1355 z1355
  obtain ⟨br_1355, kb_1355, rfl, Nq1355, Kq1355, sq_br_1355, pq1355_0, U1355_0, U1355_1, U1355_2, U1355_3, U1355_4⟩ := hQ1355
  have ne_b1341_br_1355 : b1341 ≠ br_1355 := Nat.ne_of_lt (Nat.lt_of_lt_of_le A1341.lt sq_br_1355)
  have sf1355_b1341 := Safe.keep Kq1355 (sfS sf1341_b1341 sf0) CH1341.1 sf1341_b1341
  have CH1355 := CH1341.trans (CHr.keep Kq1355 (sfS sf1341_b1341 sf0) CH1341.1)
  have hk1355 := Nat.le_trans hk1341 Kq1355.1
  have Q1356 := Q1342.keep Kq1355
  have Q1357 := Q1343.keep Kq1355 (ninS ne1341_pp nin0)
  have Q1358 := Q1344.keep Kq1355 (ninS ne1341_pp nin0)
  have Q1359 := Q1345.keep Kq1355 (ninS ne1341_bp nin0)
  have Q1360 := Q1346.keep Kq1355
  have Q1361 := Q1347.keep Kq1355 (ninS ne1341_so nin0)
  have Q1362 := Q1348.keep Kq1355 (ninS ne1341_so nin0)
  have Q1363 := Q1349.keep Kq1355 (ninS ne1341_bs nin0)
  have Q1364 := own_staK Q1350 Kq1355 (nsS (own_nsE A1341) ns0)
  have Q1365 := own_SIK Q1351 Kq1355 (nsS (own_nsE A1341) ns0)
  have Q1366 := own_staK Q1352 Kq1355 (nsS (own_nsE A1341) ns0)
  have Q1367 := own_staK Q1353 Kq1355 (nsS (own_nsE A1341) ns0)
  have Q1368 := own_staK Q1354 Kq1355 (nsS (own_nsE A1341) ns0)
  have Q1369 := A1341.keep Kq1355
  have Z1355 : n0 ≤ T1355.heap.size := Nat.le_trans Z1341 Kq1355.1
  have K1355 : Keep h0 T1355.heap [] := K1341.trans Kq1355 (allS (Or.inr sz1341) all0)
  have N1355 := Fr.app N0 Nq1355
  refine own_go (B := T1355.setTop (mkF m 7 #[.val (.ref pp), .val (.ref so)] [(.ref b1341)])) (fun t k => st1355.trans k) ?_
  refine own_go (B := T1355.setTop (mkF m 8 #[.val (.ref pp), .val (.ref so)] [(.ref pp), (.ref b1341)])) (fun t k => ?_) ?_
  · refine XS.aloadN X1355.here hx rfl (od hby dc21 3 rfl) rfl rfl ?_
    exact k
  obtain ⟨cq1370, kq1370, q1370a, q1370b, q1370c⟩ := isOf hZ rfl Q1369
  obtain ⟨_, _, ⟨T1370, L1370, k1370, n1370⟩, -, X1370, ⟨Lc1370, hQ1370, l1370, y1370, z1370⟩, st1370⟩ := X1355.virtualBack hx (y := yN46) (z := yN46) hown (mvT hZ (own_w hw 112 rfl)) (mvT hZ (own_w hw 113 rfl)) (notFace_of_selects (args := #[]) (mvT hZ (own_w hw 115 rfl))) (mvT hZ (own_w hw 115 rfl)) (mvT hZ (own_w hw 114 rfl)) (by decide) (backOf (W := 0) (sap l Z a0 hw [] b1341 pp (QapG_16 Z b1341 pp br_1355 kb_1355 (List.replicate 16 0) bp kp (own_bs oP) cs (own_full cl) T1355.heap n0) T1355.heap n0 Z1355 Q1369 (fun _ _ _ q => by obtain ⟨_, _, _, rfl, -⟩ := q; rfl) (apG_16 l Z a0 hw [] b1341 pp br_1355 kb_1355 (List.replicate 16 0) bp kp (own_bs oP) cs (own_full cl) T1355.heap n0 Z1355 Q1369 U1355_0 U1355_1 U1355_2 U1355_3 U1355_4 Q1356 Q1357 Q1358 Q1359 Q1364 low1341 ne_b1341_br_1355 (Ne.symm ne1341_pp) (Ne.symm ne1341_bp) hcs (own_L0 _ _) (own_sP cl))) hZ (own_w hw 116 rfl) (own_w hw 96 rfl) (by decide) (by decide)) q1370a q1370c (g := (mkF m 8 #[.val (.ref pp), .val (.ref so)] [(.ref pp), (.ref b1341)])) rfl (by rw [hml]; rfl) (Steps.refl _) (argsL := [(.ref pp)]) (rest := []) (lenOf pd_35 rfl) rfl (own_W0 rfl) (od hby dc21 4 rfl) (fun _ _ => ⟨rfl, rfl, (by decide : 2 + 1 ≤ _), (by decide : 20 + 372 ≤ _)⟩)
  dsimp only [Pt.U, Pt.locs, Pt.cells, Pt.slots] at X1370 l1370 y1370 z1370 st1370 hQ1370
  subst l1370 y1370 z1370
  obtain ⟨nr_1370, kn_1370, ys_1370, rfl, Nq1370, Kq1370, sq_nr_1370, pq1370_0, U1370_0, U1370_1, U1370_2, U1370_3, U1370_4, Pq1370_0, Pq1370_1⟩ := hQ1370
  have ne_b1341_nr_1370 : b1341 ≠ nr_1370 := Nat.ne_of_lt (Nat.lt_of_lt_of_le Q1369.lt sq_nr_1370)
  have sf1370_b1341 := Safe.keep Kq1370 (sfS sf1355_b1341 sf0) CH1355.1 sf1355_b1341
  have CH1370 := CH1355.trans (CHr.keep Kq1370 (sfS sf1355_b1341 sf0) CH1355.1)
  have hk1370 := Nat.le_trans hk1355 Kq1370.1
  have Q1375 := Q1360.keep Kq1370
  have Q1376 := Q1361.keep Kq1370 (ninS ne1341_so nin0)
  have Q1377 := Q1362.keep Kq1370 (ninS ne1341_so nin0)
  have Q1378 := Q1363.keep Kq1370 (ninS ne1341_bs nin0)
  have Q1379 := own_staK Q1364 Kq1370 (nsS (own_nsE Q1369) ns0)
  have Q1380 := own_SIK Q1365 Kq1370 (nsS (own_nsE Q1369) ns0)
  have Q1381 := own_staK Q1366 Kq1370 (nsS (own_nsE Q1369) ns0)
  have Q1382 := own_staK Q1367 Kq1370 (nsS (own_nsE Q1369) ns0)
  have Q1383 := own_staK Q1368 Kq1370 (nsS (own_nsE Q1369) ns0)
  have Q1384 := Q1369.keep Kq1370
  have Z1370 : n0 ≤ T1370.heap.size := Nat.le_trans Z1355 Kq1370.1
  have K1370 : Keep h0 T1370.heap [] := K1355.trans Kq1370 (allS (Or.inr sz1341) all0)
  have N1370 := Fr.app N1355 Nq1370
  refine own_go (B := T1370.setTop (mkF m 11 #[.val (.ref pp), .val (.ref so)] [(.ref b1341)])) (fun t k => st1370.trans k) ?_
  obtain ⟨a1386, T1386, h1386, k11386, b1386, kk1386, X1386, e1386, E1386, hS1386, hkq1386, hZ1386, hown1386, A1386, C1386, B1386, V1386, -, -, CHq1386, -, hnq1386, st1386⟩ := ldcCH X1370 hx hZ hown (own_w hw 173 rfl) (own_wS hw) rfl hS0 hk1370 hEL (List.mem_of_getElem? (i := 0) rfl) CH1370.1 (vs := own_vs ".") (z := (1 : Int32)) (own_ht "." (by decide)) (by decide) (own_vl "." 1 (by decide) (by decide)) (g := (mkF m 11 #[.val (.ref pp), .val (.ref so)] [(.ref b1341)])) rfl (od hby dc21 5 rfl) (n := 4) (by decide) (by decide) (by decide) (by decide)
  have sf1386_b1341 := CHr.safe CHq1386 Q1384.lt sf1370_b1341
  have CH1386 := CH1370.trans CHq1386
  have nl1386_b1341 := hnq1386 _ sf1386_b1341
  have Q1391 := Q1375.ext E1386
  have Q1392 := Q1376.ext E1386
  have Q1393 := Q1377.ext E1386
  have Q1394 := Q1378.ext E1386
  have Q1395 := Q1379.ext E1386
  have Q1396 := Q1380.ext E1386
  have Q1397 := Q1381.ext E1386
  have Q1398 := Q1382.ext E1386
  have Q1399 := Q1383.ext E1386
  have Q1400 := Q1384.ext E1386
  have Q1402 := U1370_0.ext E1386
  have Q1403 := U1370_1.ext E1386
  have Q1404 := U1370_2.ext E1386
  have Q1405 := U1370_3.ext E1386
  have Q1406 := U1370_4.ext E1386
  have Z1386 : n0 ≤ h1386.size := Nat.le_trans Z1370 E1386.1
  have K1386 := K1370.ext E1386
  have hZ := hZ1386
  have hown := hown1386
  have VI1386 : Arv Z h1386 b1386 kk1386 .byte (1 : Int32) (own_I (own_bs ".")) (.int 0) := own_arvS V1386
  refine own_go st1386 ?_
  obtain ⟨cq1407, kq1407, q1407a, q1407b, q1407c⟩ := isOf hZ e1386 Q1400
  obtain ⟨_, _, ⟨T1407, L1407, k1407, n1407⟩, -, X1407, ⟨Lc1407, hQ1407, l1407, y1407, z1407⟩, st1407⟩ := X1386.virtualBack hx (y := yN46) (z := yN46) hown (mvT hZ (own_w hw 112 rfl)) (mvT hZ (own_w hw 113 rfl)) (notFace_of_selects (args := #[]) (mvT hZ (own_w hw 115 rfl))) (mvT hZ (own_w hw 115 rfl)) (mvT hZ (own_w hw 114 rfl)) (by decide) (backOf (W := 0) (sap l Z a0 hw [] b1341 a1386 (QapG_92 Z b1341 a1386 nr_1370 kn_1370 ys_1370 b1386 kk1386 (own_bs ".") cs (own_full cl) h1386 n0) h1386 n0 Z1386 Q1400 (fun _ _ _ q => by obtain ⟨_, _, _, rfl, -⟩ := q; rfl) (apG_92 l Z a0 hw [] b1341 a1386 nr_1370 kn_1370 ys_1370 b1386 kk1386 (own_bs ".") cs (own_full cl) h1386 n0 Z1386 Q1400 Q1402 Q1403 Q1404 Q1405 Q1406 A1386 C1386 B1386 VI1386 Q1395 low1341 ne_b1341_nr_1370 nl1386_b1341.1 nl1386_b1341.2 hcs Pq1370_1 (own_sD cl))) hZ (own_w hw 116 rfl) (own_w hw 96 rfl) (by decide) (by decide)) q1407a q1407c (g := (mkF m 13 #[.val (.ref pp), .val (.ref so)] [(.ref a1386), (.ref b1341)])) rfl (by rw [hml]; rfl) (Steps.refl _) (argsL := [(.ref a1386)]) (rest := []) (lenOf pd_35 rfl) rfl (own_W0 rfl) (od hby dc21 6 rfl) (fun _ _ => ⟨rfl, e1386, (by decide : 5 + 1 ≤ _), (by decide : 400 + 372 ≤ _)⟩)
  dsimp only [Pt.U, Pt.locs, Pt.cells, Pt.slots] at X1407 l1407 y1407 z1407 st1407 hQ1407
  subst l1407 y1407 z1407
  obtain ⟨nr_1407, kn_1407, ys_1407, rfl, Nq1407, Kq1407, sq_nr_1407, pq1407_0, U1407_0, U1407_1, U1407_2, U1407_3, U1407_4, Pq1407_0, Pq1407_1⟩ := hQ1407
  have ne_b1341_nr_1407 : b1341 ≠ nr_1407 := Nat.ne_of_lt (Nat.lt_of_lt_of_le Q1400.lt sq_nr_1407)
  have sf1407_b1341 := Safe.keep Kq1407 (sfS sf1386_b1341 sf0) CH1386.1 sf1386_b1341
  have CH1407 := CH1386.trans (CHr.keep Kq1407 (sfS sf1386_b1341 sf0) CH1386.1)
  have hk1407 := Nat.le_trans hkq1386 Kq1407.1
  have Q1412 := Q1391.keep Kq1407
  have Q1413 := Q1392.keep Kq1407 (ninS ne1341_so nin0)
  have Q1414 := Q1393.keep Kq1407 (ninS ne1341_so nin0)
  have Q1415 := Q1394.keep Kq1407 (ninS ne1341_bs nin0)
  have Q1416 := own_staK Q1395 Kq1407 (nsS (own_nsE Q1400) ns0)
  have Q1417 := own_SIK Q1396 Kq1407 (nsS (own_nsE Q1400) ns0)
  have Q1418 := own_staK Q1397 Kq1407 (nsS (own_nsE Q1400) ns0)
  have Q1419 := own_staK Q1398 Kq1407 (nsS (own_nsE Q1400) ns0)
  have Q1420 := own_staK Q1399 Kq1407 (nsS (own_nsE Q1400) ns0)
  have Q1421 := Q1400.keep Kq1407
  have Z1407 : n0 ≤ T1407.heap.size := Nat.le_trans Z1386 Kq1407.1
  have K1407 : Keep h0 T1407.heap [] := K1386.trans Kq1407 (allS (Or.inr sz1341) all0)
  have N1407 := Fr.app N1370 Nq1407
  refine own_go (B := T1407.setTop (mkF m 16 #[.val (.ref pp), .val (.ref so)] [(.ref b1341)])) (fun t k => st1407.trans k) ?_
  refine own_go (B := T1407.setTop (mkF m 17 #[.val (.ref pp), .val (.ref so)] [(.ref so), (.ref b1341)])) (fun t k => ?_) ?_
  · refine XS.aloadN X1407.here hx rfl (od hby dc21 7 rfl) rfl rfl ?_
    exact k
  obtain ⟨cq1428, kq1428, q1428a, q1428b, q1428c⟩ := isOf hZ rfl Q1421
  obtain ⟨_, _, ⟨T1428, L1428, k1428, n1428⟩, -, X1428, ⟨Lc1428, hQ1428, l1428, y1428, z1428⟩, st1428⟩ := X1407.virtualBack hx (y := yN46) (z := yN46) hown (mvT hZ (own_w hw 112 rfl)) (mvT hZ (own_w hw 113 rfl)) (notFace_of_selects (args := #[]) (mvT hZ (own_w hw 115 rfl))) (mvT hZ (own_w hw 115 rfl)) (mvT hZ (own_w hw 114 rfl)) (by decide) (backOf (W := 0) (sap l Z a0 hw [] b1341 so (QapU Z b1341 so nr_1407 kn_1407 ys_1407 bs ks za us cs (own_full cl) nn zl T1407.heap n0) T1407.heap n0 Z1407 Q1421 (fun _ _ _ q => by obtain ⟨_, _, _, rfl, -⟩ := q; rfl) (apU l Z a0 hw [] b1341 so nr_1407 kn_1407 ys_1407 bs ks za us cs (own_full cl) nn zl T1407.heap n0 Z1407 Q1421 U1407_0 U1407_1 U1407_2 U1407_3 U1407_4 Q1416 Q1417 Q1418 Q1419 Q1420 Q1412 Q1413 Q1414 Q1415 low1341 ne_b1341_nr_1407 (Ne.symm ne1341_so) (Ne.symm ne1341_bs) hcs hln hz hn h4 Pq1407_1 (own_sS hcl hsrc))) hZ (own_w hw 116 rfl) (own_w hw 96 rfl) (by decide) (by decide)) q1428a q1428c (g := (mkF m 17 #[.val (.ref pp), .val (.ref so)] [(.ref so), (.ref b1341)])) rfl (by rw [hml]; rfl) (Steps.refl _) (argsL := [(.ref so)]) (rest := []) (lenOf pd_35 rfl) rfl (own_W0 rfl) (od hby dc21 8 rfl) (fun _ _ => ⟨rfl, rfl, (by decide : 6 + 1 ≤ _), (by decide : 772 + 372 ≤ _)⟩)
  dsimp only [Pt.U, Pt.locs, Pt.cells, Pt.slots] at X1428 l1428 y1428 z1428 st1428 hQ1428
  subst l1428 y1428 z1428
  obtain ⟨nr_1428, kn_1428, ys_1428, rfl, Nq1428, Kq1428, sq_nr_1428, pq1428_0, U1428_0, U1428_1, U1428_2, U1428_3, U1428_4, Pq1428_0, Pq1428_1⟩ := hQ1428
  have ne_b1341_nr_1428 : b1341 ≠ nr_1428 := Nat.ne_of_lt (Nat.lt_of_lt_of_le Q1421.lt sq_nr_1428)
  have low_nr_1428 : n0 ≤ nr_1428 := Nat.le_trans Z1407 sq_nr_1428
  have sz_nr_1428 : h0.size ≤ nr_1428 := Nat.le_trans K1407.1 sq_nr_1428
  have sfn_nr_1428 : Safe Z consts_1 T1386.vm T1407.heap nr_1428 := Safe.new sq_nr_1428
  have sf1428_b1341 := Safe.keep Kq1428 (sfS sf1407_b1341 sf0) CH1407.1 sf1407_b1341
  have sf1428_nr_1428 := Safe.keep Kq1428 (sfS sf1407_b1341 sf0) CH1407.1 sfn_nr_1428
  have CH1428 := CH1407.trans (CHr.keep Kq1428 (sfS sf1407_b1341 sf0) CH1407.1)
  have hk1428 := Nat.le_trans hk1407 Kq1428.1
  have Q1437 := own_staK Q1416 Kq1428 (nsS (own_nsE Q1421) ns0)
  have Q1438 := own_SIK Q1417 Kq1428 (nsS (own_nsE Q1421) ns0)
  have Q1439 := own_staK Q1418 Kq1428 (nsS (own_nsE Q1421) ns0)
  have Q1440 := own_staK Q1419 Kq1428 (nsS (own_nsE Q1421) ns0)
  have Q1441 := own_staK Q1420 Kq1428 (nsS (own_nsE Q1421) ns0)
  have Q1442 := Q1421.keep Kq1428
  have Z1428 : n0 ≤ T1428.heap.size := Nat.le_trans Z1407 Kq1428.1
  have K1428 : Keep h0 T1428.heap [] := K1407.trans Kq1428 (allS (Or.inr sz1341) all0)
  have N1428 := Fr.app N1407 Nq1428
  refine own_go (B := T1428.setTop (mkF m 20 #[.val (.ref pp), .val (.ref so)] [(.ref b1341)])) (fun t k => st1428.trans k) ?_
  obtain ⟨a1450, T1450, h1450, k11450, b1450, kk1450, X1450, e1450, E1450, hS1450, hkq1450, hZ1450, hown1450, A1450, C1450, B1450, V1450, -, -, CHq1450, -, hnq1450, st1450⟩ := ldcCH X1428 hx hZ hown (own_w hw 174 rfl) (own_wS hw) rfl hS1386 hk1428 hEL (List.mem_of_getElem? (i := 1) rfl) CH1428.1 (vs := own_vs ".dlq") (z := (4 : Int32)) (own_ht ".dlq" (by decide)) (by decide) (own_vl ".dlq" 4 (by decide) (by decide)) (g := (mkF m 20 #[.val (.ref pp), .val (.ref so)] [(.ref b1341)])) rfl (od hby dc21 9 rfl) (n := 16) (by decide) (by decide) (by decide) (by decide)
  have sf1450_b1341 := CHr.safe CHq1450 Q1442.lt sf1428_b1341
  have sf1450_nr_1428 := CHr.safe CHq1450 U1428_4.lt sf1428_nr_1428
  have CH1450 := CH1428.trans CHq1450
  have nl1450_nr_1428 := hnq1450 _ sf1450_nr_1428
  have Q1459 := Q1437.ext E1450
  have Q1460 := Q1438.ext E1450
  have Q1461 := Q1439.ext E1450
  have Q1462 := Q1440.ext E1450
  have Q1463 := Q1441.ext E1450
  have Q1464 := Q1442.ext E1450
  have Q1472 := U1428_0.ext E1450
  have Q1473 := U1428_1.ext E1450
  have Q1474 := U1428_2.ext E1450
  have Q1475 := U1428_3.ext E1450
  have Q1476 := U1428_4.ext E1450
  have Z1450 : n0 ≤ h1450.size := Nat.le_trans Z1428 E1450.1
  have K1450 := K1428.ext E1450
  have hZ := hZ1450
  have hown := hown1450
  have VI1450 : Arv Z h1450 b1450 kk1450 .byte (4 : Int32) (own_I (own_bs ".dlq")) (.int 0) := own_arvS V1450
  refine own_go st1450 ?_
  obtain ⟨cq1477, kq1477, q1477a, q1477b, q1477c⟩ := isOf hZ e1450 Q1464
  obtain ⟨_, _, ⟨T1477, L1477, k1477, n1477⟩, -, X1477, ⟨Lc1477, hQ1477, l1477, y1477, z1477⟩, st1477⟩ := X1450.virtualBack hx (y := yN46) (z := yN46) hown (mvT hZ (own_w hw 112 rfl)) (mvT hZ (own_w hw 113 rfl)) (notFace_of_selects (args := #[]) (mvT hZ (own_w hw 115 rfl))) (mvT hZ (own_w hw 115 rfl)) (mvT hZ (own_w hw 114 rfl)) (by decide) (backOf (W := 0) (sap l Z a0 hw [] b1341 a1450 (QapI Z b1341 a1450 nr_1428 kn_1428 ys_1428 b1450 kk1450 (4 : Int32) (own_bs ".dlq") cs (own_full cl) ((93 : Int32) + zl) (93 + nn) 4 h1450 n0) h1450 n0 Z1450 Q1464 (fun _ _ _ q => by obtain ⟨_, rfl, -⟩ := q; rfl) (apI l Z a0 hw [] b1341 a1450 nr_1428 kn_1428 ys_1428 b1450 kk1450 (4 : Int32) (own_bs ".dlq") cs (own_full cl) ((93 : Int32) + zl) (93 + nn) 4 h1450 n0 Z1450 Q1464 Q1472 Q1473 Q1474 Q1475 Q1476 A1450 C1450 B1450 VI1450 Q1459 Q1460 Q1461 Q1462 Q1463 low1341 low_nr_1428 ne_b1341_nr_1428 (Ne.symm nl1450_nr_1428.2) hcs (own_addn ot93 hz (by omega)) ot4 (by omega) Pq1428_0 Pq1428_1 (own_sQ hcl))) hZ (own_w hw 116 rfl) (own_w hw 96 rfl) (by decide) (by decide)) q1477a q1477c (g := (mkF m 22 #[.val (.ref pp), .val (.ref so)] [(.ref a1450), (.ref b1341)])) rfl (by rw [hml]; rfl) (Steps.refl _) (argsL := [(.ref a1450)]) (rest := []) (lenOf pd_35 rfl) rfl (own_W0 rfl) (od hby dc21 10 rfl) (fun _ _ => ⟨rfl, e1450, (by decide : 9 + 1 ≤ _), (by decide : 1164 + 372 ≤ _)⟩)
  dsimp only [Pt.U, Pt.locs, Pt.cells, Pt.slots] at X1477 l1477 y1477 z1477 st1477 hQ1477
  subst l1477 y1477 z1477
  obtain ⟨ys_1477, rfl, Nq1477, Kq1477, U1477_0, U1477_1, U1477_2, U1477_3, U1477_4, Pq1477_0, Pq1477_1⟩ := hQ1477
  have CH1477 := CH1450.trans (CHr.keep Kq1477 (sfS sf1450_b1341 (sfS sf1450_nr_1428 sf0)) CH1450.1)
  have hk1477 := Nat.le_trans hkq1450 Kq1477.1
  have Q1486 := own_staK Q1459 Kq1477 (nsS (own_nsE Q1464) (nsS (own_nsV Q1476) ns0))
  have Q1491 := Q1464.keep Kq1477
  have Z1477 : n0 ≤ T1477.heap.size := Nat.le_trans Z1450 Kq1477.1
  have K1477 : Keep h0 T1477.heap [] := K1450.trans Kq1477 (allS (Or.inr sz1341) (allS (Or.inr sz_nr_1428) all0))
  have N1477 := Fr.app N1428 Nq1477
  refine own_go (B := T1477.setTop (mkF m 25 #[.val (.ref pp), .val (.ref so)] [(.ref b1341)])) (fun t k => st1477.trans k) ?_
  obtain ⟨cq1503, kq1503, q1503a, q1503b, q1503c⟩ := isOf hZ rfl Q1491
  obtain ⟨_, _, ⟨T1503, L1503, k1503, n1503⟩, -, X1503, ⟨Lc1503, hQ1503, l1503, y1503, z1503⟩, st1503⟩ := X1477.virtualBack hx (y := yN55) (z := yN55) hown (mvT hZ (own_w hw 175 rfl)) (mvT hZ (own_w hw 176 rfl)) (notFace_of_selects (args := #[]) (mvT hZ (own_w hw 178 rfl))) (mvT hZ (own_w hw 178 rfl)) (mvT hZ (own_w hw 177 rfl)) (by decide) (backOf (W := 0) (tsU l Z a0 hw [] b1341 nr_1428 kn_1428 ys_1477 (((93 : Int32) + zl) + (4 : Int32)) (93 + nn + 4) cs T1477.heap n0 Z1477 Q1491 U1477_0 U1477_1 U1477_2 U1477_3 U1477_4 Q1486 hcs (own_addn (own_addn ot93 hz (by omega)) ot4 (by omega)) (by omega)) hZ (own_w hw 179 rfl) (own_w hw 96 rfl) (by decide) (by decide)) q1503a q1503c (g := (mkF m 25 #[.val (.ref pp), .val (.ref so)] [(.ref b1341)])) rfl (by rw [hml]; rfl) (Steps.refl _) (argsL := []) (rest := []) (lenOf pd_36 rfl) rfl (own_W0 rfl) (od hby dc21 11 rfl) (fun _ _ => ⟨rfl, rfl, (by decide : 10 + 2 ≤ _), (by decide : 1536 + 206 ≤ _)⟩)
  dsimp only [Pt.U, Pt.locs, Pt.cells, Pt.slots] at X1503 l1503 y1503 z1503 st1503 hQ1503
  subst l1503 y1503 z1503
  obtain ⟨rr_1503, nr_1503, kn_1503, ys_1503, rfl, Nq1503, Kq1503, sq_rr_1503, sq_nr_1503, pq1503_0, U1503_0, U1503_1, U1503_2, U1503_3, Pq1503_0, Pq1503_1⟩ := hQ1503
  have sz_rr_1503 : h0.size ≤ rr_1503 := Nat.le_trans K1477.1 sq_rr_1503
  have sz_nr_1503 : h0.size ≤ nr_1503 := Nat.le_trans K1477.1 sq_nr_1503
  have CH1503 := CH1477.trans (CHr.keep Kq1503 sf0 CH1477.1)
  have hk1503 := Nat.le_trans hk1477 Kq1503.1
  have K1503 : Keep h0 T1503.heap [] := K1477.trans Kq1503 all0
  have N1503 := Fr.app N1477 Nq1503
  refine own_go (B := T1503.setTop (mkF m 28 #[.val (.ref pp), .val (.ref so)] [(.ref rr_1503)])) (fun t k => st1503.trans k) ?_
  obtain ⟨fs, hr, hrun, hended, hq⟩ := X1503.leaveW hS1450 hk1503 (v := some (.ref rr_1503)) (fun h => by rw [Bd.returns] at h; cases h)
  refine ⟨_, _, ?_, hrun, hended, _, _, rfl, ?_, ?_, hq.1, hq.2.1, hq.2.2.1, hq.2.2.2.mono (by decide) (by decide)⟩
  · show Steps p.tables e below (T1503.setTop (mkF m 28 #[.val (.ref pp), .val (.ref so)] [(.ref rr_1503)])) _
    exact retOut X1503 hx Bd.returns rfl (Or.inr (Or.inr (Or.inr (Or.inr ⟨rfl, rfl, rfl⟩)))) (od hby dc21 12 rfl) hr
  · show QdltU Z pp so bp kp bs ks za us cs cl nn zl h0 n0 _ T1503.heap _
    skip
    exact ⟨rr_1503, nr_1503, kn_1503, ys_1503, rfl, N1503, K1503, sz_rr_1503, sz_nr_1503, pq1503_0, U1503_0, U1503_1, U1503_2, U1503_3, Pq1503_0, own_UU Pq1503_1 Pq1477_1 (Nat.le_refl _)⟩
  · rw [hh]
    show CHr Z consts_1 _ _ T1503.vm T1503.heap
    skip
    exact CH1503.trans (CHv.at X1503 hZ hEL CH1503.1)
theorem own_cl_0 (x0 x1 x2 x3 : Int32) : own_cl 0 (fdrw x0) (fdrw x1) (fdrw x2) (fdrw x3) = [] := by
  simp [own_cl, own_drn]
theorem own_cl_1 (x0 x1 x2 x3 : Int32) : own_cl 1 (fdrw x0) (fdrw x1) (fdrw x2) (fdrw x3) = [fdrw x0] := by
  simp [own_cl, own_drn]
theorem own_cl_2 (x0 x1 x2 x3 : Int32) : own_cl 2 (fdrw x0) (fdrw x1) (fdrw x2) (fdrw x3) = [fdrw x0, fdrw x1] := by
  simp [own_cl, own_drn]
theorem own_cl_3 (x0 x1 x2 x3 : Int32) : own_cl 3 (fdrw x0) (fdrw x1) (fdrw x2) (fdrw x3) = [fdrw x0, fdrw x1, fdrw x2] := by
  simp [own_cl, own_drn]
theorem own_cl_4 (x0 x1 x2 x3 : Int32) : own_cl 4 (fdrw x0) (fdrw x1) (fdrw x2) (fdrw x3) = [fdrw x0, fdrw x1, fdrw x2, fdrw x3] := by
  simp [own_cl, own_drn]
theorem own_shv {z : Int32} {k : Nat} (h : z.toInt = (k : Int)) (h4 : k ≤ 1000) : ((z <<< ((1 : Int32) &&& 31)) >>> ((1 : Int32) &&& 31)) = z := by
  rw [← Int32.toInt_inj]
  have a := own_sh1 h (by omega)
  have b := c_ishr (z <<< ((1 : Int32) &&& 31)) 1 1 (by decide)
  simp only [Nat.reducePow] at b
  rw [b, a, h]; omega
abbrev oA (p0 p1 p2 p3 p4 n5 : Int32) (sa sb sc sd : Slot) : Array Slot := #[.val (.int p0), .val (.int p1), .val (.int p2), .val (.int p3), .val (.int p4), .val (.int n5), .val (.int (((p4.toUInt32 >>> ((3 : Int32) &&& 31).toUInt32).toInt32) &&& (3 : Int32))), .val (.int (fdrw p0)), .val (.int (fdrw p1)), .val (.int (fdrw p2)), .val (.int (fdrw p3)), sa, sb, sc, sd]
def Qrm0 (Z : State) (p0 p1 p2 p3 p4 cs : Int32) (h0 : Heap) (n0 : Nat) (v : Option Value) (h : Heap) (L : List Loc) : Prop := v = some (.int 1) ∧ Fr n0 L
theorem efrm0 (m : MethodId) (x0 : Int32) (x1 : Int32) (x2 : Int32) (x3 : Int32) (x4 : Int32) : entryFrame m #[(.int x0), (.int x1), (.int x2), (.int x3), (.int x4)] maxLocals = mkF m 0 #[.val (.int x0), .val (.int x1), .val (.int x2), .val (.int x3), .val (.int x4), .unset, .unset, .unset, .unset, .unset, .unset, .unset, .unset, .unset, .unset] [] := by first | (simp [entryFrame, mkF, argsToLocals, Value.category, maxLocals]; done) | rfl
set_option maxRecDepth 65536 in
set_option maxHeartbeats 40000000 in
theorem rm0 (l : Launch) (Z : State) (a0 : Array Value) (hw : own_HW a0 Z) (ws : List Jvm.Cond) (p0 p1 p2 p3 p4 cs : Int32) (h0 : Heap) (n0 : Nat) (Z0 : n0 ≤ h0.size) (hEL : EW Z a0 consts_1) (P0 : Sta Z h0 jS "COMPACT_STRINGS" "Z" (.int cs)) (P1 : Sta Z h0 jU "$assertionsDisabled" "Z" (.int 1)) (P2 : Sta Z h0 jU "HI_BYTE_SHIFT" "I" (.int 0)) (P3 : Sta Z h0 jU "LO_BYTE_SHIFT" "I" (.int 8)) (P4 : own_SI Z h0) (hcs : cs ≠ (0 : Int32)) :
    MetFree l x (head1 (Jvm.Cond.code x code maxLocals ret :: ws) room_1) (fun a U => a = #[(.int p0), (.int p1), (.int p2), (.int p3), (.int p4)] ∧ Z.Warmed39 U.vm ∧ U.heap = h0 ∧ CHv Z consts_1 U.vm h0) (fun _ _ _ _ _ => True) (fun _ U o U' => ∃ v L, o = .returned v ∧ Qrm0 Z p0 p1 p2 p3 p4 cs h0 n0 v U'.heap L ∧ ReturnedEndW U o U' L room_1.cells room_1.slots) := by
  refine MetFree.of_bodySF (plainFor_of_name pn_2) hisR ?_
  intro p e s m args below meth c s₁ Bd hml0 hP hK
  obtain ⟨rfl, hZ, hh, hC⟩ := hP
  have hx := Bd.exec
  have hby := Bd.bytes
  have hml : c.maxLocals = 15 := hml0
  have hown : s.vm.findClass jL = some m.cls := findClass_of_methodNamed Bd.named
  have X0 : Stand p l e room_1 (s.setVm s.vm) m #[(.int p0), (.int p1), (.int p2), (.int p3), (.int p4)] below meth c s₁ [] 0 0 := Stand.of_body Bd
  have e0 : s₁.heap = h0 := by rw [← hh, Bd.state]; rfl
  have N0 := Fr.nil n0
  have hC0 : CHr Z consts_1 s.vm h0 s.vm h0 := CHr.refl hC
  have hS0 : s.Since s.vm h0.size := (State.WarmedH.refl s).since _
  have hk0 : h0.size ≤ h0.size := Nat.le_refl _
  refine own_go (B := s₁.setTop (mkF m 0 #[.val (.int p0), .val (.int p1), .val (.int p2), .val (.int p3), .val (.int p4), .unset, .unset, .unset, .unset, .unset, .unset, .unset, .unset, .unset, .unset] [])) (fun t k => castTop (efrm0 m p0 p1 p2 p3 p4) k) ?_
  refine own_go (B := s₁.setTop (mkF m 20 #[.val (.int p0), .val (.int p1), .val (.int p2), .val (.int p3), .val (.int p4), .val (.int ((p4 &&& (7 : Int32)) % (5 : Int32))), .val (.int (((p4.toUInt32 >>> ((3 : Int32) &&& 31).toUInt32).toInt32) &&& (3 : Int32))), .unset, .unset, .unset, .unset, .unset, .unset, .unset, .unset] [(.int 2), (.int (((p4.toUInt32 >>> ((3 : Int32) &&& 31).toUInt32).toInt32) &&& (3 : Int32)))])) (fun t k => ?_) ?_
  · refine XS.iload X0.here hx rfl (hb hby at_0) rfl ?_
    refine XS.bipush X0.here hx rfl (hb hby at_2) ?_
    refine XS.iand X0.here hx rfl (hb hby at_4) rfl ?_
    refine XS.iconst X0.here hx rfl (hb hby at_5) ?_
    refine iremM X0 hx rfl (hb hby at_6) rfl (by decide) ?_
    refine XS.istore X0.here hx rfl (hb hby at_7) rfl (l' := #[.val (.int p0), .val (.int p1), .val (.int p2), .val (.int p3), .val (.int p4), .val (.int ((p4 &&& (7 : Int32)) % (5 : Int32))), .unset, .unset, .unset, .unset, .unset, .unset, .unset, .unset, .unset]) rfl ?_
    refine XS.iload X0.here hx rfl (hb hby at_9) rfl ?_
    refine XS.iconst X0.here hx rfl (hb hby at_11) ?_
    refine XS.iushr X0.here hx rfl (hb hby at_12) rfl ?_
    refine XS.iconst X0.here hx rfl (hb hby at_13) ?_
    refine XS.iand X0.here hx rfl (hb hby at_14) rfl ?_
    refine XS.istore X0.here hx rfl (hb hby at_15) rfl (l' := #[.val (.int p0), .val (.int p1), .val (.int p2), .val (.int p3), .val (.int p4), .val (.int ((p4 &&& (7 : Int32)) % (5 : Int32))), .val (.int (((p4.toUInt32 >>> ((3 : Int32) &&& 31).toUInt32).toInt32) &&& (3 : Int32))), .unset, .unset, .unset, .unset, .unset, .unset, .unset, .unset]) rfl ?_
    refine XS.iload X0.here hx rfl (hb hby at_17) rfl ?_
    refine XS.iconst X0.here hx rfl (hb hby at_19) ?_
    exact k
  by_cases hc20_1534 : (((p4.toUInt32 >>> ((3 : Int32) &&& 31).toUInt32).toInt32) &&& (3 : Int32)) = (2 : Int32)
  · refine own_go (B := s₁.setTop (mkF m 23 #[.val (.int p0), .val (.int p1), .val (.int p2), .val (.int p3), .val (.int p4), .val (.int ((p4 &&& (7 : Int32)) % (5 : Int32))), .val (.int (((p4.toUInt32 >>> ((3 : Int32) &&& 31).toUInt32).toInt32) &&& (3 : Int32))), .unset, .unset, .unset, .unset, .unset, .unset, .unset, .unset] [])) (fun t k => ?_) ?_
    · refine XS.icmpNo X0.here hx rfl (hb hby at_20) rfl (teq hc20_1534).2 ?_
      exact k
    refine own_go (B := s₁.setTop (mkF m 24 #[.val (.int p0), .val (.int p1), .val (.int p2), .val (.int p3), .val (.int p4), .val (.int ((p4 &&& (7 : Int32)) % (5 : Int32))), .val (.int (((p4.toUInt32 >>> ((3 : Int32) &&& 31).toUInt32).toInt32) &&& (3 : Int32))), .unset, .unset, .unset, .unset, .unset, .unset, .unset, .unset] [.null])) (fun t k => ?_) ?_
    · refine XS.aconstNull X0.here hx rfl (hb hby at_23) ?_
      exact k
    obtain ⟨_, _, ⟨T1535, L1535, k1535, n1535⟩, -, X1535, ⟨Lc1535, hQ1535, l1535, y1535, z1535⟩, st1535⟩ := Jvm.LawKit.callS X0 hx (y := yN25) hown (mvT hZ (own_w hw 29 rfl)) (mvT hZ (own_w hw 30 rfl)) (mvT hZ (own_w hw 31 rfl)) (mvT hZ (own_w hw 32 rfl)) (by decide) (backOf (W := 0) (ivN l Z a0 hw []  h0 n0 Z0 ) hZ (own_w hw 32 rfl) (own_w hw 31 rfl) (by decide) (by decide)) (g := (mkF m 24 #[.val (.int p0), .val (.int p1), .val (.int p2), .val (.int p3), .val (.int p4), .val (.int ((p4 &&& (7 : Int32)) % (5 : Int32))), .val (.int (((p4.toUInt32 >>> ((3 : Int32) &&& 31).toUInt32).toInt32) &&& (3 : Int32))), .unset, .unset, .unset, .unset, .unset, .unset, .unset, .unset] [.null])) rfl (by rw [hml]; rfl) (argsL := [.null]) (rest := []) (lenOf pd_18 rfl) rfl (own_W0 rfl) (hb hby at_24) (fun _ _ => ⟨rfl, e0, (by decide : 0 + 0 ≤ _), (by decide : 0 + 0 ≤ _)⟩)
    dsimp only [Pt.U, Pt.locs, Pt.cells, Pt.slots] at X1535 l1535 y1535 z1535 st1535 hQ1535
    subst l1535 y1535 z1535
    obtain ⟨rfl, Nq1535, e1535⟩ := hQ1535
    have N1535 := Fr.app N0 Nq1535
    refine own_go (B := T1535.setTop (mkF m 27 #[.val (.int p0), .val (.int p1), .val (.int p2), .val (.int p3), .val (.int p4), .val (.int ((p4 &&& (7 : Int32)) % (5 : Int32))), .val (.int (((p4.toUInt32 >>> ((3 : Int32) &&& 31).toUInt32).toInt32) &&& (3 : Int32))), .unset, .unset, .unset, .unset, .unset, .unset, .unset, .unset] [(.int 0)])) st1535 ?_
    refine own_go (B := T1535.setTop (mkF m 35 #[.val (.int p0), .val (.int p1), .val (.int p2), .val (.int p3), .val (.int p4), .val (.int ((p4 &&& (7 : Int32)) % (5 : Int32))), .val (.int (((p4.toUInt32 >>> ((3 : Int32) &&& 31).toUInt32).toInt32) &&& (3 : Int32))), .unset, .unset, .unset, .unset, .unset, .unset, .unset, .unset] [(.int 1)])) (fun t k => ?_) ?_
    · refine XS.ifNo X1535.here hx rfl (hb hby at_27) rfl ((if0 _ _).trans (teq (rfl : (0 : Int32) = (0 : Int32))).2) ?_
      refine XS.iconst X1535.here hx rfl (hb hby at_30) ?_
      refine XS.goto X1535.here hx rfl (pc0 := 31) (pc' := 35) rfl (hb hby at_31) (by decide) (by decide) ?_
      exact k
    obtain ⟨fs, hr, hrun, hended, hq⟩ := X1535.leaveW hS0 (by rw [e1535]; exact hk0) (v := some (.int 1)) (fun h => by rw [Bd.returns] at h; cases h)
    refine ⟨_, _, ?_, hrun, hended, _, _, rfl, ?_, hq.1, hq.2.1, hq.2.2.1, hq.2.2.2.mono (by decide) (by decide)⟩
    · show Steps p.tables e below (T1535.setTop (mkF m 35 #[.val (.int p0), .val (.int p1), .val (.int p2), .val (.int p3), .val (.int p4), .val (.int ((p4 &&& (7 : Int32)) % (5 : Int32))), .val (.int (((p4.toUInt32 >>> ((3 : Int32) &&& 31).toUInt32).toInt32) &&& (3 : Int32))), .unset, .unset, .unset, .unset, .unset, .unset, .unset, .unset] [(.int 1)])) _
      exact retN X1535 hx (t := .boolean) Bd.returns (by simp) (hb hby at_35) hr
    · show Qrm0 Z p0 p1 p2 p3 p4 cs h0 n0 _ T1535.heap _
      rw [e1535]
      exact ⟨rfl, N1535⟩
  · refine own_go (B := s₁.setTop (mkF m 36 #[.val (.int p0), .val (.int p1), .val (.int p2), .val (.int p3), .val (.int p4), .val (.int ((p4 &&& (7 : Int32)) % (5 : Int32))), .val (.int (((p4.toUInt32 >>> ((3 : Int32) &&& 31).toUInt32).toInt32) &&& (3 : Int32))), .unset, .unset, .unset, .unset, .unset, .unset, .unset, .unset] [])) (fun t k => ?_) ?_
    · refine XS.icmpYes X0.here hx rfl (pc0 := 20) (pc' := 36) rfl (hb hby at_20) rfl (feq hc20_1534).2 (by decide) (by decide) ?_
      exact k
    refine own_go (B := s₁.setTop (mkF m 37 #[.val (.int p0), .val (.int p1), .val (.int p2), .val (.int p3), .val (.int p4), .val (.int ((p4 &&& (7 : Int32)) % (5 : Int32))), .val (.int (((p4.toUInt32 >>> ((3 : Int32) &&& 31).toUInt32).toInt32) &&& (3 : Int32))), .unset, .unset, .unset, .unset, .unset, .unset, .unset, .unset] [(.int p0)])) (fun t k => ?_) ?_
    · refine XS.iloadN X0.here hx rfl (hb hby at_36) rfl ?_
      exact k
    obtain ⟨_, _, ⟨T1537, L1537, k1537, n1537⟩, -, X1537, ⟨Lc1537, hQ1537, l1537, y1537, z1537⟩, st1537⟩ := Jvm.LawKit.callS X0 hx (y := yN26) hown (mvT hZ (own_w hw 0 rfl)) (mvT hZ (own_w hw 1 rfl)) (mvT hZ (own_w hw 2 rfl)) (mvT hZ (own_w hw 3 rfl)) (by decide) (backOf (W := 0) (drw l Z a0 hw [] p0 h0 n0 Z0 ) hZ (own_w hw 3 rfl) (own_w hw 2 rfl) (by decide) (by decide)) (g := (mkF m 37 #[.val (.int p0), .val (.int p1), .val (.int p2), .val (.int p3), .val (.int p4), .val (.int ((p4 &&& (7 : Int32)) % (5 : Int32))), .val (.int (((p4.toUInt32 >>> ((3 : Int32) &&& 31).toUInt32).toInt32) &&& (3 : Int32))), .unset, .unset, .unset, .unset, .unset, .unset, .unset, .unset] [(.int p0)])) rfl (by rw [hml]; rfl) (argsL := [(.int p0)]) (rest := []) (lenOf pd_16 rfl) rfl (own_W0 rfl) (hb hby at_37) (fun _ _ => ⟨rfl, e0, (by decide : 0 + 0 ≤ _), (by decide : 0 + 0 ≤ _)⟩)
    dsimp only [Pt.U, Pt.locs, Pt.cells, Pt.slots] at X1537 l1537 y1537 z1537 st1537 hQ1537
    subst l1537 y1537 z1537
    obtain ⟨rfl, Nq1537, e1537⟩ := hQ1537
    have N1537 := Fr.app N0 Nq1537
    refine own_go (B := T1537.setTop (mkF m 40 #[.val (.int p0), .val (.int p1), .val (.int p2), .val (.int p3), .val (.int p4), .val (.int ((p4 &&& (7 : Int32)) % (5 : Int32))), .val (.int (((p4.toUInt32 >>> ((3 : Int32) &&& 31).toUInt32).toInt32) &&& (3 : Int32))), .unset, .unset, .unset, .unset, .unset, .unset, .unset, .unset] [(.int (fdrw p0))])) st1537 ?_
    refine own_go (B := T1537.setTop (mkF m 43 #[.val (.int p0), .val (.int p1), .val (.int p2), .val (.int p3), .val (.int p4), .val (.int ((p4 &&& (7 : Int32)) % (5 : Int32))), .val (.int (((p4.toUInt32 >>> ((3 : Int32) &&& 31).toUInt32).toInt32) &&& (3 : Int32))), .val (.int (fdrw p0)), .unset, .unset, .unset, .unset, .unset, .unset, .unset] [(.int p1)])) (fun t k => ?_) ?_
    · refine XS.istore X1537.here hx rfl (hb hby at_40) rfl (l' := #[.val (.int p0), .val (.int p1), .val (.int p2), .val (.int p3), .val (.int p4), .val (.int ((p4 &&& (7 : Int32)) % (5 : Int32))), .val (.int (((p4.toUInt32 >>> ((3 : Int32) &&& 31).toUInt32).toInt32) &&& (3 : Int32))), .val (.int (fdrw p0)), .unset, .unset, .unset, .unset, .unset, .unset, .unset]) rfl ?_
      refine XS.iloadN X1537.here hx rfl (hb hby at_42) rfl ?_
      exact k
    obtain ⟨_, _, ⟨T1538, L1538, k1538, n1538⟩, -, X1538, ⟨Lc1538, hQ1538, l1538, y1538, z1538⟩, st1538⟩ := Jvm.LawKit.callS X1537 hx (y := yN26) hown (mvT hZ (own_w hw 0 rfl)) (mvT hZ (own_w hw 1 rfl)) (mvT hZ (own_w hw 2 rfl)) (mvT hZ (own_w hw 3 rfl)) (by decide) (backOf (W := 0) (drw l Z a0 hw [] p1 h0 n0 Z0 ) hZ (own_w hw 3 rfl) (own_w hw 2 rfl) (by decide) (by decide)) (g := (mkF m 43 #[.val (.int p0), .val (.int p1), .val (.int p2), .val (.int p3), .val (.int p4), .val (.int ((p4 &&& (7 : Int32)) % (5 : Int32))), .val (.int (((p4.toUInt32 >>> ((3 : Int32) &&& 31).toUInt32).toInt32) &&& (3 : Int32))), .val (.int (fdrw p0)), .unset, .unset, .unset, .unset, .unset, .unset, .unset] [(.int p1)])) rfl (by rw [hml]; rfl) (argsL := [(.int p1)]) (rest := []) (lenOf pd_16 rfl) rfl (own_W0 rfl) (hb hby at_43) (fun _ _ => ⟨rfl, e1537, (by decide : 0 + 0 ≤ _), (by decide : 0 + 0 ≤ _)⟩)
    dsimp only [Pt.U, Pt.locs, Pt.cells, Pt.slots] at X1538 l1538 y1538 z1538 st1538 hQ1538
    subst l1538 y1538 z1538
    obtain ⟨rfl, Nq1538, e1538⟩ := hQ1538
    have N1538 := Fr.app N1537 Nq1538
    refine own_go (B := T1538.setTop (mkF m 46 #[.val (.int p0), .val (.int p1), .val (.int p2), .val (.int p3), .val (.int p4), .val (.int ((p4 &&& (7 : Int32)) % (5 : Int32))), .val (.int (((p4.toUInt32 >>> ((3 : Int32) &&& 31).toUInt32).toInt32) &&& (3 : Int32))), .val (.int (fdrw p0)), .unset, .unset, .unset, .unset, .unset, .unset, .unset] [(.int (fdrw p1))])) st1538 ?_
    refine own_go (B := T1538.setTop (mkF m 49 #[.val (.int p0), .val (.int p1), .val (.int p2), .val (.int p3), .val (.int p4), .val (.int ((p4 &&& (7 : Int32)) % (5 : Int32))), .val (.int (((p4.toUInt32 >>> ((3 : Int32) &&& 31).toUInt32).toInt32) &&& (3 : Int32))), .val (.int (fdrw p0)), .val (.int (fdrw p1)), .unset, .unset, .unset, .unset, .unset, .unset] [(.int p2)])) (fun t k => ?_) ?_
    · refine XS.istore X1538.here hx rfl (hb hby at_46) rfl (l' := #[.val (.int p0), .val (.int p1), .val (.int p2), .val (.int p3), .val (.int p4), .val (.int ((p4 &&& (7 : Int32)) % (5 : Int32))), .val (.int (((p4.toUInt32 >>> ((3 : Int32) &&& 31).toUInt32).toInt32) &&& (3 : Int32))), .val (.int (fdrw p0)), .val (.int (fdrw p1)), .unset, .unset, .unset, .unset, .unset, .unset]) rfl ?_
      refine XS.iloadN X1538.here hx rfl (hb hby at_48) rfl ?_
      exact k
    obtain ⟨_, _, ⟨T1539, L1539, k1539, n1539⟩, -, X1539, ⟨Lc1539, hQ1539, l1539, y1539, z1539⟩, st1539⟩ := Jvm.LawKit.callS X1538 hx (y := yN26) hown (mvT hZ (own_w hw 0 rfl)) (mvT hZ (own_w hw 1 rfl)) (mvT hZ (own_w hw 2 rfl)) (mvT hZ (own_w hw 3 rfl)) (by decide) (backOf (W := 0) (drw l Z a0 hw [] p2 h0 n0 Z0 ) hZ (own_w hw 3 rfl) (own_w hw 2 rfl) (by decide) (by decide)) (g := (mkF m 49 #[.val (.int p0), .val (.int p1), .val (.int p2), .val (.int p3), .val (.int p4), .val (.int ((p4 &&& (7 : Int32)) % (5 : Int32))), .val (.int (((p4.toUInt32 >>> ((3 : Int32) &&& 31).toUInt32).toInt32) &&& (3 : Int32))), .val (.int (fdrw p0)), .val (.int (fdrw p1)), .unset, .unset, .unset, .unset, .unset, .unset] [(.int p2)])) rfl (by rw [hml]; rfl) (argsL := [(.int p2)]) (rest := []) (lenOf pd_16 rfl) rfl (own_W0 rfl) (hb hby at_49) (fun _ _ => ⟨rfl, e1538, (by decide : 0 + 0 ≤ _), (by decide : 0 + 0 ≤ _)⟩)
    dsimp only [Pt.U, Pt.locs, Pt.cells, Pt.slots] at X1539 l1539 y1539 z1539 st1539 hQ1539
    subst l1539 y1539 z1539
    obtain ⟨rfl, Nq1539, e1539⟩ := hQ1539
    have N1539 := Fr.app N1538 Nq1539
    refine own_go (B := T1539.setTop (mkF m 52 #[.val (.int p0), .val (.int p1), .val (.int p2), .val (.int p3), .val (.int p4), .val (.int ((p4 &&& (7 : Int32)) % (5 : Int32))), .val (.int (((p4.toUInt32 >>> ((3 : Int32) &&& 31).toUInt32).toInt32) &&& (3 : Int32))), .val (.int (fdrw p0)), .val (.int (fdrw p1)), .unset, .unset, .unset, .unset, .unset, .unset] [(.int (fdrw p2))])) st1539 ?_
    refine own_go (B := T1539.setTop (mkF m 55 #[.val (.int p0), .val (.int p1), .val (.int p2), .val (.int p3), .val (.int p4), .val (.int ((p4 &&& (7 : Int32)) % (5 : Int32))), .val (.int (((p4.toUInt32 >>> ((3 : Int32) &&& 31).toUInt32).toInt32) &&& (3 : Int32))), .val (.int (fdrw p0)), .val (.int (fdrw p1)), .val (.int (fdrw p2)), .unset, .unset, .unset, .unset, .unset] [(.int p3)])) (fun t k => ?_) ?_
    · refine XS.istore X1539.here hx rfl (hb hby at_52) rfl (l' := #[.val (.int p0), .val (.int p1), .val (.int p2), .val (.int p3), .val (.int p4), .val (.int ((p4 &&& (7 : Int32)) % (5 : Int32))), .val (.int (((p4.toUInt32 >>> ((3 : Int32) &&& 31).toUInt32).toInt32) &&& (3 : Int32))), .val (.int (fdrw p0)), .val (.int (fdrw p1)), .val (.int (fdrw p2)), .unset, .unset, .unset, .unset, .unset]) rfl ?_
      refine XS.iloadN X1539.here hx rfl (hb hby at_54) rfl ?_
      exact k
    obtain ⟨_, _, ⟨T1540, L1540, k1540, n1540⟩, -, X1540, ⟨Lc1540, hQ1540, l1540, y1540, z1540⟩, st1540⟩ := Jvm.LawKit.callS X1539 hx (y := yN26) hown (mvT hZ (own_w hw 0 rfl)) (mvT hZ (own_w hw 1 rfl)) (mvT hZ (own_w hw 2 rfl)) (mvT hZ (own_w hw 3 rfl)) (by decide) (backOf (W := 0) (drw l Z a0 hw [] p3 h0 n0 Z0 ) hZ (own_w hw 3 rfl) (own_w hw 2 rfl) (by decide) (by decide)) (g := (mkF m 55 #[.val (.int p0), .val (.int p1), .val (.int p2), .val (.int p3), .val (.int p4), .val (.int ((p4 &&& (7 : Int32)) % (5 : Int32))), .val (.int (((p4.toUInt32 >>> ((3 : Int32) &&& 31).toUInt32).toInt32) &&& (3 : Int32))), .val (.int (fdrw p0)), .val (.int (fdrw p1)), .val (.int (fdrw p2)), .unset, .unset, .unset, .unset, .unset] [(.int p3)])) rfl (by rw [hml]; rfl) (argsL := [(.int p3)]) (rest := []) (lenOf pd_16 rfl) rfl (own_W0 rfl) (hb hby at_55) (fun _ _ => ⟨rfl, e1539, (by decide : 0 + 0 ≤ _), (by decide : 0 + 0 ≤ _)⟩)
    dsimp only [Pt.U, Pt.locs, Pt.cells, Pt.slots] at X1540 l1540 y1540 z1540 st1540 hQ1540
    subst l1540 y1540 z1540
    obtain ⟨rfl, Nq1540, e1540⟩ := hQ1540
    have N1540 := Fr.app N1539 Nq1540
    refine own_go (B := T1540.setTop (mkF m 58 #[.val (.int p0), .val (.int p1), .val (.int p2), .val (.int p3), .val (.int p4), .val (.int ((p4 &&& (7 : Int32)) % (5 : Int32))), .val (.int (((p4.toUInt32 >>> ((3 : Int32) &&& 31).toUInt32).toInt32) &&& (3 : Int32))), .val (.int (fdrw p0)), .val (.int (fdrw p1)), .val (.int (fdrw p2)), .unset, .unset, .unset, .unset, .unset] [(.int (fdrw p3))])) st1540 ?_
    refine own_go (B := T1540.setTop (mkF m 60 #[.val (.int p0), .val (.int p1), .val (.int p2), .val (.int p3), .val (.int p4), .val (.int ((p4 &&& (7 : Int32)) % (5 : Int32))), .val (.int (((p4.toUInt32 >>> ((3 : Int32) &&& 31).toUInt32).toInt32) &&& (3 : Int32))), .val (.int (fdrw p0)), .val (.int (fdrw p1)), .val (.int (fdrw p2)), .val (.int (fdrw p3)), .unset, .unset, .unset, .unset] [])) (fun t k => ?_) ?_
    · refine XS.istore X1540.here hx rfl (hb hby at_58) rfl (l' := #[.val (.int p0), .val (.int p1), .val (.int p2), .val (.int p3), .val (.int p4), .val (.int ((p4 &&& (7 : Int32)) % (5 : Int32))), .val (.int (((p4.toUInt32 >>> ((3 : Int32) &&& 31).toUInt32).toInt32) &&& (3 : Int32))), .val (.int (fdrw p0)), .val (.int (fdrw p1)), .val (.int (fdrw p2)), .val (.int (fdrw p3)), .unset, .unset, .unset, .unset]) rfl ?_
      exact k
    have join1541 : ∀ (n5 : Int32) (ok : Int32) (nn : Nat) (Tq1541 : State) (Lq1541 : List Loc), n5.toInt = (nn : Int) → nn ≤ 4 → ok = own_all (own_cl nn (fdrw p0) (fdrw p1) (fdrw p2) (fdrw p3)) → Stand p l e room_1 (s.setVm s.vm) m #[(.int p0), (.int p1), (.int p2), (.int p3), (.int p4)] below meth c Tq1541 Lq1541 0 0 → Tq1541.heap = h0 → Fr n0 Lq1541 → ∃ s₂ o, Steps p.tables e below (Tq1541.setTop (mkF m 123 (oA p0 p1 p2 p3 p4 n5 (.val (.int ok)) .unset .unset .unset) [])) s₂ ∧ s₂.status = .running ∧ Ended s₂ below o ∧ ∃ v L, o = .returned v ∧ Qrm0 Z p0 p1 p2 p3 p4 cs h0 n0 v s₂.heap L ∧ ReturnedEndW s o s₂ L room_1.cells room_1.slots := by
      intro n5 ok nn Tq1541 Lq1541 hn5 h4 hok Xq1541 eq1541 Nq1541
      refine own_go (B := Tq1541.setTop (mkF m 133 (oA p0 p1 p2 p3 p4 n5 (.val (.int ok)) .unset .unset .unset) [(.int (fdrw p3)), (.int (fdrw p2)), (.int (fdrw p1)), (.int (fdrw p0)), (.int n5)])) (fun t k => ?_) ?_
      · refine XS.iload Xq1541.here hx rfl (hb hby at_123) rfl ?_
        refine XS.iload Xq1541.here hx rfl (hb hby at_125) rfl ?_
        refine XS.iload Xq1541.here hx rfl (hb hby at_127) rfl ?_
        refine XS.iload Xq1541.here hx rfl (hb hby at_129) rfl ?_
        refine XS.iload Xq1541.here hx rfl (hb hby at_131) rfl ?_
        exact k
      rcases Nat.eq_zero_or_pos nn with hz9 | hp9
      · subst hz9
        obtain rfl : n5 = (0 : Int32) := Int32.toInt_inj.mp (hn5.trans rfl)
        obtain ⟨_, _, ⟨T1542, L1542, k1542, n1542⟩, -, X1542, hSq1542, gr1542, ⟨Lc1542, hQ1542, l1542, y1542, z1542, CHq1542⟩, st1542⟩ := callSS Xq1541 hx (y := yN10) hown (mvT hZ (own_w hw 4 rfl)) (mvT hZ (own_w hw 5 rfl)) (mvT hZ (own_w hw 2 rfl)) (mvT hZ (own_w hw 6 rfl)) (by decide) (backOfSH (W := 0) (s := s) (vm0 := s.vm) (mk_0 l Z a0 hw [] (fdrw p0) (fdrw p1) (fdrw p2) (fdrw p3) h0 n0 Z0 hEL ) hZ (own_w hw 6 rfl) (own_w hw 2 rfl) (by decide) (by decide) hEL hC0.1) (g := (mkF m 133 (oA p0 p1 p2 p3 p4 (0 : Int32) (.val (.int ok)) .unset .unset .unset) [(.int (fdrw p3)), (.int (fdrw p2)), (.int (fdrw p1)), (.int (fdrw p0)), (.int 0)])) rfl (by rw [hml]; rfl) (argsL := [(.int 0), (.int (fdrw p0)), (.int (fdrw p1)), (.int (fdrw p2)), (.int (fdrw p3))]) (rest := []) (lenOf pd_37 rfl) rfl (own_W0 rfl) (hb hby at_133) (fun _ _ => ⟨rfl, eq1541, (by decide : 0 + 6 ≤ _), (by decide : 0 + 12 ≤ _)⟩)
        dsimp only [Pt.U, Pt.locs, Pt.cells, Pt.slots] at X1542 l1542 y1542 z1542 st1542 hQ1542 hSq1542 gr1542 CHq1542
        subst l1542 y1542 z1542
        have CH1542 := hC0.trans CHq1542
        have hS1542 : s.Since T1542.vm T1542.heap.size := foldS (T := Tq1541) hS0 (by rw [eq1541]; exact hk0) hSq1542 gr1542
        have hkq1542 : T1542.heap.size ≤ T1542.heap.size := Nat.le_refl _
        have hZ : Z.Warmed39 (s.setVm T1542.vm).vm := State.Warmed39.trans (t := s.setVm s.vm) hZ hSq1542.1
        have hown : (s.setVm T1542.vm).vm.findClass jL = some m.cls := by rw [show (s.setVm T1542.vm).vm = T1542.vm from rfl, hSq1542.1.alike.findClass]; exact hown
        have X1542 : Stand p l e room_1 (s.setVm T1542.vm) m #[(.int p0), (.int p1), (.int p2), (.int p3), (.int p4)] below meth c T1542 _ _ _ := X1542
        obtain ⟨rr_1542, br_1542, kb_1542, rfl, Nq1542, Kq1542, sq_rr_1542, pq1542_0, U1542_0, U1542_1, U1542_2, U1542_3⟩ := hQ1542
        have Q1543 := P0.ext (own_extK Kq1542)
        have Q1547 := P4.ext (own_extK Kq1542)
        have Z1542 : n0 ≤ T1542.heap.size := Nat.le_trans Z0 Kq1542.1
        have N1542 := Fr.app Nq1541 Nq1542
        refine own_go (B := T1542.setTop (mkF m 136 (oA p0 p1 p2 p3 p4 (0 : Int32) (.val (.int ok)) .unset .unset .unset) [(.ref rr_1542)])) (fun t k => st1542.trans k) ?_
        refine own_go (B := T1542.setTop (mkF m 141 (oA p0 p1 p2 p3 p4 (0 : Int32) (.val (.int ok)) (.val (.ref rr_1542)) .unset .unset) [(.int 1), (.int (((p4.toUInt32 >>> ((3 : Int32) &&& 31).toUInt32).toInt32) &&& (3 : Int32)))])) (fun t k => ?_) ?_
        · refine XS.astore X1542.here hx rfl (hb hby at_136) rfl rfl (l' := (oA p0 p1 p2 p3 p4 (0 : Int32) (.val (.int ok)) (.val (.ref rr_1542)) .unset .unset)) rfl ?_
          refine XS.iload X1542.here hx rfl (hb hby at_138) rfl ?_
          refine XS.iconst X1542.here hx rfl (hb hby at_140) ?_
          exact k
        by_cases hc141_1548 : (((p4.toUInt32 >>> ((3 : Int32) &&& 31).toUInt32).toInt32) &&& (3 : Int32)) = (1 : Int32)
        · refine own_go (B := T1542.setTop (mkF m 144 (oA p0 p1 p2 p3 p4 (0 : Int32) (.val (.int ok)) (.val (.ref rr_1542)) .unset .unset) [])) (fun t k => ?_) ?_
          · refine XS.icmpNo X1542.here hx rfl (hb hby at_141) rfl (teq hc141_1548).2 ?_
            exact k
          obtain ⟨a1549, T1549, h1549, k11549, b1549, kk1549, X1549, e1549, E1549, hS1549, hkq1549, hZ1549, hown1549, A1549, C1549, B1549, V1549, -, -, CHq1549, -, hnq1549, st1549⟩ := ldcCH X1542 hx hZ hown (own_w hw 90 rfl) (own_wS hw) rfl hS1542 hkq1542 hEL (List.mem_of_getElem? (i := 2) rfl) CH1542.1 (vs := own_vs oP) (z := (92 : Int32)) (own_ht oP (by decide)) (by decide) (own_vl oP 92 (by decide) (by decide)) (g := (mkF m 144 (oA p0 p1 p2 p3 p4 (0 : Int32) (.val (.int ok)) (.val (.ref rr_1542)) .unset .unset) [])) rfl (hb hby at_144) (n := 368) (by decide) (by decide) (by decide) (by decide)
          have CH1549 := CH1542.trans CHq1549
          have Q1550 := Q1543.ext E1549
          have Q1554 := Q1547.ext E1549
          have Q1555 := U1542_0.ext E1549
          have Q1556 := U1542_1.ext E1549
          have Q1557 := U1542_2.ext E1549
          have Q1558 := U1542_3.ext E1549
          have Z1549 : n0 ≤ h1549.size := Nat.le_trans Z1542 E1549.1
          have hZ := hZ1549
          have hown := hown1549
          have VI1549 : Arv Z h1549 b1549 kk1549 .byte (92 : Int32) (own_I (own_bs oP)) (.int 0) := own_arvS V1549
          refine own_go st1549 ?_
          refine own_go (B := T1549.setTop (mkF m 148 (oA p0 p1 p2 p3 p4 (0 : Int32) (.val (.int ok)) (.val (.ref rr_1542)) .unset .unset) [(.ref rr_1542), (.ref a1549)])) (fun t k => ?_) ?_
          · refine XS.aload X1549.here hx rfl (hb hby at_146) rfl rfl ?_
            exact k
          obtain ⟨_, _, ⟨T1559, L1559, k1559, n1559⟩, -, X1559, hSq1559, gr1559, ⟨Lc1559, hQ1559, l1559, y1559, z1559, CHq1559⟩, st1559⟩ := callSS X1549 hx (y := yN56) hown (mvT hZ (own_w hw 91 rfl)) (mvT hZ (own_w hw 92 rfl)) (mvT hZ (own_w hw 31 rfl)) (mvT hZ (own_w hw 93 rfl)) (by decide) (backOfSH (W := 0) (s := s) (vm0 := T1549.vm) (dltL l Z a0 hw [] a1549 rr_1542 b1549 kk1549 br_1542 kb_1542 (0 : Int32) (own_bs "") cs (own_cl 0 (fdrw p0) (fdrw p1) (fdrw p2) (fdrw p3)) 0 h1549 n0 Z1549 hEL A1549 C1549 B1549 VI1549 Q1555 Q1557 Q1556 Q1558 Q1550 hcs ot0 (by decide) (own_cll (by decide)) (fun q h => absurd h (Nat.not_lt_zero _))) hZ (own_w hw 93 rfl) (own_w hw 31 rfl) (by decide) (by decide) hEL CH1549.1) (g := (mkF m 148 (oA p0 p1 p2 p3 p4 (0 : Int32) (.val (.int ok)) (.val (.ref rr_1542)) .unset .unset) [(.ref rr_1542), (.ref a1549)])) rfl (by rw [hml]; rfl) (argsL := [(.ref a1549), (.ref rr_1542)]) (rest := []) (lenOf pd_38 rfl) rfl (own_W0 rfl) (hb hby at_148) (fun _ _ => ⟨rfl, e1549, (by decide : 8 + 12 ≤ _), (by decide : 384 + 1742 ≤ _)⟩)
          dsimp only [Pt.U, Pt.locs, Pt.cells, Pt.slots] at X1559 l1559 y1559 z1559 st1559 hQ1559 hSq1559 gr1559 CHq1559
          subst l1559 y1559 z1559
          have CH1559 := CH1549.trans CHq1559
          have hS1559 : s.Since T1559.vm T1559.heap.size := foldS (T := T1549) hS1549 (by rw [e1549]; exact hkq1549) hSq1559 gr1559
          have hkq1559 : T1559.heap.size ≤ T1559.heap.size := Nat.le_refl _
          have hZ : Z.Warmed39 (s.setVm T1559.vm).vm := State.Warmed39.trans (t := s.setVm T1549.vm) hZ hSq1559.1
          have hown : (s.setVm T1559.vm).vm.findClass jL = some m.cls := by rw [show (s.setVm T1559.vm).vm = T1559.vm from rfl, hSq1559.1.alike.findClass]; exact hown
          have X1559 : Stand p l e room_1 (s.setVm T1559.vm) m #[(.int p0), (.int p1), (.int p2), (.int p3), (.int p4)] below meth c T1559 _ _ _ := X1559
          obtain ⟨rr_1559, br_1559, kb_1559, ys_1559, rfl, Nq1559, Kq1559, sq_rr_1559, sq_br_1559, pq1559_0, U1559_0, U1559_1, U1559_2, U1559_3, Pq1559_0, Pq1559_1⟩ := hQ1559
          have Q1560 := Q1550.ext (own_extK Kq1559)
          have Q1564 := Q1554.ext (own_extK Kq1559)
          have Z1559 : n0 ≤ T1559.heap.size := Nat.le_trans Z1549 Kq1559.1
          have N1559 := Fr.app N1542 Nq1559
          refine own_go (B := T1559.setTop (mkF m 151 (oA p0 p1 p2 p3 p4 (0 : Int32) (.val (.int ok)) (.val (.ref rr_1542)) .unset .unset) [(.ref rr_1559)])) (fun t k => st1559.trans k) ?_
          refine own_go (B := T1559.setTop (mkF m 155 (oA p0 p1 p2 p3 p4 (0 : Int32) (.val (.int ok)) (.val (.ref rr_1542)) (.val (.ref rr_1559)) .unset) [(.int ok)])) (fun t k => ?_) ?_
          · refine XS.astore X1559.here hx rfl (hb hby at_151) rfl rfl (l' := (oA p0 p1 p2 p3 p4 (0 : Int32) (.val (.int ok)) (.val (.ref rr_1542)) (.val (.ref rr_1559)) .unset)) rfl ?_
            refine XS.iload X1559.here hx rfl (hb hby at_153) rfl ?_
            exact k
          by_cases hc155_1573 : ok = (0 : Int32)
          · refine own_go (B := T1559.setTop (mkF m 177 (oA p0 p1 p2 p3 p4 (0 : Int32) (.val (.int ok)) (.val (.ref rr_1542)) (.val (.ref rr_1559)) .unset) [])) (fun t k => ?_) ?_
            · refine XS.ifYes X1559.here hx rfl (pc0 := 155) (pc' := 177) rfl (hb hby at_155) rfl ((if0 _ _).trans (teq hc155_1573).1) (by decide) (by decide) ?_
              exact k
            refine own_go (B := T1559.setTop (mkF m 182 (oA p0 p1 p2 p3 p4 (0 : Int32) (.val (.int ok)) (.val (.ref rr_1542)) (.val (.ref rr_1559)) (.val (.int 0))) [(.ref rr_1559)])) (fun t k => ?_) ?_
            · refine XS.iconst X1559.here hx rfl (hb hby at_177) ?_
              refine XS.istore X1559.here hx rfl (hb hby at_178) rfl (l' := (oA p0 p1 p2 p3 p4 (0 : Int32) (.val (.int ok)) (.val (.ref rr_1542)) (.val (.ref rr_1559)) (.val (.int 0)))) rfl ?_
              refine XS.aload X1559.here hx rfl (hb hby at_180) rfl rfl ?_
              exact k
            obtain ⟨_, _, ⟨T1574, L1574, k1574, n1574⟩, -, X1574, ⟨Lc1574, hQ1574, l1574, y1574, z1574⟩, st1574⟩ := Jvm.LawKit.callS X1559 hx (y := yN25) hown (mvT hZ (own_w hw 29 rfl)) (mvT hZ (own_w hw 30 rfl)) (mvT hZ (own_w hw 31 rfl)) (mvT hZ (own_w hw 32 rfl)) (by decide) (backOf (W := 0) (ivL l Z a0 hw [] rr_1559 br_1559 kb_1559 (((93 : Int32) + (0 : Int32)) + (4 : Int32)) ys_1559 cs (93 + 0 + 4) (own_full (own_cl 0 (fdrw p0) (fdrw p1) (fdrw p2) (fdrw p3))) T1559.heap n0 Z1559 U1559_0 U1559_2 U1559_1 U1559_3 Q1560 Q1564 (own_addn (own_addn ot93 ot0 (by omega)) ot4 (by omega)) (by omega) (own_fl (own_cll (by decide))) Pq1559_1 hcs) hZ (own_w hw 32 rfl) (own_w hw 31 rfl) (by decide) (by decide)) (g := (mkF m 182 (oA p0 p1 p2 p3 p4 (0 : Int32) (.val (.int ok)) (.val (.ref rr_1542)) (.val (.ref rr_1559)) (.val (.int 0))) [(.ref rr_1559)])) rfl (by rw [hml]; rfl) (argsL := [(.ref rr_1559)]) (rest := []) (lenOf pd_18 rfl) rfl (own_W0 rfl) (hb hby at_182) (fun _ _ => ⟨rfl, rfl, (by decide : 20 + 0 ≤ _), (by decide : 2126 + 0 ≤ _)⟩)
            dsimp only [Pt.U, Pt.locs, Pt.cells, Pt.slots] at X1574 l1574 y1574 z1574 st1574 hQ1574
            subst l1574 y1574 z1574
            obtain ⟨rfl, Nq1574, e1574⟩ := hQ1574
            have N1574 := Fr.app N1559 Nq1574
            refine own_go (B := T1574.setTop (mkF m 185 (oA p0 p1 p2 p3 p4 (0 : Int32) (.val (.int ok)) (.val (.ref rr_1542)) (.val (.ref rr_1559)) (.val (.int 0))) [(.int (own_iv (own_full (own_cl 0 (fdrw p0) (fdrw p1) (fdrw p2) (fdrw p3)))))])) st1574 ?_
            refine own_go (B := T1574.setTop (mkF m 187 (oA p0 p1 p2 p3 p4 (0 : Int32) (.val (.int ok)) (.val (.ref rr_1542)) (.val (.ref rr_1559)) (.val (.int 0))) [(.int 0), (.int (own_iv (own_full (own_cl 0 (fdrw p0) (fdrw p1) (fdrw p2) (fdrw p3)))))])) (fun t k => ?_) ?_
            · refine XS.iload X1574.here hx rfl (hb hby at_185) rfl ?_
              exact k
            have hc187_1575 : ((own_iv (own_full (own_cl 0 (fdrw p0) (fdrw p1) (fdrw p2) (fdrw p3)))) = (0 : Int32)) := own_fin0 (hok.symm.trans hc155_1573)
            refine own_go (B := T1574.setTop (mkF m 195 (oA p0 p1 p2 p3 p4 (0 : Int32) (.val (.int ok)) (.val (.ref rr_1542)) (.val (.ref rr_1559)) (.val (.int 0))) [(.int 1)])) (fun t k => ?_) ?_
            · refine XS.icmpNo X1574.here hx rfl (hb hby at_187) rfl (teq hc187_1575).2 ?_
              refine XS.iconst X1574.here hx rfl (hb hby at_190) ?_
              refine XS.goto X1574.here hx rfl (pc0 := 191) (pc' := 195) rfl (hb hby at_191) (by decide) (by decide) ?_
              exact k
            obtain ⟨fs, hr, hrun, hended, hq⟩ := X1574.leaveW hS1559 (by rw [e1574]; exact hkq1559) (v := some (.int 1)) (fun h => by rw [Bd.returns] at h; cases h)
            refine ⟨_, _, ?_, hrun, hended, _, _, rfl, ?_, hq.1, hq.2.1, hq.2.2.1, hq.2.2.2.mono (by decide) (by decide)⟩
            · show Steps p.tables e below (T1574.setTop (mkF m 195 (oA p0 p1 p2 p3 p4 (0 : Int32) (.val (.int ok)) (.val (.ref rr_1542)) (.val (.ref rr_1559)) (.val (.int 0))) [(.int 1)])) _
              exact retN X1574 hx (t := .boolean) Bd.returns (by simp) (hb hby at_195) hr
            · show Qrm0 Z p0 p1 p2 p3 p4 cs h0 n0 _ T1574.heap _
              rw [e1574]
              exact ⟨rfl, N1574⟩
          · refine own_go (B := T1559.setTop (mkF m 158 (oA p0 p1 p2 p3 p4 (0 : Int32) (.val (.int ok)) (.val (.ref rr_1542)) (.val (.ref rr_1559)) .unset) [])) (fun t k => ?_) ?_
            · refine XS.ifNo X1559.here hx rfl (hb hby at_155) rfl ((if0 _ _).trans (feq hc155_1573).1) ?_
              exact k
            obtain ⟨a1576, T1576, h1576, k11576, b1576, kk1576, X1576, e1576, E1576, hS1576, hkq1576, hZ1576, hown1576, A1576, C1576, B1576, V1576, -, -, CHq1576, -, hnq1576, st1576⟩ := ldcCH X1559 hx hZ hown (own_w hw 90 rfl) (own_wS hw) rfl hS1559 hkq1559 hEL (List.mem_of_getElem? (i := 2) rfl) CH1559.1 (vs := own_vs oP) (z := (92 : Int32)) (own_ht oP (by decide)) (by decide) (own_vl oP 92 (by decide) (by decide)) (g := (mkF m 158 (oA p0 p1 p2 p3 p4 (0 : Int32) (.val (.int ok)) (.val (.ref rr_1542)) (.val (.ref rr_1559)) .unset) [])) rfl (hb hby at_158) (n := 368) (by decide) (by decide) (by decide) (by decide)
            have Q1577 := Q1560.ext E1576
            have Q1581 := Q1564.ext E1576
            have Q1590 := U1559_0.ext E1576
            have Q1591 := U1559_1.ext E1576
            have Q1592 := U1559_2.ext E1576
            have Q1593 := U1559_3.ext E1576
            have Z1576 : n0 ≤ h1576.size := Nat.le_trans Z1559 E1576.1
            have hZ := hZ1576
            have hown := hown1576
            have VI1576 : Arv Z h1576 b1576 kk1576 .byte (92 : Int32) (own_I (own_bs oP)) (.int 0) := own_arvS V1576
            refine own_go st1576 ?_
            obtain ⟨cq1594, kq1594, q1594a, q1594b, q1594c⟩ := isOf hZ e1576 A1576
            obtain ⟨_, _, ⟨T1594, L1594, k1594, n1594⟩, -, X1594, ⟨Lc1594, hQ1594, l1594, y1594, z1594⟩, st1594⟩ := X1576.virtualBack hx (y := yN12) (z := yN12) hown (mvT hZ (own_w hw 268 rfl)) (mvT hZ (own_w hw 53 rfl)) (notFace_of_selects (args := #[]) (mvT hZ (own_w hw 55 rfl))) (mvT hZ (own_w hw 55 rfl)) (mvT hZ (own_w hw 54 rfl)) (by decide) (backOf (W := 0) (len_0 l Z a0 hw [] a1576 b1576 kk1576 (92 : Int32) (own_bs oP) cs (92 : Int32) h1576 n0 Z1576 A1576 C1576 B1576 VI1576 Q1577 hcs (by decide)) hZ (own_w hw 56 rfl) (own_w hw 9 rfl) (by decide) (by decide)) q1594a q1594c (g := (mkF m 160 (oA p0 p1 p2 p3 p4 (0 : Int32) (.val (.int ok)) (.val (.ref rr_1542)) (.val (.ref rr_1559)) .unset) [(.ref a1576)])) rfl (by rw [hml]; rfl) (Steps.refl _) (argsL := []) (rest := []) (lenOf pd_15 rfl) rfl (own_W0 rfl) (hb hby at_160) (fun _ _ => ⟨rfl, e1576, (by decide : 22 + 0 ≤ _), (by decide : 2498 + 0 ≤ _)⟩)
            dsimp only [Pt.U, Pt.locs, Pt.cells, Pt.slots] at X1594 l1594 y1594 z1594 st1594 hQ1594
            subst l1594 y1594 z1594
            obtain ⟨rfl, Nq1594, e1594⟩ := hQ1594
            have N1594 := Fr.app N1559 Nq1594
            refine own_go (B := T1594.setTop (mkF m 163 (oA p0 p1 p2 p3 p4 (0 : Int32) (.val (.int ok)) (.val (.ref rr_1542)) (.val (.ref rr_1559)) .unset) [(.int 92)])) (fun t k => st1594.trans k) ?_
            refine own_go (B := T1594.setTop (mkF m 182 (oA p0 p1 p2 p3 p4 (0 : Int32) (.val (.int ok)) (.val (.ref rr_1542)) (.val (.ref rr_1559)) (.val (.int 1))) [(.ref rr_1559)])) (fun t k => ?_) ?_
            · refine XS.iconst X1594.here hx rfl (hb hby at_163) ?_
              refine XS.iadd X1594.here hx rfl (hb hby at_164) rfl ?_
              refine XS.iload X1594.here hx rfl (hb hby at_165) rfl ?_
              refine XS.iadd X1594.here hx rfl (hb hby at_167) rfl ?_
              refine XS.bipush X1594.here hx rfl (hb hby at_168) ?_
              refine XS.icmpNo X1594.here hx rfl (hb hby at_170) rfl (flt (by decide : ¬ ((100 : Int32) < (97 : Int32)))).2.2.1 ?_
              refine XS.iconst X1594.here hx rfl (hb hby at_173) ?_
              refine XS.goto X1594.here hx rfl (pc0 := 174) (pc' := 178) rfl (hb hby at_174) (by decide) (by decide) ?_
              refine XS.istore X1594.here hx rfl (hb hby at_178) rfl (l' := (oA p0 p1 p2 p3 p4 (0 : Int32) (.val (.int ok)) (.val (.ref rr_1542)) (.val (.ref rr_1559)) (.val (.int 1)))) rfl ?_
              refine XS.aload X1594.here hx rfl (hb hby at_180) rfl rfl ?_
              exact k
            obtain ⟨_, _, ⟨T1596, L1596, k1596, n1596⟩, -, X1596, ⟨Lc1596, hQ1596, l1596, y1596, z1596⟩, st1596⟩ := Jvm.LawKit.callS X1594 hx (y := yN25) hown (mvT hZ (own_w hw 29 rfl)) (mvT hZ (own_w hw 30 rfl)) (mvT hZ (own_w hw 31 rfl)) (mvT hZ (own_w hw 32 rfl)) (by decide) (backOf (W := 0) (ivL l Z a0 hw [] rr_1559 br_1559 kb_1559 (((93 : Int32) + (0 : Int32)) + (4 : Int32)) ys_1559 cs (93 + 0 + 4) (own_full (own_cl 0 (fdrw p0) (fdrw p1) (fdrw p2) (fdrw p3))) h1576 n0 Z1576 Q1590 Q1592 Q1591 Q1593 Q1577 Q1581 (own_addn (own_addn ot93 ot0 (by omega)) ot4 (by omega)) (by omega) (own_fl (own_cll (by decide))) Pq1559_1 hcs) hZ (own_w hw 32 rfl) (own_w hw 31 rfl) (by decide) (by decide)) (g := (mkF m 182 (oA p0 p1 p2 p3 p4 (0 : Int32) (.val (.int ok)) (.val (.ref rr_1542)) (.val (.ref rr_1559)) (.val (.int 1))) [(.ref rr_1559)])) rfl (by rw [hml]; rfl) (argsL := [(.ref rr_1559)]) (rest := []) (lenOf pd_18 rfl) rfl (own_W0 rfl) (hb hby at_182) (fun _ _ => ⟨rfl, e1594, (by decide : 22 + 0 ≤ _), (by decide : 2498 + 0 ≤ _)⟩)
            dsimp only [Pt.U, Pt.locs, Pt.cells, Pt.slots] at X1596 l1596 y1596 z1596 st1596 hQ1596
            subst l1596 y1596 z1596
            obtain ⟨rfl, Nq1596, e1596⟩ := hQ1596
            have N1596 := Fr.app N1594 Nq1596
            refine own_go (B := T1596.setTop (mkF m 185 (oA p0 p1 p2 p3 p4 (0 : Int32) (.val (.int ok)) (.val (.ref rr_1542)) (.val (.ref rr_1559)) (.val (.int 1))) [(.int (own_iv (own_full (own_cl 0 (fdrw p0) (fdrw p1) (fdrw p2) (fdrw p3)))))])) st1596 ?_
            refine own_go (B := T1596.setTop (mkF m 187 (oA p0 p1 p2 p3 p4 (0 : Int32) (.val (.int ok)) (.val (.ref rr_1542)) (.val (.ref rr_1559)) (.val (.int 1))) [(.int 1), (.int (own_iv (own_full (own_cl 0 (fdrw p0) (fdrw p1) (fdrw p2) (fdrw p3)))))])) (fun t k => ?_) ?_
            · refine XS.iload X1596.here hx rfl (hb hby at_185) rfl ?_
              exact k
            have hc187_1597 : ((own_iv (own_full (own_cl 0 (fdrw p0) (fdrw p1) (fdrw p2) (fdrw p3)))) = (1 : Int32)) := own_fin2 (own_cll (by decide)) (by decide) (fun q => hc155_1573 (hok.trans q))
            refine own_go (B := T1596.setTop (mkF m 195 (oA p0 p1 p2 p3 p4 (0 : Int32) (.val (.int ok)) (.val (.ref rr_1542)) (.val (.ref rr_1559)) (.val (.int 1))) [(.int 1)])) (fun t k => ?_) ?_
            · refine XS.icmpNo X1596.here hx rfl (hb hby at_187) rfl (teq hc187_1597).2 ?_
              refine XS.iconst X1596.here hx rfl (hb hby at_190) ?_
              refine XS.goto X1596.here hx rfl (pc0 := 191) (pc' := 195) rfl (hb hby at_191) (by decide) (by decide) ?_
              exact k
            obtain ⟨fs, hr, hrun, hended, hq⟩ := X1596.leaveW hS1576 (by rw [e1596]; exact hkq1576) (v := some (.int 1)) (fun h => by rw [Bd.returns] at h; cases h)
            refine ⟨_, _, ?_, hrun, hended, _, _, rfl, ?_, hq.1, hq.2.1, hq.2.2.1, hq.2.2.2.mono (by decide) (by decide)⟩
            · show Steps p.tables e below (T1596.setTop (mkF m 195 (oA p0 p1 p2 p3 p4 (0 : Int32) (.val (.int ok)) (.val (.ref rr_1542)) (.val (.ref rr_1559)) (.val (.int 1))) [(.int 1)])) _
              exact retN X1596 hx (t := .boolean) Bd.returns (by simp) (hb hby at_195) hr
            · show Qrm0 Z p0 p1 p2 p3 p4 cs h0 n0 _ T1596.heap _
              rw [e1596]
              exact ⟨rfl, N1596⟩
        · refine own_go (B := T1542.setTop (mkF m 196 (oA p0 p1 p2 p3 p4 (0 : Int32) (.val (.int ok)) (.val (.ref rr_1542)) .unset .unset) [])) (fun t k => ?_) ?_
          · refine XS.icmpYes X1542.here hx rfl (pc0 := 141) (pc' := 196) rfl (hb hby at_141) rfl (feq hc141_1548).2 (by decide) (by decide) ?_
            exact k
          refine own_go (B := T1542.setTop (mkF m 216 (oA p0 p1 p2 p3 p4 (0 : Int32) (.val (.int ok)) (.val (.ref rr_1542)) (.val (.int 0)) .unset) [(.ref rr_1542)])) (fun t k => ?_) ?_
          · refine XS.iload X1542.here hx rfl (hb hby at_196) rfl ?_
            refine XS.iconst X1542.here hx rfl (hb hby at_198) ?_
            refine XS.icmpYes X1542.here hx rfl (pc0 := 199) (pc' := 211) rfl (hb hby at_199) rfl (tlt (by decide : ((0 : Int32) < (1 : Int32)))).1 (by decide) (by decide) ?_
            refine XS.iconst X1542.here hx rfl (hb hby at_211) ?_
            refine XS.istore X1542.here hx rfl (hb hby at_212) rfl (l' := (oA p0 p1 p2 p3 p4 (0 : Int32) (.val (.int ok)) (.val (.ref rr_1542)) (.val (.int 0)) .unset)) rfl ?_
            refine XS.aload X1542.here hx rfl (hb hby at_214) rfl rfl ?_
            exact k
          obtain ⟨_, _, ⟨T1599, L1599, k1599, n1599⟩, -, X1599, ⟨Lc1599, hQ1599, l1599, y1599, z1599⟩, st1599⟩ := Jvm.LawKit.callS X1542 hx (y := yN25) hown (mvT hZ (own_w hw 29 rfl)) (mvT hZ (own_w hw 30 rfl)) (mvT hZ (own_w hw 31 rfl)) (mvT hZ (own_w hw 32 rfl)) (by decide) (backOf (W := 0) (ivL l Z a0 hw [] rr_1542 br_1542 kb_1542 (0 : Int32) (own_bs "") cs 0 (own_cl 0 (fdrw p0) (fdrw p1) (fdrw p2) (fdrw p3)) T1542.heap n0 Z1542 U1542_0 U1542_2 U1542_1 U1542_3 Q1543 Q1547 ot0 (by omega) (own_cll (by decide)) (fun q h => absurd h (Nat.not_lt_zero _)) hcs) hZ (own_w hw 32 rfl) (own_w hw 31 rfl) (by decide) (by decide)) (g := (mkF m 216 (oA p0 p1 p2 p3 p4 (0 : Int32) (.val (.int ok)) (.val (.ref rr_1542)) (.val (.int 0)) .unset) [(.ref rr_1542)])) rfl (by rw [hml]; rfl) (argsL := [(.ref rr_1542)]) (rest := []) (lenOf pd_18 rfl) rfl (own_W0 rfl) (hb hby at_216) (fun _ _ => ⟨rfl, rfl, (by decide : 6 + 0 ≤ _), (by decide : 12 + 0 ≤ _)⟩)
          dsimp only [Pt.U, Pt.locs, Pt.cells, Pt.slots] at X1599 l1599 y1599 z1599 st1599 hQ1599
          subst l1599 y1599 z1599
          obtain ⟨rfl, Nq1599, e1599⟩ := hQ1599
          have N1599 := Fr.app N1542 Nq1599
          refine own_go (B := T1599.setTop (mkF m 219 (oA p0 p1 p2 p3 p4 (0 : Int32) (.val (.int ok)) (.val (.ref rr_1542)) (.val (.int 0)) .unset) [(.int (own_iv (own_cl 0 (fdrw p0) (fdrw p1) (fdrw p2) (fdrw p3))))])) st1599 ?_
          refine own_go (B := T1599.setTop (mkF m 221 (oA p0 p1 p2 p3 p4 (0 : Int32) (.val (.int ok)) (.val (.ref rr_1542)) (.val (.int 0)) .unset) [(.int 0), (.int (own_iv (own_cl 0 (fdrw p0) (fdrw p1) (fdrw p2) (fdrw p3))))])) (fun t k => ?_) ?_
          · refine XS.iload X1599.here hx rfl (hb hby at_219) rfl ?_
            exact k
          have hc221_1600 : ((own_iv (own_cl 0 (fdrw p0) (fdrw p1) (fdrw p2) (fdrw p3))) = (0 : Int32)) := own_fin3 (own_cll (by decide))
          refine own_go (B := T1599.setTop (mkF m 229 (oA p0 p1 p2 p3 p4 (0 : Int32) (.val (.int ok)) (.val (.ref rr_1542)) (.val (.int 0)) .unset) [(.int 1)])) (fun t k => ?_) ?_
          · refine XS.icmpNo X1599.here hx rfl (hb hby at_221) rfl (teq hc221_1600).2 ?_
            refine XS.iconst X1599.here hx rfl (hb hby at_224) ?_
            refine XS.goto X1599.here hx rfl (pc0 := 225) (pc' := 229) rfl (hb hby at_225) (by decide) (by decide) ?_
            exact k
          obtain ⟨fs, hr, hrun, hended, hq⟩ := X1599.leaveW hS1542 (by rw [e1599]; exact hkq1542) (v := some (.int 1)) (fun h => by rw [Bd.returns] at h; cases h)
          refine ⟨_, _, ?_, hrun, hended, _, _, rfl, ?_, hq.1, hq.2.1, hq.2.2.1, hq.2.2.2.mono (by decide) (by decide)⟩
          · show Steps p.tables e below (T1599.setTop (mkF m 229 (oA p0 p1 p2 p3 p4 (0 : Int32) (.val (.int ok)) (.val (.ref rr_1542)) (.val (.int 0)) .unset) [(.int 1)])) _
            exact retN X1599 hx (t := .boolean) Bd.returns (by simp) (hb hby at_229) hr
          · show Qrm0 Z p0 p1 p2 p3 p4 cs h0 n0 _ T1599.heap _
            rw [e1599]
            exact ⟨rfl, N1599⟩
      · obtain ⟨_, _, ⟨T1601, L1601, k1601, n1601⟩, -, X1601, ⟨Lc1601, hQ1601, l1601, y1601, z1601⟩, st1601⟩ := Jvm.LawKit.callS Xq1541 hx (y := yN10) hown (mvT hZ (own_w hw 4 rfl)) (mvT hZ (own_w hw 5 rfl)) (mvT hZ (own_w hw 2 rfl)) (mvT hZ (own_w hw 6 rfl)) (by decide) (backOf (W := 0) (mk l Z a0 hw [] n5 (fdrw p0) (fdrw p1) (fdrw p2) (fdrw p3) cs nn h0 n0 Z0 P0 P1 P2 P3 hn5 hp9 h4 hcs) hZ (own_w hw 6 rfl) (own_w hw 2 rfl) (by decide) (by decide)) (g := (mkF m 133 (oA p0 p1 p2 p3 p4 n5 (.val (.int ok)) .unset .unset .unset) [(.int (fdrw p3)), (.int (fdrw p2)), (.int (fdrw p1)), (.int (fdrw p0)), (.int n5)])) rfl (by rw [hml]; rfl) (argsL := [(.int n5), (.int (fdrw p0)), (.int (fdrw p1)), (.int (fdrw p2)), (.int (fdrw p3))]) (rest := []) (lenOf pd_37 rfl) rfl (own_W0 rfl) (hb hby at_133) (fun _ _ => ⟨rfl, eq1541, (by decide : 0 + 4 ≤ _), (by decide : 0 + 384 ≤ _)⟩)
        dsimp only [Pt.U, Pt.locs, Pt.cells, Pt.slots] at X1601 l1601 y1601 z1601 st1601 hQ1601
        subst l1601 y1601 z1601
        obtain ⟨rr_1601, br_1601, kb_1601, zq_1601, cv_1601, ys_1601, rfl, Nq1601, Kq1601, sq_rr_1601, sq_br_1601, pq1601_0, U1601_0, U1601_1, U1601_2, U1601_3, Pq1601_0⟩ := hQ1601
        have CH1601 := hC0.trans (CHr.keep Kq1601 sf0 hC0.1)
        have hk1601 := Nat.le_trans hk0 Kq1601.1
        have Q1602 := P0.ext (own_extK Kq1601)
        have Q1603 := P1.ext (own_extK Kq1601)
        have Q1604 := P2.ext (own_extK Kq1601)
        have Q1605 := P3.ext (own_extK Kq1601)
        have Q1606 := P4.ext (own_extK Kq1601)
        have Z1601 : n0 ≤ T1601.heap.size := Nat.le_trans Z0 Kq1601.1
        have N1601 := Fr.app Nq1541 Nq1601
        refine own_go (B := T1601.setTop (mkF m 136 (oA p0 p1 p2 p3 p4 n5 (.val (.int ok)) .unset .unset .unset) [(.ref rr_1601)])) st1601 ?_
        rcases Pq1601_0 with ⟨e9, f9, yl9, yp9⟩ | ⟨e9, f9, yl9, yp9⟩
        · subst e9 f9
          refine own_go (B := T1601.setTop (mkF m 141 (oA p0 p1 p2 p3 p4 n5 (.val (.int ok)) (.val (.ref rr_1601)) .unset .unset) [(.int 1), (.int (((p4.toUInt32 >>> ((3 : Int32) &&& 31).toUInt32).toInt32) &&& (3 : Int32)))])) (fun t k => ?_) ?_
          · refine XS.astore X1601.here hx rfl (hb hby at_136) rfl rfl (l' := (oA p0 p1 p2 p3 p4 n5 (.val (.int ok)) (.val (.ref rr_1601)) .unset .unset)) rfl ?_
            refine XS.iload X1601.here hx rfl (hb hby at_138) rfl ?_
            refine XS.iconst X1601.here hx rfl (hb hby at_140) ?_
            exact k
          by_cases hc141_1607 : (((p4.toUInt32 >>> ((3 : Int32) &&& 31).toUInt32).toInt32) &&& (3 : Int32)) = (1 : Int32)
          · refine own_go (B := T1601.setTop (mkF m 144 (oA p0 p1 p2 p3 p4 n5 (.val (.int ok)) (.val (.ref rr_1601)) .unset .unset) [])) (fun t k => ?_) ?_
            · refine XS.icmpNo X1601.here hx rfl (hb hby at_141) rfl (teq hc141_1607).2 ?_
              exact k
            obtain ⟨a1608, T1608, h1608, k11608, b1608, kk1608, X1608, e1608, E1608, hS1608, hkq1608, hZ1608, hown1608, A1608, C1608, B1608, V1608, -, -, CHq1608, -, hnq1608, st1608⟩ := ldcCH X1601 hx hZ hown (own_w hw 90 rfl) (own_wS hw) rfl hS0 hk1601 hEL (List.mem_of_getElem? (i := 2) rfl) CH1601.1 (vs := own_vs oP) (z := (92 : Int32)) (own_ht oP (by decide)) (by decide) (own_vl oP 92 (by decide) (by decide)) (g := (mkF m 144 (oA p0 p1 p2 p3 p4 n5 (.val (.int ok)) (.val (.ref rr_1601)) .unset .unset) [])) rfl (hb hby at_144) (n := 368) (by decide) (by decide) (by decide) (by decide)
            have CH1608 := CH1601.trans CHq1608
            have Q1609 := Q1602.ext E1608
            have Q1613 := Q1606.ext E1608
            have Q1614 := U1601_0.ext E1608
            have Q1615 := U1601_1.ext E1608
            have Q1616 := U1601_2.ext E1608
            have Q1617 := U1601_3.ext E1608
            have Z1608 : n0 ≤ h1608.size := Nat.le_trans Z1601 E1608.1
            have hZ := hZ1608
            have hown := hown1608
            have VI1608 : Arv Z h1608 b1608 kk1608 .byte (92 : Int32) (own_I (own_bs oP)) (.int 0) := own_arvS V1608
            refine own_go st1608 ?_
            refine own_go (B := T1608.setTop (mkF m 148 (oA p0 p1 p2 p3 p4 n5 (.val (.int ok)) (.val (.ref rr_1601)) .unset .unset) [(.ref rr_1601), (.ref a1608)])) (fun t k => ?_) ?_
            · refine XS.aload X1608.here hx rfl (hb hby at_146) rfl rfl ?_
              exact k
            obtain ⟨_, _, ⟨T1618, L1618, k1618, n1618⟩, -, X1618, hSq1618, gr1618, ⟨Lc1618, hQ1618, l1618, y1618, z1618, CHq1618⟩, st1618⟩ := callSS X1608 hx (y := yN56) hown (mvT hZ (own_w hw 91 rfl)) (mvT hZ (own_w hw 92 rfl)) (mvT hZ (own_w hw 31 rfl)) (mvT hZ (own_w hw 93 rfl)) (by decide) (backOfSH (W := 0) (s := s) (vm0 := T1608.vm) (dltL l Z a0 hw [] a1608 rr_1601 b1608 kk1608 br_1601 kb_1601 n5 ys_1601 cs (own_cl nn (fdrw p0) (fdrw p1) (fdrw p2) (fdrw p3)) nn h1608 n0 Z1608 hEL A1608 C1608 B1608 VI1608 Q1614 Q1616 Q1615 Q1617 Q1609 hcs hn5 h4 (own_cll h4) (own_srL yp9)) hZ (own_w hw 93 rfl) (own_w hw 31 rfl) (by decide) (by decide) hEL CH1608.1) (g := (mkF m 148 (oA p0 p1 p2 p3 p4 n5 (.val (.int ok)) (.val (.ref rr_1601)) .unset .unset) [(.ref rr_1601), (.ref a1608)])) rfl (by rw [hml]; rfl) (argsL := [(.ref a1608), (.ref rr_1601)]) (rest := []) (lenOf pd_38 rfl) rfl (own_W0 rfl) (hb hby at_148) (fun _ _ => ⟨rfl, e1608, (by decide : 6 + 12 ≤ _), (by decide : 756 + 1742 ≤ _)⟩)
            dsimp only [Pt.U, Pt.locs, Pt.cells, Pt.slots] at X1618 l1618 y1618 z1618 st1618 hQ1618 hSq1618 gr1618 CHq1618
            subst l1618 y1618 z1618
            have CH1618 := CH1608.trans CHq1618
            have hS1618 : s.Since T1618.vm T1618.heap.size := foldS (T := T1608) hS1608 (by rw [e1608]; exact hkq1608) hSq1618 gr1618
            have hkq1618 : T1618.heap.size ≤ T1618.heap.size := Nat.le_refl _
            have hZ : Z.Warmed39 (s.setVm T1618.vm).vm := State.Warmed39.trans (t := s.setVm T1608.vm) hZ hSq1618.1
            have hown : (s.setVm T1618.vm).vm.findClass jL = some m.cls := by rw [show (s.setVm T1618.vm).vm = T1618.vm from rfl, hSq1618.1.alike.findClass]; exact hown
            have X1618 : Stand p l e room_1 (s.setVm T1618.vm) m #[(.int p0), (.int p1), (.int p2), (.int p3), (.int p4)] below meth c T1618 _ _ _ := X1618
            obtain ⟨rr_1618, br_1618, kb_1618, ys_1618, rfl, Nq1618, Kq1618, sq_rr_1618, sq_br_1618, pq1618_0, U1618_0, U1618_1, U1618_2, U1618_3, Pq1618_0, Pq1618_1⟩ := hQ1618
            have Q1619 := Q1609.ext (own_extK Kq1618)
            have Q1623 := Q1613.ext (own_extK Kq1618)
            have Z1618 : n0 ≤ T1618.heap.size := Nat.le_trans Z1608 Kq1618.1
            have N1618 := Fr.app N1601 Nq1618
            refine own_go (B := T1618.setTop (mkF m 151 (oA p0 p1 p2 p3 p4 n5 (.val (.int ok)) (.val (.ref rr_1601)) .unset .unset) [(.ref rr_1618)])) (fun t k => st1618.trans k) ?_
            refine own_go (B := T1618.setTop (mkF m 155 (oA p0 p1 p2 p3 p4 n5 (.val (.int ok)) (.val (.ref rr_1601)) (.val (.ref rr_1618)) .unset) [(.int ok)])) (fun t k => ?_) ?_
            · refine XS.astore X1618.here hx rfl (hb hby at_151) rfl rfl (l' := (oA p0 p1 p2 p3 p4 n5 (.val (.int ok)) (.val (.ref rr_1601)) (.val (.ref rr_1618)) .unset)) rfl ?_
              refine XS.iload X1618.here hx rfl (hb hby at_153) rfl ?_
              exact k
            by_cases hc155_1632 : ok = (0 : Int32)
            · refine own_go (B := T1618.setTop (mkF m 177 (oA p0 p1 p2 p3 p4 n5 (.val (.int ok)) (.val (.ref rr_1601)) (.val (.ref rr_1618)) .unset) [])) (fun t k => ?_) ?_
              · refine XS.ifYes X1618.here hx rfl (pc0 := 155) (pc' := 177) rfl (hb hby at_155) rfl ((if0 _ _).trans (teq hc155_1632).1) (by decide) (by decide) ?_
                exact k
              refine own_go (B := T1618.setTop (mkF m 182 (oA p0 p1 p2 p3 p4 n5 (.val (.int ok)) (.val (.ref rr_1601)) (.val (.ref rr_1618)) (.val (.int 0))) [(.ref rr_1618)])) (fun t k => ?_) ?_
              · refine XS.iconst X1618.here hx rfl (hb hby at_177) ?_
                refine XS.istore X1618.here hx rfl (hb hby at_178) rfl (l' := (oA p0 p1 p2 p3 p4 n5 (.val (.int ok)) (.val (.ref rr_1601)) (.val (.ref rr_1618)) (.val (.int 0)))) rfl ?_
                refine XS.aload X1618.here hx rfl (hb hby at_180) rfl rfl ?_
                exact k
              obtain ⟨_, _, ⟨T1633, L1633, k1633, n1633⟩, -, X1633, ⟨Lc1633, hQ1633, l1633, y1633, z1633⟩, st1633⟩ := Jvm.LawKit.callS X1618 hx (y := yN25) hown (mvT hZ (own_w hw 29 rfl)) (mvT hZ (own_w hw 30 rfl)) (mvT hZ (own_w hw 31 rfl)) (mvT hZ (own_w hw 32 rfl)) (by decide) (backOf (W := 0) (ivL l Z a0 hw [] rr_1618 br_1618 kb_1618 (((93 : Int32) + n5) + (4 : Int32)) ys_1618 cs (93 + nn + 4) (own_full (own_cl nn (fdrw p0) (fdrw p1) (fdrw p2) (fdrw p3))) T1618.heap n0 Z1618 U1618_0 U1618_2 U1618_1 U1618_3 Q1619 Q1623 (own_addn (own_addn ot93 hn5 (by omega)) ot4 (by omega)) (by omega) (own_fl (own_cll h4)) Pq1618_1 hcs) hZ (own_w hw 32 rfl) (own_w hw 31 rfl) (by decide) (by decide)) (g := (mkF m 182 (oA p0 p1 p2 p3 p4 n5 (.val (.int ok)) (.val (.ref rr_1601)) (.val (.ref rr_1618)) (.val (.int 0))) [(.ref rr_1618)])) rfl (by rw [hml]; rfl) (argsL := [(.ref rr_1618)]) (rest := []) (lenOf pd_18 rfl) rfl (own_W0 rfl) (hb hby at_182) (fun _ _ => ⟨rfl, rfl, (by decide : 18 + 0 ≤ _), (by decide : 2498 + 0 ≤ _)⟩)
              dsimp only [Pt.U, Pt.locs, Pt.cells, Pt.slots] at X1633 l1633 y1633 z1633 st1633 hQ1633
              subst l1633 y1633 z1633
              obtain ⟨rfl, Nq1633, e1633⟩ := hQ1633
              have N1633 := Fr.app N1618 Nq1633
              refine own_go (B := T1633.setTop (mkF m 185 (oA p0 p1 p2 p3 p4 n5 (.val (.int ok)) (.val (.ref rr_1601)) (.val (.ref rr_1618)) (.val (.int 0))) [(.int (own_iv (own_full (own_cl nn (fdrw p0) (fdrw p1) (fdrw p2) (fdrw p3)))))])) st1633 ?_
              refine own_go (B := T1633.setTop (mkF m 187 (oA p0 p1 p2 p3 p4 n5 (.val (.int ok)) (.val (.ref rr_1601)) (.val (.ref rr_1618)) (.val (.int 0))) [(.int 0), (.int (own_iv (own_full (own_cl nn (fdrw p0) (fdrw p1) (fdrw p2) (fdrw p3)))))])) (fun t k => ?_) ?_
              · refine XS.iload X1633.here hx rfl (hb hby at_185) rfl ?_
                exact k
              have hc187_1634 : ((own_iv (own_full (own_cl nn (fdrw p0) (fdrw p1) (fdrw p2) (fdrw p3)))) = (0 : Int32)) := own_fin0 (hok.symm.trans hc155_1632)
              refine own_go (B := T1633.setTop (mkF m 195 (oA p0 p1 p2 p3 p4 n5 (.val (.int ok)) (.val (.ref rr_1601)) (.val (.ref rr_1618)) (.val (.int 0))) [(.int 1)])) (fun t k => ?_) ?_
              · refine XS.icmpNo X1633.here hx rfl (hb hby at_187) rfl (teq hc187_1634).2 ?_
                refine XS.iconst X1633.here hx rfl (hb hby at_190) ?_
                refine XS.goto X1633.here hx rfl (pc0 := 191) (pc' := 195) rfl (hb hby at_191) (by decide) (by decide) ?_
                exact k
              obtain ⟨fs, hr, hrun, hended, hq⟩ := X1633.leaveW hS1618 (by rw [e1633]; exact hkq1618) (v := some (.int 1)) (fun h => by rw [Bd.returns] at h; cases h)
              refine ⟨_, _, ?_, hrun, hended, _, _, rfl, ?_, hq.1, hq.2.1, hq.2.2.1, hq.2.2.2.mono (by decide) (by decide)⟩
              · show Steps p.tables e below (T1633.setTop (mkF m 195 (oA p0 p1 p2 p3 p4 n5 (.val (.int ok)) (.val (.ref rr_1601)) (.val (.ref rr_1618)) (.val (.int 0))) [(.int 1)])) _
                exact retN X1633 hx (t := .boolean) Bd.returns (by simp) (hb hby at_195) hr
              · show Qrm0 Z p0 p1 p2 p3 p4 cs h0 n0 _ T1633.heap _
                rw [e1633]
                exact ⟨rfl, N1633⟩
            · refine own_go (B := T1618.setTop (mkF m 158 (oA p0 p1 p2 p3 p4 n5 (.val (.int ok)) (.val (.ref rr_1601)) (.val (.ref rr_1618)) .unset) [])) (fun t k => ?_) ?_
              · refine XS.ifNo X1618.here hx rfl (hb hby at_155) rfl ((if0 _ _).trans (feq hc155_1632).1) ?_
                exact k
              obtain ⟨a1635, T1635, h1635, k11635, b1635, kk1635, X1635, e1635, E1635, hS1635, hkq1635, hZ1635, hown1635, A1635, C1635, B1635, V1635, -, -, CHq1635, -, hnq1635, st1635⟩ := ldcCH X1618 hx hZ hown (own_w hw 90 rfl) (own_wS hw) rfl hS1618 hkq1618 hEL (List.mem_of_getElem? (i := 2) rfl) CH1618.1 (vs := own_vs oP) (z := (92 : Int32)) (own_ht oP (by decide)) (by decide) (own_vl oP 92 (by decide) (by decide)) (g := (mkF m 158 (oA p0 p1 p2 p3 p4 n5 (.val (.int ok)) (.val (.ref rr_1601)) (.val (.ref rr_1618)) .unset) [])) rfl (hb hby at_158) (n := 368) (by decide) (by decide) (by decide) (by decide)
              have Q1636 := Q1619.ext E1635
              have Q1640 := Q1623.ext E1635
              have Q1649 := U1618_0.ext E1635
              have Q1650 := U1618_1.ext E1635
              have Q1651 := U1618_2.ext E1635
              have Q1652 := U1618_3.ext E1635
              have Z1635 : n0 ≤ h1635.size := Nat.le_trans Z1618 E1635.1
              have hZ := hZ1635
              have hown := hown1635
              have VI1635 : Arv Z h1635 b1635 kk1635 .byte (92 : Int32) (own_I (own_bs oP)) (.int 0) := own_arvS V1635
              refine own_go st1635 ?_
              obtain ⟨cq1653, kq1653, q1653a, q1653b, q1653c⟩ := isOf hZ e1635 A1635
              obtain ⟨_, _, ⟨T1653, L1653, k1653, n1653⟩, -, X1653, ⟨Lc1653, hQ1653, l1653, y1653, z1653⟩, st1653⟩ := X1635.virtualBack hx (y := yN12) (z := yN12) hown (mvT hZ (own_w hw 268 rfl)) (mvT hZ (own_w hw 53 rfl)) (notFace_of_selects (args := #[]) (mvT hZ (own_w hw 55 rfl))) (mvT hZ (own_w hw 55 rfl)) (mvT hZ (own_w hw 54 rfl)) (by decide) (backOf (W := 0) (len_0 l Z a0 hw [] a1635 b1635 kk1635 (92 : Int32) (own_bs oP) cs (92 : Int32) h1635 n0 Z1635 A1635 C1635 B1635 VI1635 Q1636 hcs (by decide)) hZ (own_w hw 56 rfl) (own_w hw 9 rfl) (by decide) (by decide)) q1653a q1653c (g := (mkF m 160 (oA p0 p1 p2 p3 p4 n5 (.val (.int ok)) (.val (.ref rr_1601)) (.val (.ref rr_1618)) .unset) [(.ref a1635)])) rfl (by rw [hml]; rfl) (Steps.refl _) (argsL := []) (rest := []) (lenOf pd_15 rfl) rfl (own_W0 rfl) (hb hby at_160) (fun _ _ => ⟨rfl, e1635, (by decide : 20 + 0 ≤ _), (by decide : 2870 + 0 ≤ _)⟩)
              dsimp only [Pt.U, Pt.locs, Pt.cells, Pt.slots] at X1653 l1653 y1653 z1653 st1653 hQ1653
              subst l1653 y1653 z1653
              obtain ⟨rfl, Nq1653, e1653⟩ := hQ1653
              have N1653 := Fr.app N1618 Nq1653
              refine own_go (B := T1653.setTop (mkF m 163 (oA p0 p1 p2 p3 p4 n5 (.val (.int ok)) (.val (.ref rr_1601)) (.val (.ref rr_1618)) .unset) [(.int 92)])) (fun t k => st1653.trans k) ?_
              refine own_go (B := T1653.setTop (mkF m 170 (oA p0 p1 p2 p3 p4 n5 (.val (.int ok)) (.val (.ref rr_1601)) (.val (.ref rr_1618)) .unset) [(.int 100), (.int ((97 : Int32) + n5))])) (fun t k => ?_) ?_
              · refine XS.iconst X1653.here hx rfl (hb hby at_163) ?_
                refine XS.iadd X1653.here hx rfl (hb hby at_164) rfl ?_
                refine XS.iload X1653.here hx rfl (hb hby at_165) rfl ?_
                refine XS.iadd X1653.here hx rfl (hb hby at_167) rfl ?_
                refine XS.bipush X1653.here hx rfl (hb hby at_168) ?_
                exact k
              by_cases hc170_1654 : (100 : Int32) < ((97 : Int32) + n5)
              · refine own_go (B := T1653.setTop (mkF m 177 (oA p0 p1 p2 p3 p4 n5 (.val (.int ok)) (.val (.ref rr_1601)) (.val (.ref rr_1618)) .unset) [])) (fun t k => ?_) ?_
                · refine XS.icmpYes X1653.here hx rfl (pc0 := 170) (pc' := 177) rfl (hb hby at_170) rfl (tlt hc170_1654).2.2.1 (by decide) (by decide) ?_
                  exact k
                refine own_go (B := T1653.setTop (mkF m 182 (oA p0 p1 p2 p3 p4 n5 (.val (.int ok)) (.val (.ref rr_1601)) (.val (.ref rr_1618)) (.val (.int 0))) [(.ref rr_1618)])) (fun t k => ?_) ?_
                · refine XS.iconst X1653.here hx rfl (hb hby at_177) ?_
                  refine XS.istore X1653.here hx rfl (hb hby at_178) rfl (l' := (oA p0 p1 p2 p3 p4 n5 (.val (.int ok)) (.val (.ref rr_1601)) (.val (.ref rr_1618)) (.val (.int 0)))) rfl ?_
                  refine XS.aload X1653.here hx rfl (hb hby at_180) rfl rfl ?_
                  exact k
                obtain ⟨_, _, ⟨T1655, L1655, k1655, n1655⟩, -, X1655, ⟨Lc1655, hQ1655, l1655, y1655, z1655⟩, st1655⟩ := Jvm.LawKit.callS X1653 hx (y := yN25) hown (mvT hZ (own_w hw 29 rfl)) (mvT hZ (own_w hw 30 rfl)) (mvT hZ (own_w hw 31 rfl)) (mvT hZ (own_w hw 32 rfl)) (by decide) (backOf (W := 0) (ivL l Z a0 hw [] rr_1618 br_1618 kb_1618 (((93 : Int32) + n5) + (4 : Int32)) ys_1618 cs (93 + nn + 4) (own_full (own_cl nn (fdrw p0) (fdrw p1) (fdrw p2) (fdrw p3))) h1635 n0 Z1635 Q1649 Q1651 Q1650 Q1652 Q1636 Q1640 (own_addn (own_addn ot93 hn5 (by omega)) ot4 (by omega)) (by omega) (own_fl (own_cll h4)) Pq1618_1 hcs) hZ (own_w hw 32 rfl) (own_w hw 31 rfl) (by decide) (by decide)) (g := (mkF m 182 (oA p0 p1 p2 p3 p4 n5 (.val (.int ok)) (.val (.ref rr_1601)) (.val (.ref rr_1618)) (.val (.int 0))) [(.ref rr_1618)])) rfl (by rw [hml]; rfl) (argsL := [(.ref rr_1618)]) (rest := []) (lenOf pd_18 rfl) rfl (own_W0 rfl) (hb hby at_182) (fun _ _ => ⟨rfl, e1653, (by decide : 20 + 0 ≤ _), (by decide : 2870 + 0 ≤ _)⟩)
                dsimp only [Pt.U, Pt.locs, Pt.cells, Pt.slots] at X1655 l1655 y1655 z1655 st1655 hQ1655
                subst l1655 y1655 z1655
                obtain ⟨rfl, Nq1655, e1655⟩ := hQ1655
                have N1655 := Fr.app N1653 Nq1655
                refine own_go (B := T1655.setTop (mkF m 185 (oA p0 p1 p2 p3 p4 n5 (.val (.int ok)) (.val (.ref rr_1601)) (.val (.ref rr_1618)) (.val (.int 0))) [(.int (own_iv (own_full (own_cl nn (fdrw p0) (fdrw p1) (fdrw p2) (fdrw p3)))))])) st1655 ?_
                refine own_go (B := T1655.setTop (mkF m 187 (oA p0 p1 p2 p3 p4 n5 (.val (.int ok)) (.val (.ref rr_1601)) (.val (.ref rr_1618)) (.val (.int 0))) [(.int 0), (.int (own_iv (own_full (own_cl nn (fdrw p0) (fdrw p1) (fdrw p2) (fdrw p3)))))])) (fun t k => ?_) ?_
                · refine XS.iload X1655.here hx rfl (hb hby at_185) rfl ?_
                  exact k
                have hc187_1656 : ((own_iv (own_full (own_cl nn (fdrw p0) (fdrw p1) (fdrw p2) (fdrw p3)))) = (0 : Int32)) := own_fin1 (own_cll h4) (own_98 hn5 h4 hc170_1654)
                refine own_go (B := T1655.setTop (mkF m 195 (oA p0 p1 p2 p3 p4 n5 (.val (.int ok)) (.val (.ref rr_1601)) (.val (.ref rr_1618)) (.val (.int 0))) [(.int 1)])) (fun t k => ?_) ?_
                · refine XS.icmpNo X1655.here hx rfl (hb hby at_187) rfl (teq hc187_1656).2 ?_
                  refine XS.iconst X1655.here hx rfl (hb hby at_190) ?_
                  refine XS.goto X1655.here hx rfl (pc0 := 191) (pc' := 195) rfl (hb hby at_191) (by decide) (by decide) ?_
                  exact k
                obtain ⟨fs, hr, hrun, hended, hq⟩ := X1655.leaveW hS1635 (by rw [e1655]; exact hkq1635) (v := some (.int 1)) (fun h => by rw [Bd.returns] at h; cases h)
                refine ⟨_, _, ?_, hrun, hended, _, _, rfl, ?_, hq.1, hq.2.1, hq.2.2.1, hq.2.2.2.mono (by decide) (by decide)⟩
                · show Steps p.tables e below (T1655.setTop (mkF m 195 (oA p0 p1 p2 p3 p4 n5 (.val (.int ok)) (.val (.ref rr_1601)) (.val (.ref rr_1618)) (.val (.int 0))) [(.int 1)])) _
                  exact retN X1655 hx (t := .boolean) Bd.returns (by simp) (hb hby at_195) hr
                · show Qrm0 Z p0 p1 p2 p3 p4 cs h0 n0 _ T1655.heap _
                  rw [e1655]
                  exact ⟨rfl, N1655⟩
              · refine own_go (B := T1653.setTop (mkF m 173 (oA p0 p1 p2 p3 p4 n5 (.val (.int ok)) (.val (.ref rr_1601)) (.val (.ref rr_1618)) .unset) [])) (fun t k => ?_) ?_
                · refine XS.icmpNo X1653.here hx rfl (hb hby at_170) rfl (flt hc170_1654).2.2.1 ?_
                  exact k
                refine own_go (B := T1653.setTop (mkF m 182 (oA p0 p1 p2 p3 p4 n5 (.val (.int ok)) (.val (.ref rr_1601)) (.val (.ref rr_1618)) (.val (.int 1))) [(.ref rr_1618)])) (fun t k => ?_) ?_
                · refine XS.iconst X1653.here hx rfl (hb hby at_173) ?_
                  refine XS.goto X1653.here hx rfl (pc0 := 174) (pc' := 178) rfl (hb hby at_174) (by decide) (by decide) ?_
                  refine XS.istore X1653.here hx rfl (hb hby at_178) rfl (l' := (oA p0 p1 p2 p3 p4 n5 (.val (.int ok)) (.val (.ref rr_1601)) (.val (.ref rr_1618)) (.val (.int 1)))) rfl ?_
                  refine XS.aload X1653.here hx rfl (hb hby at_180) rfl rfl ?_
                  exact k
                obtain ⟨_, _, ⟨T1657, L1657, k1657, n1657⟩, -, X1657, ⟨Lc1657, hQ1657, l1657, y1657, z1657⟩, st1657⟩ := Jvm.LawKit.callS X1653 hx (y := yN25) hown (mvT hZ (own_w hw 29 rfl)) (mvT hZ (own_w hw 30 rfl)) (mvT hZ (own_w hw 31 rfl)) (mvT hZ (own_w hw 32 rfl)) (by decide) (backOf (W := 0) (ivL l Z a0 hw [] rr_1618 br_1618 kb_1618 (((93 : Int32) + n5) + (4 : Int32)) ys_1618 cs (93 + nn + 4) (own_full (own_cl nn (fdrw p0) (fdrw p1) (fdrw p2) (fdrw p3))) h1635 n0 Z1635 Q1649 Q1651 Q1650 Q1652 Q1636 Q1640 (own_addn (own_addn ot93 hn5 (by omega)) ot4 (by omega)) (by omega) (own_fl (own_cll h4)) Pq1618_1 hcs) hZ (own_w hw 32 rfl) (own_w hw 31 rfl) (by decide) (by decide)) (g := (mkF m 182 (oA p0 p1 p2 p3 p4 n5 (.val (.int ok)) (.val (.ref rr_1601)) (.val (.ref rr_1618)) (.val (.int 1))) [(.ref rr_1618)])) rfl (by rw [hml]; rfl) (argsL := [(.ref rr_1618)]) (rest := []) (lenOf pd_18 rfl) rfl (own_W0 rfl) (hb hby at_182) (fun _ _ => ⟨rfl, e1653, (by decide : 20 + 0 ≤ _), (by decide : 2870 + 0 ≤ _)⟩)
                dsimp only [Pt.U, Pt.locs, Pt.cells, Pt.slots] at X1657 l1657 y1657 z1657 st1657 hQ1657
                subst l1657 y1657 z1657
                obtain ⟨rfl, Nq1657, e1657⟩ := hQ1657
                have N1657 := Fr.app N1653 Nq1657
                refine own_go (B := T1657.setTop (mkF m 185 (oA p0 p1 p2 p3 p4 n5 (.val (.int ok)) (.val (.ref rr_1601)) (.val (.ref rr_1618)) (.val (.int 1))) [(.int (own_iv (own_full (own_cl nn (fdrw p0) (fdrw p1) (fdrw p2) (fdrw p3)))))])) st1657 ?_
                refine own_go (B := T1657.setTop (mkF m 187 (oA p0 p1 p2 p3 p4 n5 (.val (.int ok)) (.val (.ref rr_1601)) (.val (.ref rr_1618)) (.val (.int 1))) [(.int 1), (.int (own_iv (own_full (own_cl nn (fdrw p0) (fdrw p1) (fdrw p2) (fdrw p3)))))])) (fun t k => ?_) ?_
                · refine XS.iload X1657.here hx rfl (hb hby at_185) rfl ?_
                  exact k
                have hc187_1658 : ((own_iv (own_full (own_cl nn (fdrw p0) (fdrw p1) (fdrw p2) (fdrw p3)))) = (1 : Int32)) := own_fin2 (own_cll h4) (own_99 hn5 h4 hc170_1654) (fun q => hc155_1632 (hok.trans q))
                refine own_go (B := T1657.setTop (mkF m 195 (oA p0 p1 p2 p3 p4 n5 (.val (.int ok)) (.val (.ref rr_1601)) (.val (.ref rr_1618)) (.val (.int 1))) [(.int 1)])) (fun t k => ?_) ?_
                · refine XS.icmpNo X1657.here hx rfl (hb hby at_187) rfl (teq hc187_1658).2 ?_
                  refine XS.iconst X1657.here hx rfl (hb hby at_190) ?_
                  refine XS.goto X1657.here hx rfl (pc0 := 191) (pc' := 195) rfl (hb hby at_191) (by decide) (by decide) ?_
                  exact k
                obtain ⟨fs, hr, hrun, hended, hq⟩ := X1657.leaveW hS1635 (by rw [e1657]; exact hkq1635) (v := some (.int 1)) (fun h => by rw [Bd.returns] at h; cases h)
                refine ⟨_, _, ?_, hrun, hended, _, _, rfl, ?_, hq.1, hq.2.1, hq.2.2.1, hq.2.2.2.mono (by decide) (by decide)⟩
                · show Steps p.tables e below (T1657.setTop (mkF m 195 (oA p0 p1 p2 p3 p4 n5 (.val (.int ok)) (.val (.ref rr_1601)) (.val (.ref rr_1618)) (.val (.int 1))) [(.int 1)])) _
                  exact retN X1657 hx (t := .boolean) Bd.returns (by simp) (hb hby at_195) hr
                · show Qrm0 Z p0 p1 p2 p3 p4 cs h0 n0 _ T1657.heap _
                  rw [e1657]
                  exact ⟨rfl, N1657⟩
          · refine own_go (B := T1601.setTop (mkF m 196 (oA p0 p1 p2 p3 p4 n5 (.val (.int ok)) (.val (.ref rr_1601)) .unset .unset) [])) (fun t k => ?_) ?_
            · refine XS.icmpYes X1601.here hx rfl (pc0 := 141) (pc' := 196) rfl (hb hby at_141) rfl (feq hc141_1607).2 (by decide) (by decide) ?_
              exact k
            refine own_go (B := T1601.setTop (mkF m 199 (oA p0 p1 p2 p3 p4 n5 (.val (.int ok)) (.val (.ref rr_1601)) .unset .unset) [(.int 1), (.int n5)])) (fun t k => ?_) ?_
            · refine XS.iload X1601.here hx rfl (hb hby at_196) rfl ?_
              refine XS.iconst X1601.here hx rfl (hb hby at_198) ?_
              exact k
            have hc199_1659 : ¬ (n5 < (1 : Int32)) := (own_n1 hn5 hp9)
            refine own_go (B := T1601.setTop (mkF m 204 (oA p0 p1 p2 p3 p4 n5 (.val (.int ok)) (.val (.ref rr_1601)) .unset .unset) [(.int ok)])) (fun t k => ?_) ?_
            · refine XS.icmpNo X1601.here hx rfl (hb hby at_199) rfl (flt hc199_1659).1 ?_
              refine XS.iload X1601.here hx rfl (hb hby at_202) rfl ?_
              exact k
            by_cases hc204_1660 : ok = (0 : Int32)
            · refine own_go (B := T1601.setTop (mkF m 211 (oA p0 p1 p2 p3 p4 n5 (.val (.int ok)) (.val (.ref rr_1601)) .unset .unset) [])) (fun t k => ?_) ?_
              · refine XS.ifYes X1601.here hx rfl (pc0 := 204) (pc' := 211) rfl (hb hby at_204) rfl ((if0 _ _).trans (teq hc204_1660).1) (by decide) (by decide) ?_
                exact k
              refine own_go (B := T1601.setTop (mkF m 216 (oA p0 p1 p2 p3 p4 n5 (.val (.int ok)) (.val (.ref rr_1601)) (.val (.int 0)) .unset) [(.ref rr_1601)])) (fun t k => ?_) ?_
              · refine XS.iconst X1601.here hx rfl (hb hby at_211) ?_
                refine XS.istore X1601.here hx rfl (hb hby at_212) rfl (l' := (oA p0 p1 p2 p3 p4 n5 (.val (.int ok)) (.val (.ref rr_1601)) (.val (.int 0)) .unset)) rfl ?_
                refine XS.aload X1601.here hx rfl (hb hby at_214) rfl rfl ?_
                exact k
              obtain ⟨_, _, ⟨T1661, L1661, k1661, n1661⟩, -, X1661, ⟨Lc1661, hQ1661, l1661, y1661, z1661⟩, st1661⟩ := Jvm.LawKit.callS X1601 hx (y := yN25) hown (mvT hZ (own_w hw 29 rfl)) (mvT hZ (own_w hw 30 rfl)) (mvT hZ (own_w hw 31 rfl)) (mvT hZ (own_w hw 32 rfl)) (by decide) (backOf (W := 0) (ivL l Z a0 hw [] rr_1601 br_1601 kb_1601 n5 ys_1601 cs nn (own_cl nn (fdrw p0) (fdrw p1) (fdrw p2) (fdrw p3)) T1601.heap n0 Z1601 U1601_0 U1601_2 U1601_1 U1601_3 Q1602 Q1606 hn5 (by omega) (own_cll h4) (own_srL yp9) hcs) hZ (own_w hw 32 rfl) (own_w hw 31 rfl) (by decide) (by decide)) (g := (mkF m 216 (oA p0 p1 p2 p3 p4 n5 (.val (.int ok)) (.val (.ref rr_1601)) (.val (.int 0)) .unset) [(.ref rr_1601)])) rfl (by rw [hml]; rfl) (argsL := [(.ref rr_1601)]) (rest := []) (lenOf pd_18 rfl) rfl (own_W0 rfl) (hb hby at_216) (fun _ _ => ⟨rfl, rfl, (by decide : 4 + 0 ≤ _), (by decide : 384 + 0 ≤ _)⟩)
              dsimp only [Pt.U, Pt.locs, Pt.cells, Pt.slots] at X1661 l1661 y1661 z1661 st1661 hQ1661
              subst l1661 y1661 z1661
              obtain ⟨rfl, Nq1661, e1661⟩ := hQ1661
              have N1661 := Fr.app N1601 Nq1661
              refine own_go (B := T1661.setTop (mkF m 219 (oA p0 p1 p2 p3 p4 n5 (.val (.int ok)) (.val (.ref rr_1601)) (.val (.int 0)) .unset) [(.int (own_iv (own_cl nn (fdrw p0) (fdrw p1) (fdrw p2) (fdrw p3))))])) st1661 ?_
              refine own_go (B := T1661.setTop (mkF m 221 (oA p0 p1 p2 p3 p4 n5 (.val (.int ok)) (.val (.ref rr_1601)) (.val (.int 0)) .unset) [(.int 0), (.int (own_iv (own_cl nn (fdrw p0) (fdrw p1) (fdrw p2) (fdrw p3))))])) (fun t k => ?_) ?_
              · refine XS.iload X1661.here hx rfl (hb hby at_219) rfl ?_
                exact k
              have hc221_1662 : ((own_iv (own_cl nn (fdrw p0) (fdrw p1) (fdrw p2) (fdrw p3))) = (0 : Int32)) := (own_fin4 (own_cll h4) hp9 h4).trans (hok.symm.trans hc204_1660)
              refine own_go (B := T1661.setTop (mkF m 229 (oA p0 p1 p2 p3 p4 n5 (.val (.int ok)) (.val (.ref rr_1601)) (.val (.int 0)) .unset) [(.int 1)])) (fun t k => ?_) ?_
              · refine XS.icmpNo X1661.here hx rfl (hb hby at_221) rfl (teq hc221_1662).2 ?_
                refine XS.iconst X1661.here hx rfl (hb hby at_224) ?_
                refine XS.goto X1661.here hx rfl (pc0 := 225) (pc' := 229) rfl (hb hby at_225) (by decide) (by decide) ?_
                exact k
              obtain ⟨fs, hr, hrun, hended, hq⟩ := X1661.leaveW hS0 (by rw [e1661]; exact hk1601) (v := some (.int 1)) (fun h => by rw [Bd.returns] at h; cases h)
              refine ⟨_, _, ?_, hrun, hended, _, _, rfl, ?_, hq.1, hq.2.1, hq.2.2.1, hq.2.2.2.mono (by decide) (by decide)⟩
              · show Steps p.tables e below (T1661.setTop (mkF m 229 (oA p0 p1 p2 p3 p4 n5 (.val (.int ok)) (.val (.ref rr_1601)) (.val (.int 0)) .unset) [(.int 1)])) _
                exact retN X1661 hx (t := .boolean) Bd.returns (by simp) (hb hby at_229) hr
              · show Qrm0 Z p0 p1 p2 p3 p4 cs h0 n0 _ T1661.heap _
                rw [e1661]
                exact ⟨rfl, N1661⟩
            · refine own_go (B := T1601.setTop (mkF m 207 (oA p0 p1 p2 p3 p4 n5 (.val (.int ok)) (.val (.ref rr_1601)) .unset .unset) [])) (fun t k => ?_) ?_
              · refine XS.ifNo X1601.here hx rfl (hb hby at_204) rfl ((if0 _ _).trans (feq hc204_1660).1) ?_
                exact k
              refine own_go (B := T1601.setTop (mkF m 216 (oA p0 p1 p2 p3 p4 n5 (.val (.int ok)) (.val (.ref rr_1601)) (.val (.int 1)) .unset) [(.ref rr_1601)])) (fun t k => ?_) ?_
              · refine XS.iconst X1601.here hx rfl (hb hby at_207) ?_
                refine XS.goto X1601.here hx rfl (pc0 := 208) (pc' := 212) rfl (hb hby at_208) (by decide) (by decide) ?_
                refine XS.istore X1601.here hx rfl (hb hby at_212) rfl (l' := (oA p0 p1 p2 p3 p4 n5 (.val (.int ok)) (.val (.ref rr_1601)) (.val (.int 1)) .unset)) rfl ?_
                refine XS.aload X1601.here hx rfl (hb hby at_214) rfl rfl ?_
                exact k
              obtain ⟨_, _, ⟨T1663, L1663, k1663, n1663⟩, -, X1663, ⟨Lc1663, hQ1663, l1663, y1663, z1663⟩, st1663⟩ := Jvm.LawKit.callS X1601 hx (y := yN25) hown (mvT hZ (own_w hw 29 rfl)) (mvT hZ (own_w hw 30 rfl)) (mvT hZ (own_w hw 31 rfl)) (mvT hZ (own_w hw 32 rfl)) (by decide) (backOf (W := 0) (ivL l Z a0 hw [] rr_1601 br_1601 kb_1601 n5 ys_1601 cs nn (own_cl nn (fdrw p0) (fdrw p1) (fdrw p2) (fdrw p3)) T1601.heap n0 Z1601 U1601_0 U1601_2 U1601_1 U1601_3 Q1602 Q1606 hn5 (by omega) (own_cll h4) (own_srL yp9) hcs) hZ (own_w hw 32 rfl) (own_w hw 31 rfl) (by decide) (by decide)) (g := (mkF m 216 (oA p0 p1 p2 p3 p4 n5 (.val (.int ok)) (.val (.ref rr_1601)) (.val (.int 1)) .unset) [(.ref rr_1601)])) rfl (by rw [hml]; rfl) (argsL := [(.ref rr_1601)]) (rest := []) (lenOf pd_18 rfl) rfl (own_W0 rfl) (hb hby at_216) (fun _ _ => ⟨rfl, rfl, (by decide : 4 + 0 ≤ _), (by decide : 384 + 0 ≤ _)⟩)
              dsimp only [Pt.U, Pt.locs, Pt.cells, Pt.slots] at X1663 l1663 y1663 z1663 st1663 hQ1663
              subst l1663 y1663 z1663
              obtain ⟨rfl, Nq1663, e1663⟩ := hQ1663
              have N1663 := Fr.app N1601 Nq1663
              refine own_go (B := T1663.setTop (mkF m 219 (oA p0 p1 p2 p3 p4 n5 (.val (.int ok)) (.val (.ref rr_1601)) (.val (.int 1)) .unset) [(.int (own_iv (own_cl nn (fdrw p0) (fdrw p1) (fdrw p2) (fdrw p3))))])) st1663 ?_
              refine own_go (B := T1663.setTop (mkF m 221 (oA p0 p1 p2 p3 p4 n5 (.val (.int ok)) (.val (.ref rr_1601)) (.val (.int 1)) .unset) [(.int 1), (.int (own_iv (own_cl nn (fdrw p0) (fdrw p1) (fdrw p2) (fdrw p3))))])) (fun t k => ?_) ?_
              · refine XS.iload X1663.here hx rfl (hb hby at_219) rfl ?_
                exact k
              have hc221_1664 : ((own_iv (own_cl nn (fdrw p0) (fdrw p1) (fdrw p2) (fdrw p3))) = (1 : Int32)) := (own_fin4 (own_cll h4) hp9 h4).trans (own_iv4 (fun q => hc204_1660 (hok.trans q)))
              refine own_go (B := T1663.setTop (mkF m 229 (oA p0 p1 p2 p3 p4 n5 (.val (.int ok)) (.val (.ref rr_1601)) (.val (.int 1)) .unset) [(.int 1)])) (fun t k => ?_) ?_
              · refine XS.icmpNo X1663.here hx rfl (hb hby at_221) rfl (teq hc221_1664).2 ?_
                refine XS.iconst X1663.here hx rfl (hb hby at_224) ?_
                refine XS.goto X1663.here hx rfl (pc0 := 225) (pc' := 229) rfl (hb hby at_225) (by decide) (by decide) ?_
                exact k
              obtain ⟨fs, hr, hrun, hended, hq⟩ := X1663.leaveW hS0 (by rw [e1663]; exact hk1601) (v := some (.int 1)) (fun h => by rw [Bd.returns] at h; cases h)
              refine ⟨_, _, ?_, hrun, hended, _, _, rfl, ?_, hq.1, hq.2.1, hq.2.2.1, hq.2.2.2.mono (by decide) (by decide)⟩
              · show Steps p.tables e below (T1663.setTop (mkF m 229 (oA p0 p1 p2 p3 p4 n5 (.val (.int ok)) (.val (.ref rr_1601)) (.val (.int 1)) .unset) [(.int 1)])) _
                exact retN X1663 hx (t := .boolean) Bd.returns (by simp) (hb hby at_229) hr
              · show Qrm0 Z p0 p1 p2 p3 p4 cs h0 n0 _ T1663.heap _
                rw [e1663]
                exact ⟨rfl, N1663⟩
        · subst e9 f9
          refine own_go (B := T1601.setTop (mkF m 141 (oA p0 p1 p2 p3 p4 n5 (.val (.int ok)) (.val (.ref rr_1601)) .unset .unset) [(.int 1), (.int (((p4.toUInt32 >>> ((3 : Int32) &&& 31).toUInt32).toInt32) &&& (3 : Int32)))])) (fun t k => ?_) ?_
          · refine XS.astore X1601.here hx rfl (hb hby at_136) rfl rfl (l' := (oA p0 p1 p2 p3 p4 n5 (.val (.int ok)) (.val (.ref rr_1601)) .unset .unset)) rfl ?_
            refine XS.iload X1601.here hx rfl (hb hby at_138) rfl ?_
            refine XS.iconst X1601.here hx rfl (hb hby at_140) ?_
            exact k
          by_cases hc141_1665 : (((p4.toUInt32 >>> ((3 : Int32) &&& 31).toUInt32).toInt32) &&& (3 : Int32)) = (1 : Int32)
          · refine own_go (B := T1601.setTop (mkF m 144 (oA p0 p1 p2 p3 p4 n5 (.val (.int ok)) (.val (.ref rr_1601)) .unset .unset) [])) (fun t k => ?_) ?_
            · refine XS.icmpNo X1601.here hx rfl (hb hby at_141) rfl (teq hc141_1665).2 ?_
              exact k
            obtain ⟨a1666, T1666, h1666, k11666, b1666, kk1666, X1666, e1666, E1666, hS1666, hkq1666, hZ1666, hown1666, A1666, C1666, B1666, V1666, -, -, CHq1666, -, hnq1666, st1666⟩ := ldcCH X1601 hx hZ hown (own_w hw 90 rfl) (own_wS hw) rfl hS0 hk1601 hEL (List.mem_of_getElem? (i := 2) rfl) CH1601.1 (vs := own_vs oP) (z := (92 : Int32)) (own_ht oP (by decide)) (by decide) (own_vl oP 92 (by decide) (by decide)) (g := (mkF m 144 (oA p0 p1 p2 p3 p4 n5 (.val (.int ok)) (.val (.ref rr_1601)) .unset .unset) [])) rfl (hb hby at_144) (n := 368) (by decide) (by decide) (by decide) (by decide)
            have CH1666 := CH1601.trans CHq1666
            have Q1667 := Q1602.ext E1666
            have Q1668 := Q1603.ext E1666
            have Q1669 := Q1604.ext E1666
            have Q1670 := Q1605.ext E1666
            have Q1671 := Q1606.ext E1666
            have Q1672 := U1601_0.ext E1666
            have Q1673 := U1601_1.ext E1666
            have Q1674 := U1601_2.ext E1666
            have Q1675 := U1601_3.ext E1666
            have Z1666 : n0 ≤ h1666.size := Nat.le_trans Z1601 E1666.1
            have hZ := hZ1666
            have hown := hown1666
            have VI1666 : Arv Z h1666 b1666 kk1666 .byte (92 : Int32) (own_I (own_bs oP)) (.int 0) := own_arvS V1666
            refine own_go st1666 ?_
            refine own_go (B := T1666.setTop (mkF m 148 (oA p0 p1 p2 p3 p4 n5 (.val (.int ok)) (.val (.ref rr_1601)) .unset .unset) [(.ref rr_1601), (.ref a1666)])) (fun t k => ?_) ?_
            · refine XS.aload X1666.here hx rfl (hb hby at_146) rfl rfl ?_
              exact k
            obtain ⟨_, _, ⟨T1676, L1676, k1676, n1676⟩, -, X1676, hSq1676, gr1676, ⟨Lc1676, hQ1676, l1676, y1676, z1676, CHq1676⟩, st1676⟩ := callSS X1666 hx (y := yN56) hown (mvT hZ (own_w hw 91 rfl)) (mvT hZ (own_w hw 92 rfl)) (mvT hZ (own_w hw 31 rfl)) (mvT hZ (own_w hw 93 rfl)) (by decide) (backOfSH (W := 0) (s := s) (vm0 := T1666.vm) (dltU l Z a0 hw [] a1666 rr_1601 b1666 kk1666 br_1601 kb_1601 (n5 <<< ((1 : Int32) &&& 31)) ys_1601 cs (own_cl nn (fdrw p0) (fdrw p1) (fdrw p2) (fdrw p3)) nn n5 h1666 n0 Z1666 hEL A1666 C1666 B1666 VI1666 Q1672 Q1674 Q1673 Q1675 Q1667 Q1671 Q1668 Q1669 Q1670 hcs (own_shu hn5 h4) hn5 (own_sh1 hn5 (by omega)) h4 (own_cll h4) (own_srU yp9)) hZ (own_w hw 93 rfl) (own_w hw 31 rfl) (by decide) (by decide) hEL CH1666.1) (g := (mkF m 148 (oA p0 p1 p2 p3 p4 n5 (.val (.int ok)) (.val (.ref rr_1601)) .unset .unset) [(.ref rr_1601), (.ref a1666)])) rfl (by rw [hml]; rfl) (argsL := [(.ref a1666), (.ref rr_1601)]) (rest := []) (lenOf pd_38 rfl) rfl (own_W0 rfl) (hb hby at_148) (fun _ _ => ⟨rfl, e1666, (by decide : 6 + 12 ≤ _), (by decide : 756 + 1742 ≤ _)⟩)
            dsimp only [Pt.U, Pt.locs, Pt.cells, Pt.slots] at X1676 l1676 y1676 z1676 st1676 hQ1676 hSq1676 gr1676 CHq1676
            subst l1676 y1676 z1676
            have CH1676 := CH1666.trans CHq1676
            have hS1676 : s.Since T1676.vm T1676.heap.size := foldS (T := T1666) hS1666 (by rw [e1666]; exact hkq1666) hSq1676 gr1676
            have hkq1676 : T1676.heap.size ≤ T1676.heap.size := Nat.le_refl _
            have hZ : Z.Warmed39 (s.setVm T1676.vm).vm := State.Warmed39.trans (t := s.setVm T1666.vm) hZ hSq1676.1
            have hown : (s.setVm T1676.vm).vm.findClass jL = some m.cls := by rw [show (s.setVm T1676.vm).vm = T1676.vm from rfl, hSq1676.1.alike.findClass]; exact hown
            have X1676 : Stand p l e room_1 (s.setVm T1676.vm) m #[(.int p0), (.int p1), (.int p2), (.int p3), (.int p4)] below meth c T1676 _ _ _ := X1676
            obtain ⟨rr_1676, br_1676, kb_1676, ys_1676, rfl, Nq1676, Kq1676, sq_rr_1676, sq_br_1676, pq1676_0, U1676_0, U1676_1, U1676_2, U1676_3, Pq1676_0, Pq1676_1⟩ := hQ1676
            have Q1677 := Q1667.ext (own_extK Kq1676)
            have Q1678 := Q1668.ext (own_extK Kq1676)
            have Q1679 := Q1669.ext (own_extK Kq1676)
            have Q1680 := Q1670.ext (own_extK Kq1676)
            have Q1681 := Q1671.ext (own_extK Kq1676)
            have Z1676 : n0 ≤ T1676.heap.size := Nat.le_trans Z1666 Kq1676.1
            have N1676 := Fr.app N1601 Nq1676
            refine own_go (B := T1676.setTop (mkF m 151 (oA p0 p1 p2 p3 p4 n5 (.val (.int ok)) (.val (.ref rr_1601)) .unset .unset) [(.ref rr_1676)])) (fun t k => st1676.trans k) ?_
            refine own_go (B := T1676.setTop (mkF m 155 (oA p0 p1 p2 p3 p4 n5 (.val (.int ok)) (.val (.ref rr_1601)) (.val (.ref rr_1676)) .unset) [(.int ok)])) (fun t k => ?_) ?_
            · refine XS.astore X1676.here hx rfl (hb hby at_151) rfl rfl (l' := (oA p0 p1 p2 p3 p4 n5 (.val (.int ok)) (.val (.ref rr_1601)) (.val (.ref rr_1676)) .unset)) rfl ?_
              refine XS.iload X1676.here hx rfl (hb hby at_153) rfl ?_
              exact k
            by_cases hc155_1690 : ok = (0 : Int32)
            · refine own_go (B := T1676.setTop (mkF m 177 (oA p0 p1 p2 p3 p4 n5 (.val (.int ok)) (.val (.ref rr_1601)) (.val (.ref rr_1676)) .unset) [])) (fun t k => ?_) ?_
              · refine XS.ifYes X1676.here hx rfl (pc0 := 155) (pc' := 177) rfl (hb hby at_155) rfl ((if0 _ _).trans (teq hc155_1690).1) (by decide) (by decide) ?_
                exact k
              refine own_go (B := T1676.setTop (mkF m 182 (oA p0 p1 p2 p3 p4 n5 (.val (.int ok)) (.val (.ref rr_1601)) (.val (.ref rr_1676)) (.val (.int 0))) [(.ref rr_1676)])) (fun t k => ?_) ?_
              · refine XS.iconst X1676.here hx rfl (hb hby at_177) ?_
                refine XS.istore X1676.here hx rfl (hb hby at_178) rfl (l' := (oA p0 p1 p2 p3 p4 n5 (.val (.int ok)) (.val (.ref rr_1601)) (.val (.ref rr_1676)) (.val (.int 0)))) rfl ?_
                refine XS.aload X1676.here hx rfl (hb hby at_180) rfl rfl ?_
                exact k
              obtain ⟨_, _, ⟨T1691, L1691, k1691, n1691⟩, -, X1691, ⟨Lc1691, hQ1691, l1691, y1691, z1691⟩, st1691⟩ := Jvm.LawKit.callS X1676 hx (y := yN25) hown (mvT hZ (own_w hw 29 rfl)) (mvT hZ (own_w hw 30 rfl)) (mvT hZ (own_w hw 31 rfl)) (mvT hZ (own_w hw 32 rfl)) (by decide) (backOf (W := 0) (ivU l Z a0 hw [] rr_1676 br_1676 kb_1676 ((((93 : Int32) + n5) + (4 : Int32)) <<< ((1 : Int32) &&& 31)) ys_1676 (((93 : Int32) + n5) + (4 : Int32)) cs (93 + nn + 4) (own_full (own_cl nn (fdrw p0) (fdrw p1) (fdrw p2) (fdrw p3))) T1676.heap n0 Z1676 U1676_0 U1676_2 U1676_1 U1676_3 Q1677 Q1681 Q1678 Q1679 Q1680 (own_addn (own_addn ot93 hn5 (by omega)) ot4 (by omega)) (by omega) (own_fl (own_cll h4)) Pq1676_1 hcs (own_shv (own_addn (own_addn ot93 hn5 (by omega)) ot4 (by omega)) (by omega)) (own_sh1 (own_addn (own_addn ot93 hn5 (by omega)) ot4 (by omega)) (by omega)) Pq1676_0) hZ (own_w hw 32 rfl) (own_w hw 31 rfl) (by decide) (by decide)) (g := (mkF m 182 (oA p0 p1 p2 p3 p4 n5 (.val (.int ok)) (.val (.ref rr_1601)) (.val (.ref rr_1676)) (.val (.int 0))) [(.ref rr_1676)])) rfl (by rw [hml]; rfl) (argsL := [(.ref rr_1676)]) (rest := []) (lenOf pd_18 rfl) rfl (own_W0 rfl) (hb hby at_182) (fun _ _ => ⟨rfl, rfl, (by decide : 18 + 0 ≤ _), (by decide : 2498 + 0 ≤ _)⟩)
              dsimp only [Pt.U, Pt.locs, Pt.cells, Pt.slots] at X1691 l1691 y1691 z1691 st1691 hQ1691
              subst l1691 y1691 z1691
              obtain ⟨rfl, Nq1691, e1691⟩ := hQ1691
              have N1691 := Fr.app N1676 Nq1691
              refine own_go (B := T1691.setTop (mkF m 185 (oA p0 p1 p2 p3 p4 n5 (.val (.int ok)) (.val (.ref rr_1601)) (.val (.ref rr_1676)) (.val (.int 0))) [(.int (own_iv (own_full (own_cl nn (fdrw p0) (fdrw p1) (fdrw p2) (fdrw p3)))))])) st1691 ?_
              refine own_go (B := T1691.setTop (mkF m 187 (oA p0 p1 p2 p3 p4 n5 (.val (.int ok)) (.val (.ref rr_1601)) (.val (.ref rr_1676)) (.val (.int 0))) [(.int 0), (.int (own_iv (own_full (own_cl nn (fdrw p0) (fdrw p1) (fdrw p2) (fdrw p3)))))])) (fun t k => ?_) ?_
              · refine XS.iload X1691.here hx rfl (hb hby at_185) rfl ?_
                exact k
              have hc187_1692 : ((own_iv (own_full (own_cl nn (fdrw p0) (fdrw p1) (fdrw p2) (fdrw p3)))) = (0 : Int32)) := own_fin0 (hok.symm.trans hc155_1690)
              refine own_go (B := T1691.setTop (mkF m 195 (oA p0 p1 p2 p3 p4 n5 (.val (.int ok)) (.val (.ref rr_1601)) (.val (.ref rr_1676)) (.val (.int 0))) [(.int 1)])) (fun t k => ?_) ?_
              · refine XS.icmpNo X1691.here hx rfl (hb hby at_187) rfl (teq hc187_1692).2 ?_
                refine XS.iconst X1691.here hx rfl (hb hby at_190) ?_
                refine XS.goto X1691.here hx rfl (pc0 := 191) (pc' := 195) rfl (hb hby at_191) (by decide) (by decide) ?_
                exact k
              obtain ⟨fs, hr, hrun, hended, hq⟩ := X1691.leaveW hS1676 (by rw [e1691]; exact hkq1676) (v := some (.int 1)) (fun h => by rw [Bd.returns] at h; cases h)
              refine ⟨_, _, ?_, hrun, hended, _, _, rfl, ?_, hq.1, hq.2.1, hq.2.2.1, hq.2.2.2.mono (by decide) (by decide)⟩
              · show Steps p.tables e below (T1691.setTop (mkF m 195 (oA p0 p1 p2 p3 p4 n5 (.val (.int ok)) (.val (.ref rr_1601)) (.val (.ref rr_1676)) (.val (.int 0))) [(.int 1)])) _
                exact retN X1691 hx (t := .boolean) Bd.returns (by simp) (hb hby at_195) hr
              · show Qrm0 Z p0 p1 p2 p3 p4 cs h0 n0 _ T1691.heap _
                rw [e1691]
                exact ⟨rfl, N1691⟩
            · refine own_go (B := T1676.setTop (mkF m 158 (oA p0 p1 p2 p3 p4 n5 (.val (.int ok)) (.val (.ref rr_1601)) (.val (.ref rr_1676)) .unset) [])) (fun t k => ?_) ?_
              · refine XS.ifNo X1676.here hx rfl (hb hby at_155) rfl ((if0 _ _).trans (feq hc155_1690).1) ?_
                exact k
              obtain ⟨a1693, T1693, h1693, k11693, b1693, kk1693, X1693, e1693, E1693, hS1693, hkq1693, hZ1693, hown1693, A1693, C1693, B1693, V1693, -, -, CHq1693, -, hnq1693, st1693⟩ := ldcCH X1676 hx hZ hown (own_w hw 90 rfl) (own_wS hw) rfl hS1676 hkq1676 hEL (List.mem_of_getElem? (i := 2) rfl) CH1676.1 (vs := own_vs oP) (z := (92 : Int32)) (own_ht oP (by decide)) (by decide) (own_vl oP 92 (by decide) (by decide)) (g := (mkF m 158 (oA p0 p1 p2 p3 p4 n5 (.val (.int ok)) (.val (.ref rr_1601)) (.val (.ref rr_1676)) .unset) [])) rfl (hb hby at_158) (n := 368) (by decide) (by decide) (by decide) (by decide)
              have Q1694 := Q1677.ext E1693
              have Q1695 := Q1678.ext E1693
              have Q1696 := Q1679.ext E1693
              have Q1697 := Q1680.ext E1693
              have Q1698 := Q1681.ext E1693
              have Q1707 := U1676_0.ext E1693
              have Q1708 := U1676_1.ext E1693
              have Q1709 := U1676_2.ext E1693
              have Q1710 := U1676_3.ext E1693
              have Z1693 : n0 ≤ h1693.size := Nat.le_trans Z1676 E1693.1
              have hZ := hZ1693
              have hown := hown1693
              have VI1693 : Arv Z h1693 b1693 kk1693 .byte (92 : Int32) (own_I (own_bs oP)) (.int 0) := own_arvS V1693
              refine own_go st1693 ?_
              obtain ⟨cq1711, kq1711, q1711a, q1711b, q1711c⟩ := isOf hZ e1693 A1693
              obtain ⟨_, _, ⟨T1711, L1711, k1711, n1711⟩, -, X1711, ⟨Lc1711, hQ1711, l1711, y1711, z1711⟩, st1711⟩ := X1693.virtualBack hx (y := yN12) (z := yN12) hown (mvT hZ (own_w hw 268 rfl)) (mvT hZ (own_w hw 53 rfl)) (notFace_of_selects (args := #[]) (mvT hZ (own_w hw 55 rfl))) (mvT hZ (own_w hw 55 rfl)) (mvT hZ (own_w hw 54 rfl)) (by decide) (backOf (W := 0) (len_0 l Z a0 hw [] a1693 b1693 kk1693 (92 : Int32) (own_bs oP) cs (92 : Int32) h1693 n0 Z1693 A1693 C1693 B1693 VI1693 Q1694 hcs (by decide)) hZ (own_w hw 56 rfl) (own_w hw 9 rfl) (by decide) (by decide)) q1711a q1711c (g := (mkF m 160 (oA p0 p1 p2 p3 p4 n5 (.val (.int ok)) (.val (.ref rr_1601)) (.val (.ref rr_1676)) .unset) [(.ref a1693)])) rfl (by rw [hml]; rfl) (Steps.refl _) (argsL := []) (rest := []) (lenOf pd_15 rfl) rfl (own_W0 rfl) (hb hby at_160) (fun _ _ => ⟨rfl, e1693, (by decide : 20 + 0 ≤ _), (by decide : 2870 + 0 ≤ _)⟩)
              dsimp only [Pt.U, Pt.locs, Pt.cells, Pt.slots] at X1711 l1711 y1711 z1711 st1711 hQ1711
              subst l1711 y1711 z1711
              obtain ⟨rfl, Nq1711, e1711⟩ := hQ1711
              have N1711 := Fr.app N1676 Nq1711
              refine own_go (B := T1711.setTop (mkF m 163 (oA p0 p1 p2 p3 p4 n5 (.val (.int ok)) (.val (.ref rr_1601)) (.val (.ref rr_1676)) .unset) [(.int 92)])) (fun t k => st1711.trans k) ?_
              refine own_go (B := T1711.setTop (mkF m 170 (oA p0 p1 p2 p3 p4 n5 (.val (.int ok)) (.val (.ref rr_1601)) (.val (.ref rr_1676)) .unset) [(.int 100), (.int ((97 : Int32) + n5))])) (fun t k => ?_) ?_
              · refine XS.iconst X1711.here hx rfl (hb hby at_163) ?_
                refine XS.iadd X1711.here hx rfl (hb hby at_164) rfl ?_
                refine XS.iload X1711.here hx rfl (hb hby at_165) rfl ?_
                refine XS.iadd X1711.here hx rfl (hb hby at_167) rfl ?_
                refine XS.bipush X1711.here hx rfl (hb hby at_168) ?_
                exact k
              by_cases hc170_1712 : (100 : Int32) < ((97 : Int32) + n5)
              · refine own_go (B := T1711.setTop (mkF m 177 (oA p0 p1 p2 p3 p4 n5 (.val (.int ok)) (.val (.ref rr_1601)) (.val (.ref rr_1676)) .unset) [])) (fun t k => ?_) ?_
                · refine XS.icmpYes X1711.here hx rfl (pc0 := 170) (pc' := 177) rfl (hb hby at_170) rfl (tlt hc170_1712).2.2.1 (by decide) (by decide) ?_
                  exact k
                refine own_go (B := T1711.setTop (mkF m 182 (oA p0 p1 p2 p3 p4 n5 (.val (.int ok)) (.val (.ref rr_1601)) (.val (.ref rr_1676)) (.val (.int 0))) [(.ref rr_1676)])) (fun t k => ?_) ?_
                · refine XS.iconst X1711.here hx rfl (hb hby at_177) ?_
                  refine XS.istore X1711.here hx rfl (hb hby at_178) rfl (l' := (oA p0 p1 p2 p3 p4 n5 (.val (.int ok)) (.val (.ref rr_1601)) (.val (.ref rr_1676)) (.val (.int 0)))) rfl ?_
                  refine XS.aload X1711.here hx rfl (hb hby at_180) rfl rfl ?_
                  exact k
                obtain ⟨_, _, ⟨T1713, L1713, k1713, n1713⟩, -, X1713, ⟨Lc1713, hQ1713, l1713, y1713, z1713⟩, st1713⟩ := Jvm.LawKit.callS X1711 hx (y := yN25) hown (mvT hZ (own_w hw 29 rfl)) (mvT hZ (own_w hw 30 rfl)) (mvT hZ (own_w hw 31 rfl)) (mvT hZ (own_w hw 32 rfl)) (by decide) (backOf (W := 0) (ivU l Z a0 hw [] rr_1676 br_1676 kb_1676 ((((93 : Int32) + n5) + (4 : Int32)) <<< ((1 : Int32) &&& 31)) ys_1676 (((93 : Int32) + n5) + (4 : Int32)) cs (93 + nn + 4) (own_full (own_cl nn (fdrw p0) (fdrw p1) (fdrw p2) (fdrw p3))) h1693 n0 Z1693 Q1707 Q1709 Q1708 Q1710 Q1694 Q1698 Q1695 Q1696 Q1697 (own_addn (own_addn ot93 hn5 (by omega)) ot4 (by omega)) (by omega) (own_fl (own_cll h4)) Pq1676_1 hcs (own_shv (own_addn (own_addn ot93 hn5 (by omega)) ot4 (by omega)) (by omega)) (own_sh1 (own_addn (own_addn ot93 hn5 (by omega)) ot4 (by omega)) (by omega)) Pq1676_0) hZ (own_w hw 32 rfl) (own_w hw 31 rfl) (by decide) (by decide)) (g := (mkF m 182 (oA p0 p1 p2 p3 p4 n5 (.val (.int ok)) (.val (.ref rr_1601)) (.val (.ref rr_1676)) (.val (.int 0))) [(.ref rr_1676)])) rfl (by rw [hml]; rfl) (argsL := [(.ref rr_1676)]) (rest := []) (lenOf pd_18 rfl) rfl (own_W0 rfl) (hb hby at_182) (fun _ _ => ⟨rfl, e1711, (by decide : 20 + 0 ≤ _), (by decide : 2870 + 0 ≤ _)⟩)
                dsimp only [Pt.U, Pt.locs, Pt.cells, Pt.slots] at X1713 l1713 y1713 z1713 st1713 hQ1713
                subst l1713 y1713 z1713
                obtain ⟨rfl, Nq1713, e1713⟩ := hQ1713
                have N1713 := Fr.app N1711 Nq1713
                refine own_go (B := T1713.setTop (mkF m 185 (oA p0 p1 p2 p3 p4 n5 (.val (.int ok)) (.val (.ref rr_1601)) (.val (.ref rr_1676)) (.val (.int 0))) [(.int (own_iv (own_full (own_cl nn (fdrw p0) (fdrw p1) (fdrw p2) (fdrw p3)))))])) st1713 ?_
                refine own_go (B := T1713.setTop (mkF m 187 (oA p0 p1 p2 p3 p4 n5 (.val (.int ok)) (.val (.ref rr_1601)) (.val (.ref rr_1676)) (.val (.int 0))) [(.int 0), (.int (own_iv (own_full (own_cl nn (fdrw p0) (fdrw p1) (fdrw p2) (fdrw p3)))))])) (fun t k => ?_) ?_
                · refine XS.iload X1713.here hx rfl (hb hby at_185) rfl ?_
                  exact k
                have hc187_1714 : ((own_iv (own_full (own_cl nn (fdrw p0) (fdrw p1) (fdrw p2) (fdrw p3)))) = (0 : Int32)) := own_fin1 (own_cll h4) (own_98 hn5 h4 hc170_1712)
                refine own_go (B := T1713.setTop (mkF m 195 (oA p0 p1 p2 p3 p4 n5 (.val (.int ok)) (.val (.ref rr_1601)) (.val (.ref rr_1676)) (.val (.int 0))) [(.int 1)])) (fun t k => ?_) ?_
                · refine XS.icmpNo X1713.here hx rfl (hb hby at_187) rfl (teq hc187_1714).2 ?_
                  refine XS.iconst X1713.here hx rfl (hb hby at_190) ?_
                  refine XS.goto X1713.here hx rfl (pc0 := 191) (pc' := 195) rfl (hb hby at_191) (by decide) (by decide) ?_
                  exact k
                obtain ⟨fs, hr, hrun, hended, hq⟩ := X1713.leaveW hS1693 (by rw [e1713]; exact hkq1693) (v := some (.int 1)) (fun h => by rw [Bd.returns] at h; cases h)
                refine ⟨_, _, ?_, hrun, hended, _, _, rfl, ?_, hq.1, hq.2.1, hq.2.2.1, hq.2.2.2.mono (by decide) (by decide)⟩
                · show Steps p.tables e below (T1713.setTop (mkF m 195 (oA p0 p1 p2 p3 p4 n5 (.val (.int ok)) (.val (.ref rr_1601)) (.val (.ref rr_1676)) (.val (.int 0))) [(.int 1)])) _
                  exact retN X1713 hx (t := .boolean) Bd.returns (by simp) (hb hby at_195) hr
                · show Qrm0 Z p0 p1 p2 p3 p4 cs h0 n0 _ T1713.heap _
                  rw [e1713]
                  exact ⟨rfl, N1713⟩
              · refine own_go (B := T1711.setTop (mkF m 173 (oA p0 p1 p2 p3 p4 n5 (.val (.int ok)) (.val (.ref rr_1601)) (.val (.ref rr_1676)) .unset) [])) (fun t k => ?_) ?_
                · refine XS.icmpNo X1711.here hx rfl (hb hby at_170) rfl (flt hc170_1712).2.2.1 ?_
                  exact k
                refine own_go (B := T1711.setTop (mkF m 182 (oA p0 p1 p2 p3 p4 n5 (.val (.int ok)) (.val (.ref rr_1601)) (.val (.ref rr_1676)) (.val (.int 1))) [(.ref rr_1676)])) (fun t k => ?_) ?_
                · refine XS.iconst X1711.here hx rfl (hb hby at_173) ?_
                  refine XS.goto X1711.here hx rfl (pc0 := 174) (pc' := 178) rfl (hb hby at_174) (by decide) (by decide) ?_
                  refine XS.istore X1711.here hx rfl (hb hby at_178) rfl (l' := (oA p0 p1 p2 p3 p4 n5 (.val (.int ok)) (.val (.ref rr_1601)) (.val (.ref rr_1676)) (.val (.int 1)))) rfl ?_
                  refine XS.aload X1711.here hx rfl (hb hby at_180) rfl rfl ?_
                  exact k
                obtain ⟨_, _, ⟨T1715, L1715, k1715, n1715⟩, -, X1715, ⟨Lc1715, hQ1715, l1715, y1715, z1715⟩, st1715⟩ := Jvm.LawKit.callS X1711 hx (y := yN25) hown (mvT hZ (own_w hw 29 rfl)) (mvT hZ (own_w hw 30 rfl)) (mvT hZ (own_w hw 31 rfl)) (mvT hZ (own_w hw 32 rfl)) (by decide) (backOf (W := 0) (ivU l Z a0 hw [] rr_1676 br_1676 kb_1676 ((((93 : Int32) + n5) + (4 : Int32)) <<< ((1 : Int32) &&& 31)) ys_1676 (((93 : Int32) + n5) + (4 : Int32)) cs (93 + nn + 4) (own_full (own_cl nn (fdrw p0) (fdrw p1) (fdrw p2) (fdrw p3))) h1693 n0 Z1693 Q1707 Q1709 Q1708 Q1710 Q1694 Q1698 Q1695 Q1696 Q1697 (own_addn (own_addn ot93 hn5 (by omega)) ot4 (by omega)) (by omega) (own_fl (own_cll h4)) Pq1676_1 hcs (own_shv (own_addn (own_addn ot93 hn5 (by omega)) ot4 (by omega)) (by omega)) (own_sh1 (own_addn (own_addn ot93 hn5 (by omega)) ot4 (by omega)) (by omega)) Pq1676_0) hZ (own_w hw 32 rfl) (own_w hw 31 rfl) (by decide) (by decide)) (g := (mkF m 182 (oA p0 p1 p2 p3 p4 n5 (.val (.int ok)) (.val (.ref rr_1601)) (.val (.ref rr_1676)) (.val (.int 1))) [(.ref rr_1676)])) rfl (by rw [hml]; rfl) (argsL := [(.ref rr_1676)]) (rest := []) (lenOf pd_18 rfl) rfl (own_W0 rfl) (hb hby at_182) (fun _ _ => ⟨rfl, e1711, (by decide : 20 + 0 ≤ _), (by decide : 2870 + 0 ≤ _)⟩)
                dsimp only [Pt.U, Pt.locs, Pt.cells, Pt.slots] at X1715 l1715 y1715 z1715 st1715 hQ1715
                subst l1715 y1715 z1715
                obtain ⟨rfl, Nq1715, e1715⟩ := hQ1715
                have N1715 := Fr.app N1711 Nq1715
                refine own_go (B := T1715.setTop (mkF m 185 (oA p0 p1 p2 p3 p4 n5 (.val (.int ok)) (.val (.ref rr_1601)) (.val (.ref rr_1676)) (.val (.int 1))) [(.int (own_iv (own_full (own_cl nn (fdrw p0) (fdrw p1) (fdrw p2) (fdrw p3)))))])) st1715 ?_
                refine own_go (B := T1715.setTop (mkF m 187 (oA p0 p1 p2 p3 p4 n5 (.val (.int ok)) (.val (.ref rr_1601)) (.val (.ref rr_1676)) (.val (.int 1))) [(.int 1), (.int (own_iv (own_full (own_cl nn (fdrw p0) (fdrw p1) (fdrw p2) (fdrw p3)))))])) (fun t k => ?_) ?_
                · refine XS.iload X1715.here hx rfl (hb hby at_185) rfl ?_
                  exact k
                have hc187_1716 : ((own_iv (own_full (own_cl nn (fdrw p0) (fdrw p1) (fdrw p2) (fdrw p3)))) = (1 : Int32)) := own_fin2 (own_cll h4) (own_99 hn5 h4 hc170_1712) (fun q => hc155_1690 (hok.trans q))
                refine own_go (B := T1715.setTop (mkF m 195 (oA p0 p1 p2 p3 p4 n5 (.val (.int ok)) (.val (.ref rr_1601)) (.val (.ref rr_1676)) (.val (.int 1))) [(.int 1)])) (fun t k => ?_) ?_
                · refine XS.icmpNo X1715.here hx rfl (hb hby at_187) rfl (teq hc187_1716).2 ?_
                  refine XS.iconst X1715.here hx rfl (hb hby at_190) ?_
                  refine XS.goto X1715.here hx rfl (pc0 := 191) (pc' := 195) rfl (hb hby at_191) (by decide) (by decide) ?_
                  exact k
                obtain ⟨fs, hr, hrun, hended, hq⟩ := X1715.leaveW hS1693 (by rw [e1715]; exact hkq1693) (v := some (.int 1)) (fun h => by rw [Bd.returns] at h; cases h)
                refine ⟨_, _, ?_, hrun, hended, _, _, rfl, ?_, hq.1, hq.2.1, hq.2.2.1, hq.2.2.2.mono (by decide) (by decide)⟩
                · show Steps p.tables e below (T1715.setTop (mkF m 195 (oA p0 p1 p2 p3 p4 n5 (.val (.int ok)) (.val (.ref rr_1601)) (.val (.ref rr_1676)) (.val (.int 1))) [(.int 1)])) _
                  exact retN X1715 hx (t := .boolean) Bd.returns (by simp) (hb hby at_195) hr
                · show Qrm0 Z p0 p1 p2 p3 p4 cs h0 n0 _ T1715.heap _
                  rw [e1715]
                  exact ⟨rfl, N1715⟩
          · refine own_go (B := T1601.setTop (mkF m 196 (oA p0 p1 p2 p3 p4 n5 (.val (.int ok)) (.val (.ref rr_1601)) .unset .unset) [])) (fun t k => ?_) ?_
            · refine XS.icmpYes X1601.here hx rfl (pc0 := 141) (pc' := 196) rfl (hb hby at_141) rfl (feq hc141_1665).2 (by decide) (by decide) ?_
              exact k
            refine own_go (B := T1601.setTop (mkF m 199 (oA p0 p1 p2 p3 p4 n5 (.val (.int ok)) (.val (.ref rr_1601)) .unset .unset) [(.int 1), (.int n5)])) (fun t k => ?_) ?_
            · refine XS.iload X1601.here hx rfl (hb hby at_196) rfl ?_
              refine XS.iconst X1601.here hx rfl (hb hby at_198) ?_
              exact k
            have hc199_1717 : ¬ (n5 < (1 : Int32)) := (own_n1 hn5 hp9)
            refine own_go (B := T1601.setTop (mkF m 204 (oA p0 p1 p2 p3 p4 n5 (.val (.int ok)) (.val (.ref rr_1601)) .unset .unset) [(.int ok)])) (fun t k => ?_) ?_
            · refine XS.icmpNo X1601.here hx rfl (hb hby at_199) rfl (flt hc199_1717).1 ?_
              refine XS.iload X1601.here hx rfl (hb hby at_202) rfl ?_
              exact k
            by_cases hc204_1718 : ok = (0 : Int32)
            · refine own_go (B := T1601.setTop (mkF m 211 (oA p0 p1 p2 p3 p4 n5 (.val (.int ok)) (.val (.ref rr_1601)) .unset .unset) [])) (fun t k => ?_) ?_
              · refine XS.ifYes X1601.here hx rfl (pc0 := 204) (pc' := 211) rfl (hb hby at_204) rfl ((if0 _ _).trans (teq hc204_1718).1) (by decide) (by decide) ?_
                exact k
              refine own_go (B := T1601.setTop (mkF m 216 (oA p0 p1 p2 p3 p4 n5 (.val (.int ok)) (.val (.ref rr_1601)) (.val (.int 0)) .unset) [(.ref rr_1601)])) (fun t k => ?_) ?_
              · refine XS.iconst X1601.here hx rfl (hb hby at_211) ?_
                refine XS.istore X1601.here hx rfl (hb hby at_212) rfl (l' := (oA p0 p1 p2 p3 p4 n5 (.val (.int ok)) (.val (.ref rr_1601)) (.val (.int 0)) .unset)) rfl ?_
                refine XS.aload X1601.here hx rfl (hb hby at_214) rfl rfl ?_
                exact k
              obtain ⟨_, _, ⟨T1719, L1719, k1719, n1719⟩, -, X1719, ⟨Lc1719, hQ1719, l1719, y1719, z1719⟩, st1719⟩ := Jvm.LawKit.callS X1601 hx (y := yN25) hown (mvT hZ (own_w hw 29 rfl)) (mvT hZ (own_w hw 30 rfl)) (mvT hZ (own_w hw 31 rfl)) (mvT hZ (own_w hw 32 rfl)) (by decide) (backOf (W := 0) (ivU l Z a0 hw [] rr_1601 br_1601 kb_1601 (n5 <<< ((1 : Int32) &&& 31)) ys_1601 n5 cs nn (own_cl nn (fdrw p0) (fdrw p1) (fdrw p2) (fdrw p3)) T1601.heap n0 Z1601 U1601_0 U1601_2 U1601_1 U1601_3 Q1602 Q1606 Q1603 Q1604 Q1605 hn5 (by omega) (own_cll h4) (own_srU yp9) hcs (own_shu hn5 h4) (own_sh1 hn5 (by omega)) yl9) hZ (own_w hw 32 rfl) (own_w hw 31 rfl) (by decide) (by decide)) (g := (mkF m 216 (oA p0 p1 p2 p3 p4 n5 (.val (.int ok)) (.val (.ref rr_1601)) (.val (.int 0)) .unset) [(.ref rr_1601)])) rfl (by rw [hml]; rfl) (argsL := [(.ref rr_1601)]) (rest := []) (lenOf pd_18 rfl) rfl (own_W0 rfl) (hb hby at_216) (fun _ _ => ⟨rfl, rfl, (by decide : 4 + 0 ≤ _), (by decide : 384 + 0 ≤ _)⟩)
              dsimp only [Pt.U, Pt.locs, Pt.cells, Pt.slots] at X1719 l1719 y1719 z1719 st1719 hQ1719
              subst l1719 y1719 z1719
              obtain ⟨rfl, Nq1719, e1719⟩ := hQ1719
              have N1719 := Fr.app N1601 Nq1719
              refine own_go (B := T1719.setTop (mkF m 219 (oA p0 p1 p2 p3 p4 n5 (.val (.int ok)) (.val (.ref rr_1601)) (.val (.int 0)) .unset) [(.int (own_iv (own_cl nn (fdrw p0) (fdrw p1) (fdrw p2) (fdrw p3))))])) st1719 ?_
              refine own_go (B := T1719.setTop (mkF m 221 (oA p0 p1 p2 p3 p4 n5 (.val (.int ok)) (.val (.ref rr_1601)) (.val (.int 0)) .unset) [(.int 0), (.int (own_iv (own_cl nn (fdrw p0) (fdrw p1) (fdrw p2) (fdrw p3))))])) (fun t k => ?_) ?_
              · refine XS.iload X1719.here hx rfl (hb hby at_219) rfl ?_
                exact k
              have hc221_1720 : ((own_iv (own_cl nn (fdrw p0) (fdrw p1) (fdrw p2) (fdrw p3))) = (0 : Int32)) := (own_fin4 (own_cll h4) hp9 h4).trans (hok.symm.trans hc204_1718)
              refine own_go (B := T1719.setTop (mkF m 229 (oA p0 p1 p2 p3 p4 n5 (.val (.int ok)) (.val (.ref rr_1601)) (.val (.int 0)) .unset) [(.int 1)])) (fun t k => ?_) ?_
              · refine XS.icmpNo X1719.here hx rfl (hb hby at_221) rfl (teq hc221_1720).2 ?_
                refine XS.iconst X1719.here hx rfl (hb hby at_224) ?_
                refine XS.goto X1719.here hx rfl (pc0 := 225) (pc' := 229) rfl (hb hby at_225) (by decide) (by decide) ?_
                exact k
              obtain ⟨fs, hr, hrun, hended, hq⟩ := X1719.leaveW hS0 (by rw [e1719]; exact hk1601) (v := some (.int 1)) (fun h => by rw [Bd.returns] at h; cases h)
              refine ⟨_, _, ?_, hrun, hended, _, _, rfl, ?_, hq.1, hq.2.1, hq.2.2.1, hq.2.2.2.mono (by decide) (by decide)⟩
              · show Steps p.tables e below (T1719.setTop (mkF m 229 (oA p0 p1 p2 p3 p4 n5 (.val (.int ok)) (.val (.ref rr_1601)) (.val (.int 0)) .unset) [(.int 1)])) _
                exact retN X1719 hx (t := .boolean) Bd.returns (by simp) (hb hby at_229) hr
              · show Qrm0 Z p0 p1 p2 p3 p4 cs h0 n0 _ T1719.heap _
                rw [e1719]
                exact ⟨rfl, N1719⟩
            · refine own_go (B := T1601.setTop (mkF m 207 (oA p0 p1 p2 p3 p4 n5 (.val (.int ok)) (.val (.ref rr_1601)) .unset .unset) [])) (fun t k => ?_) ?_
              · refine XS.ifNo X1601.here hx rfl (hb hby at_204) rfl ((if0 _ _).trans (feq hc204_1718).1) ?_
                exact k
              refine own_go (B := T1601.setTop (mkF m 216 (oA p0 p1 p2 p3 p4 n5 (.val (.int ok)) (.val (.ref rr_1601)) (.val (.int 1)) .unset) [(.ref rr_1601)])) (fun t k => ?_) ?_
              · refine XS.iconst X1601.here hx rfl (hb hby at_207) ?_
                refine XS.goto X1601.here hx rfl (pc0 := 208) (pc' := 212) rfl (hb hby at_208) (by decide) (by decide) ?_
                refine XS.istore X1601.here hx rfl (hb hby at_212) rfl (l' := (oA p0 p1 p2 p3 p4 n5 (.val (.int ok)) (.val (.ref rr_1601)) (.val (.int 1)) .unset)) rfl ?_
                refine XS.aload X1601.here hx rfl (hb hby at_214) rfl rfl ?_
                exact k
              obtain ⟨_, _, ⟨T1721, L1721, k1721, n1721⟩, -, X1721, ⟨Lc1721, hQ1721, l1721, y1721, z1721⟩, st1721⟩ := Jvm.LawKit.callS X1601 hx (y := yN25) hown (mvT hZ (own_w hw 29 rfl)) (mvT hZ (own_w hw 30 rfl)) (mvT hZ (own_w hw 31 rfl)) (mvT hZ (own_w hw 32 rfl)) (by decide) (backOf (W := 0) (ivU l Z a0 hw [] rr_1601 br_1601 kb_1601 (n5 <<< ((1 : Int32) &&& 31)) ys_1601 n5 cs nn (own_cl nn (fdrw p0) (fdrw p1) (fdrw p2) (fdrw p3)) T1601.heap n0 Z1601 U1601_0 U1601_2 U1601_1 U1601_3 Q1602 Q1606 Q1603 Q1604 Q1605 hn5 (by omega) (own_cll h4) (own_srU yp9) hcs (own_shu hn5 h4) (own_sh1 hn5 (by omega)) yl9) hZ (own_w hw 32 rfl) (own_w hw 31 rfl) (by decide) (by decide)) (g := (mkF m 216 (oA p0 p1 p2 p3 p4 n5 (.val (.int ok)) (.val (.ref rr_1601)) (.val (.int 1)) .unset) [(.ref rr_1601)])) rfl (by rw [hml]; rfl) (argsL := [(.ref rr_1601)]) (rest := []) (lenOf pd_18 rfl) rfl (own_W0 rfl) (hb hby at_216) (fun _ _ => ⟨rfl, rfl, (by decide : 4 + 0 ≤ _), (by decide : 384 + 0 ≤ _)⟩)
              dsimp only [Pt.U, Pt.locs, Pt.cells, Pt.slots] at X1721 l1721 y1721 z1721 st1721 hQ1721
              subst l1721 y1721 z1721
              obtain ⟨rfl, Nq1721, e1721⟩ := hQ1721
              have N1721 := Fr.app N1601 Nq1721
              refine own_go (B := T1721.setTop (mkF m 219 (oA p0 p1 p2 p3 p4 n5 (.val (.int ok)) (.val (.ref rr_1601)) (.val (.int 1)) .unset) [(.int (own_iv (own_cl nn (fdrw p0) (fdrw p1) (fdrw p2) (fdrw p3))))])) st1721 ?_
              refine own_go (B := T1721.setTop (mkF m 221 (oA p0 p1 p2 p3 p4 n5 (.val (.int ok)) (.val (.ref rr_1601)) (.val (.int 1)) .unset) [(.int 1), (.int (own_iv (own_cl nn (fdrw p0) (fdrw p1) (fdrw p2) (fdrw p3))))])) (fun t k => ?_) ?_
              · refine XS.iload X1721.here hx rfl (hb hby at_219) rfl ?_
                exact k
              have hc221_1722 : ((own_iv (own_cl nn (fdrw p0) (fdrw p1) (fdrw p2) (fdrw p3))) = (1 : Int32)) := (own_fin4 (own_cll h4) hp9 h4).trans (own_iv4 (fun q => hc204_1718 (hok.trans q)))
              refine own_go (B := T1721.setTop (mkF m 229 (oA p0 p1 p2 p3 p4 n5 (.val (.int ok)) (.val (.ref rr_1601)) (.val (.int 1)) .unset) [(.int 1)])) (fun t k => ?_) ?_
              · refine XS.icmpNo X1721.here hx rfl (hb hby at_221) rfl (teq hc221_1722).2 ?_
                refine XS.iconst X1721.here hx rfl (hb hby at_224) ?_
                refine XS.goto X1721.here hx rfl (pc0 := 225) (pc' := 229) rfl (hb hby at_225) (by decide) (by decide) ?_
                exact k
              obtain ⟨fs, hr, hrun, hended, hq⟩ := X1721.leaveW hS0 (by rw [e1721]; exact hk1601) (v := some (.int 1)) (fun h => by rw [Bd.returns] at h; cases h)
              refine ⟨_, _, ?_, hrun, hended, _, _, rfl, ?_, hq.1, hq.2.1, hq.2.2.1, hq.2.2.2.mono (by decide) (by decide)⟩
              · show Steps p.tables e below (T1721.setTop (mkF m 229 (oA p0 p1 p2 p3 p4 n5 (.val (.int ok)) (.val (.ref rr_1601)) (.val (.int 1)) .unset) [(.int 1)])) _
                exact retN X1721 hx (t := .boolean) Bd.returns (by simp) (hb hby at_229) hr
              · show Qrm0 Z p0 p1 p2 p3 p4 cs h0 n0 _ T1721.heap _
                rw [e1721]
                exact ⟨rfl, N1721⟩
    rcases own_rem5 p4 with hk1723 | hk1723 | hk1723 | hk1723 | hk1723
    · rw [hk1723]
      refine own_go (B := T1540.setTop (mkF m 123 (oA p0 p1 p2 p3 p4 (0 : Int32) (.val (.int 1)) .unset .unset .unset) [])) (fun t k => ?_) ?_
      · refine XS.iload X1540.here hx rfl (hb hby at_60) rfl ?_
        refine XS.iconst X1540.here hx rfl (hb hby at_62) ?_
        refine XS.icmpYes X1540.here hx rfl (pc0 := 63) (pc' := 74) rfl (hb hby at_63) rfl (tlt (by decide : ((0 : Int32) < (1 : Int32)))).1 (by decide) (by decide) ?_
        refine XS.iload X1540.here hx rfl (hb hby at_74) rfl ?_
        refine XS.iconst X1540.here hx rfl (hb hby at_76) ?_
        refine XS.icmpYes X1540.here hx rfl (pc0 := 77) (pc' := 88) rfl (hb hby at_77) rfl (tlt (by decide : ((0 : Int32) < (2 : Int32)))).1 (by decide) (by decide) ?_
        refine XS.iload X1540.here hx rfl (hb hby at_88) rfl ?_
        refine XS.iconst X1540.here hx rfl (hb hby at_90) ?_
        refine XS.icmpYes X1540.here hx rfl (pc0 := 91) (pc' := 102) rfl (hb hby at_91) rfl (tlt (by decide : ((0 : Int32) < (3 : Int32)))).1 (by decide) (by decide) ?_
        refine XS.iload X1540.here hx rfl (hb hby at_102) rfl ?_
        refine XS.iconst X1540.here hx rfl (hb hby at_104) ?_
        refine XS.icmpYes X1540.here hx rfl (pc0 := 105) (pc' := 116) rfl (hb hby at_105) rfl (tlt (by decide : ((0 : Int32) < (4 : Int32)))).1 (by decide) (by decide) ?_
        refine XS.iconst X1540.here hx rfl (hb hby at_116) ?_
        refine XS.goto X1540.here hx rfl (pc0 := 117) (pc' := 121) rfl (hb hby at_117) (by decide) (by decide) ?_
        refine XS.istore X1540.here hx rfl (hb hby at_121) rfl (l' := (oA p0 p1 p2 p3 p4 (0 : Int32) (.val (.int 1)) .unset .unset .unset)) rfl ?_
        exact k
      exact join1541 (0 : Int32) (1 : Int32) (0) T1540 _ (ot0) (by decide) (by rw [own_cl_0]; exact own_ok1 (fun _ q => absurd q List.not_mem_nil)) X1540 e1540 N1540
    · rw [hk1723]
      refine own_go (B := T1540.setTop (mkF m 68 (oA p0 p1 p2 p3 p4 (1 : Int32) .unset .unset .unset .unset) [(.int (fdrw p0))])) (fun t k => ?_) ?_
      · refine XS.iload X1540.here hx rfl (hb hby at_60) rfl ?_
        refine XS.iconst X1540.here hx rfl (hb hby at_62) ?_
        refine XS.icmpNo X1540.here hx rfl (hb hby at_63) rfl (flt Int32.lt_irrefl).1 ?_
        refine XS.iload X1540.here hx rfl (hb hby at_66) rfl ?_
        exact k
      obtain ⟨_, _, ⟨T1729, L1729, k1729, n1729⟩, -, X1729, ⟨Lc1729, hQ1729, l1729, y1729, z1729⟩, st1729⟩ := Jvm.LawKit.callS X1540 hx (y := yN23) hown (mvT hZ (own_w hw 38 rfl)) (mvT hZ (own_w hw 39 rfl)) (mvT hZ (own_w hw 2 rfl)) (mvT hZ (own_w hw 40 rfl)) (by decide) (backOf (W := 0) (alw l Z a0 hw [] (fdrw p0) h0 n0 Z0 ) hZ (own_w hw 40 rfl) (own_w hw 2 rfl) (by decide) (by decide)) (g := (mkF m 68 (oA p0 p1 p2 p3 p4 (1 : Int32) .unset .unset .unset .unset) [(.int (fdrw p0))])) rfl (by rw [hml]; rfl) (argsL := [(.int (fdrw p0))]) (rest := []) (lenOf pd_17 rfl) rfl (own_W0 rfl) (hb hby at_68) (fun _ _ => ⟨rfl, e1540, (by decide : 0 + 0 ≤ _), (by decide : 0 + 0 ≤ _)⟩)
      dsimp only [Pt.U, Pt.locs, Pt.cells, Pt.slots] at X1729 l1729 y1729 z1729 st1729 hQ1729
      subst l1729 y1729 z1729
      obtain ⟨rfl, Nq1729, e1729⟩ := hQ1729
      have N1729 := Fr.app N1540 Nq1729
      refine own_go (B := T1729.setTop (mkF m 71 (oA p0 p1 p2 p3 p4 (1 : Int32) .unset .unset .unset .unset) [(.int (own_ia (fdrw p0)))])) st1729 ?_
      by_cases hc71_1730 : (own_ia (fdrw p0)) = (0 : Int32)
      · refine own_go (B := T1729.setTop (mkF m 120 (oA p0 p1 p2 p3 p4 (1 : Int32) .unset .unset .unset .unset) [])) (fun t k => ?_) ?_
        · refine XS.ifYes X1729.here hx rfl (pc0 := 71) (pc' := 120) rfl (hb hby at_71) rfl ((if0 _ _).trans (teq hc71_1730).1) (by decide) (by decide) ?_
          exact k
        refine own_go (B := T1729.setTop (mkF m 123 (oA p0 p1 p2 p3 p4 (1 : Int32) (.val (.int 0)) .unset .unset .unset) [])) (fun t k => ?_) ?_
        · refine XS.iconst X1729.here hx rfl (hb hby at_120) ?_
          refine XS.istore X1729.here hx rfl (hb hby at_121) rfl (l' := (oA p0 p1 p2 p3 p4 (1 : Int32) (.val (.int 0)) .unset .unset .unset)) rfl ?_
          exact k
        exact join1541 (1 : Int32) (0 : Int32) (1) T1729 _ (ot1) (by decide) (by rw [own_cl_1]; exact own_ok0 (by simp) hc71_1730) X1729 e1729 N1729
      · refine own_go (B := T1729.setTop (mkF m 74 (oA p0 p1 p2 p3 p4 (1 : Int32) .unset .unset .unset .unset) [])) (fun t k => ?_) ?_
        · refine XS.ifNo X1729.here hx rfl (hb hby at_71) rfl ((if0 _ _).trans (feq hc71_1730).1) ?_
          exact k
        refine own_go (B := T1729.setTop (mkF m 123 (oA p0 p1 p2 p3 p4 (1 : Int32) (.val (.int 1)) .unset .unset .unset) [])) (fun t k => ?_) ?_
        · refine XS.iload X1729.here hx rfl (hb hby at_74) rfl ?_
          refine XS.iconst X1729.here hx rfl (hb hby at_76) ?_
          refine XS.icmpYes X1729.here hx rfl (pc0 := 77) (pc' := 88) rfl (hb hby at_77) rfl (tlt (by decide : ((1 : Int32) < (2 : Int32)))).1 (by decide) (by decide) ?_
          refine XS.iload X1729.here hx rfl (hb hby at_88) rfl ?_
          refine XS.iconst X1729.here hx rfl (hb hby at_90) ?_
          refine XS.icmpYes X1729.here hx rfl (pc0 := 91) (pc' := 102) rfl (hb hby at_91) rfl (tlt (by decide : ((1 : Int32) < (3 : Int32)))).1 (by decide) (by decide) ?_
          refine XS.iload X1729.here hx rfl (hb hby at_102) rfl ?_
          refine XS.iconst X1729.here hx rfl (hb hby at_104) ?_
          refine XS.icmpYes X1729.here hx rfl (pc0 := 105) (pc' := 116) rfl (hb hby at_105) rfl (tlt (by decide : ((1 : Int32) < (4 : Int32)))).1 (by decide) (by decide) ?_
          refine XS.iconst X1729.here hx rfl (hb hby at_116) ?_
          refine XS.goto X1729.here hx rfl (pc0 := 117) (pc' := 121) rfl (hb hby at_117) (by decide) (by decide) ?_
          refine XS.istore X1729.here hx rfl (hb hby at_121) rfl (l' := (oA p0 p1 p2 p3 p4 (1 : Int32) (.val (.int 1)) .unset .unset .unset)) rfl ?_
          exact k
        exact join1541 (1 : Int32) (1 : Int32) (1) T1729 _ (ot1) (by decide) (by rw [own_cl_1]; exact own_ok1 (List.forall_mem_cons.mpr ⟨hc71_1730, (fun _ q => absurd q List.not_mem_nil)⟩)) X1729 e1729 N1729
    · rw [hk1723]
      refine own_go (B := T1540.setTop (mkF m 68 (oA p0 p1 p2 p3 p4 (2 : Int32) .unset .unset .unset .unset) [(.int (fdrw p0))])) (fun t k => ?_) ?_
      · refine XS.iload X1540.here hx rfl (hb hby at_60) rfl ?_
        refine XS.iconst X1540.here hx rfl (hb hby at_62) ?_
        refine XS.icmpNo X1540.here hx rfl (hb hby at_63) rfl (flt (by decide : ¬ ((2 : Int32) < (1 : Int32)))).1 ?_
        refine XS.iload X1540.here hx rfl (hb hby at_66) rfl ?_
        exact k
      obtain ⟨_, _, ⟨T1735, L1735, k1735, n1735⟩, -, X1735, ⟨Lc1735, hQ1735, l1735, y1735, z1735⟩, st1735⟩ := Jvm.LawKit.callS X1540 hx (y := yN23) hown (mvT hZ (own_w hw 38 rfl)) (mvT hZ (own_w hw 39 rfl)) (mvT hZ (own_w hw 2 rfl)) (mvT hZ (own_w hw 40 rfl)) (by decide) (backOf (W := 0) (alw l Z a0 hw [] (fdrw p0) h0 n0 Z0 ) hZ (own_w hw 40 rfl) (own_w hw 2 rfl) (by decide) (by decide)) (g := (mkF m 68 (oA p0 p1 p2 p3 p4 (2 : Int32) .unset .unset .unset .unset) [(.int (fdrw p0))])) rfl (by rw [hml]; rfl) (argsL := [(.int (fdrw p0))]) (rest := []) (lenOf pd_17 rfl) rfl (own_W0 rfl) (hb hby at_68) (fun _ _ => ⟨rfl, e1540, (by decide : 0 + 0 ≤ _), (by decide : 0 + 0 ≤ _)⟩)
      dsimp only [Pt.U, Pt.locs, Pt.cells, Pt.slots] at X1735 l1735 y1735 z1735 st1735 hQ1735
      subst l1735 y1735 z1735
      obtain ⟨rfl, Nq1735, e1735⟩ := hQ1735
      have N1735 := Fr.app N1540 Nq1735
      refine own_go (B := T1735.setTop (mkF m 71 (oA p0 p1 p2 p3 p4 (2 : Int32) .unset .unset .unset .unset) [(.int (own_ia (fdrw p0)))])) st1735 ?_
      by_cases hc71_1736 : (own_ia (fdrw p0)) = (0 : Int32)
      · refine own_go (B := T1735.setTop (mkF m 120 (oA p0 p1 p2 p3 p4 (2 : Int32) .unset .unset .unset .unset) [])) (fun t k => ?_) ?_
        · refine XS.ifYes X1735.here hx rfl (pc0 := 71) (pc' := 120) rfl (hb hby at_71) rfl ((if0 _ _).trans (teq hc71_1736).1) (by decide) (by decide) ?_
          exact k
        refine own_go (B := T1735.setTop (mkF m 123 (oA p0 p1 p2 p3 p4 (2 : Int32) (.val (.int 0)) .unset .unset .unset) [])) (fun t k => ?_) ?_
        · refine XS.iconst X1735.here hx rfl (hb hby at_120) ?_
          refine XS.istore X1735.here hx rfl (hb hby at_121) rfl (l' := (oA p0 p1 p2 p3 p4 (2 : Int32) (.val (.int 0)) .unset .unset .unset)) rfl ?_
          exact k
        exact join1541 (2 : Int32) (0 : Int32) (2) T1735 _ (ot2) (by decide) (by rw [own_cl_2]; exact own_ok0 (by simp) hc71_1736) X1735 e1735 N1735
      · refine own_go (B := T1735.setTop (mkF m 74 (oA p0 p1 p2 p3 p4 (2 : Int32) .unset .unset .unset .unset) [])) (fun t k => ?_) ?_
        · refine XS.ifNo X1735.here hx rfl (hb hby at_71) rfl ((if0 _ _).trans (feq hc71_1736).1) ?_
          exact k
        refine own_go (B := T1735.setTop (mkF m 82 (oA p0 p1 p2 p3 p4 (2 : Int32) .unset .unset .unset .unset) [(.int (fdrw p1))])) (fun t k => ?_) ?_
        · refine XS.iload X1735.here hx rfl (hb hby at_74) rfl ?_
          refine XS.iconst X1735.here hx rfl (hb hby at_76) ?_
          refine XS.icmpNo X1735.here hx rfl (hb hby at_77) rfl (flt Int32.lt_irrefl).1 ?_
          refine XS.iload X1735.here hx rfl (hb hby at_80) rfl ?_
          exact k
        obtain ⟨_, _, ⟨T1738, L1738, k1738, n1738⟩, -, X1738, ⟨Lc1738, hQ1738, l1738, y1738, z1738⟩, st1738⟩ := Jvm.LawKit.callS X1735 hx (y := yN23) hown (mvT hZ (own_w hw 38 rfl)) (mvT hZ (own_w hw 39 rfl)) (mvT hZ (own_w hw 2 rfl)) (mvT hZ (own_w hw 40 rfl)) (by decide) (backOf (W := 0) (alw l Z a0 hw [] (fdrw p1) h0 n0 Z0 ) hZ (own_w hw 40 rfl) (own_w hw 2 rfl) (by decide) (by decide)) (g := (mkF m 82 (oA p0 p1 p2 p3 p4 (2 : Int32) .unset .unset .unset .unset) [(.int (fdrw p1))])) rfl (by rw [hml]; rfl) (argsL := [(.int (fdrw p1))]) (rest := []) (lenOf pd_17 rfl) rfl (own_W0 rfl) (hb hby at_82) (fun _ _ => ⟨rfl, e1735, (by decide : 0 + 0 ≤ _), (by decide : 0 + 0 ≤ _)⟩)
        dsimp only [Pt.U, Pt.locs, Pt.cells, Pt.slots] at X1738 l1738 y1738 z1738 st1738 hQ1738
        subst l1738 y1738 z1738
        obtain ⟨rfl, Nq1738, e1738⟩ := hQ1738
        have N1738 := Fr.app N1735 Nq1738
        refine own_go (B := T1738.setTop (mkF m 85 (oA p0 p1 p2 p3 p4 (2 : Int32) .unset .unset .unset .unset) [(.int (own_ia (fdrw p1)))])) st1738 ?_
        by_cases hc85_1739 : (own_ia (fdrw p1)) = (0 : Int32)
        · refine own_go (B := T1738.setTop (mkF m 120 (oA p0 p1 p2 p3 p4 (2 : Int32) .unset .unset .unset .unset) [])) (fun t k => ?_) ?_
          · refine XS.ifYes X1738.here hx rfl (pc0 := 85) (pc' := 120) rfl (hb hby at_85) rfl ((if0 _ _).trans (teq hc85_1739).1) (by decide) (by decide) ?_
            exact k
          refine own_go (B := T1738.setTop (mkF m 123 (oA p0 p1 p2 p3 p4 (2 : Int32) (.val (.int 0)) .unset .unset .unset) [])) (fun t k => ?_) ?_
          · refine XS.iconst X1738.here hx rfl (hb hby at_120) ?_
            refine XS.istore X1738.here hx rfl (hb hby at_121) rfl (l' := (oA p0 p1 p2 p3 p4 (2 : Int32) (.val (.int 0)) .unset .unset .unset)) rfl ?_
            exact k
          exact join1541 (2 : Int32) (0 : Int32) (2) T1738 _ (ot2) (by decide) (by rw [own_cl_2]; exact own_ok0 (by simp) hc85_1739) X1738 e1738 N1738
        · refine own_go (B := T1738.setTop (mkF m 88 (oA p0 p1 p2 p3 p4 (2 : Int32) .unset .unset .unset .unset) [])) (fun t k => ?_) ?_
          · refine XS.ifNo X1738.here hx rfl (hb hby at_85) rfl ((if0 _ _).trans (feq hc85_1739).1) ?_
            exact k
          refine own_go (B := T1738.setTop (mkF m 123 (oA p0 p1 p2 p3 p4 (2 : Int32) (.val (.int 1)) .unset .unset .unset) [])) (fun t k => ?_) ?_
          · refine XS.iload X1738.here hx rfl (hb hby at_88) rfl ?_
            refine XS.iconst X1738.here hx rfl (hb hby at_90) ?_
            refine XS.icmpYes X1738.here hx rfl (pc0 := 91) (pc' := 102) rfl (hb hby at_91) rfl (tlt (by decide : ((2 : Int32) < (3 : Int32)))).1 (by decide) (by decide) ?_
            refine XS.iload X1738.here hx rfl (hb hby at_102) rfl ?_
            refine XS.iconst X1738.here hx rfl (hb hby at_104) ?_
            refine XS.icmpYes X1738.here hx rfl (pc0 := 105) (pc' := 116) rfl (hb hby at_105) rfl (tlt (by decide : ((2 : Int32) < (4 : Int32)))).1 (by decide) (by decide) ?_
            refine XS.iconst X1738.here hx rfl (hb hby at_116) ?_
            refine XS.goto X1738.here hx rfl (pc0 := 117) (pc' := 121) rfl (hb hby at_117) (by decide) (by decide) ?_
            refine XS.istore X1738.here hx rfl (hb hby at_121) rfl (l' := (oA p0 p1 p2 p3 p4 (2 : Int32) (.val (.int 1)) .unset .unset .unset)) rfl ?_
            exact k
          exact join1541 (2 : Int32) (1 : Int32) (2) T1738 _ (ot2) (by decide) (by rw [own_cl_2]; exact own_ok1 (List.forall_mem_cons.mpr ⟨hc71_1736, (List.forall_mem_cons.mpr ⟨hc85_1739, (fun _ q => absurd q List.not_mem_nil)⟩)⟩)) X1738 e1738 N1738
    · rw [hk1723]
      refine own_go (B := T1540.setTop (mkF m 68 (oA p0 p1 p2 p3 p4 (3 : Int32) .unset .unset .unset .unset) [(.int (fdrw p0))])) (fun t k => ?_) ?_
      · refine XS.iload X1540.here hx rfl (hb hby at_60) rfl ?_
        refine XS.iconst X1540.here hx rfl (hb hby at_62) ?_
        refine XS.icmpNo X1540.here hx rfl (hb hby at_63) rfl (flt (by decide : ¬ ((3 : Int32) < (1 : Int32)))).1 ?_
        refine XS.iload X1540.here hx rfl (hb hby at_66) rfl ?_
        exact k
      obtain ⟨_, _, ⟨T1743, L1743, k1743, n1743⟩, -, X1743, ⟨Lc1743, hQ1743, l1743, y1743, z1743⟩, st1743⟩ := Jvm.LawKit.callS X1540 hx (y := yN23) hown (mvT hZ (own_w hw 38 rfl)) (mvT hZ (own_w hw 39 rfl)) (mvT hZ (own_w hw 2 rfl)) (mvT hZ (own_w hw 40 rfl)) (by decide) (backOf (W := 0) (alw l Z a0 hw [] (fdrw p0) h0 n0 Z0 ) hZ (own_w hw 40 rfl) (own_w hw 2 rfl) (by decide) (by decide)) (g := (mkF m 68 (oA p0 p1 p2 p3 p4 (3 : Int32) .unset .unset .unset .unset) [(.int (fdrw p0))])) rfl (by rw [hml]; rfl) (argsL := [(.int (fdrw p0))]) (rest := []) (lenOf pd_17 rfl) rfl (own_W0 rfl) (hb hby at_68) (fun _ _ => ⟨rfl, e1540, (by decide : 0 + 0 ≤ _), (by decide : 0 + 0 ≤ _)⟩)
      dsimp only [Pt.U, Pt.locs, Pt.cells, Pt.slots] at X1743 l1743 y1743 z1743 st1743 hQ1743
      subst l1743 y1743 z1743
      obtain ⟨rfl, Nq1743, e1743⟩ := hQ1743
      have N1743 := Fr.app N1540 Nq1743
      refine own_go (B := T1743.setTop (mkF m 71 (oA p0 p1 p2 p3 p4 (3 : Int32) .unset .unset .unset .unset) [(.int (own_ia (fdrw p0)))])) st1743 ?_
      by_cases hc71_1744 : (own_ia (fdrw p0)) = (0 : Int32)
      · refine own_go (B := T1743.setTop (mkF m 120 (oA p0 p1 p2 p3 p4 (3 : Int32) .unset .unset .unset .unset) [])) (fun t k => ?_) ?_
        · refine XS.ifYes X1743.here hx rfl (pc0 := 71) (pc' := 120) rfl (hb hby at_71) rfl ((if0 _ _).trans (teq hc71_1744).1) (by decide) (by decide) ?_
          exact k
        refine own_go (B := T1743.setTop (mkF m 123 (oA p0 p1 p2 p3 p4 (3 : Int32) (.val (.int 0)) .unset .unset .unset) [])) (fun t k => ?_) ?_
        · refine XS.iconst X1743.here hx rfl (hb hby at_120) ?_
          refine XS.istore X1743.here hx rfl (hb hby at_121) rfl (l' := (oA p0 p1 p2 p3 p4 (3 : Int32) (.val (.int 0)) .unset .unset .unset)) rfl ?_
          exact k
        exact join1541 (3 : Int32) (0 : Int32) (3) T1743 _ (ot3) (by decide) (by rw [own_cl_3]; exact own_ok0 (by simp) hc71_1744) X1743 e1743 N1743
      · refine own_go (B := T1743.setTop (mkF m 74 (oA p0 p1 p2 p3 p4 (3 : Int32) .unset .unset .unset .unset) [])) (fun t k => ?_) ?_
        · refine XS.ifNo X1743.here hx rfl (hb hby at_71) rfl ((if0 _ _).trans (feq hc71_1744).1) ?_
          exact k
        refine own_go (B := T1743.setTop (mkF m 82 (oA p0 p1 p2 p3 p4 (3 : Int32) .unset .unset .unset .unset) [(.int (fdrw p1))])) (fun t k => ?_) ?_
        · refine XS.iload X1743.here hx rfl (hb hby at_74) rfl ?_
          refine XS.iconst X1743.here hx rfl (hb hby at_76) ?_
          refine XS.icmpNo X1743.here hx rfl (hb hby at_77) rfl (flt (by decide : ¬ ((3 : Int32) < (2 : Int32)))).1 ?_
          refine XS.iload X1743.here hx rfl (hb hby at_80) rfl ?_
          exact k
        obtain ⟨_, _, ⟨T1746, L1746, k1746, n1746⟩, -, X1746, ⟨Lc1746, hQ1746, l1746, y1746, z1746⟩, st1746⟩ := Jvm.LawKit.callS X1743 hx (y := yN23) hown (mvT hZ (own_w hw 38 rfl)) (mvT hZ (own_w hw 39 rfl)) (mvT hZ (own_w hw 2 rfl)) (mvT hZ (own_w hw 40 rfl)) (by decide) (backOf (W := 0) (alw l Z a0 hw [] (fdrw p1) h0 n0 Z0 ) hZ (own_w hw 40 rfl) (own_w hw 2 rfl) (by decide) (by decide)) (g := (mkF m 82 (oA p0 p1 p2 p3 p4 (3 : Int32) .unset .unset .unset .unset) [(.int (fdrw p1))])) rfl (by rw [hml]; rfl) (argsL := [(.int (fdrw p1))]) (rest := []) (lenOf pd_17 rfl) rfl (own_W0 rfl) (hb hby at_82) (fun _ _ => ⟨rfl, e1743, (by decide : 0 + 0 ≤ _), (by decide : 0 + 0 ≤ _)⟩)
        dsimp only [Pt.U, Pt.locs, Pt.cells, Pt.slots] at X1746 l1746 y1746 z1746 st1746 hQ1746
        subst l1746 y1746 z1746
        obtain ⟨rfl, Nq1746, e1746⟩ := hQ1746
        have N1746 := Fr.app N1743 Nq1746
        refine own_go (B := T1746.setTop (mkF m 85 (oA p0 p1 p2 p3 p4 (3 : Int32) .unset .unset .unset .unset) [(.int (own_ia (fdrw p1)))])) st1746 ?_
        by_cases hc85_1747 : (own_ia (fdrw p1)) = (0 : Int32)
        · refine own_go (B := T1746.setTop (mkF m 120 (oA p0 p1 p2 p3 p4 (3 : Int32) .unset .unset .unset .unset) [])) (fun t k => ?_) ?_
          · refine XS.ifYes X1746.here hx rfl (pc0 := 85) (pc' := 120) rfl (hb hby at_85) rfl ((if0 _ _).trans (teq hc85_1747).1) (by decide) (by decide) ?_
            exact k
          refine own_go (B := T1746.setTop (mkF m 123 (oA p0 p1 p2 p3 p4 (3 : Int32) (.val (.int 0)) .unset .unset .unset) [])) (fun t k => ?_) ?_
          · refine XS.iconst X1746.here hx rfl (hb hby at_120) ?_
            refine XS.istore X1746.here hx rfl (hb hby at_121) rfl (l' := (oA p0 p1 p2 p3 p4 (3 : Int32) (.val (.int 0)) .unset .unset .unset)) rfl ?_
            exact k
          exact join1541 (3 : Int32) (0 : Int32) (3) T1746 _ (ot3) (by decide) (by rw [own_cl_3]; exact own_ok0 (by simp) hc85_1747) X1746 e1746 N1746
        · refine own_go (B := T1746.setTop (mkF m 88 (oA p0 p1 p2 p3 p4 (3 : Int32) .unset .unset .unset .unset) [])) (fun t k => ?_) ?_
          · refine XS.ifNo X1746.here hx rfl (hb hby at_85) rfl ((if0 _ _).trans (feq hc85_1747).1) ?_
            exact k
          refine own_go (B := T1746.setTop (mkF m 96 (oA p0 p1 p2 p3 p4 (3 : Int32) .unset .unset .unset .unset) [(.int (fdrw p2))])) (fun t k => ?_) ?_
          · refine XS.iload X1746.here hx rfl (hb hby at_88) rfl ?_
            refine XS.iconst X1746.here hx rfl (hb hby at_90) ?_
            refine XS.icmpNo X1746.here hx rfl (hb hby at_91) rfl (flt Int32.lt_irrefl).1 ?_
            refine XS.iload X1746.here hx rfl (hb hby at_94) rfl ?_
            exact k
          obtain ⟨_, _, ⟨T1749, L1749, k1749, n1749⟩, -, X1749, ⟨Lc1749, hQ1749, l1749, y1749, z1749⟩, st1749⟩ := Jvm.LawKit.callS X1746 hx (y := yN23) hown (mvT hZ (own_w hw 38 rfl)) (mvT hZ (own_w hw 39 rfl)) (mvT hZ (own_w hw 2 rfl)) (mvT hZ (own_w hw 40 rfl)) (by decide) (backOf (W := 0) (alw l Z a0 hw [] (fdrw p2) h0 n0 Z0 ) hZ (own_w hw 40 rfl) (own_w hw 2 rfl) (by decide) (by decide)) (g := (mkF m 96 (oA p0 p1 p2 p3 p4 (3 : Int32) .unset .unset .unset .unset) [(.int (fdrw p2))])) rfl (by rw [hml]; rfl) (argsL := [(.int (fdrw p2))]) (rest := []) (lenOf pd_17 rfl) rfl (own_W0 rfl) (hb hby at_96) (fun _ _ => ⟨rfl, e1746, (by decide : 0 + 0 ≤ _), (by decide : 0 + 0 ≤ _)⟩)
          dsimp only [Pt.U, Pt.locs, Pt.cells, Pt.slots] at X1749 l1749 y1749 z1749 st1749 hQ1749
          subst l1749 y1749 z1749
          obtain ⟨rfl, Nq1749, e1749⟩ := hQ1749
          have N1749 := Fr.app N1746 Nq1749
          refine own_go (B := T1749.setTop (mkF m 99 (oA p0 p1 p2 p3 p4 (3 : Int32) .unset .unset .unset .unset) [(.int (own_ia (fdrw p2)))])) st1749 ?_
          by_cases hc99_1750 : (own_ia (fdrw p2)) = (0 : Int32)
          · refine own_go (B := T1749.setTop (mkF m 120 (oA p0 p1 p2 p3 p4 (3 : Int32) .unset .unset .unset .unset) [])) (fun t k => ?_) ?_
            · refine XS.ifYes X1749.here hx rfl (pc0 := 99) (pc' := 120) rfl (hb hby at_99) rfl ((if0 _ _).trans (teq hc99_1750).1) (by decide) (by decide) ?_
              exact k
            refine own_go (B := T1749.setTop (mkF m 123 (oA p0 p1 p2 p3 p4 (3 : Int32) (.val (.int 0)) .unset .unset .unset) [])) (fun t k => ?_) ?_
            · refine XS.iconst X1749.here hx rfl (hb hby at_120) ?_
              refine XS.istore X1749.here hx rfl (hb hby at_121) rfl (l' := (oA p0 p1 p2 p3 p4 (3 : Int32) (.val (.int 0)) .unset .unset .unset)) rfl ?_
              exact k
            exact join1541 (3 : Int32) (0 : Int32) (3) T1749 _ (ot3) (by decide) (by rw [own_cl_3]; exact own_ok0 (by simp) hc99_1750) X1749 e1749 N1749
          · refine own_go (B := T1749.setTop (mkF m 102 (oA p0 p1 p2 p3 p4 (3 : Int32) .unset .unset .unset .unset) [])) (fun t k => ?_) ?_
            · refine XS.ifNo X1749.here hx rfl (hb hby at_99) rfl ((if0 _ _).trans (feq hc99_1750).1) ?_
              exact k
            refine own_go (B := T1749.setTop (mkF m 123 (oA p0 p1 p2 p3 p4 (3 : Int32) (.val (.int 1)) .unset .unset .unset) [])) (fun t k => ?_) ?_
            · refine XS.iload X1749.here hx rfl (hb hby at_102) rfl ?_
              refine XS.iconst X1749.here hx rfl (hb hby at_104) ?_
              refine XS.icmpYes X1749.here hx rfl (pc0 := 105) (pc' := 116) rfl (hb hby at_105) rfl (tlt (by decide : ((3 : Int32) < (4 : Int32)))).1 (by decide) (by decide) ?_
              refine XS.iconst X1749.here hx rfl (hb hby at_116) ?_
              refine XS.goto X1749.here hx rfl (pc0 := 117) (pc' := 121) rfl (hb hby at_117) (by decide) (by decide) ?_
              refine XS.istore X1749.here hx rfl (hb hby at_121) rfl (l' := (oA p0 p1 p2 p3 p4 (3 : Int32) (.val (.int 1)) .unset .unset .unset)) rfl ?_
              exact k
            exact join1541 (3 : Int32) (1 : Int32) (3) T1749 _ (ot3) (by decide) (by rw [own_cl_3]; exact own_ok1 (List.forall_mem_cons.mpr ⟨hc71_1744, (List.forall_mem_cons.mpr ⟨hc85_1747, (List.forall_mem_cons.mpr ⟨hc99_1750, (fun _ q => absurd q List.not_mem_nil)⟩)⟩)⟩)) X1749 e1749 N1749
    · rw [hk1723]
      refine own_go (B := T1540.setTop (mkF m 68 (oA p0 p1 p2 p3 p4 (4 : Int32) .unset .unset .unset .unset) [(.int (fdrw p0))])) (fun t k => ?_) ?_
      · refine XS.iload X1540.here hx rfl (hb hby at_60) rfl ?_
        refine XS.iconst X1540.here hx rfl (hb hby at_62) ?_
        refine XS.icmpNo X1540.here hx rfl (hb hby at_63) rfl (flt (by decide : ¬ ((4 : Int32) < (1 : Int32)))).1 ?_
        refine XS.iload X1540.here hx rfl (hb hby at_66) rfl ?_
        exact k
      obtain ⟨_, _, ⟨T1753, L1753, k1753, n1753⟩, -, X1753, ⟨Lc1753, hQ1753, l1753, y1753, z1753⟩, st1753⟩ := Jvm.LawKit.callS X1540 hx (y := yN23) hown (mvT hZ (own_w hw 38 rfl)) (mvT hZ (own_w hw 39 rfl)) (mvT hZ (own_w hw 2 rfl)) (mvT hZ (own_w hw 40 rfl)) (by decide) (backOf (W := 0) (alw l Z a0 hw [] (fdrw p0) h0 n0 Z0 ) hZ (own_w hw 40 rfl) (own_w hw 2 rfl) (by decide) (by decide)) (g := (mkF m 68 (oA p0 p1 p2 p3 p4 (4 : Int32) .unset .unset .unset .unset) [(.int (fdrw p0))])) rfl (by rw [hml]; rfl) (argsL := [(.int (fdrw p0))]) (rest := []) (lenOf pd_17 rfl) rfl (own_W0 rfl) (hb hby at_68) (fun _ _ => ⟨rfl, e1540, (by decide : 0 + 0 ≤ _), (by decide : 0 + 0 ≤ _)⟩)
      dsimp only [Pt.U, Pt.locs, Pt.cells, Pt.slots] at X1753 l1753 y1753 z1753 st1753 hQ1753
      subst l1753 y1753 z1753
      obtain ⟨rfl, Nq1753, e1753⟩ := hQ1753
      have N1753 := Fr.app N1540 Nq1753
      refine own_go (B := T1753.setTop (mkF m 71 (oA p0 p1 p2 p3 p4 (4 : Int32) .unset .unset .unset .unset) [(.int (own_ia (fdrw p0)))])) st1753 ?_
      by_cases hc71_1754 : (own_ia (fdrw p0)) = (0 : Int32)
      · refine own_go (B := T1753.setTop (mkF m 120 (oA p0 p1 p2 p3 p4 (4 : Int32) .unset .unset .unset .unset) [])) (fun t k => ?_) ?_
        · refine XS.ifYes X1753.here hx rfl (pc0 := 71) (pc' := 120) rfl (hb hby at_71) rfl ((if0 _ _).trans (teq hc71_1754).1) (by decide) (by decide) ?_
          exact k
        refine own_go (B := T1753.setTop (mkF m 123 (oA p0 p1 p2 p3 p4 (4 : Int32) (.val (.int 0)) .unset .unset .unset) [])) (fun t k => ?_) ?_
        · refine XS.iconst X1753.here hx rfl (hb hby at_120) ?_
          refine XS.istore X1753.here hx rfl (hb hby at_121) rfl (l' := (oA p0 p1 p2 p3 p4 (4 : Int32) (.val (.int 0)) .unset .unset .unset)) rfl ?_
          exact k
        exact join1541 (4 : Int32) (0 : Int32) (4) T1753 _ (ot4) (by decide) (by rw [own_cl_4]; exact own_ok0 (by simp) hc71_1754) X1753 e1753 N1753
      · refine own_go (B := T1753.setTop (mkF m 74 (oA p0 p1 p2 p3 p4 (4 : Int32) .unset .unset .unset .unset) [])) (fun t k => ?_) ?_
        · refine XS.ifNo X1753.here hx rfl (hb hby at_71) rfl ((if0 _ _).trans (feq hc71_1754).1) ?_
          exact k
        refine own_go (B := T1753.setTop (mkF m 82 (oA p0 p1 p2 p3 p4 (4 : Int32) .unset .unset .unset .unset) [(.int (fdrw p1))])) (fun t k => ?_) ?_
        · refine XS.iload X1753.here hx rfl (hb hby at_74) rfl ?_
          refine XS.iconst X1753.here hx rfl (hb hby at_76) ?_
          refine XS.icmpNo X1753.here hx rfl (hb hby at_77) rfl (flt (by decide : ¬ ((4 : Int32) < (2 : Int32)))).1 ?_
          refine XS.iload X1753.here hx rfl (hb hby at_80) rfl ?_
          exact k
        obtain ⟨_, _, ⟨T1756, L1756, k1756, n1756⟩, -, X1756, ⟨Lc1756, hQ1756, l1756, y1756, z1756⟩, st1756⟩ := Jvm.LawKit.callS X1753 hx (y := yN23) hown (mvT hZ (own_w hw 38 rfl)) (mvT hZ (own_w hw 39 rfl)) (mvT hZ (own_w hw 2 rfl)) (mvT hZ (own_w hw 40 rfl)) (by decide) (backOf (W := 0) (alw l Z a0 hw [] (fdrw p1) h0 n0 Z0 ) hZ (own_w hw 40 rfl) (own_w hw 2 rfl) (by decide) (by decide)) (g := (mkF m 82 (oA p0 p1 p2 p3 p4 (4 : Int32) .unset .unset .unset .unset) [(.int (fdrw p1))])) rfl (by rw [hml]; rfl) (argsL := [(.int (fdrw p1))]) (rest := []) (lenOf pd_17 rfl) rfl (own_W0 rfl) (hb hby at_82) (fun _ _ => ⟨rfl, e1753, (by decide : 0 + 0 ≤ _), (by decide : 0 + 0 ≤ _)⟩)
        dsimp only [Pt.U, Pt.locs, Pt.cells, Pt.slots] at X1756 l1756 y1756 z1756 st1756 hQ1756
        subst l1756 y1756 z1756
        obtain ⟨rfl, Nq1756, e1756⟩ := hQ1756
        have N1756 := Fr.app N1753 Nq1756
        refine own_go (B := T1756.setTop (mkF m 85 (oA p0 p1 p2 p3 p4 (4 : Int32) .unset .unset .unset .unset) [(.int (own_ia (fdrw p1)))])) st1756 ?_
        by_cases hc85_1757 : (own_ia (fdrw p1)) = (0 : Int32)
        · refine own_go (B := T1756.setTop (mkF m 120 (oA p0 p1 p2 p3 p4 (4 : Int32) .unset .unset .unset .unset) [])) (fun t k => ?_) ?_
          · refine XS.ifYes X1756.here hx rfl (pc0 := 85) (pc' := 120) rfl (hb hby at_85) rfl ((if0 _ _).trans (teq hc85_1757).1) (by decide) (by decide) ?_
            exact k
          refine own_go (B := T1756.setTop (mkF m 123 (oA p0 p1 p2 p3 p4 (4 : Int32) (.val (.int 0)) .unset .unset .unset) [])) (fun t k => ?_) ?_
          · refine XS.iconst X1756.here hx rfl (hb hby at_120) ?_
            refine XS.istore X1756.here hx rfl (hb hby at_121) rfl (l' := (oA p0 p1 p2 p3 p4 (4 : Int32) (.val (.int 0)) .unset .unset .unset)) rfl ?_
            exact k
          exact join1541 (4 : Int32) (0 : Int32) (4) T1756 _ (ot4) (by decide) (by rw [own_cl_4]; exact own_ok0 (by simp) hc85_1757) X1756 e1756 N1756
        · refine own_go (B := T1756.setTop (mkF m 88 (oA p0 p1 p2 p3 p4 (4 : Int32) .unset .unset .unset .unset) [])) (fun t k => ?_) ?_
          · refine XS.ifNo X1756.here hx rfl (hb hby at_85) rfl ((if0 _ _).trans (feq hc85_1757).1) ?_
            exact k
          refine own_go (B := T1756.setTop (mkF m 96 (oA p0 p1 p2 p3 p4 (4 : Int32) .unset .unset .unset .unset) [(.int (fdrw p2))])) (fun t k => ?_) ?_
          · refine XS.iload X1756.here hx rfl (hb hby at_88) rfl ?_
            refine XS.iconst X1756.here hx rfl (hb hby at_90) ?_
            refine XS.icmpNo X1756.here hx rfl (hb hby at_91) rfl (flt (by decide : ¬ ((4 : Int32) < (3 : Int32)))).1 ?_
            refine XS.iload X1756.here hx rfl (hb hby at_94) rfl ?_
            exact k
          obtain ⟨_, _, ⟨T1759, L1759, k1759, n1759⟩, -, X1759, ⟨Lc1759, hQ1759, l1759, y1759, z1759⟩, st1759⟩ := Jvm.LawKit.callS X1756 hx (y := yN23) hown (mvT hZ (own_w hw 38 rfl)) (mvT hZ (own_w hw 39 rfl)) (mvT hZ (own_w hw 2 rfl)) (mvT hZ (own_w hw 40 rfl)) (by decide) (backOf (W := 0) (alw l Z a0 hw [] (fdrw p2) h0 n0 Z0 ) hZ (own_w hw 40 rfl) (own_w hw 2 rfl) (by decide) (by decide)) (g := (mkF m 96 (oA p0 p1 p2 p3 p4 (4 : Int32) .unset .unset .unset .unset) [(.int (fdrw p2))])) rfl (by rw [hml]; rfl) (argsL := [(.int (fdrw p2))]) (rest := []) (lenOf pd_17 rfl) rfl (own_W0 rfl) (hb hby at_96) (fun _ _ => ⟨rfl, e1756, (by decide : 0 + 0 ≤ _), (by decide : 0 + 0 ≤ _)⟩)
          dsimp only [Pt.U, Pt.locs, Pt.cells, Pt.slots] at X1759 l1759 y1759 z1759 st1759 hQ1759
          subst l1759 y1759 z1759
          obtain ⟨rfl, Nq1759, e1759⟩ := hQ1759
          have N1759 := Fr.app N1756 Nq1759
          refine own_go (B := T1759.setTop (mkF m 99 (oA p0 p1 p2 p3 p4 (4 : Int32) .unset .unset .unset .unset) [(.int (own_ia (fdrw p2)))])) st1759 ?_
          by_cases hc99_1760 : (own_ia (fdrw p2)) = (0 : Int32)
          · refine own_go (B := T1759.setTop (mkF m 120 (oA p0 p1 p2 p3 p4 (4 : Int32) .unset .unset .unset .unset) [])) (fun t k => ?_) ?_
            · refine XS.ifYes X1759.here hx rfl (pc0 := 99) (pc' := 120) rfl (hb hby at_99) rfl ((if0 _ _).trans (teq hc99_1760).1) (by decide) (by decide) ?_
              exact k
            refine own_go (B := T1759.setTop (mkF m 123 (oA p0 p1 p2 p3 p4 (4 : Int32) (.val (.int 0)) .unset .unset .unset) [])) (fun t k => ?_) ?_
            · refine XS.iconst X1759.here hx rfl (hb hby at_120) ?_
              refine XS.istore X1759.here hx rfl (hb hby at_121) rfl (l' := (oA p0 p1 p2 p3 p4 (4 : Int32) (.val (.int 0)) .unset .unset .unset)) rfl ?_
              exact k
            exact join1541 (4 : Int32) (0 : Int32) (4) T1759 _ (ot4) (by decide) (by rw [own_cl_4]; exact own_ok0 (by simp) hc99_1760) X1759 e1759 N1759
          · refine own_go (B := T1759.setTop (mkF m 102 (oA p0 p1 p2 p3 p4 (4 : Int32) .unset .unset .unset .unset) [])) (fun t k => ?_) ?_
            · refine XS.ifNo X1759.here hx rfl (hb hby at_99) rfl ((if0 _ _).trans (feq hc99_1760).1) ?_
              exact k
            refine own_go (B := T1759.setTop (mkF m 110 (oA p0 p1 p2 p3 p4 (4 : Int32) .unset .unset .unset .unset) [(.int (fdrw p3))])) (fun t k => ?_) ?_
            · refine XS.iload X1759.here hx rfl (hb hby at_102) rfl ?_
              refine XS.iconst X1759.here hx rfl (hb hby at_104) ?_
              refine XS.icmpNo X1759.here hx rfl (hb hby at_105) rfl (flt Int32.lt_irrefl).1 ?_
              refine XS.iload X1759.here hx rfl (hb hby at_108) rfl ?_
              exact k
            obtain ⟨_, _, ⟨T1762, L1762, k1762, n1762⟩, -, X1762, ⟨Lc1762, hQ1762, l1762, y1762, z1762⟩, st1762⟩ := Jvm.LawKit.callS X1759 hx (y := yN23) hown (mvT hZ (own_w hw 38 rfl)) (mvT hZ (own_w hw 39 rfl)) (mvT hZ (own_w hw 2 rfl)) (mvT hZ (own_w hw 40 rfl)) (by decide) (backOf (W := 0) (alw l Z a0 hw [] (fdrw p3) h0 n0 Z0 ) hZ (own_w hw 40 rfl) (own_w hw 2 rfl) (by decide) (by decide)) (g := (mkF m 110 (oA p0 p1 p2 p3 p4 (4 : Int32) .unset .unset .unset .unset) [(.int (fdrw p3))])) rfl (by rw [hml]; rfl) (argsL := [(.int (fdrw p3))]) (rest := []) (lenOf pd_17 rfl) rfl (own_W0 rfl) (hb hby at_110) (fun _ _ => ⟨rfl, e1759, (by decide : 0 + 0 ≤ _), (by decide : 0 + 0 ≤ _)⟩)
            dsimp only [Pt.U, Pt.locs, Pt.cells, Pt.slots] at X1762 l1762 y1762 z1762 st1762 hQ1762
            subst l1762 y1762 z1762
            obtain ⟨rfl, Nq1762, e1762⟩ := hQ1762
            have N1762 := Fr.app N1759 Nq1762
            refine own_go (B := T1762.setTop (mkF m 113 (oA p0 p1 p2 p3 p4 (4 : Int32) .unset .unset .unset .unset) [(.int (own_ia (fdrw p3)))])) st1762 ?_
            by_cases hc113_1763 : (own_ia (fdrw p3)) = (0 : Int32)
            · refine own_go (B := T1762.setTop (mkF m 120 (oA p0 p1 p2 p3 p4 (4 : Int32) .unset .unset .unset .unset) [])) (fun t k => ?_) ?_
              · refine XS.ifYes X1762.here hx rfl (pc0 := 113) (pc' := 120) rfl (hb hby at_113) rfl ((if0 _ _).trans (teq hc113_1763).1) (by decide) (by decide) ?_
                exact k
              refine own_go (B := T1762.setTop (mkF m 123 (oA p0 p1 p2 p3 p4 (4 : Int32) (.val (.int 0)) .unset .unset .unset) [])) (fun t k => ?_) ?_
              · refine XS.iconst X1762.here hx rfl (hb hby at_120) ?_
                refine XS.istore X1762.here hx rfl (hb hby at_121) rfl (l' := (oA p0 p1 p2 p3 p4 (4 : Int32) (.val (.int 0)) .unset .unset .unset)) rfl ?_
                exact k
              exact join1541 (4 : Int32) (0 : Int32) (4) T1762 _ (ot4) (by decide) (by rw [own_cl_4]; exact own_ok0 (by simp) hc113_1763) X1762 e1762 N1762
            · refine own_go (B := T1762.setTop (mkF m 116 (oA p0 p1 p2 p3 p4 (4 : Int32) .unset .unset .unset .unset) [])) (fun t k => ?_) ?_
              · refine XS.ifNo X1762.here hx rfl (hb hby at_113) rfl ((if0 _ _).trans (feq hc113_1763).1) ?_
                exact k
              refine own_go (B := T1762.setTop (mkF m 123 (oA p0 p1 p2 p3 p4 (4 : Int32) (.val (.int 1)) .unset .unset .unset) [])) (fun t k => ?_) ?_
              · refine XS.iconst X1762.here hx rfl (hb hby at_116) ?_
                refine XS.goto X1762.here hx rfl (pc0 := 117) (pc' := 121) rfl (hb hby at_117) (by decide) (by decide) ?_
                refine XS.istore X1762.here hx rfl (hb hby at_121) rfl (l' := (oA p0 p1 p2 p3 p4 (4 : Int32) (.val (.int 1)) .unset .unset .unset)) rfl ?_
                exact k
              exact join1541 (4 : Int32) (1 : Int32) (4) T1762 _ (ot4) (by decide) (by rw [own_cl_4]; exact own_ok1 (List.forall_mem_cons.mpr ⟨hc71_1754, (List.forall_mem_cons.mpr ⟨hc85_1757, (List.forall_mem_cons.mpr ⟨hc99_1760, (List.forall_mem_cons.mpr ⟨hc113_1763, (fun _ q => absurd q List.not_mem_nil)⟩)⟩)⟩)⟩)) X1762 e1762 N1762
set_option maxRecDepth 65536 in
set_option maxHeartbeats 40000000 in
theorem comes_1 {Post : Tables → Env → Array Value → State → Outcome → State → Prop} (hpost : ∀ tb e args s v u, (limb_1_1.after args s (.returned v) u = true ∧ limb_1_2.after args s (.returned v) u = true ∧ True) → FramedW s (.returned v) u (Jvm.fieldLocs frame_1_writes args s ++ Jvm.arrayLocs frame_1_arrays args s ++ Jvm.staticLocs frame_1_statics s) 40 6016 → Post tb e args s (.returned v) u) :
    ArmFor flags0 classFile x code maxLocals ret World_1 tables_1 room_1 Calls_1 rest_1 Pre_1 Post := by
  intro l hfl _ _ p e ha hc hk s m args below hf hA hF happ hP
  obtain ⟨hcalls, hrest, hpre⟩ := hP
  obtain ⟨-, -, -, hnamed, -, -, -, hat⟩ := (Spec.applies_iff hf).mp happ
  obtain ⟨hg, hn⟩ := and_e (Cond.before_iff.mp (show (Jvm.Cond.and given_1 narrow_1).before args s = true from hpre))
  obtain ⟨hg0, hgs⟩ := and_e hg
  obtain ⟨w0, w1, w2, w3, w4, rfl⟩ : ∃ w0 w1 w2 w3 w4 : Value, args = #[w0, w1, w2, w3, w4] := by
    have hs : args.size = 5 := by simpa [Cond.value, given_1] using hg0
    obtain ⟨L⟩ := args
    match L, hs with
    | [w0, w1, w2, w3, w4], _ => exact ⟨w0, w1, w2, w3, w4, rfl⟩
  have hw := fun d (hd : d ∈ tables_1) => atoms_spec (ws := Jvm.Cond.code x code maxLocals ret :: tables_1) hat d (List.mem_cons_of_mem _ hd)
  have hfit : Fit s := fun {y c} hc i hi => by
    obtain ⟨ha, rfl⟩ := Array.getElem?_eq_some_iff.mp hc
    have q := List.all_eq_true.mp ((Array.all_eq_true_iff_forall_mem.mp hF) _ (Array.getElem_mem ha)) i (List.mem_range.mpr hi)
    simpa [Array.getElem?_eq_getElem hi] using q
  obtain ⟨hsets, hown0⟩ := atoms_of _ (rest_1_c_eq ▸ (show rest_1_c.before _ s = true from hrest))
  have hr0 := Cond.before_iff.mp hown0
  obtain ⟨gi0, gr0⟩ := and_e hgs
  obtain ⟨i0, ei0⟩ := is_v gi0
  obtain rfl : w0 = (.int i0) := Option.some.inj ei0
  obtain ⟨gi1, gr1⟩ := and_e gr0
  obtain ⟨i1, ei1⟩ := is_v gi1
  obtain rfl : w1 = (.int i1) := Option.some.inj ei1
  obtain ⟨gi2, gr2⟩ := and_e gr1
  obtain ⟨i2, ei2⟩ := is_v gi2
  obtain rfl : w2 = (.int i2) := Option.some.inj ei2
  obtain ⟨gi3, gr3⟩ := and_e gr2
  obtain ⟨i3, ei3⟩ := is_v gi3
  obtain rfl : w3 = (.int i3) := Option.some.inj ei3
  obtain ⟨i4, ei4⟩ := is_v gr3
  obtain rfl : w4 = (.int i4) := Option.some.inj ei4
  obtain ⟨cs, ev_cs⟩ := is_v (Cond.before_iff.mp (hsets _ (List.mem_of_getElem? (i := 1) rfl)))
  have S_cs : Sta s s.heap jS "COMPACT_STRINGS" "Z" (.int cs) := Sta.start ev_cs (Or.inl (hsets _ (List.mem_of_getElem? (i := 0) rfl)))
  have hcw := (hsets _ (List.mem_of_getElem? (i := 2) rfl))
  have hcs : cs ≠ (0 : Int32) := fun q => by
    subst q
    have h9 := Cond.before_iff.mp hcw
    simp [Cond.value, ev_cs, Term.int_eval] at h9
  have S_ad : Sta s s.heap jU "$assertionsDisabled" "Z" (.int 1) := Sta.start (own_eqint (Cond.before_iff.mp (hsets _ (List.mem_of_getElem? (i := 12) rfl)))) (Or.inl (hsets _ (List.mem_of_getElem? (i := 11) rfl)))
  have S_hi : Sta s s.heap jU "HI_BYTE_SHIFT" "I" (.int 0) := Sta.start (own_eqint (Cond.before_iff.mp (hsets _ (List.mem_of_getElem? (i := 15) rfl)))) (Or.inl (hsets _ (List.mem_of_getElem? (i := 14) rfl)))
  have S_lo : Sta s s.heap jU "LO_BYTE_SHIFT" "I" (.int 8) := Sta.start (own_eqint (Cond.before_iff.mp (hsets _ (List.mem_of_getElem? (i := 18) rfl)))) (Or.inl (hsets _ (List.mem_of_getElem? (i := 17) rfl)))
  obtain ⟨vx, ev_si, hr_si⟩ := isR_v (Cond.before_iff.mp (hsets _ (List.mem_of_getElem? (i := 8) rfl)))
  have S_si : own_SI s s.heap := by
    rcases ref_cases hr_si with rfl | ⟨fa, rfl⟩
    · exact Or.inl (Sta.start ev_si (Or.inl (hsets _ (List.mem_of_getElem? (i := 7) rfl))))
    · exact Or.inr ⟨fa, Sta.start ev_si (Or.inl (hsets _ (List.mem_of_getElem? (i := 7) rfl)))⟩
  have hEL : EW s _ consts_1 := (EW.cons (own_w hw 173 rfl) (by decide) (EW.cons (own_w hw 174 rfl) (by decide) (EW.cons (own_w hw 90 rfl) (by decide) (EW.cons (own_w hw 21 rfl) (by decide) EW.nil))))
  have hC : CHv s consts_1 s.vm s.heap := CHv.start hEL hcalls.1 hcw (own_w hw 22 rfl) (own_w hw 8 rfl)
  obtain ⟨n, o, h1, h2, h3, _, L, rfl, ⟨hv, N⟩, hq⟩ := rm0 l s _ hw tables_1 i0 i1 i2 i3 i4 cs s.heap s.heap.size (Nat.le_refl _) hEL S_cs S_ad S_hi S_lo S_si hcs p e ha hc hk s m _ below hf ((Spec.applies_iff_loose hf).mp happ).1 ⟨rfl, State.Warmed39.refl s, rfl, hC⟩ trivial
  obtain rfl := hv
  refine ⟨n, _, h1, h2, h3, hpost _ _ _ _ _ _ ⟨Cond.after_iff.mpr rfl, Cond.after_iff.mpr (eq_i res_at (Term.int_eval (1)) rfl), trivial⟩ ⟨hq.1, hq.2.1, hq.2.2.1, (hq.2.2.2.sift fun y hy => Or.inr (N y hy)).mono (by decide) (by decide)⟩⟩
theorem main_1_1 : Claimed_1_1 := comes_1 fun _ _ _ _ _ _ h hF => ⟨h.1, hF⟩
theorem main_1_2 : Claimed_1_2 := comes_1 fun _ _ _ _ _ _ h hF => ⟨h.2.1, hF⟩
end Jvm.Pilot.@@N@@
namespace Jvm.Pilot.@@N@@
open Jvm Jvm.ClassFile Sem Op Lib Jvm.Free Jvm.Stand Jvm.Pilot.@@N@@.Jvm.D
/-! MADE BY PROGRAM (witnessworld.py) out of the Statement's table words and the real class files: 26 classes; the members and pool entries that the words name. The judged class is class 1, her method 4. -/
namespace start1
open Jvm.ClassFile
def u (s : String) : CpInfo := .utf8 (stringToUtf16 s)
/-- a pool by its gaps: so many unusable entries, then the entry; so many at the end -/
def gap : Nat → List CpInfo → List CpInfo
  | 0, r => r
  | n + 1, r => .unusable :: gap n r
def poolList (es : List (Nat × CpInfo)) (last : Nat) : List CpInfo := es.foldr (fun e r => gap e.1 (e.2 :: r)) (gap last [])
def pool (es : List (Nat × CpInfo)) (last : Nat) : Array CpInfo := ⟨poolList es last⟩
def fileOf (pool : Array CpInfo) (this : Nat) (attrs : Array Attribute := #[]) (ms : Array MethodInfo := #[]) (fl : Nat := 33) (sup : Nat := 0) (ifs : Array Nat := #[]) (fds : Array FieldInfo := #[]) : ClassFile where
  minorVersion := 0
  majorVersion := 65
  constantPool := pool
  accessFlags := fl
  thisClass := this
  superClass := sup
  interfaces := ifs
  fields := fds
  methods := ms
  attributes := attrs
def plain (name : String) (sup : Option ClassId) : Class where
  name := name
  kind := .ordinary
  loader := none
  accessFlags := 33
  super := sup
  interfaces := #[]
  cf := none
  fields := #[]
  methods := #[]
  instanceTypes := #[]
  staticTypes := #[]
  resolved := #[]
  callSites := []
  init := .initialized
  statics := none
  mirror := none

def pool0 : Array CpInfo := pool [(5, u "<init>"), (0, u "()V"), (1, .class_ 10), (1, u "java/lang/Object")] 113

def k0c0 : Code := { maxStack := 0, maxLocals := 1, code := object_method_1_code, exceptionTable := #[], attributes := #[] }
def k0m0 : Method := { name := "<init>", desc := "()V", sig := { parameters := [], returnType := none }, accessFlags := 1, code := some k0c0 }
/-- java/lang/Object -/
def k0 : Class := { plain "java/lang/Object" none with
  accessFlags := 33
  interfaces := #[]
  cf := some (fileOf pool0 8 #[] #[{ accessFlags := 1, nameIndex := 5, descriptorIndex := 6, attributes := #[] }] 33 0 #[] #[])
  fields := #[]
  methods := #[k0m0]
  instanceTypes := #[]
  staticTypes := #[]
  resolved := Array.replicate 124 none
  statics := none }

def pool1 : Array CpInfo := pool [(2, .class_ 4), (1, u "java/lang/Object"), (0, u "<init>"), (0, u "()V"), (0, .class_ 8), (0, u "java/lang/String"), (0, .methodref 7 10), (0, .nameAndType 5 11), (0, u "([C)V"), (0, .methodref 13 14), (0, .class_ 15), (0, .nameAndType 16 17), (0, u "com/example/cicada/cicada/Names"), (0, u "isValid"), (0, u "(Ljava/lang/String;)Z"), (0, .methodref 19 20), (0, .class_ 21), (0, .nameAndType 22 23), (0, u "com/example/cicada/cicada/NamesIsValidPinLaw"), (0, u "draw"), (0, u "(I)C"), (0, .methodref 19 25), (0, .nameAndType 26 27), (0, u "allowed"), (0, u "(C)Z"), (0, .methodref 19 29), (0, .nameAndType 30 31), (0, u "make"), (0, u "(ICCCC)Ljava/lang/String;"), (0, .string 33), (0, u "ABCDEFGHIJklmnopqrst0123456789uvwxyzUVWXYZ_-.ab.cd0123456789abcdefghijABCDEFGHIJklmnopqrst-_"), (0, .methodref 13 35), (0, .nameAndType 36 37), (0, u "deadLetterTopic"), (0, u "(Ljava/lang/String;Ljava/lang/String;)Ljava/lang/String;"), (0, .methodref 7 39), (0, .nameAndType 40 41), (0, u "length"), (0, u "()I"), (0, u "PREFIX"), (0, u "Ljava/lang/String;"), (4, u "law"), (0, u "(IIIII)Z")] 2

def k1m0 : Method := { name := "<init>", desc := "()V", sig := { parameters := [], returnType := none }, accessFlags := 1, code := none }
def k1c1 : Code := { maxStack := 2, maxLocals := 1, code := method_2_code, exceptionTable := #[], attributes := #[] }
def k1m1 : Method := { name := "draw", desc := "(I)C", sig := { parameters := [.int], returnType := some .char }, accessFlags := 10, code := some k1c1 }
def k1c2 : Code := { maxStack := 2, maxLocals := 1, code := method_3_code, exceptionTable := #[], attributes := #[] }
def k1m2 : Method := { name := "allowed", desc := "(C)Z", sig := { parameters := [.char], returnType := some .boolean }, accessFlags := 10, code := some k1c2 }
def k1c3 : Code := { maxStack := 3, maxLocals := 6, code := method_4_code, exceptionTable := #[], attributes := #[] }
def k1m3 : Method := { name := "make", desc := "(ICCCC)Ljava/lang/String;", sig := { parameters := [.int, .char, .char, .char, .char], returnType := some (.object "java/lang/String") }, accessFlags := 10, code := some k1c3 }
def k1c4 : Code := { maxStack := 5, maxLocals := 15, code := code, exceptionTable := #[], attributes := #[] }
def k1m4 : Method := { name := "law", desc := "(IIIII)Z", sig := { parameters := [.int, .int, .int, .int, .int], returnType := some .boolean }, accessFlags := 9, code := some k1c4 }
/-- com/example/cicada/cicada/NamesIsValidPinLaw -/
def k1 : Class := { plain "com/example/cicada/cicada/NamesIsValidPinLaw" (some 0) with
  accessFlags := 49
  interfaces := #[]
  cf := some (fileOf pool1 19 #[] #[{ accessFlags := 1, nameIndex := 5, descriptorIndex := 6, attributes := #[] }, { accessFlags := 10, nameIndex := 22, descriptorIndex := 23, attributes := #[] }, { accessFlags := 10, nameIndex := 26, descriptorIndex := 27, attributes := #[] }, { accessFlags := 10, nameIndex := 30, descriptorIndex := 31, attributes := #[] }, { accessFlags := 9, nameIndex := 48, descriptorIndex := 49, attributes := #[] }] 49 2 #[] #[{ accessFlags := 26, nameIndex := 42, descriptorIndex := 43, attributes := #[] }])
  fields := #[{ name := "PREFIX", type := (.object "java/lang/String"), accessFlags := 26, slot := 0, constantValue := 0 }]
  methods := #[k1m0, k1m1, k1m2, k1m3, k1m4]
  instanceTypes := #[]
  staticTypes := #[(.object "java/lang/String")]
  resolved := Array.replicate 52 none
  statics := none }

def pool2 : Array CpInfo := pool [(1, .class_ 2), (0, u "java/io/Serializable"), (0, .class_ 4), (0, u "java/lang/Object")] 2

/-- java/io/Serializable -/
def k2 : Class := { plain "java/io/Serializable" (some 0) with
  accessFlags := 1537
  interfaces := #[]
  cf := some (fileOf pool2 1 #[] #[] 1537 3 #[] #[])
  fields := #[]
  methods := #[]
  instanceTypes := #[]
  staticTypes := #[]
  resolved := Array.replicate 7 none
  statics := none }

def pool3 : Array CpInfo := pool [(1, .class_ 2), (0, u "java/lang/Comparable"), (0, .class_ 4), (0, u "java/lang/Object")] 7

/-- java/lang/Comparable -/
def k3 : Class := { plain "java/lang/Comparable" (some 0) with
  accessFlags := 1537
  interfaces := #[]
  cf := some (fileOf pool3 1 #[] #[] 1537 3 #[] #[])
  fields := #[]
  methods := #[]
  instanceTypes := #[]
  staticTypes := #[]
  resolved := Array.replicate 12 none
  statics := none }

def pool4 : Array CpInfo := pool [(2, .class_ 4), (1, u "java/lang/CharSequence"), (42, .class_ 48), (0, u "java/lang/CharSequence$1CodePointIterator"), (10, .class_ 60), (0, u "java/lang/CharSequence$1CharIterator"), (5, .class_ 67), (0, u "java/lang/Object")] 63

/-- java/lang/CharSequence -/
def k4 : Class := { plain "java/lang/CharSequence" (some 0) with
  accessFlags := 1537
  interfaces := #[]
  cf := some (fileOf pool4 2 #[.nestMembers #[47, 59]] #[] 1537 66 #[] #[])
  fields := #[]
  methods := #[]
  instanceTypes := #[]
  staticTypes := #[]
  resolved := Array.replicate 131 none
  statics := none }

def pool5 : Array CpInfo := pool [(1, .class_ 2), (0, u "java/lang/constant/Constable"), (0, .class_ 4), (0, u "java/lang/Object")] 6

/-- java/lang/constant/Constable -/
def k5 : Class := { plain "java/lang/constant/Constable" (some 0) with
  accessFlags := 1537
  interfaces := #[]
  cf := some (fileOf pool5 1 #[] #[] 1537 3 #[] #[])
  fields := #[]
  methods := #[]
  instanceTypes := #[]
  staticTypes := #[]
  resolved := Array.replicate 11 none
  statics := none }

def pool6 : Array CpInfo := pool [(1, .class_ 2), (0, u "java/lang/constant/ConstantDesc"), (0, .class_ 4), (0, u "java/lang/Object")] 32

/-- java/lang/constant/ConstantDesc -/
def k6 : Class := { plain "java/lang/constant/ConstantDesc" (some 0) with
  accessFlags := 1537
  interfaces := #[]
  cf := some (fileOf pool6 1 #[] #[] 1537 3 #[] #[])
  fields := #[]
  methods := #[]
  instanceTypes := #[]
  staticTypes := #[]
  resolved := Array.replicate 37 none
  statics := none }

def pool7 : Array CpInfo := pool [(1, .methodref 2 3), (0, .class_ 4), (0, .nameAndType 5 6), (0, u "java/lang/Object"), (0, u "<init>"), (0, u "()V"), (0, .string 8), (0, u ""), (0, .fieldref 10 11), (0, .class_ 12), (0, .nameAndType 13 14), (0, u "java/lang/String"), (0, u "value"), (0, u "[B"), (0, .fieldref 10 16), (0, .nameAndType 17 18), (0, u "coder"), (0, u "B"), (2, u "hash"), (0, u "I"), (2, u "hashIsZero"), (0, u "Z"), (0, .methodref 10 28), (0, .nameAndType 5 29), (0, u "([CIILjava/lang/Void;)V"), (6, u "checkBoundsOffCount"), (0, u "(III)I"), (0, .fieldref 10 39), (0, .nameAndType 40 26), (0, u "COMPACT_STRINGS"), (1, .class_ 44), (1, u "java/lang/StringUTF16"), (0, u "compress"), (1, .methodref 42 48), (0, .nameAndType 49 50), (0, u "coderFromArrayLen"), (0, u "([BI)B"), (3, .methodref 55 56), (0, .class_ 57), (0, .nameAndType 58 59), (0, u "java/util/Arrays"), (0, u "copyOfRange"), (0, u "([BII)[B"), (46, .methodref 107 108), (0, .class_ 109), (0, .nameAndType 110 111), (0, u "java/lang/StringLatin1"), (0, u "inflate"), (0, u "([BI[BII)V"), (30, u "()Z"), (34, .methodref 42 178), (0, .nameAndType 45 179), (0, u "([CII)[B"), (13, .class_ 195), (1, u "java/lang/System"), (16, .methodref 193 213), (0, .nameAndType 214 215), (0, u "arraycopy"), (0, u "(Ljava/lang/Object;ILjava/lang/Object;II)V"), (118, u "()I"), (0, .methodref 10 336), (0, .nameAndType 17 337), (0, u "()B"), (2, u "()[B"), (22, u "([BI)C"), (27, u "(II)V"), (35, u "(I)C"), (61, .methodref 10 490), (0, .nameAndType 5 491), (0, u "(Ljava/lang/AbstractStringBuilder;Ljava/lang/Void;)V"), (0, .methodref 10 493), (0, .nameAndType 494 142), (0, u "isLatin1"), (0, .methodref 107 496), (0, .nameAndType 497 363), (0, u "charAt"), (0, .methodref 42 496), (2, u "checkIndex"), (4, .nameAndType 507 334), (0, u "length"), (24, u "getBytes"), (16, .methodref 550 506), (0, .class_ 551), (0, u "java/lang/AbstractStringBuilder"), (0, .methodref 550 553), (0, .nameAndType 554 340), (0, u "getValue"), (20, .class_ 576), (0, u "java/lang/CharSequence"), (22, u "CASE_INSENSITIVE_ORDER"), (0, u "Ljava/util/Comparator;"), (91, u "isEmpty"), (128, u "([BIB)V"), (188, u "([C)V"), (36, .methodref 550 493), (0, .fieldref 550 1049), (0, .nameAndType 1050 26), (0, u "maybeLatin1"), (2, .fieldref 1054 1055), (0, .class_ 1056), (0, .nameAndType 1057 1058), (0, u "jdk/internal/util/Preconditions"), (0, u "SIOOBE_FORMATTER"), (0, u "Ljava/util/function/BiFunction;"), (0, .methodref 1054 1060), (0, .nameAndType 501 1061), (0, u "(IILjava/util/function/BiFunction;)I"), (2, u "(IIILjava/util/function/BiFunction;)I"), (0, .methodref 1054 1066), (0, .nameAndType 1067 1064), (0, u "checkFromIndexSize"), (33, u "serialPersistentFields"), (0, u "[Ljava/io/ObjectStreamField;"), (0, .class_ 1104), (0, u "java/lang/String$CaseInsensitiveComparator"), (1, .class_ 1107), (0, u "java/io/Serializable"), (0, .class_ 1109), (0, u "java/lang/Comparable"), (0, .class_ 1111), (0, u "java/lang/constant/Constable"), (0, .class_ 1113), (0, u "java/lang/constant/ConstantDesc"), (2, u "serialVersionUID"), (0, u "J"), (3, u "REPL"), (0, u "C"), (2, u "LATIN1"), (1, u "UTF16"), (105, u "(Ljava/lang/StringBuilder;)V")] 217

def k7m0 : Method := { name := "<init>", desc := "()V", sig := { parameters := [], returnType := none }, accessFlags := 1, code := none }
def k7c1 : Code := { maxStack := 5, maxLocals := 2, code := jdk_42_method_3_code, exceptionTable := #[], attributes := #[] }
def k7m1 : Method := { name := "<init>", desc := "([C)V", sig := { parameters := [(.array .char)], returnType := none }, accessFlags := 1, code := some k7c1 }
def k7c2 : Code := { maxStack := 3, maxLocals := 2, code := jdk_42_method_53_code, exceptionTable := #[], attributes := #[] }
def k7m2 : Method := { name := "<init>", desc := "(Ljava/lang/StringBuilder;)V", sig := { parameters := [(.object "java/lang/StringBuilder")], returnType := none }, accessFlags := 1, code := some k7c2 }
def k7c3 : Code := { maxStack := 2, maxLocals := 1, code := jdk_42_method_54_code, exceptionTable := #[], attributes := #[] }
def k7m3 : Method := { name := "length", desc := "()I", sig := { parameters := [], returnType := some .int }, accessFlags := 1, code := some k7c3 }
def k7c4 : Code := { maxStack := 1, maxLocals := 1, code := jdk_42_method_55_code, exceptionTable := #[], attributes := #[] }
def k7m4 : Method := { name := "isEmpty", desc := "()Z", sig := { parameters := [], returnType := some .boolean }, accessFlags := 1, code := some k7c4 }
def k7c5 : Code := { maxStack := 2, maxLocals := 2, code := jdk_42_method_56_code, exceptionTable := #[], attributes := #[] }
def k7m5 : Method := { name := "charAt", desc := "(I)C", sig := { parameters := [.int], returnType := some .char }, accessFlags := 1, code := some k7c5 }
def k7c6 : Code := { maxStack := 5, maxLocals := 4, code := jdk_42_method_147_code, exceptionTable := #[], attributes := #[] }
def k7m6 : Method := { name := "getBytes", desc := "([BIB)V", sig := { parameters := [(.array .byte), .int, .byte], returnType := none }, accessFlags := 0, code := some k7c6 }
def k7c7 : Code := { maxStack := 4, maxLocals := 6, code := jdk_42_method_149_code, exceptionTable := #[], attributes := #[] }
def k7m7 : Method := { name := "<init>", desc := "([CIILjava/lang/Void;)V", sig := { parameters := [(.array .char), .int, .int, (.object "java/lang/Void")], returnType := none }, accessFlags := 2, code := some k7c7 }
def k7c8 : Code := { maxStack := 5, maxLocals := 5, code := jdk_42_method_150_code, exceptionTable := #[], attributes := #[] }
def k7m8 : Method := { name := "<init>", desc := "(Ljava/lang/AbstractStringBuilder;Ljava/lang/Void;)V", sig := { parameters := [(.object "java/lang/AbstractStringBuilder"), (.object "java/lang/Void")], returnType := none }, accessFlags := 0, code := some k7c8 }
def k7c9 : Code := { maxStack := 1, maxLocals := 1, code := jdk_42_method_152_code, exceptionTable := #[], attributes := #[] }
def k7m9 : Method := { name := "coder", desc := "()B", sig := { parameters := [], returnType := some .byte }, accessFlags := 0, code := some k7c9 }
def k7c10 : Code := { maxStack := 1, maxLocals := 1, code := jdk_42_method_154_code, exceptionTable := #[], attributes := #[] }
def k7m10 : Method := { name := "isLatin1", desc := "()Z", sig := { parameters := [], returnType := some .boolean }, accessFlags := 0, code := some k7c10 }
def k7c11 : Code := { maxStack := 3, maxLocals := 2, code := jdk_42_method_155_code, exceptionTable := #[], attributes := #[] }
def k7m11 : Method := { name := "checkIndex", desc := "(II)V", sig := { parameters := [.int, .int], returnType := none }, accessFlags := 8, code := some k7c11 }
def k7c12 : Code := { maxStack := 4, maxLocals := 3, code := jdk_42_method_157_code, exceptionTable := #[], attributes := #[] }
def k7m12 : Method := { name := "checkBoundsOffCount", desc := "(III)I", sig := { parameters := [.int, .int, .int], returnType := some .int }, accessFlags := 8, code := some k7c12 }
/-- java/lang/String -/
def k7 : Class := { plain "java/lang/String" (some 0) with
  accessFlags := 49
  interfaces := #[2, 3, 4, 5, 6]
  cf := some (fileOf pool7 10 #[.nestMembers #[1103]] #[{ accessFlags := 1, nameIndex := 5, descriptorIndex := 6, attributes := #[] }, { accessFlags := 1, nameIndex := 5, descriptorIndex := 1010, attributes := #[] }, { accessFlags := 1, nameIndex := 5, descriptorIndex := 1233, attributes := #[] }, { accessFlags := 1, nameIndex := 507, descriptorIndex := 334, attributes := #[] }, { accessFlags := 1, nameIndex := 692, descriptorIndex := 142, attributes := #[] }, { accessFlags := 1, nameIndex := 497, descriptorIndex := 427, attributes := #[] }, { accessFlags := 0, nameIndex := 532, descriptorIndex := 821, attributes := #[] }, { accessFlags := 2, nameIndex := 5, descriptorIndex := 29, attributes := #[] }, { accessFlags := 0, nameIndex := 5, descriptorIndex := 491, attributes := #[] }, { accessFlags := 0, nameIndex := 17, descriptorIndex := 337, attributes := #[] }, { accessFlags := 0, nameIndex := 494, descriptorIndex := 142, attributes := #[] }, { accessFlags := 8, nameIndex := 501, descriptorIndex := 391, attributes := #[] }, { accessFlags := 8, nameIndex := 36, descriptorIndex := 37, attributes := #[] }] 49 2 #[1106, 1108, 575, 1110, 1112] #[{ accessFlags := 18, nameIndex := 13, descriptorIndex := 14, attributes := #[] }, { accessFlags := 18, nameIndex := 17, descriptorIndex := 18, attributes := #[] }, { accessFlags := 2, nameIndex := 21, descriptorIndex := 22, attributes := #[] }, { accessFlags := 2, nameIndex := 25, descriptorIndex := 26, attributes := #[] }, { accessFlags := 26, nameIndex := 1116, descriptorIndex := 1117, attributes := #[] }, { accessFlags := 24, nameIndex := 40, descriptorIndex := 26, attributes := #[] }, { accessFlags := 26, nameIndex := 1101, descriptorIndex := 1102, attributes := #[] }, { accessFlags := 26, nameIndex := 1121, descriptorIndex := 1122, attributes := #[] }, { accessFlags := 25, nameIndex := 599, descriptorIndex := 600, attributes := #[] }, { accessFlags := 24, nameIndex := 1125, descriptorIndex := 18, attributes := #[] }, { accessFlags := 24, nameIndex := 1127, descriptorIndex := 18, attributes := #[] }])
  fields := #[{ name := "value", type := (.array .byte), accessFlags := 18, slot := 0, constantValue := 0 }, { name := "coder", type := .byte, accessFlags := 18, slot := 1, constantValue := 0 }, { name := "hash", type := .int, accessFlags := 2, slot := 2, constantValue := 0 }, { name := "hashIsZero", type := .boolean, accessFlags := 2, slot := 3, constantValue := 0 }, { name := "serialVersionUID", type := .long, accessFlags := 26, slot := 0, constantValue := 0 }, { name := "COMPACT_STRINGS", type := .boolean, accessFlags := 24, slot := 1, constantValue := 0 }, { name := "serialPersistentFields", type := (.array (.object "java/io/ObjectStreamField")), accessFlags := 26, slot := 2, constantValue := 0 }, { name := "REPL", type := .char, accessFlags := 26, slot := 3, constantValue := 0 }, { name := "CASE_INSENSITIVE_ORDER", type := (.object "java/util/Comparator"), accessFlags := 25, slot := 4, constantValue := 0 }, { name := "LATIN1", type := .byte, accessFlags := 24, slot := 5, constantValue := 0 }, { name := "UTF16", type := .byte, accessFlags := 24, slot := 6, constantValue := 0 }]
  methods := #[k7m0, k7m1, k7m2, k7m3, k7m4, k7m5, k7m6, k7m7, k7m8, k7m9, k7m10, k7m11, k7m12]
  instanceTypes := #[(.array .byte), .byte, .int, .boolean]
  staticTypes := #[.long, .boolean, (.array (.object "java/io/ObjectStreamField")), .char, (.object "java/util/Comparator"), .byte, .byte]
  resolved := Array.replicate 1451 none
  statics := some 0 }

def pool8 : Array CpInfo := pool [(2, .class_ 4), (0, .nameAndType 5 6), (0, u "java/lang/Object"), (0, u "<init>"), (0, u "()V"), (0, .methodref 8 9), (0, .class_ 10), (0, .nameAndType 11 12), (0, u "java/lang/String"), (0, u "isEmpty"), (0, u "()Z"), (0, .methodref 8 14), (0, .nameAndType 15 16), (0, u "length"), (0, u "()I"), (0, .class_ 18), (0, u "com/example/cicada/cicada/Names"), (0, .methodref 17 20), (0, .nameAndType 21 22), (0, u "allAllowed"), (0, u "(Ljava/lang/String;)Z"), (2, u "isValid"), (4, .class_ 31), (0, u "java/lang/StringBuilder"), (0, .methodref 30 3), (0, .methodref 30 34), (0, .nameAndType 35 36), (0, u "append"), (0, u "(Ljava/lang/String;)Ljava/lang/StringBuilder;"), (0, .string 38), (0, u "."), (0, .string 40), (0, u ".dlq"), (0, .methodref 30 42), (0, .nameAndType 43 44), (0, u "toString"), (0, u "()Ljava/lang/String;"), (10, .methodref 8 56), (0, .nameAndType 57 58), (0, u "charAt"), (0, u "(I)C"), (0, .methodref 17 60), (0, .nameAndType 61 62), (0, u "isAllowed"), (0, u "(C)Z"), (0, u "MAX_LENGTH"), (0, u "I"), (2, u "DEAD_LETTER_SUFFIX"), (0, u "Ljava/lang/String;"), (6, u "deadLetterTopic"), (0, u "(Ljava/lang/String;Ljava/lang/String;)Ljava/lang/String;")] 2

def k8m0 : Method := { name := "<init>", desc := "()V", sig := { parameters := [], returnType := none }, accessFlags := 2, code := none }
def k8c1 : Code := { maxStack := 2, maxLocals := 1, code := prog_1_method_2_code, exceptionTable := #[], attributes := #[] }
def k8m1 : Method := { name := "isValid", desc := "(Ljava/lang/String;)Z", sig := { parameters := [(.object "java/lang/String")], returnType := some .boolean }, accessFlags := 9, code := some k8c1 }
def k8c2 : Code := { maxStack := 2, maxLocals := 2, code := prog_1_method_4_code, exceptionTable := #[], attributes := #[] }
def k8m2 : Method := { name := "deadLetterTopic", desc := "(Ljava/lang/String;Ljava/lang/String;)Ljava/lang/String;", sig := { parameters := [(.object "java/lang/String"), (.object "java/lang/String")], returnType := some (.object "java/lang/String") }, accessFlags := 9, code := some k8c2 }
def k8c3 : Code := { maxStack := 2, maxLocals := 2, code := prog_1_method_6_code, exceptionTable := #[], attributes := #[] }
def k8m3 : Method := { name := "allAllowed", desc := "(Ljava/lang/String;)Z", sig := { parameters := [(.object "java/lang/String")], returnType := some .boolean }, accessFlags := 10, code := some k8c3 }
def k8c4 : Code := { maxStack := 2, maxLocals := 1, code := prog_1_method_7_code, exceptionTable := #[], attributes := #[] }
def k8m4 : Method := { name := "isAllowed", desc := "(C)Z", sig := { parameters := [.char], returnType := some .boolean }, accessFlags := 10, code := some k8c4 }
/-- com/example/cicada/cicada/Names -/
def k8 : Class := { plain "com/example/cicada/cicada/Names" (some 0) with
  accessFlags := 33
  interfaces := #[]
  cf := some (fileOf pool8 17 #[] #[{ accessFlags := 2, nameIndex := 5, descriptorIndex := 6, attributes := #[] }, { accessFlags := 9, nameIndex := 25, descriptorIndex := 22, attributes := #[] }, { accessFlags := 9, nameIndex := 75, descriptorIndex := 76, attributes := #[] }, { accessFlags := 10, nameIndex := 21, descriptorIndex := 22, attributes := #[] }, { accessFlags := 10, nameIndex := 61, descriptorIndex := 62, attributes := #[] }] 33 2 #[] #[{ accessFlags := 26, nameIndex := 63, descriptorIndex := 64, attributes := #[] }, { accessFlags := 26, nameIndex := 67, descriptorIndex := 68, attributes := #[] }])
  fields := #[{ name := "MAX_LENGTH", type := .int, accessFlags := 26, slot := 0, constantValue := 0 }, { name := "DEAD_LETTER_SUFFIX", type := (.object "java/lang/String"), accessFlags := 26, slot := 1, constantValue := 0 }]
  methods := #[k8m0, k8m1, k8m2, k8m3, k8m4]
  instanceTypes := #[]
  staticTypes := #[.int, (.object "java/lang/String")]
  resolved := Array.replicate 79 none
  statics := none }

def pool9 : Array CpInfo := pool [(3, .class_ 4), (0, u "java/lang/String"), (1, .class_ 8), (1, u "java/lang/Object"), (0, u "<init>"), (0, u "()V"), (0, .methodref 12 13), (0, .class_ 14), (0, .nameAndType 15 16), (0, u "java/lang/StringUTF16"), (0, u "newBytesLength"), (0, u "(I)I"), (3, .integer 1073741823), (23, .fieldref 12 45), (0, .nameAndType 46 47), (0, u "$assertionsDisabled"), (0, u "Z"), (0, .methodref 12 49), (0, .nameAndType 50 51), (0, u "length"), (0, u "([B)I"), (7, .fieldref 12 60), (0, .nameAndType 61 62), (0, u "HI_BYTE_SHIFT"), (0, u "I"), (0, .fieldref 12 64), (0, .nameAndType 65 62), (0, u "LO_BYTE_SHIFT"), (1, .methodref 12 68), (0, .nameAndType 69 70), (0, u "checkIndex"), (0, u "(I[B)V"), (0, .methodref 12 72), (0, .nameAndType 73 74), (0, u "getChar"), (0, u "([BI)C"), (24, u "(II[B)V"), (7, .methodref 12 108), (0, .nameAndType 109 110), (0, u "newBytesFor"), (0, u "(I)[B"), (0, .methodref 12 112), (0, .nameAndType 113 114), (0, u "putChar"), (0, u "([BII)V"), (0, .methodref 12 116), (0, .nameAndType 117 118), (0, u "compress"), (0, u "([CI[BII)I"), (0, .methodref 12 120), (0, .nameAndType 121 122), (0, u "toBytes"), (0, u "([CII)[B"), (17, u "inflate"), (0, u "([BI[BII)V"), (31, .methodref 12 174), (0, .nameAndType 175 99), (0, u "checkBoundsOffCount"), (85, u "coderFromArrayLen"), (0, u "([BI)B"), (18, u "(III)I"), (87, .class_ 371), (1, u "java/lang/StringUTF16$LinesSpliterator"), (20, u "charAt"), (21, .methodref 3 415), (0, .nameAndType 69 416), (0, u "(II)V"), (2, .methodref 3 420), (0, .nameAndType 175 281), (9, u "MAX_LENGTH"), (196, .class_ 628), (0, u "java/lang/StringUTF16$CodePointsSpliterator"), (0, .class_ 630), (0, u "java/lang/StringUTF16$CharsSpliterator")] 4

def k9m0 : Method := { name := "<init>", desc := "()V", sig := { parameters := [], returnType := none }, accessFlags := 0, code := none }
def k9c1 : Code := { maxStack := 1, maxLocals := 1, code := jdk_52_method_2_code, exceptionTable := #[], attributes := #[] }
def k9m1 : Method := { name := "newBytesFor", desc := "(I)[B", sig := { parameters := [.int], returnType := some (.array .byte) }, accessFlags := 9, code := some k9c1 }
def k9c2 : Code := { maxStack := 4, maxLocals := 1, code := jdk_52_method_3_code, exceptionTable := #[], attributes := #[] }
def k9m2 : Method := { name := "newBytesLength", desc := "(I)I", sig := { parameters := [.int], returnType := some .int }, accessFlags := 9, code := some k9c2 }
def k9c3 : Code := { maxStack := 4, maxLocals := 3, code := jdk_52_method_4_code, exceptionTable := #[], attributes := #[] }
def k9m3 : Method := { name := "putChar", desc := "([BII)V", sig := { parameters := [(.array .byte), .int, .int], returnType := none }, accessFlags := 8, code := some k9c3 }
def k9c4 : Code := { maxStack := 3, maxLocals := 2, code := jdk_52_method_5_code, exceptionTable := #[], attributes := #[] }
def k9m4 : Method := { name := "getChar", desc := "([BI)C", sig := { parameters := [(.array .byte), .int], returnType := some .char }, accessFlags := 8, code := some k9c4 }
def k9c5 : Code := { maxStack := 2, maxLocals := 1, code := jdk_52_method_6_code, exceptionTable := #[], attributes := #[] }
def k9m5 : Method := { name := "length", desc := "([B)I", sig := { parameters := [(.array .byte)], returnType := some .int }, accessFlags := 9, code := some k9c5 }
def k9c6 : Code := { maxStack := 4, maxLocals := 5, code := jdk_52_method_14_code, exceptionTable := #[], attributes := #[] }
def k9m6 : Method := { name := "toBytes", desc := "([CII)[B", sig := { parameters := [(.array .char), .int, .int], returnType := some (.array .byte) }, accessFlags := 9, code := some k9c6 }
def k9c7 : Code := { maxStack := 2, maxLocals := 2, code := jdk_52_method_15_code, exceptionTable := #[], attributes := #[] }
def k9m7 : Method := { name := "coderFromArrayLen", desc := "([BI)B", sig := { parameters := [(.array .byte), .int], returnType := some .byte }, accessFlags := 8, code := some k9c7 }
def k9c8 : Code := { maxStack := 5, maxLocals := 6, code := jdk_52_method_16_code, exceptionTable := #[], attributes := #[] }
def k9m8 : Method := { name := "compress", desc := "([CII)[B", sig := { parameters := [(.array .char), .int, .int], returnType := some (.array .byte) }, accessFlags := 9, code := some k9c8 }
def k9c9 : Code := { maxStack := 3, maxLocals := 7, code := jdk_52_method_21_code, exceptionTable := #[], attributes := #[] }
def k9m9 : Method := { name := "compress", desc := "([CI[BII)I", sig := { parameters := [(.array .char), .int, (.array .byte), .int, .int], returnType := some .int }, accessFlags := 9, code := some k9c9 }
def k9c10 : Code := { maxStack := 2, maxLocals := 2, code := jdk_52_method_83_code, exceptionTable := #[], attributes := #[] }
def k9m10 : Method := { name := "charAt", desc := "([BI)C", sig := { parameters := [(.array .byte), .int], returnType := some .char }, accessFlags := 9, code := some k9c10 }
def k9c11 : Code := { maxStack := 4, maxLocals := 6, code := jdk_52_method_86_code, exceptionTable := #[], attributes := #[] }
def k9m11 : Method := { name := "inflate", desc := "([BI[BII)V", sig := { parameters := [(.array .byte), .int, (.array .byte), .int, .int], returnType := none }, accessFlags := 9, code := some k9c11 }
def k9c12 : Code := { maxStack := 2, maxLocals := 2, code := jdk_52_method_91_code, exceptionTable := #[], attributes := #[] }
def k9m12 : Method := { name := "checkIndex", desc := "(I[B)V", sig := { parameters := [.int, (.array .byte)], returnType := none }, accessFlags := 9, code := some k9c12 }
def k9c13 : Code := { maxStack := 3, maxLocals := 3, code := jdk_52_method_94_code, exceptionTable := #[], attributes := #[] }
def k9m13 : Method := { name := "checkBoundsOffCount", desc := "(II[B)V", sig := { parameters := [.int, .int, (.array .byte)], returnType := none }, accessFlags := 9, code := some k9c13 }
/-- java/lang/StringUTF16 -/
def k9 : Class := { plain "java/lang/StringUTF16" (some 0) with
  accessFlags := 48
  interfaces := #[]
  cf := some (fileOf pool9 12 #[.nestMembers #[627, 629, 369]] #[{ accessFlags := 0, nameIndex := 9, descriptorIndex := 10, attributes := #[] }, { accessFlags := 9, nameIndex := 109, descriptorIndex := 110, attributes := #[] }, { accessFlags := 9, nameIndex := 15, descriptorIndex := 16, attributes := #[] }, { accessFlags := 8, nameIndex := 113, descriptorIndex := 114, attributes := #[] }, { accessFlags := 8, nameIndex := 73, descriptorIndex := 74, attributes := #[] }, { accessFlags := 9, nameIndex := 50, descriptorIndex := 51, attributes := #[] }, { accessFlags := 9, nameIndex := 121, descriptorIndex := 122, attributes := #[] }, { accessFlags := 8, nameIndex := 261, descriptorIndex := 262, attributes := #[] }, { accessFlags := 9, nameIndex := 117, descriptorIndex := 122, attributes := #[] }, { accessFlags := 9, nameIndex := 117, descriptorIndex := 118, attributes := #[] }, { accessFlags := 9, nameIndex := 392, descriptorIndex := 74, attributes := #[] }, { accessFlags := 9, nameIndex := 140, descriptorIndex := 141, attributes := #[] }, { accessFlags := 9, nameIndex := 69, descriptorIndex := 70, attributes := #[] }, { accessFlags := 9, nameIndex := 175, descriptorIndex := 99, attributes := #[] }] 48 6 #[] #[{ accessFlags := 26, nameIndex := 61, descriptorIndex := 62, attributes := #[] }, { accessFlags := 26, nameIndex := 65, descriptorIndex := 62, attributes := #[] }, { accessFlags := 24, nameIndex := 430, descriptorIndex := 62, attributes := #[] }, { accessFlags := 4120, nameIndex := 46, descriptorIndex := 47, attributes := #[] }])
  fields := #[{ name := "HI_BYTE_SHIFT", type := .int, accessFlags := 26, slot := 0, constantValue := 0 }, { name := "LO_BYTE_SHIFT", type := .int, accessFlags := 26, slot := 1, constantValue := 0 }, { name := "MAX_LENGTH", type := .int, accessFlags := 24, slot := 2, constantValue := 0 }, { name := "$assertionsDisabled", type := .boolean, accessFlags := 4120, slot := 3, constantValue := 0 }]
  methods := #[k9m0, k9m1, k9m2, k9m3, k9m4, k9m5, k9m6, k9m7, k9m8, k9m9, k9m10, k9m11, k9m12, k9m13]
  instanceTypes := #[]
  staticTypes := #[.int, .int, .int, .boolean]
  resolved := Array.replicate 635 none
  statics := some 1 }

def pool10 : Array CpInfo := pool [(1, .class_ 2), (0, u "java/lang/String"), (1, .class_ 6), (1, u "java/lang/Object"), (0, u "<init>"), (0, u "()V"), (0, .methodref 1 10), (0, .nameAndType 11 12), (0, u "checkIndex"), (0, u "(II)V"), (1, .class_ 16), (1, u "java/lang/StringLatin1"), (0, u "inflate"), (2, .class_ 22), (1, u "java/lang/StringUTF16"), (3, .nameAndType 17 27), (0, u "([BI[BII)V"), (25, u "([BI)C"), (67, u "$assertionsDisabled"), (0, u "Z"), (98, .class_ 223), (1, u "java/lang/StringLatin1$LinesSpliterator"), (16, .methodref 20 26), (11, u "charAt"), (137, .class_ 391), (0, u "java/lang/StringLatin1$CharsSpliterator")] 3

def k10m0 : Method := { name := "<init>", desc := "()V", sig := { parameters := [], returnType := none }, accessFlags := 0, code := none }
def k10c1 : Code := { maxStack := 2, maxLocals := 2, code := jdk_43_method_2_code, exceptionTable := #[], attributes := #[] }
def k10m1 : Method := { name := "charAt", desc := "([BI)C", sig := { parameters := [(.array .byte), .int], returnType := some .char }, accessFlags := 9, code := some k10c1 }
def k10c2 : Code := { maxStack := 5, maxLocals := 5, code := jdk_43_method_50_code, exceptionTable := #[], attributes := #[] }
def k10m2 : Method := { name := "inflate", desc := "([BI[BII)V", sig := { parameters := [(.array .byte), .int, (.array .byte), .int, .int], returnType := none }, accessFlags := 9, code := some k10c2 }
/-- java/lang/StringLatin1 -/
def k10 : Class := { plain "java/lang/StringLatin1" (some 0) with
  accessFlags := 48
  interfaces := #[]
  cf := some (fileOf pool10 14 #[.nestMembers #[390, 221]] #[{ accessFlags := 0, nameIndex := 7, descriptorIndex := 8, attributes := #[] }, { accessFlags := 9, nameIndex := 252, descriptorIndex := 53, attributes := #[] }, { accessFlags := 9, nameIndex := 17, descriptorIndex := 27, attributes := #[] }] 48 4 #[] #[{ accessFlags := 4120, nameIndex := 121, descriptorIndex := 122, attributes := #[] }])
  fields := #[{ name := "$assertionsDisabled", type := .boolean, accessFlags := 4120, slot := 0, constantValue := 0 }]
  methods := #[k10m0, k10m1, k10m2]
  instanceTypes := #[]
  staticTypes := #[.boolean]
  resolved := Array.replicate 395 none
  statics := none }

def pool11 : Array CpInfo := pool [(2, .class_ 4), (1, u "java/lang/Object"), (0, u "<init>"), (0, u "()V"), (17, .class_ 26), (1, u "jdk/internal/util/Preconditions"), (6, u "checkIndex"), (15, u "checkFromIndexSize"), (5, .class_ 56), (0, u "jdk/internal/util/Preconditions$4"), (57, .class_ 115), (0, u "jdk/internal/util/Preconditions$1"), (7, u "SIOOBE_FORMATTER"), (0, u "Ljava/util/function/BiFunction;"), (0, .class_ 126), (0, u "jdk/internal/util/Preconditions$2"), (3, u "AIOOBE_FORMATTER"), (0, .class_ 132), (0, u "jdk/internal/util/Preconditions$3"), (3, u "IOOBE_FORMATTER"), (41, u "(IILjava/util/function/BiFunction;)I"), (4, u "(IIILjava/util/function/BiFunction;)I")] 10

def k11m0 : Method := { name := "<init>", desc := "()V", sig := { parameters := [], returnType := none }, accessFlags := 1, code := none }
def k11c1 : Code := { maxStack := 3, maxLocals := 3, code := jdk_41_method_11_code, exceptionTable := #[], attributes := #[] }
def k11m1 : Method := { name := "checkIndex", desc := "(IILjava/util/function/BiFunction;)I", sig := { parameters := [.int, .int, (.object "java/util/function/BiFunction")], returnType := some .int }, accessFlags := 9, code := some k11c1 }
def k11c2 : Code := { maxStack := 4, maxLocals := 4, code := jdk_41_method_13_code, exceptionTable := #[], attributes := #[] }
def k11m2 : Method := { name := "checkFromIndexSize", desc := "(IIILjava/util/function/BiFunction;)I", sig := { parameters := [.int, .int, .int, (.object "java/util/function/BiFunction")], returnType := some .int }, accessFlags := 9, code := some k11c2 }
/-- jdk/internal/util/Preconditions -/
def k11 : Class := { plain "jdk/internal/util/Preconditions" (some 0) with
  accessFlags := 33
  interfaces := #[]
  cf := some (fileOf pool11 24 #[.nestMembers #[55, 131, 125, 114]] #[{ accessFlags := 1, nameIndex := 5, descriptorIndex := 6, attributes := #[] }, { accessFlags := 9, nameIndex := 33, descriptorIndex := 178, attributes := #[] }, { accessFlags := 9, nameIndex := 49, descriptorIndex := 183, attributes := #[] }] 33 2 #[] #[{ accessFlags := 25, nameIndex := 123, descriptorIndex := 124, attributes := #[] }, { accessFlags := 25, nameIndex := 130, descriptorIndex := 124, attributes := #[] }, { accessFlags := 25, nameIndex := 136, descriptorIndex := 124, attributes := #[] }])
  fields := #[{ name := "SIOOBE_FORMATTER", type := (.object "java/util/function/BiFunction"), accessFlags := 25, slot := 0, constantValue := 0 }, { name := "AIOOBE_FORMATTER", type := (.object "java/util/function/BiFunction"), accessFlags := 25, slot := 1, constantValue := 0 }, { name := "IOOBE_FORMATTER", type := (.object "java/util/function/BiFunction"), accessFlags := 25, slot := 2, constantValue := 0 }]
  methods := #[k11m0, k11m1, k11m2]
  instanceTypes := #[]
  staticTypes := #[(.object "java/util/function/BiFunction"), (.object "java/util/function/BiFunction"), (.object "java/util/function/BiFunction")]
  resolved := Array.replicate 194 none
  statics := some 2 }

def pool12 : Array CpInfo := pool [(1, .class_ 2), (0, u "java/lang/Appendable"), (0, .class_ 4), (0, u "java/lang/Object")] 9

/-- java/lang/Appendable -/
def k12 : Class := { plain "java/lang/Appendable" (some 0) with
  accessFlags := 1537
  interfaces := #[]
  cf := some (fileOf pool12 1 #[] #[] 1537 3 #[] #[])
  fields := #[]
  methods := #[]
  instanceTypes := #[]
  staticTypes := #[]
  resolved := Array.replicate 14 none
  statics := none }

def pool13 : Array CpInfo := pool [(1, .class_ 2), (0, u "java/lang/String"), (0, .methodref 4 5), (0, .class_ 6), (0, .nameAndType 7 8), (0, u "java/lang/Object"), (0, u "<init>"), (0, u "()V"), (1, .class_ 12), (1, u "java/lang/AbstractStringBuilder"), (0, u "EMPTYVALUE"), (0, u "[B"), (0, .fieldref 10 16), (0, .nameAndType 17 14), (0, u "value"), (0, .fieldref 1 19), (0, .nameAndType 20 21), (0, u "COMPACT_STRINGS"), (0, u "Z"), (0, .fieldref 10 23), (0, .nameAndType 24 25), (0, u "coder"), (0, u "B"), (0, .methodref 27 28), (0, .class_ 29), (0, .nameAndType 30 31), (0, u "java/lang/StringUTF16"), (0, u "newBytesFor"), (0, u "(I)[B"), (0, .methodref 1 33), (0, .nameAndType 34 35), (0, u "length"), (0, u "()I"), (3, .integer 2147483647), (0, .methodref 1 41), (0, .nameAndType 24 42), (0, u "()B"), (2, u "append"), (0, u "(Ljava/lang/String;)Ljava/lang/AbstractStringBuilder;"), (1, .class_ 49), (0, u "java/lang/CharSequence"), (19, u "(Ljava/lang/String;)V"), (5, u "maybeLatin1"), (3, .fieldref 10 80), (0, .nameAndType 81 82), (0, u "count"), (0, u "I"), (0, .methodref 10 84), (0, .nameAndType 85 86), (0, u "isLatin1"), (0, u "()Z"), (1, .class_ 90), (1, u "java/lang/StringLatin1"), (9, .methodref 10 101), (0, .nameAndType 102 103), (0, u "ensureCapacityInternal"), (0, u "(I)V"), (0, .methodref 10 105), (0, .nameAndType 106 107), (0, u "newCapacity"), (0, u "(I)I"), (0, .methodref 109 110), (0, .class_ 111), (0, .nameAndType 112 113), (0, u "java/util/Arrays"), (0, u "copyOf"), (0, u "([BI)[B"), (0, .methodref 115 116), (0, .class_ 117), (0, .nameAndType 118 119), (0, u "jdk/internal/util/ArraysSupport"), (0, u "newLength"), (0, u "(III)I"), (5, .methodref 88 126), (0, .nameAndType 127 128), (0, u "inflate"), (0, u "([BI[BII)V"), (66, .methodref 10 196), (0, .nameAndType 127 8), (11, .methodref 10 209), (0, .nameAndType 210 211), (0, u "putStringAt"), (0, u "(ILjava/lang/String;)V"), (5, u "inflateIfNeededFor"), (2, .nameAndType 221 222), (0, u "getBytes"), (0, u "([BIB)V"), (174, .methodref 10 398), (0, .nameAndType 217 69), (0, .methodref 1 220), (3, u "()[B"), (40, .class_ 445), (0, u "java/lang/Appendable"), (106, u "getValue")] 56

def k13m0 : Method := { name := "<init>", desc := "()V", sig := { parameters := [], returnType := none }, accessFlags := 0, code := none }
def k13c1 : Code := { maxStack := 2, maxLocals := 2, code := jdk_68_method_2_code, exceptionTable := #[], attributes := #[] }
def k13m1 : Method := { name := "<init>", desc := "(I)V", sig := { parameters := [.int], returnType := none }, accessFlags := 0, code := some k13c1 }
def k13c2 : Code := { maxStack := 1, maxLocals := 1, code := jdk_68_method_6_code, exceptionTable := #[], attributes := #[] }
def k13m2 : Method := { name := "length", desc := "()I", sig := { parameters := [], returnType := some .int }, accessFlags := 1, code := some k13c2 }
def k13c3 : Code := { maxStack := 4, maxLocals := 3, code := jdk_68_method_9_code, exceptionTable := #[], attributes := #[] }
def k13m3 : Method := { name := "ensureCapacityInternal", desc := "(I)V", sig := { parameters := [.int], returnType := none }, accessFlags := 2, code := some k13c3 }
def k13c4 : Code := { maxStack := 5, maxLocals := 6, code := jdk_68_method_10_code, exceptionTable := #[], attributes := #[] }
def k13m4 : Method := { name := "newCapacity", desc := "(I)I", sig := { parameters := [.int], returnType := some .int }, accessFlags := 2, code := some k13c4 }
def k13c5 : Code := { maxStack := 5, maxLocals := 2, code := jdk_68_method_11_code, exceptionTable := #[], attributes := #[] }
def k13m5 : Method := { name := "inflate", desc := "()V", sig := { parameters := [], returnType := none }, accessFlags := 2, code := some k13c5 }
def k13c6 : Code := { maxStack := 3, maxLocals := 3, code := jdk_68_method_22_code, exceptionTable := #[], attributes := #[] }
def k13m6 : Method := { name := "append", desc := "(Ljava/lang/String;)Ljava/lang/AbstractStringBuilder;", sig := { parameters := [(.object "java/lang/String")], returnType := some (.object "java/lang/AbstractStringBuilder") }, accessFlags := 1, code := some k13c6 }
def k13c7 : Code := { maxStack := 1, maxLocals := 1, code := jdk_68_method_64_code, exceptionTable := #[], attributes := #[] }
def k13m7 : Method := { name := "getValue", desc := "()[B", sig := { parameters := [], returnType := some (.array .byte) }, accessFlags := 16, code := some k13c7 }
def k13c8 : Code := { maxStack := 1, maxLocals := 1, code := jdk_68_method_68_code, exceptionTable := #[], attributes := #[] }
def k13m8 : Method := { name := "isLatin1", desc := "()Z", sig := { parameters := [], returnType := some .boolean }, accessFlags := 16, code := some k13c8 }
def k13c9 : Code := { maxStack := 2, maxLocals := 2, code := jdk_68_method_71_code, exceptionTable := #[], attributes := #[] }
def k13m9 : Method := { name := "inflateIfNeededFor", desc := "(Ljava/lang/String;)V", sig := { parameters := [(.object "java/lang/String")], returnType := none }, accessFlags := 2, code := some k13c9 }
def k13c10 : Code := { maxStack := 4, maxLocals := 3, code := jdk_68_method_73_code, exceptionTable := #[], attributes := #[] }
def k13m10 : Method := { name := "putStringAt", desc := "(ILjava/lang/String;)V", sig := { parameters := [.int, (.object "java/lang/String")], returnType := none }, accessFlags := 2, code := some k13c10 }
/-- java/lang/AbstractStringBuilder -/
def k13 : Class := { plain "java/lang/AbstractStringBuilder" (some 0) with
  accessFlags := 1056
  interfaces := #[12, 4]
  cf := some (fileOf pool13 10 #[] #[{ accessFlags := 0, nameIndex := 7, descriptorIndex := 8, attributes := #[] }, { accessFlags := 0, nameIndex := 7, descriptorIndex := 103, attributes := #[] }, { accessFlags := 1, nameIndex := 34, descriptorIndex := 35, attributes := #[] }, { accessFlags := 2, nameIndex := 102, descriptorIndex := 103, attributes := #[] }, { accessFlags := 2, nameIndex := 106, descriptorIndex := 107, attributes := #[] }, { accessFlags := 2, nameIndex := 127, descriptorIndex := 8, attributes := #[] }, { accessFlags := 1, nameIndex := 45, descriptorIndex := 46, attributes := #[] }, { accessFlags := 16, nameIndex := 552, descriptorIndex := 403, attributes := #[] }, { accessFlags := 16, nameIndex := 85, descriptorIndex := 86, attributes := #[] }, { accessFlags := 2, nameIndex := 217, descriptorIndex := 69, attributes := #[] }, { accessFlags := 2, nameIndex := 210, descriptorIndex := 211, attributes := #[] }] 1056 4 #[444, 48] #[{ accessFlags := 0, nameIndex := 17, descriptorIndex := 14, attributes := #[] }, { accessFlags := 0, nameIndex := 24, descriptorIndex := 25, attributes := #[] }, { accessFlags := 0, nameIndex := 75, descriptorIndex := 21, attributes := #[] }, { accessFlags := 0, nameIndex := 81, descriptorIndex := 82, attributes := #[] }, { accessFlags := 26, nameIndex := 13, descriptorIndex := 14, attributes := #[] }])
  fields := #[{ name := "value", type := (.array .byte), accessFlags := 0, slot := 0, constantValue := 0 }, { name := "coder", type := .byte, accessFlags := 0, slot := 1, constantValue := 0 }, { name := "maybeLatin1", type := .boolean, accessFlags := 0, slot := 2, constantValue := 0 }, { name := "count", type := .int, accessFlags := 0, slot := 3, constantValue := 0 }, { name := "EMPTYVALUE", type := (.array .byte), accessFlags := 26, slot := 0, constantValue := 0 }]
  methods := #[k13m0, k13m1, k13m2, k13m3, k13m4, k13m5, k13m6, k13m7, k13m8, k13m9, k13m10]
  instanceTypes := #[(.array .byte), .byte, .boolean, .int]
  staticTypes := #[(.array .byte)]
  resolved := Array.replicate 609 none
  statics := none }

def pool14 : Array CpInfo := pool [(1, .methodref 2 3), (0, .class_ 4), (0, .nameAndType 5 6), (0, u "java/lang/AbstractStringBuilder"), (0, u "<init>"), (0, u "(I)V"), (11, .class_ 20), (1, u "java/lang/String"), (3, .class_ 26), (1, u "java/lang/StringBuilder"), (0, u "append"), (0, u "(Ljava/lang/String;)Ljava/lang/StringBuilder;"), (0, .methodref 2 30), (0, .nameAndType 27 31), (0, u "(Ljava/lang/String;)Ljava/lang/AbstractStringBuilder;"), (105, .methodref 18 138), (0, .nameAndType 5 139), (0, u "(Ljava/lang/StringBuilder;)V"), (5, u "()V"), (10, u "()I"), (186, .methodref 2 344), (0, .nameAndType 345 156), (0, u "length"), (3, .class_ 350), (0, u "java/lang/Appendable"), (0, .class_ 352), (0, u "java/io/Serializable"), (0, .class_ 354), (0, u "java/lang/Comparable"), (0, .class_ 356), (0, u "java/lang/CharSequence"), (0, u "serialVersionUID"), (0, u "J"), (40, u "toString"), (0, u "()Ljava/lang/String;")] 21

def k14c0 : Code := { maxStack := 2, maxLocals := 1, code := jdk_67_method_1_code, exceptionTable := #[], attributes := #[] }
def k14m0 : Method := { name := "<init>", desc := "()V", sig := { parameters := [], returnType := none }, accessFlags := 1, code := some k14c0 }
def k14c1 : Code := { maxStack := 2, maxLocals := 2, code := jdk_67_method_7_code, exceptionTable := #[], attributes := #[] }
def k14m1 : Method := { name := "append", desc := "(Ljava/lang/String;)Ljava/lang/StringBuilder;", sig := { parameters := [(.object "java/lang/String")], returnType := some (.object "java/lang/StringBuilder") }, accessFlags := 1, code := some k14c1 }
def k14c2 : Code := { maxStack := 3, maxLocals := 1, code := jdk_67_method_42_code, exceptionTable := #[], attributes := #[] }
def k14m2 : Method := { name := "toString", desc := "()Ljava/lang/String;", sig := { parameters := [], returnType := some (.object "java/lang/String") }, accessFlags := 1, code := some k14c2 }
def k14c3 : Code := { maxStack := 1, maxLocals := 1, code := jdk_67_method_93_code, exceptionTable := #[], attributes := #[] }
def k14m3 : Method := { name := "length", desc := "()I", sig := { parameters := [], returnType := some .int }, accessFlags := 4161, code := some k14c3 }
/-- java/lang/StringBuilder -/
def k14 : Class := { plain "java/lang/StringBuilder" (some 13) with
  accessFlags := 49
  interfaces := #[12, 2, 3, 4]
  cf := some (fileOf pool14 24 #[] #[{ accessFlags := 1, nameIndex := 5, descriptorIndex := 145, attributes := #[] }, { accessFlags := 1, nameIndex := 27, descriptorIndex := 28, attributes := #[] }, { accessFlags := 1, nameIndex := 399, descriptorIndex := 400, attributes := #[] }, { accessFlags := 4161, nameIndex := 345, descriptorIndex := 156, attributes := #[] }] 49 2 #[349, 351, 353, 355] #[{ accessFlags := 24, nameIndex := 357, descriptorIndex := 358, attributes := #[] }])
  fields := #[{ name := "serialVersionUID", type := .long, accessFlags := 24, slot := 0, constantValue := 0 }]
  methods := #[k14m0, k14m1, k14m2, k14m3]
  instanceTypes := #[(.array .byte), .byte, .boolean, .int]
  staticTypes := #[.long]
  resolved := Array.replicate 422 none
  statics := none }

def pool15 : Array CpInfo := pool [(9, u "<init>"), (6, .class_ 18), (1, u "java/lang/Object"), (0, u "()V"), (1, .class_ 23), (1, u "jdk/internal/util/ArraysSupport"), (0, u "LOG2_ARRAY_LONG_INDEX_SCALE"), (0, u "I"), (2, u "U"), (0, u "Ljdk/internal/misc/Unsafe;"), (8, u "BIG_ENDIAN"), (0, u "Z"), (8, u "LOG2_BYTE_BIT_SIZE"), (4, u "LOG2_ARRAY_INT_INDEX_SCALE"), (54, u "JLA"), (0, u "Ljdk/internal/access/JavaLangAccess;"), (11, u "LOG2_ARRAY_BOOLEAN_INDEX_SCALE"), (9, u "LOG2_ARRAY_BYTE_INDEX_SCALE"), (5, u "LOG2_ARRAY_CHAR_INDEX_SCALE"), (5, u "LOG2_ARRAY_SHORT_INDEX_SCALE"), (18, u "LOG2_ARRAY_FLOAT_INDEX_SCALE"), (24, u "LOG2_ARRAY_DOUBLE_INDEX_SCALE"), (6, .methodref 195 196), (0, .class_ 197), (0, .nameAndType 198 199), (0, u "java/lang/Math"), (0, u "max"), (0, u "(II)I"), (0, .integer 2147483639), (76, u "T_BOOLEAN"), (2, u "T_CHAR"), (1, u "T_FLOAT"), (1, u "T_DOUBLE"), (1, u "T_BYTE"), (1, u "T_SHORT"), (1, u "T_INT"), (1, u "T_LONG"), (1, u "SOFT_MAX_ARRAY_LENGTH"), (56, u "newLength"), (0, u "(III)I")] 25

def k15m0 : Method := { name := "<init>", desc := "()V", sig := { parameters := [], returnType := none }, accessFlags := 2, code := none }
def k15c1 : Code := { maxStack := 3, maxLocals := 4, code := jdk_48_method_27_code, exceptionTable := #[], attributes := #[] }
def k15m1 : Method := { name := "newLength", desc := "(III)I", sig := { parameters := [.int, .int, .int], returnType := some .int }, accessFlags := 9, code := some k15c1 }
/-- jdk/internal/util/ArraysSupport -/
def k15 : Class := { plain "jdk/internal/util/ArraysSupport" (some 0) with
  accessFlags := 33
  interfaces := #[]
  cf := some (fileOf pool15 21 #[] #[{ accessFlags := 2, nameIndex := 9, descriptorIndex := 19, attributes := #[] }, { accessFlags := 9, nameIndex := 351, descriptorIndex := 352, attributes := #[] }] 33 16 #[] #[{ accessFlags := 24, nameIndex := 28, descriptorIndex := 29, attributes := #[] }, { accessFlags := 26, nameIndex := 38, descriptorIndex := 39, attributes := #[] }, { accessFlags := 25, nameIndex := 121, descriptorIndex := 25, attributes := #[] }, { accessFlags := 25, nameIndex := 131, descriptorIndex := 25, attributes := #[] }, { accessFlags := 25, nameIndex := 137, descriptorIndex := 25, attributes := #[] }, { accessFlags := 25, nameIndex := 143, descriptorIndex := 25, attributes := #[] }, { accessFlags := 25, nameIndex := 53, descriptorIndex := 25, attributes := #[] }, { accessFlags := 25, nameIndex := 24, descriptorIndex := 25, attributes := #[] }, { accessFlags := 25, nameIndex := 162, descriptorIndex := 25, attributes := #[] }, { accessFlags := 25, nameIndex := 187, descriptorIndex := 25, attributes := #[] }, { accessFlags := 26, nameIndex := 48, descriptorIndex := 25, attributes := #[] }, { accessFlags := 25, nameIndex := 277, descriptorIndex := 25, attributes := #[] }, { accessFlags := 25, nameIndex := 280, descriptorIndex := 25, attributes := #[] }, { accessFlags := 25, nameIndex := 282, descriptorIndex := 25, attributes := #[] }, { accessFlags := 25, nameIndex := 284, descriptorIndex := 25, attributes := #[] }, { accessFlags := 25, nameIndex := 286, descriptorIndex := 25, attributes := #[] }, { accessFlags := 25, nameIndex := 288, descriptorIndex := 25, attributes := #[] }, { accessFlags := 25, nameIndex := 290, descriptorIndex := 25, attributes := #[] }, { accessFlags := 25, nameIndex := 292, descriptorIndex := 25, attributes := #[] }, { accessFlags := 26, nameIndex := 108, descriptorIndex := 109, attributes := #[] }, { accessFlags := 25, nameIndex := 294, descriptorIndex := 25, attributes := #[] }])
  fields := #[{ name := "U", type := (.object "jdk/internal/misc/Unsafe"), accessFlags := 24, slot := 0, constantValue := 0 }, { name := "BIG_ENDIAN", type := .boolean, accessFlags := 26, slot := 1, constantValue := 0 }, { name := "LOG2_ARRAY_BOOLEAN_INDEX_SCALE", type := .int, accessFlags := 25, slot := 2, constantValue := 0 }, { name := "LOG2_ARRAY_BYTE_INDEX_SCALE", type := .int, accessFlags := 25, slot := 3, constantValue := 0 }, { name := "LOG2_ARRAY_CHAR_INDEX_SCALE", type := .int, accessFlags := 25, slot := 4, constantValue := 0 }, { name := "LOG2_ARRAY_SHORT_INDEX_SCALE", type := .int, accessFlags := 25, slot := 5, constantValue := 0 }, { name := "LOG2_ARRAY_INT_INDEX_SCALE", type := .int, accessFlags := 25, slot := 6, constantValue := 0 }, { name := "LOG2_ARRAY_LONG_INDEX_SCALE", type := .int, accessFlags := 25, slot := 7, constantValue := 0 }, { name := "LOG2_ARRAY_FLOAT_INDEX_SCALE", type := .int, accessFlags := 25, slot := 8, constantValue := 0 }, { name := "LOG2_ARRAY_DOUBLE_INDEX_SCALE", type := .int, accessFlags := 25, slot := 9, constantValue := 0 }, { name := "LOG2_BYTE_BIT_SIZE", type := .int, accessFlags := 26, slot := 10, constantValue := 0 }, { name := "T_BOOLEAN", type := .int, accessFlags := 25, slot := 11, constantValue := 0 }, { name := "T_CHAR", type := .int, accessFlags := 25, slot := 12, constantValue := 0 }, { name := "T_FLOAT", type := .int, accessFlags := 25, slot := 13, constantValue := 0 }, { name := "T_DOUBLE", type := .int, accessFlags := 25, slot := 14, constantValue := 0 }, { name := "T_BYTE", type := .int, accessFlags := 25, slot := 15, constantValue := 0 }, { name := "T_SHORT", type := .int, accessFlags := 25, slot := 16, constantValue := 0 }, { name := "T_INT", type := .int, accessFlags := 25, slot := 17, constantValue := 0 }, { name := "T_LONG", type := .int, accessFlags := 25, slot := 18, constantValue := 0 }, { name := "JLA", type := (.object "jdk/internal/access/JavaLangAccess"), accessFlags := 26, slot := 19, constantValue := 0 }, { name := "SOFT_MAX_ARRAY_LENGTH", type := .int, accessFlags := 25, slot := 20, constantValue := 0 }]
  methods := #[k15m0, k15m1]
  instanceTypes := #[]
  staticTypes := #[(.object "jdk/internal/misc/Unsafe"), .boolean, .int, .int, .int, .int, .int, .int, .int, .int, .int, .int, .int, .int, .int, .int, .int, .int, .int, (.object "jdk/internal/access/JavaLangAccess"), .int]
  resolved := Array.replicate 378 none
  statics := none }

def pool16 : Array CpInfo := pool [(1, .class_ 2), (0, u "java/lang/Math"), (1, .class_ 6), (1, u "java/lang/Object"), (0, u "<init>"), (0, u "()V"), (89, .class_ 100), (1, u "java/lang/Math$RandomNumberGeneratorHolder"), (71, u "negativeZeroFloatBits"), (0, u "J"), (2, u "negativeZeroDoubleBits"), (21, u "max"), (2, u "min"), (43, u "$assertionsDisabled"), (0, u "Z"), (88, u "(II)I"), (2, u "twoToTheDoubleScaleDown"), (0, u "D"), (4, u "twoToTheDoubleScaleUp"), (9, u "E"), (3, u "PI"), (2, u "TAU"), (2, u "DEGREES_TO_RADIANS"), (0, u "RADIANS_TO_DEGREES")] 94

def k16m0 : Method := { name := "<init>", desc := "()V", sig := { parameters := [], returnType := none }, accessFlags := 2, code := none }
def k16c1 : Code := { maxStack := 2, maxLocals := 2, code := jdk_29_method_65_code, exceptionTable := #[], attributes := #[] }
def k16m1 : Method := { name := "max", desc := "(II)I", sig := { parameters := [.int, .int], returnType := some .int }, accessFlags := 9, code := some k16c1 }
def k16c2 : Code := { maxStack := 2, maxLocals := 2, code := jdk_29_method_69_code, exceptionTable := #[], attributes := #[] }
def k16m2 : Method := { name := "min", desc := "(II)I", sig := { parameters := [.int, .int], returnType := some .int }, accessFlags := 9, code := some k16c2 }
/-- java/lang/Math -/
def k16 : Class := { plain "java/lang/Math" (some 0) with
  accessFlags := 49
  interfaces := #[]
  cf := some (fileOf pool16 1 #[.nestMembers #[98]] #[{ accessFlags := 2, nameIndex := 7, descriptorIndex := 8, attributes := #[] }, { accessFlags := 9, nameIndex := 198, descriptorIndex := 335, attributes := #[] }, { accessFlags := 9, nameIndex := 201, descriptorIndex := 335, attributes := #[] }] 49 4 #[] #[{ accessFlags := 25, nameIndex := 354, descriptorIndex := 339, attributes := #[] }, { accessFlags := 25, nameIndex := 358, descriptorIndex := 339, attributes := #[] }, { accessFlags := 25, nameIndex := 361, descriptorIndex := 339, attributes := #[] }, { accessFlags := 26, nameIndex := 364, descriptorIndex := 339, attributes := #[] }, { accessFlags := 26, nameIndex := 365, descriptorIndex := 339, attributes := #[] }, { accessFlags := 26, nameIndex := 172, descriptorIndex := 173, attributes := #[] }, { accessFlags := 26, nameIndex := 176, descriptorIndex := 173, attributes := #[] }, { accessFlags := 8, nameIndex := 344, descriptorIndex := 339, attributes := #[] }, { accessFlags := 8, nameIndex := 338, descriptorIndex := 339, attributes := #[] }, { accessFlags := 4120, nameIndex := 245, descriptorIndex := 246, attributes := #[] }])
  fields := #[{ name := "E", type := .double, accessFlags := 25, slot := 0, constantValue := 0 }, { name := "PI", type := .double, accessFlags := 25, slot := 1, constantValue := 0 }, { name := "TAU", type := .double, accessFlags := 25, slot := 2, constantValue := 0 }, { name := "DEGREES_TO_RADIANS", type := .double, accessFlags := 26, slot := 3, constantValue := 0 }, { name := "RADIANS_TO_DEGREES", type := .double, accessFlags := 26, slot := 4, constantValue := 0 }, { name := "negativeZeroFloatBits", type := .long, accessFlags := 26, slot := 5, constantValue := 0 }, { name := "negativeZeroDoubleBits", type := .long, accessFlags := 26, slot := 6, constantValue := 0 }, { name := "twoToTheDoubleScaleUp", type := .double, accessFlags := 8, slot := 7, constantValue := 0 }, { name := "twoToTheDoubleScaleDown", type := .double, accessFlags := 8, slot := 8, constantValue := 0 }, { name := "$assertionsDisabled", type := .boolean, accessFlags := 4120, slot := 9, constantValue := 0 }]
  methods := #[k16m0, k16m1, k16m2]
  instanceTypes := #[]
  staticTypes := #[.double, .double, .double, .double, .double, .long, .long, .double, .double, .boolean]
  resolved := Array.replicate 460 none
  statics := none }

def pool17 : Array CpInfo := pool [(2, .class_ 4), (1, u "java/lang/Object"), (0, u "<init>"), (0, u "()V"), (7, .class_ 16), (1, u "java/util/Arrays"), (57, .class_ 76), (1, u "java/util/Arrays$NaturalOrder"), (36, .class_ 115), (1, u "java/util/Arrays$LegacyMergeSort"), (1, u "Z"), (21, u "copyOfRange"), (10, .methodref 151 152), (0, .class_ 153), (0, .nameAndType 154 155), (0, u "java/lang/System"), (0, u "arraycopy"), (0, u "(Ljava/lang/Object;ILjava/lang/Object;II)V"), (146, u "copyOf"), (1, .methodref 305 306), (0, .class_ 307), (0, .nameAndType 308 309), (0, u "java/lang/Math"), (0, u "min"), (0, u "(II)I"), (29, .methodref 14 340), (0, .nameAndType 341 342), (0, u "copyOfRangeByte"), (0, u "([BII)[B"), (0, .methodref 14 344), (0, .nameAndType 345 346), (0, u "checkLength"), (0, u "(II)V"), (28, .class_ 376), (0, u "java/util/Arrays$ArrayList"), (68, u "$assertionsDisabled"), (269, u "MIN_ARRAY_SORT_GRAN"), (0, u "I"), (2, u "INSERTIONSORT_THRESHOLD"), (149, u "([BI)[B"), (105, .class_ 976), (0, u "java/util/Arrays$ArrayItr")] 52

def k17m0 : Method := { name := "<init>", desc := "()V", sig := { parameters := [], returnType := none }, accessFlags := 2, code := none }
def k17c1 : Code := { maxStack := 6, maxLocals := 3, code := jdk_65_method_121_code, exceptionTable := #[], attributes := #[] }
def k17m1 : Method := { name := "copyOf", desc := "([BI)[B", sig := { parameters := [(.array .byte), .int], returnType := some (.array .byte) }, accessFlags := 9, code := some k17c1 }
def k17c2 : Code := { maxStack := 4, maxLocals := 2, code := jdk_65_method_131_code, exceptionTable := #[], attributes := #[] }
def k17m2 : Method := { name := "checkLength", desc := "(II)V", sig := { parameters := [.int, .int], returnType := none }, accessFlags := 10, code := some k17c2 }
def k17c3 : Code := { maxStack := 3, maxLocals := 3, code := jdk_65_method_132_code, exceptionTable := #[], attributes := #[] }
def k17m3 : Method := { name := "copyOfRange", desc := "([BII)[B", sig := { parameters := [(.array .byte), .int, .int], returnType := some (.array .byte) }, accessFlags := 9, code := some k17c3 }
def k17c4 : Code := { maxStack := 6, maxLocals := 5, code := jdk_65_method_133_code, exceptionTable := #[], attributes := #[] }
def k17m4 : Method := { name := "copyOfRangeByte", desc := "([BII)[B", sig := { parameters := [(.array .byte), .int, .int], returnType := some (.array .byte) }, accessFlags := 10, code := some k17c4 }
/-- java/util/Arrays -/
def k17 : Class := { plain "java/util/Arrays" (some 0) with
  accessFlags := 49
  interfaces := #[]
  cf := some (fileOf pool17 14 #[.nestMembers #[975, 375, 113, 74]] #[{ accessFlags := 2, nameIndex := 5, descriptorIndex := 6, attributes := #[] }, { accessFlags := 9, nameIndex := 302, descriptorIndex := 869, attributes := #[] }, { accessFlags := 10, nameIndex := 345, descriptorIndex := 346, attributes := #[] }, { accessFlags := 9, nameIndex := 139, descriptorIndex := 342, attributes := #[] }, { accessFlags := 10, nameIndex := 341, descriptorIndex := 342, attributes := #[] }] 49 2 #[] #[{ accessFlags := 26, nameIndex := 715, descriptorIndex := 716, attributes := #[] }, { accessFlags := 26, nameIndex := 719, descriptorIndex := 716, attributes := #[] }, { accessFlags := 4120, nameIndex := 445, descriptorIndex := 117, attributes := #[] }])
  fields := #[{ name := "MIN_ARRAY_SORT_GRAN", type := .int, accessFlags := 26, slot := 0, constantValue := 0 }, { name := "INSERTIONSORT_THRESHOLD", type := .int, accessFlags := 26, slot := 1, constantValue := 0 }, { name := "$assertionsDisabled", type := .boolean, accessFlags := 4120, slot := 2, constantValue := 0 }]
  methods := #[k17m0, k17m1, k17m2, k17m3, k17m4]
  instanceTypes := #[]
  staticTypes := #[.int, .int, .boolean]
  resolved := Array.replicate 1029 none
  statics := none }

def pool18 : Array CpInfo := pool [(2, .class_ 4), (1, u "java/lang/Object"), (0, u "<init>"), (0, u "()V"), (1, .class_ 10), (1, u "java/lang/System"), (0, u "allowSecurityManager"), (0, u "I"), (16, u "cons"), (0, u "Ljava/io/Console;"), (77, .class_ 110), (1, u "java/lang/System$CallersHolder"), (43, u "initialErrStream"), (0, u "Ljava/io/PrintStream;"), (19, u "security"), (0, u "Ljava/lang/SecurityManager;"), (31, .class_ 209), (0, u "java/lang/System$1"), (7, u "props"), (0, u "Ljava/util/Properties;"), (2, u "lineSeparator"), (0, u "Ljava/lang/String;"), (96, .class_ 321), (1, u "java/lang/System$LoggerFinder"), (5, .class_ 328), (0, u "java/lang/System$Logger"), (67, u "err"), (2, u "out"), (91, u "notSupportedJnuEncoding"), (15, u "in"), (17, u "initialIn"), (0, u "Ljava/io/InputStream;"), (35, u "bootLayer"), (0, u "Ljava/lang/ModuleLayer;"), (99, .class_ 664), (0, u "java/lang/System$2"), (9, u "NEVER"), (2, u "MAYBE"), (49, u "arraycopy"), (0, u "(Ljava/lang/Object;ILjava/lang/Object;II)V"), (72, .class_ 802), (0, u "java/lang/System$Logger$Level")] 31

def k18m0 : Method := { name := "<init>", desc := "()V", sig := { parameters := [], returnType := none }, accessFlags := 2, code := none }
def k18m1 : Method := { name := "arraycopy", desc := "(Ljava/lang/Object;ILjava/lang/Object;II)V", sig := { parameters := [(.object "java/lang/Object"), .int, (.object "java/lang/Object"), .int, .int], returnType := none }, accessFlags := 265, code := none }
/-- java/lang/System -/
def k18 : Class := { plain "java/lang/System" (some 0) with
  accessFlags := 49
  interfaces := #[]
  cf := some (fileOf pool18 8 #[.nestMembers #[319, 327, 801, 108, 663, 208]] #[{ accessFlags := 2, nameIndex := 5, descriptorIndex := 6, attributes := #[] }, { accessFlags := 265, nameIndex := 727, descriptorIndex := 728, attributes := #[] }] 49 2 #[] #[{ accessFlags := 25, nameIndex := 507, descriptorIndex := 526, attributes := #[] }, { accessFlags := 25, nameIndex := 399, descriptorIndex := 155, attributes := #[] }, { accessFlags := 25, nameIndex := 396, descriptorIndex := 155, attributes := #[] }, { accessFlags := 10, nameIndex := 525, descriptorIndex := 526, attributes := #[] }, { accessFlags := 26, nameIndex := 674, descriptorIndex := 12, attributes := #[] }, { accessFlags := 26, nameIndex := 677, descriptorIndex := 12, attributes := #[] }, { accessFlags := 10, nameIndex := 11, descriptorIndex := 12, attributes := #[] }, { accessFlags := 74, nameIndex := 175, descriptorIndex := 176, attributes := #[] }, { accessFlags := 10, nameIndex := 491, descriptorIndex := 222, attributes := #[] }, { accessFlags := 74, nameIndex := 29, descriptorIndex := 30, attributes := #[] }, { accessFlags := 74, nameIndex := 154, descriptorIndex := 155, attributes := #[] }, { accessFlags := 10, nameIndex := 217, descriptorIndex := 218, attributes := #[] }, { accessFlags := 10, nameIndex := 221, descriptorIndex := 222, attributes := #[] }, { accessFlags := 8, nameIndex := 562, descriptorIndex := 563, attributes := #[] }])
  fields := #[{ name := "in", type := (.object "java/io/InputStream"), accessFlags := 25, slot := 0, constantValue := 0 }, { name := "out", type := (.object "java/io/PrintStream"), accessFlags := 25, slot := 1, constantValue := 0 }, { name := "err", type := (.object "java/io/PrintStream"), accessFlags := 25, slot := 2, constantValue := 0 }, { name := "initialIn", type := (.object "java/io/InputStream"), accessFlags := 10, slot := 3, constantValue := 0 }, { name := "NEVER", type := .int, accessFlags := 26, slot := 4, constantValue := 0 }, { name := "MAYBE", type := .int, accessFlags := 26, slot := 5, constantValue := 0 }, { name := "allowSecurityManager", type := .int, accessFlags := 10, slot := 6, constantValue := 0 }, { name := "security", type := (.object "java/lang/SecurityManager"), accessFlags := 74, slot := 7, constantValue := 0 }, { name := "notSupportedJnuEncoding", type := (.object "java/lang/String"), accessFlags := 10, slot := 8, constantValue := 0 }, { name := "cons", type := (.object "java/io/Console"), accessFlags := 74, slot := 9, constantValue := 0 }, { name := "initialErrStream", type := (.object "java/io/PrintStream"), accessFlags := 74, slot := 10, constantValue := 0 }, { name := "props", type := (.object "java/util/Properties"), accessFlags := 10, slot := 11, constantValue := 0 }, { name := "lineSeparator", type := (.object "java/lang/String"), accessFlags := 10, slot := 12, constantValue := 0 }, { name := "bootLayer", type := (.object "java/lang/ModuleLayer"), accessFlags := 8, slot := 13, constantValue := 0 }]
  methods := #[k18m0, k18m1]
  instanceTypes := #[]
  staticTypes := #[(.object "java/io/InputStream"), (.object "java/io/PrintStream"), (.object "java/io/PrintStream"), (.object "java/io/InputStream"), .int, .int, .int, (.object "java/lang/SecurityManager"), (.object "java/lang/String"), (.object "java/io/Console"), (.object "java/io/PrintStream"), (.object "java/util/Properties"), (.object "java/lang/String"), (.object "java/lang/ModuleLayer")]
  resolved := Array.replicate 834 none
  statics := none }

def pool19 : Array CpInfo := pool [(1, u "java/lang/Cloneable"), (0, .class_ 1), (0, u "java/lang/Object"), (0, .class_ 3)] 3

/-- java/lang/Cloneable -/
def k19 : Class := { plain "java/lang/Cloneable" (some 0) with
  accessFlags := 1537
  interfaces := #[]
  cf := some (fileOf pool19 2 #[] #[] 1537 4 #[] #[])
  fields := #[]
  methods := #[]
  instanceTypes := #[]
  staticTypes := #[]
  resolved := Array.replicate 8 none
  statics := none }

/-- the primitive byte -/
def k20 : Class := { plain "byte" none with kind := .primitive 'B', accessFlags := 0x411 }
/-- [B -/
def k21 : Class := { plain "[B" (some 0) with kind := .array 20 .byte, interfaces := #[19, 2], accessFlags := 1041 }

/-- the primitive char -/
def k22 : Class := { plain "char" none with kind := .primitive 'C', accessFlags := 0x411 }
/-- [C -/
def k23 : Class := { plain "[C" (some 0) with kind := .array 22 .char, interfaces := #[19, 2], accessFlags := 1041 }

/-- the primitive int -/
def k24 : Class := { plain "int" none with kind := .primitive 'I', accessFlags := 0x411 }
/-- [I -/
def k25 : Class := { plain "[I" (some 0) with kind := .array 24 .int, interfaces := #[19, 2], accessFlags := 1041 }

def heap : Heap := #[{ cls := 7, slots := #[.long 0, .int 1, .null, .int 0, .null, .int 0, .int 0], vm := .statics 7 },
  { cls := 9, slots := #[.int 0, .int 8, .int 0, .int 1], vm := .statics 9 },
  { cls := 11, slots := #[.null, .null, .null], vm := .statics 11 }]
def classes : Array Class := #[k0, k1, k2, k3, k4, k5, k6, k7, k8, k9, k10, k11, k12, k13, k14, k15, k16, k17, k18, k19, k20, k21, k22, k23, k24, k25]
def interned : List (Array UInt16 × Addr) := []
def slotsUsed : Nat := 14
def theMethod : MethodId := ⟨1, 4⟩
def args0 : Array Value := #[.int 65, .int 66, .int 67, .int 68, .int 3]
def aboutOver (below : List Frame) : State where
  vm := { classes := classes, interned := interned.toArray }
  heap := heap
  slotsUsed := slotsUsed
  threads := #[{ frames := .invoking theMethod args0 :: below }]
def below0 : List Frame := [.native { method := ⟨0, 0⟩, args := #[] }]
def about1 : State := aboutOver below0
def p0 : Program := .bare "" "" ""
def e0 : Env := launch0.env 0 0 0
theorem w_frames : about1.frames = Frame.invoking theMethod args0 :: below0 := rfl
set_option maxRecDepth 65536 in
theorem w_args : argsFit about1.vm theMethod args0 = true := by decide +kernel
set_option maxRecDepth 65536 in
theorem w_heap : heapFits about1 = true := by decide +kernel
set_option maxRecDepth 65536 in
theorem w_runnable : about1.curStatus? = some .runnable := by decide +kernel
set_option maxRecDepth 65536 in
theorem w_alone : about1.alone = true := by decide +kernel
set_option maxRecDepth 65536 in
theorem w_named : about1.methodNamed? x = some theMethod := by decide +kernel
set_option maxRecDepth 65536 in
theorem w_hears : about1.hears theMethod below0 = true := by decide +kernel
set_option maxRecDepth 65536 in
theorem w_ripe : about1.ripe theMethod args0 below0 = true := by decide +kernel
theorem w_running : about1.status = .running := rfl
set_option maxRecDepth 65536 in
theorem w_room : about1.hasRoom e0.platform room_1 = true :=
  launch0.hasRoom_least _ room_1 (by decide +kernel) (by decide +kernel) (by decide +kernel) (by decide +kernel) (by decide +kernel) (by decide +kernel)
theorem allAtoms_all (ts : List Jvm.Cond) (a : Array Jvm.Value) (st : Jvm.State) : (allAtoms ts).before a st = ts.all (fun c => c.before a st) := by
  induction ts with
  | nil => rfl
  | cons c t ih =>
    show (Jvm.Cond.and c (allAtoms t)).before a st = _
    rw [Jvm.Cond.before_and, ih, List.all_cons]
def words1 : List Jvm.Cond := Jvm.Cond.code x code maxLocals ret :: tables_1
/-- a 'code' word, met by the world's own term for the bytes: nothing is compared byte by byte -/
theorem code_word {y : MethodName} {bytes : ByteArray} {mx : Nat} {rt : Option FieldType} {a : Array Value} {s : State} {m : MethodId} {meth : Method} {c : Code} (h1 : s.methodNamed? y = some m) (h2 : s.vm.method? m = some meth) (h3 : meth.code = some c) (h4 : c.code = bytes)
    (h5 : (c.maxLocals == mx && c.exceptionTable.isEmpty && decide (c.maxStack ≤ mostOperands) && decide (meth.sig.returnType = rt) && !meth.locks && decide (parseMethodDescriptor y.desc = some meth.sig)) = true) : (Jvm.Cond.code y bytes mx rt).before a s = true := by
  simp only [Bool.and_eq_true, beq_iff_eq, Bool.not_eq_true', decide_eq_true_eq] at h5
  obtain ⟨⟨⟨⟨⟨g1, g2⟩, g3⟩, g4⟩, g5⟩, g6⟩ := h5
  simp [Cond.before, Cond.holds, Cond.value, h1, h2, h3, h4, g1, g2, g3, g4, g5, g6]
def isCode : Jvm.Cond → Bool
  | .code _ _ _ _ => true
  | _ => false
theorem all_split {L : List Jvm.Cond} {P : Jvm.Cond → Bool} (h1 : L.all (fun c => isCode c || P c) = true) (h2 : ∀ c ∈ L.filter isCode, P c = true) : L.all P = true := by
  refine List.all_eq_true.mpr fun c hc => ?_
  have h := List.all_eq_true.mp h1 c hc
  rcases Bool.eq_false_or_eq_true (isCode c) with hi | hi
  · exact h2 c (List.mem_filter.mpr ⟨hc, hi⟩)
  · simpa [hi] using h
set_option maxRecDepth 65536 in
theorem w_c0 : (Jvm.Cond.code x code maxLocals ret).before args0 about1 = true := code_word (m := ⟨1, 4⟩) (meth := k1m4) (c := k1c4) (by decide +kernel) rfl rfl rfl (by decide +kernel)
set_option maxRecDepth 65536 in
theorem w_c1 : (Jvm.Cond.code ({ cls := "com/example/cicada/cicada/NamesIsValidPinLaw", name := "draw", desc := "(I)C" } : Jvm.MethodName) method_2_code (1 : Nat) (Option.some Jvm.ClassFile.FieldType.char)).before args0 about1 = true := code_word (m := ⟨1, 1⟩) (meth := k1m1) (c := k1c1) (by decide +kernel) rfl rfl rfl (by decide +kernel)
set_option maxRecDepth 65536 in
theorem w_c2 : (Jvm.Cond.code ({ cls := "com/example/cicada/cicada/NamesIsValidPinLaw", name := "make", desc := "(ICCCC)Ljava/lang/String;" } : Jvm.MethodName) method_4_code (6 : Nat) (Option.some (Jvm.ClassFile.FieldType.object "java/lang/String"))).before args0 about1 = true := code_word (m := ⟨1, 3⟩) (meth := k1m3) (c := k1c3) (by decide +kernel) rfl rfl rfl (by decide +kernel)
set_option maxRecDepth 65536 in
theorem w_c3 : (Jvm.Cond.code ({ cls := "java/lang/String", name := "<init>", desc := "([C)V" } : Jvm.MethodName) jdk_42_method_3_code (2 : Nat) (Option.none : Option Jvm.ClassFile.FieldType)).before args0 about1 = true := code_word (m := ⟨7, 1⟩) (meth := k7m1) (c := k7c1) (by decide +kernel) rfl rfl rfl (by decide +kernel)
set_option maxRecDepth 65536 in
theorem w_c4 : (Jvm.Cond.code ({ cls := "java/lang/String", name := "<init>", desc := "([CIILjava/lang/Void;)V" } : Jvm.MethodName) jdk_42_method_149_code (6 : Nat) (Option.none : Option Jvm.ClassFile.FieldType)).before args0 about1 = true := code_word (m := ⟨7, 7⟩) (meth := k7m7) (c := k7c7) (by decide +kernel) rfl rfl rfl (by decide +kernel)
set_option maxRecDepth 65536 in
theorem w_c5 : (Jvm.Cond.code ({ cls := "java/lang/Object", name := "<init>", desc := "()V" } : Jvm.MethodName) object_method_1_code (1 : Nat) (Option.none : Option Jvm.ClassFile.FieldType)).before args0 about1 = true := code_word (m := ⟨0, 0⟩) (meth := k0m0) (c := k0c0) (by decide +kernel) rfl rfl rfl (by decide +kernel)
set_option maxRecDepth 65536 in
theorem w_c6 : (Jvm.Cond.code ({ cls := "com/example/cicada/cicada/Names", name := "isValid", desc := "(Ljava/lang/String;)Z" } : Jvm.MethodName) prog_1_method_2_code (1 : Nat) (Option.some Jvm.ClassFile.FieldType.boolean)).before args0 about1 = true := code_word (m := ⟨8, 1⟩) (meth := k8m1) (c := k8c1) (by decide +kernel) rfl rfl rfl (by decide +kernel)
set_option maxRecDepth 65536 in
theorem w_c7 : (Jvm.Cond.code ({ cls := "java/lang/String", name := "isEmpty", desc := "()Z" } : Jvm.MethodName) jdk_42_method_55_code (1 : Nat) (Option.some Jvm.ClassFile.FieldType.boolean)).before args0 about1 = true := code_word (m := ⟨7, 4⟩) (meth := k7m4) (c := k7c4) (by decide +kernel) rfl rfl rfl (by decide +kernel)
set_option maxRecDepth 65536 in
theorem w_c8 : (Jvm.Cond.code ({ cls := "com/example/cicada/cicada/NamesIsValidPinLaw", name := "allowed", desc := "(C)Z" } : Jvm.MethodName) method_3_code (1 : Nat) (Option.some Jvm.ClassFile.FieldType.boolean)).before args0 about1 = true := code_word (m := ⟨1, 2⟩) (meth := k1m2) (c := k1c2) (by decide +kernel) rfl rfl rfl (by decide +kernel)
set_option maxRecDepth 65536 in
theorem w_c9 : (Jvm.Cond.code ({ cls := "java/lang/StringUTF16", name := "compress", desc := "([CII)[B" } : Jvm.MethodName) jdk_52_method_16_code (6 : Nat) (Option.some (Jvm.ClassFile.FieldType.array Jvm.ClassFile.FieldType.byte))).before args0 about1 = true := code_word (m := ⟨9, 8⟩) (meth := k9m8) (c := k9c8) (by decide +kernel) rfl rfl rfl (by decide +kernel)
set_option maxRecDepth 65536 in
theorem w_c10 : (Jvm.Cond.code ({ cls := "java/lang/StringUTF16", name := "compress", desc := "([CI[BII)I" } : Jvm.MethodName) jdk_52_method_21_code (7 : Nat) (Option.some Jvm.ClassFile.FieldType.int)).before args0 about1 = true := code_word (m := ⟨9, 9⟩) (meth := k9m9) (c := k9c9) (by decide +kernel) rfl rfl rfl (by decide +kernel)
set_option maxRecDepth 65536 in
theorem w_c11 : (Jvm.Cond.code ({ cls := "java/lang/StringUTF16", name := "coderFromArrayLen", desc := "([BI)B" } : Jvm.MethodName) jdk_52_method_15_code (2 : Nat) (Option.some Jvm.ClassFile.FieldType.byte)).before args0 about1 = true := code_word (m := ⟨9, 7⟩) (meth := k9m7) (c := k9c7) (by decide +kernel) rfl rfl rfl (by decide +kernel)
set_option maxRecDepth 65536 in
theorem w_c12 : (Jvm.Cond.code ({ cls := "java/lang/String", name := "length", desc := "()I" } : Jvm.MethodName) jdk_42_method_54_code (1 : Nat) (Option.some Jvm.ClassFile.FieldType.int)).before args0 about1 = true := code_word (m := ⟨7, 3⟩) (meth := k7m3) (c := k7c3) (by decide +kernel) rfl rfl rfl (by decide +kernel)
set_option maxRecDepth 65536 in
theorem w_c13 : (Jvm.Cond.code ({ cls := "java/lang/String", name := "coder", desc := "()B" } : Jvm.MethodName) jdk_42_method_152_code (1 : Nat) (Option.some Jvm.ClassFile.FieldType.byte)).before args0 about1 = true := code_word (m := ⟨7, 9⟩) (meth := k7m9) (c := k7c9) (by decide +kernel) rfl rfl rfl (by decide +kernel)
set_option maxRecDepth 65536 in
theorem w_c14 : (Jvm.Cond.code ({ cls := "com/example/cicada/cicada/Names", name := "allAllowed", desc := "(Ljava/lang/String;)Z" } : Jvm.MethodName) prog_1_method_6_code (2 : Nat) (Option.some Jvm.ClassFile.FieldType.boolean)).before args0 about1 = true := code_word (m := ⟨8, 3⟩) (meth := k8m3) (c := k8c3) (by decide +kernel) rfl rfl rfl (by decide +kernel)
set_option maxRecDepth 65536 in
theorem w_c15 : (Jvm.Cond.code ({ cls := "java/lang/String", name := "charAt", desc := "(I)C" } : Jvm.MethodName) jdk_42_method_56_code (2 : Nat) (Option.some Jvm.ClassFile.FieldType.char)).before args0 about1 = true := code_word (m := ⟨7, 5⟩) (meth := k7m5) (c := k7c5) (by decide +kernel) rfl rfl rfl (by decide +kernel)
set_option maxRecDepth 65536 in
theorem w_c16 : (Jvm.Cond.code ({ cls := "java/lang/String", name := "isLatin1", desc := "()Z" } : Jvm.MethodName) jdk_42_method_154_code (1 : Nat) (Option.some Jvm.ClassFile.FieldType.boolean)).before args0 about1 = true := code_word (m := ⟨7, 10⟩) (meth := k7m10) (c := k7c10) (by decide +kernel) rfl rfl rfl (by decide +kernel)
set_option maxRecDepth 65536 in
theorem w_c17 : (Jvm.Cond.code ({ cls := "java/lang/StringLatin1", name := "charAt", desc := "([BI)C" } : Jvm.MethodName) jdk_43_method_2_code (2 : Nat) (Option.some Jvm.ClassFile.FieldType.char)).before args0 about1 = true := code_word (m := ⟨10, 1⟩) (meth := k10m1) (c := k10c1) (by decide +kernel) rfl rfl rfl (by decide +kernel)
set_option maxRecDepth 65536 in
theorem w_c18 : (Jvm.Cond.code ({ cls := "java/lang/String", name := "checkIndex", desc := "(II)V" } : Jvm.MethodName) jdk_42_method_155_code (2 : Nat) (Option.none : Option Jvm.ClassFile.FieldType)).before args0 about1 = true := code_word (m := ⟨7, 11⟩) (meth := k7m11) (c := k7c11) (by decide +kernel) rfl rfl rfl (by decide +kernel)
set_option maxRecDepth 65536 in
theorem w_c19 : (Jvm.Cond.code ({ cls := "jdk/internal/util/Preconditions", name := "checkIndex", desc := "(IILjava/util/function/BiFunction;)I" } : Jvm.MethodName) jdk_41_method_11_code (3 : Nat) (Option.some Jvm.ClassFile.FieldType.int)).before args0 about1 = true := code_word (m := ⟨11, 1⟩) (meth := k11m1) (c := k11c1) (by decide +kernel) rfl rfl rfl (by decide +kernel)
set_option maxRecDepth 65536 in
theorem w_c20 : (Jvm.Cond.code ({ cls := "com/example/cicada/cicada/Names", name := "isAllowed", desc := "(C)Z" } : Jvm.MethodName) prog_1_method_7_code (1 : Nat) (Option.some Jvm.ClassFile.FieldType.boolean)).before args0 about1 = true := code_word (m := ⟨8, 4⟩) (meth := k8m4) (c := k8c4) (by decide +kernel) rfl rfl rfl (by decide +kernel)
set_option maxRecDepth 65536 in
theorem w_c21 : (Jvm.Cond.code ({ cls := "com/example/cicada/cicada/Names", name := "deadLetterTopic", desc := "(Ljava/lang/String;Ljava/lang/String;)Ljava/lang/String;" } : Jvm.MethodName) prog_1_method_4_code (2 : Nat) (Option.some (Jvm.ClassFile.FieldType.object "java/lang/String"))).before args0 about1 = true := code_word (m := ⟨8, 2⟩) (meth := k8m2) (c := k8c2) (by decide +kernel) rfl rfl rfl (by decide +kernel)
set_option maxRecDepth 65536 in
theorem w_c22 : (Jvm.Cond.code ({ cls := "java/lang/StringBuilder", name := "<init>", desc := "()V" } : Jvm.MethodName) jdk_67_method_1_code (1 : Nat) (Option.none : Option Jvm.ClassFile.FieldType)).before args0 about1 = true := code_word (m := ⟨14, 0⟩) (meth := k14m0) (c := k14c0) (by decide +kernel) rfl rfl rfl (by decide +kernel)
set_option maxRecDepth 65536 in
theorem w_c23 : (Jvm.Cond.code ({ cls := "java/lang/AbstractStringBuilder", name := "<init>", desc := "(I)V" } : Jvm.MethodName) jdk_68_method_2_code (2 : Nat) (Option.none : Option Jvm.ClassFile.FieldType)).before args0 about1 = true := code_word (m := ⟨13, 1⟩) (meth := k13m1) (c := k13c1) (by decide +kernel) rfl rfl rfl (by decide +kernel)
set_option maxRecDepth 65536 in
theorem w_c24 : (Jvm.Cond.code ({ cls := "java/lang/StringBuilder", name := "append", desc := "(Ljava/lang/String;)Ljava/lang/StringBuilder;" } : Jvm.MethodName) jdk_67_method_7_code (2 : Nat) (Option.some (Jvm.ClassFile.FieldType.object "java/lang/StringBuilder"))).before args0 about1 = true := code_word (m := ⟨14, 1⟩) (meth := k14m1) (c := k14c1) (by decide +kernel) rfl rfl rfl (by decide +kernel)
set_option maxRecDepth 65536 in
theorem w_c25 : (Jvm.Cond.code ({ cls := "java/lang/AbstractStringBuilder", name := "append", desc := "(Ljava/lang/String;)Ljava/lang/AbstractStringBuilder;" } : Jvm.MethodName) jdk_68_method_22_code (3 : Nat) (Option.some (Jvm.ClassFile.FieldType.object "java/lang/AbstractStringBuilder"))).before args0 about1 = true := code_word (m := ⟨13, 6⟩) (meth := k13m6) (c := k13c6) (by decide +kernel) rfl rfl rfl (by decide +kernel)
set_option maxRecDepth 65536 in
theorem w_c26 : (Jvm.Cond.code ({ cls := "java/lang/AbstractStringBuilder", name := "ensureCapacityInternal", desc := "(I)V" } : Jvm.MethodName) jdk_68_method_9_code (3 : Nat) (Option.none : Option Jvm.ClassFile.FieldType)).before args0 about1 = true := code_word (m := ⟨13, 3⟩) (meth := k13m3) (c := k13c3) (by decide +kernel) rfl rfl rfl (by decide +kernel)
set_option maxRecDepth 65536 in
theorem w_c27 : (Jvm.Cond.code ({ cls := "java/lang/AbstractStringBuilder", name := "newCapacity", desc := "(I)I" } : Jvm.MethodName) jdk_68_method_10_code (6 : Nat) (Option.some Jvm.ClassFile.FieldType.int)).before args0 about1 = true := code_word (m := ⟨13, 4⟩) (meth := k13m4) (c := k13c4) (by decide +kernel) rfl rfl rfl (by decide +kernel)
set_option maxRecDepth 65536 in
theorem w_c28 : (Jvm.Cond.code ({ cls := "jdk/internal/util/ArraysSupport", name := "newLength", desc := "(III)I" } : Jvm.MethodName) jdk_48_method_27_code (4 : Nat) (Option.some Jvm.ClassFile.FieldType.int)).before args0 about1 = true := code_word (m := ⟨15, 1⟩) (meth := k15m1) (c := k15c1) (by decide +kernel) rfl rfl rfl (by decide +kernel)
set_option maxRecDepth 65536 in
theorem w_c29 : (Jvm.Cond.code ({ cls := "java/lang/Math", name := "max", desc := "(II)I" } : Jvm.MethodName) jdk_29_method_65_code (2 : Nat) (Option.some Jvm.ClassFile.FieldType.int)).before args0 about1 = true := code_word (m := ⟨16, 1⟩) (meth := k16m1) (c := k16c1) (by decide +kernel) rfl rfl rfl (by decide +kernel)
set_option maxRecDepth 65536 in
theorem w_c30 : (Jvm.Cond.code ({ cls := "java/util/Arrays", name := "copyOf", desc := "([BI)[B" } : Jvm.MethodName) jdk_65_method_121_code (3 : Nat) (Option.some (Jvm.ClassFile.FieldType.array Jvm.ClassFile.FieldType.byte))).before args0 about1 = true := code_word (m := ⟨17, 1⟩) (meth := k17m1) (c := k17c1) (by decide +kernel) rfl rfl rfl (by decide +kernel)
set_option maxRecDepth 65536 in
theorem w_c31 : (Jvm.Cond.code ({ cls := "java/lang/Math", name := "min", desc := "(II)I" } : Jvm.MethodName) jdk_29_method_69_code (2 : Nat) (Option.some Jvm.ClassFile.FieldType.int)).before args0 about1 = true := code_word (m := ⟨16, 2⟩) (meth := k16m2) (c := k16c2) (by decide +kernel) rfl rfl rfl (by decide +kernel)
set_option maxRecDepth 65536 in
theorem w_c32 : (Jvm.Cond.code ({ cls := "java/lang/AbstractStringBuilder", name := "putStringAt", desc := "(ILjava/lang/String;)V" } : Jvm.MethodName) jdk_68_method_73_code (3 : Nat) (Option.none : Option Jvm.ClassFile.FieldType)).before args0 about1 = true := code_word (m := ⟨13, 10⟩) (meth := k13m10) (c := k13c10) (by decide +kernel) rfl rfl rfl (by decide +kernel)
set_option maxRecDepth 65536 in
theorem w_c33 : (Jvm.Cond.code ({ cls := "java/lang/AbstractStringBuilder", name := "inflateIfNeededFor", desc := "(Ljava/lang/String;)V" } : Jvm.MethodName) jdk_68_method_71_code (2 : Nat) (Option.none : Option Jvm.ClassFile.FieldType)).before args0 about1 = true := code_word (m := ⟨13, 9⟩) (meth := k13m9) (c := k13c9) (by decide +kernel) rfl rfl rfl (by decide +kernel)
set_option maxRecDepth 65536 in
theorem w_c34 : (Jvm.Cond.code ({ cls := "java/lang/String", name := "getBytes", desc := "([BIB)V" } : Jvm.MethodName) jdk_42_method_147_code (4 : Nat) (Option.none : Option Jvm.ClassFile.FieldType)).before args0 about1 = true := code_word (m := ⟨7, 6⟩) (meth := k7m6) (c := k7c6) (by decide +kernel) rfl rfl rfl (by decide +kernel)
set_option maxRecDepth 65536 in
theorem w_c35 : (Jvm.Cond.code ({ cls := "java/lang/StringBuilder", name := "toString", desc := "()Ljava/lang/String;" } : Jvm.MethodName) jdk_67_method_42_code (1 : Nat) (Option.some (Jvm.ClassFile.FieldType.object "java/lang/String"))).before args0 about1 = true := code_word (m := ⟨14, 2⟩) (meth := k14m2) (c := k14c2) (by decide +kernel) rfl rfl rfl (by decide +kernel)
set_option maxRecDepth 65536 in
theorem w_c36 : (Jvm.Cond.code ({ cls := "java/lang/String", name := "<init>", desc := "(Ljava/lang/StringBuilder;)V" } : Jvm.MethodName) jdk_42_method_53_code (2 : Nat) (Option.none : Option Jvm.ClassFile.FieldType)).before args0 about1 = true := code_word (m := ⟨7, 2⟩) (meth := k7m2) (c := k7c2) (by decide +kernel) rfl rfl rfl (by decide +kernel)
set_option maxRecDepth 65536 in
theorem w_c37 : (Jvm.Cond.code ({ cls := "java/lang/String", name := "<init>", desc := "(Ljava/lang/AbstractStringBuilder;Ljava/lang/Void;)V" } : Jvm.MethodName) jdk_42_method_150_code (5 : Nat) (Option.none : Option Jvm.ClassFile.FieldType)).before args0 about1 = true := code_word (m := ⟨7, 8⟩) (meth := k7m8) (c := k7c8) (by decide +kernel) rfl rfl rfl (by decide +kernel)
set_option maxRecDepth 65536 in
theorem w_c38 : (Jvm.Cond.code ({ cls := "java/lang/AbstractStringBuilder", name := "getValue", desc := "()[B" } : Jvm.MethodName) jdk_68_method_64_code (1 : Nat) (Option.some (Jvm.ClassFile.FieldType.array Jvm.ClassFile.FieldType.byte))).before args0 about1 = true := code_word (m := ⟨13, 7⟩) (meth := k13m7) (c := k13c7) (by decide +kernel) rfl rfl rfl (by decide +kernel)
set_option maxRecDepth 65536 in
theorem w_c39 : (Jvm.Cond.code ({ cls := "java/lang/StringBuilder", name := "length", desc := "()I" } : Jvm.MethodName) jdk_67_method_93_code (1 : Nat) (Option.some Jvm.ClassFile.FieldType.int)).before args0 about1 = true := code_word (m := ⟨14, 3⟩) (meth := k14m3) (c := k14c3) (by decide +kernel) rfl rfl rfl (by decide +kernel)
set_option maxRecDepth 65536 in
theorem w_c40 : (Jvm.Cond.code ({ cls := "java/lang/AbstractStringBuilder", name := "length", desc := "()I" } : Jvm.MethodName) jdk_68_method_6_code (1 : Nat) (Option.some Jvm.ClassFile.FieldType.int)).before args0 about1 = true := code_word (m := ⟨13, 2⟩) (meth := k13m2) (c := k13c2) (by decide +kernel) rfl rfl rfl (by decide +kernel)
set_option maxRecDepth 65536 in
theorem w_c41 : (Jvm.Cond.code ({ cls := "java/lang/AbstractStringBuilder", name := "isLatin1", desc := "()Z" } : Jvm.MethodName) jdk_68_method_68_code (1 : Nat) (Option.some Jvm.ClassFile.FieldType.boolean)).before args0 about1 = true := code_word (m := ⟨13, 8⟩) (meth := k13m8) (c := k13c8) (by decide +kernel) rfl rfl rfl (by decide +kernel)
set_option maxRecDepth 65536 in
theorem w_c42 : (Jvm.Cond.code ({ cls := "java/util/Arrays", name := "copyOfRange", desc := "([BII)[B" } : Jvm.MethodName) jdk_65_method_132_code (3 : Nat) (Option.some (Jvm.ClassFile.FieldType.array Jvm.ClassFile.FieldType.byte))).before args0 about1 = true := code_word (m := ⟨17, 3⟩) (meth := k17m3) (c := k17c3) (by decide +kernel) rfl rfl rfl (by decide +kernel)
set_option maxRecDepth 65536 in
theorem w_c43 : (Jvm.Cond.code ({ cls := "java/util/Arrays", name := "copyOfRangeByte", desc := "([BII)[B" } : Jvm.MethodName) jdk_65_method_133_code (5 : Nat) (Option.some (Jvm.ClassFile.FieldType.array Jvm.ClassFile.FieldType.byte))).before args0 about1 = true := code_word (m := ⟨17, 4⟩) (meth := k17m4) (c := k17c4) (by decide +kernel) rfl rfl rfl (by decide +kernel)
set_option maxRecDepth 65536 in
theorem w_c44 : (Jvm.Cond.code ({ cls := "java/util/Arrays", name := "checkLength", desc := "(II)V" } : Jvm.MethodName) jdk_65_method_131_code (2 : Nat) (Option.none : Option Jvm.ClassFile.FieldType)).before args0 about1 = true := code_word (m := ⟨17, 2⟩) (meth := k17m2) (c := k17c2) (by decide +kernel) rfl rfl rfl (by decide +kernel)
set_option maxRecDepth 65536 in
theorem w_c45 : (Jvm.Cond.code ({ cls := "java/lang/StringUTF16", name := "toBytes", desc := "([CII)[B" } : Jvm.MethodName) jdk_52_method_14_code (5 : Nat) (Option.some (Jvm.ClassFile.FieldType.array Jvm.ClassFile.FieldType.byte))).before args0 about1 = true := code_word (m := ⟨9, 6⟩) (meth := k9m6) (c := k9c6) (by decide +kernel) rfl rfl rfl (by decide +kernel)
set_option maxRecDepth 65536 in
theorem w_c46 : (Jvm.Cond.code ({ cls := "java/lang/StringUTF16", name := "newBytesFor", desc := "(I)[B" } : Jvm.MethodName) jdk_52_method_2_code (1 : Nat) (Option.some (Jvm.ClassFile.FieldType.array Jvm.ClassFile.FieldType.byte))).before args0 about1 = true := code_word (m := ⟨9, 1⟩) (meth := k9m1) (c := k9c1) (by decide +kernel) rfl rfl rfl (by decide +kernel)
set_option maxRecDepth 65536 in
theorem w_c47 : (Jvm.Cond.code ({ cls := "java/lang/StringUTF16", name := "newBytesLength", desc := "(I)I" } : Jvm.MethodName) jdk_52_method_3_code (1 : Nat) (Option.some Jvm.ClassFile.FieldType.int)).before args0 about1 = true := code_word (m := ⟨9, 2⟩) (meth := k9m2) (c := k9c2) (by decide +kernel) rfl rfl rfl (by decide +kernel)
set_option maxRecDepth 65536 in
theorem w_c48 : (Jvm.Cond.code ({ cls := "java/lang/StringUTF16", name := "putChar", desc := "([BII)V" } : Jvm.MethodName) jdk_52_method_4_code (3 : Nat) (Option.none : Option Jvm.ClassFile.FieldType)).before args0 about1 = true := code_word (m := ⟨9, 3⟩) (meth := k9m3) (c := k9c3) (by decide +kernel) rfl rfl rfl (by decide +kernel)
set_option maxRecDepth 65536 in
theorem w_c49 : (Jvm.Cond.code ({ cls := "java/lang/StringUTF16", name := "getChar", desc := "([BI)C" } : Jvm.MethodName) jdk_52_method_5_code (2 : Nat) (Option.some Jvm.ClassFile.FieldType.char)).before args0 about1 = true := code_word (m := ⟨9, 4⟩) (meth := k9m4) (c := k9c4) (by decide +kernel) rfl rfl rfl (by decide +kernel)
set_option maxRecDepth 65536 in
theorem w_c50 : (Jvm.Cond.code ({ cls := "java/lang/StringUTF16", name := "charAt", desc := "([BI)C" } : Jvm.MethodName) jdk_52_method_83_code (2 : Nat) (Option.some Jvm.ClassFile.FieldType.char)).before args0 about1 = true := code_word (m := ⟨9, 10⟩) (meth := k9m10) (c := k9c10) (by decide +kernel) rfl rfl rfl (by decide +kernel)
set_option maxRecDepth 65536 in
theorem w_c51 : (Jvm.Cond.code ({ cls := "java/lang/StringUTF16", name := "checkIndex", desc := "(I[B)V" } : Jvm.MethodName) jdk_52_method_91_code (2 : Nat) (Option.none : Option Jvm.ClassFile.FieldType)).before args0 about1 = true := code_word (m := ⟨9, 12⟩) (meth := k9m12) (c := k9c12) (by decide +kernel) rfl rfl rfl (by decide +kernel)
set_option maxRecDepth 65536 in
theorem w_c52 : (Jvm.Cond.code ({ cls := "java/lang/StringUTF16", name := "length", desc := "([B)I" } : Jvm.MethodName) jdk_52_method_6_code (1 : Nat) (Option.some Jvm.ClassFile.FieldType.int)).before args0 about1 = true := code_word (m := ⟨9, 5⟩) (meth := k9m5) (c := k9c5) (by decide +kernel) rfl rfl rfl (by decide +kernel)
set_option maxRecDepth 65536 in
theorem w_c53 : (Jvm.Cond.code ({ cls := "java/lang/AbstractStringBuilder", name := "inflate", desc := "()V" } : Jvm.MethodName) jdk_68_method_11_code (2 : Nat) (Option.none : Option Jvm.ClassFile.FieldType)).before args0 about1 = true := code_word (m := ⟨13, 5⟩) (meth := k13m5) (c := k13c5) (by decide +kernel) rfl rfl rfl (by decide +kernel)
set_option maxRecDepth 65536 in
theorem w_c54 : (Jvm.Cond.code ({ cls := "java/lang/StringLatin1", name := "inflate", desc := "([BI[BII)V" } : Jvm.MethodName) jdk_43_method_50_code (5 : Nat) (Option.none : Option Jvm.ClassFile.FieldType)).before args0 about1 = true := code_word (m := ⟨10, 2⟩) (meth := k10m2) (c := k10c2) (by decide +kernel) rfl rfl rfl (by decide +kernel)
set_option maxRecDepth 65536 in
theorem w_c55 : (Jvm.Cond.code ({ cls := "java/lang/StringUTF16", name := "inflate", desc := "([BI[BII)V" } : Jvm.MethodName) jdk_52_method_86_code (6 : Nat) (Option.none : Option Jvm.ClassFile.FieldType)).before args0 about1 = true := code_word (m := ⟨9, 11⟩) (meth := k9m11) (c := k9c11) (by decide +kernel) rfl rfl rfl (by decide +kernel)
set_option maxRecDepth 65536 in
theorem w_c56 : (Jvm.Cond.code ({ cls := "java/lang/StringUTF16", name := "checkBoundsOffCount", desc := "(II[B)V" } : Jvm.MethodName) jdk_52_method_94_code (3 : Nat) (Option.none : Option Jvm.ClassFile.FieldType)).before args0 about1 = true := code_word (m := ⟨9, 13⟩) (meth := k9m13) (c := k9c13) (by decide +kernel) rfl rfl rfl (by decide +kernel)
set_option maxRecDepth 65536 in
theorem w_c57 : (Jvm.Cond.code ({ cls := "java/lang/String", name := "checkBoundsOffCount", desc := "(III)I" } : Jvm.MethodName) jdk_42_method_157_code (3 : Nat) (Option.some Jvm.ClassFile.FieldType.int)).before args0 about1 = true := code_word (m := ⟨7, 12⟩) (meth := k7m12) (c := k7c12) (by decide +kernel) rfl rfl rfl (by decide +kernel)
set_option maxRecDepth 65536 in
theorem w_c58 : (Jvm.Cond.code ({ cls := "jdk/internal/util/Preconditions", name := "checkFromIndexSize", desc := "(IIILjava/util/function/BiFunction;)I" } : Jvm.MethodName) jdk_41_method_13_code (4 : Nat) (Option.some Jvm.ClassFile.FieldType.int)).before args0 about1 = true := code_word (m := ⟨11, 2⟩) (meth := k11m2) (c := k11c2) (by decide +kernel) rfl rfl rfl (by decide +kernel)
def codes1 : List Jvm.Cond := [Jvm.Cond.code x code maxLocals ret, Jvm.Cond.code ({ cls := "com/example/cicada/cicada/NamesIsValidPinLaw", name := "draw", desc := "(I)C" } : Jvm.MethodName) method_2_code (1 : Nat) (Option.some Jvm.ClassFile.FieldType.char), Jvm.Cond.code ({ cls := "com/example/cicada/cicada/NamesIsValidPinLaw", name := "make", desc := "(ICCCC)Ljava/lang/String;" } : Jvm.MethodName) method_4_code (6 : Nat) (Option.some (Jvm.ClassFile.FieldType.object "java/lang/String")), Jvm.Cond.code ({ cls := "java/lang/String", name := "<init>", desc := "([C)V" } : Jvm.MethodName) jdk_42_method_3_code (2 : Nat) (Option.none : Option Jvm.ClassFile.FieldType), Jvm.Cond.code ({ cls := "java/lang/String", name := "<init>", desc := "([CIILjava/lang/Void;)V" } : Jvm.MethodName) jdk_42_method_149_code (6 : Nat) (Option.none : Option Jvm.ClassFile.FieldType), Jvm.Cond.code ({ cls := "java/lang/Object", name := "<init>", desc := "()V" } : Jvm.MethodName) object_method_1_code (1 : Nat) (Option.none : Option Jvm.ClassFile.FieldType), Jvm.Cond.code ({ cls := "com/example/cicada/cicada/Names", name := "isValid", desc := "(Ljava/lang/String;)Z" } : Jvm.MethodName) prog_1_method_2_code (1 : Nat) (Option.some Jvm.ClassFile.FieldType.boolean), Jvm.Cond.code ({ cls := "java/lang/String", name := "isEmpty", desc := "()Z" } : Jvm.MethodName) jdk_42_method_55_code (1 : Nat) (Option.some Jvm.ClassFile.FieldType.boolean), Jvm.Cond.code ({ cls := "com/example/cicada/cicada/NamesIsValidPinLaw", name := "allowed", desc := "(C)Z" } : Jvm.MethodName) method_3_code (1 : Nat) (Option.some Jvm.ClassFile.FieldType.boolean), Jvm.Cond.code ({ cls := "java/lang/StringUTF16", name := "compress", desc := "([CII)[B" } : Jvm.MethodName) jdk_52_method_16_code (6 : Nat) (Option.some (Jvm.ClassFile.FieldType.array Jvm.ClassFile.FieldType.byte)), Jvm.Cond.code ({ cls := "java/lang/StringUTF16", name := "compress", desc := "([CI[BII)I" } : Jvm.MethodName) jdk_52_method_21_code (7 : Nat) (Option.some Jvm.ClassFile.FieldType.int), Jvm.Cond.code ({ cls := "java/lang/StringUTF16", name := "coderFromArrayLen", desc := "([BI)B" } : Jvm.MethodName) jdk_52_method_15_code (2 : Nat) (Option.some Jvm.ClassFile.FieldType.byte), Jvm.Cond.code ({ cls := "java/lang/String", name := "length", desc := "()I" } : Jvm.MethodName) jdk_42_method_54_code (1 : Nat) (Option.some Jvm.ClassFile.FieldType.int), Jvm.Cond.code ({ cls := "java/lang/String", name := "coder", desc := "()B" } : Jvm.MethodName) jdk_42_method_152_code (1 : Nat) (Option.some Jvm.ClassFile.FieldType.byte), Jvm.Cond.code ({ cls := "com/example/cicada/cicada/Names", name := "allAllowed", desc := "(Ljava/lang/String;)Z" } : Jvm.MethodName) prog_1_method_6_code (2 : Nat) (Option.some Jvm.ClassFile.FieldType.boolean), Jvm.Cond.code ({ cls := "java/lang/String", name := "charAt", desc := "(I)C" } : Jvm.MethodName) jdk_42_method_56_code (2 : Nat) (Option.some Jvm.ClassFile.FieldType.char), Jvm.Cond.code ({ cls := "java/lang/String", name := "isLatin1", desc := "()Z" } : Jvm.MethodName) jdk_42_method_154_code (1 : Nat) (Option.some Jvm.ClassFile.FieldType.boolean), Jvm.Cond.code ({ cls := "java/lang/StringLatin1", name := "charAt", desc := "([BI)C" } : Jvm.MethodName) jdk_43_method_2_code (2 : Nat) (Option.some Jvm.ClassFile.FieldType.char), Jvm.Cond.code ({ cls := "java/lang/String", name := "checkIndex", desc := "(II)V" } : Jvm.MethodName) jdk_42_method_155_code (2 : Nat) (Option.none : Option Jvm.ClassFile.FieldType), Jvm.Cond.code ({ cls := "jdk/internal/util/Preconditions", name := "checkIndex", desc := "(IILjava/util/function/BiFunction;)I" } : Jvm.MethodName) jdk_41_method_11_code (3 : Nat) (Option.some Jvm.ClassFile.FieldType.int), Jvm.Cond.code ({ cls := "com/example/cicada/cicada/Names", name := "isAllowed", desc := "(C)Z" } : Jvm.MethodName) prog_1_method_7_code (1 : Nat) (Option.some Jvm.ClassFile.FieldType.boolean), Jvm.Cond.code ({ cls := "com/example/cicada/cicada/Names", name := "deadLetterTopic", desc := "(Ljava/lang/String;Ljava/lang/String;)Ljava/lang/String;" } : Jvm.MethodName) prog_1_method_4_code (2 : Nat) (Option.some (Jvm.ClassFile.FieldType.object "java/lang/String")), Jvm.Cond.code ({ cls := "java/lang/StringBuilder", name := "<init>", desc := "()V" } : Jvm.MethodName) jdk_67_method_1_code (1 : Nat) (Option.none : Option Jvm.ClassFile.FieldType), Jvm.Cond.code ({ cls := "java/lang/AbstractStringBuilder", name := "<init>", desc := "(I)V" } : Jvm.MethodName) jdk_68_method_2_code (2 : Nat) (Option.none : Option Jvm.ClassFile.FieldType), Jvm.Cond.code ({ cls := "java/lang/StringBuilder", name := "append", desc := "(Ljava/lang/String;)Ljava/lang/StringBuilder;" } : Jvm.MethodName) jdk_67_method_7_code (2 : Nat) (Option.some (Jvm.ClassFile.FieldType.object "java/lang/StringBuilder")), Jvm.Cond.code ({ cls := "java/lang/AbstractStringBuilder", name := "append", desc := "(Ljava/lang/String;)Ljava/lang/AbstractStringBuilder;" } : Jvm.MethodName) jdk_68_method_22_code (3 : Nat) (Option.some (Jvm.ClassFile.FieldType.object "java/lang/AbstractStringBuilder")), Jvm.Cond.code ({ cls := "java/lang/AbstractStringBuilder", name := "ensureCapacityInternal", desc := "(I)V" } : Jvm.MethodName) jdk_68_method_9_code (3 : Nat) (Option.none : Option Jvm.ClassFile.FieldType), Jvm.Cond.code ({ cls := "java/lang/AbstractStringBuilder", name := "newCapacity", desc := "(I)I" } : Jvm.MethodName) jdk_68_method_10_code (6 : Nat) (Option.some Jvm.ClassFile.FieldType.int), Jvm.Cond.code ({ cls := "jdk/internal/util/ArraysSupport", name := "newLength", desc := "(III)I" } : Jvm.MethodName) jdk_48_method_27_code (4 : Nat) (Option.some Jvm.ClassFile.FieldType.int), Jvm.Cond.code ({ cls := "java/lang/Math", name := "max", desc := "(II)I" } : Jvm.MethodName) jdk_29_method_65_code (2 : Nat) (Option.some Jvm.ClassFile.FieldType.int), Jvm.Cond.code ({ cls := "java/util/Arrays", name := "copyOf", desc := "([BI)[B" } : Jvm.MethodName) jdk_65_method_121_code (3 : Nat) (Option.some (Jvm.ClassFile.FieldType.array Jvm.ClassFile.FieldType.byte)), Jvm.Cond.code ({ cls := "java/lang/Math", name := "min", desc := "(II)I" } : Jvm.MethodName) jdk_29_method_69_code (2 : Nat) (Option.some Jvm.ClassFile.FieldType.int), Jvm.Cond.code ({ cls := "java/lang/AbstractStringBuilder", name := "putStringAt", desc := "(ILjava/lang/String;)V" } : Jvm.MethodName) jdk_68_method_73_code (3 : Nat) (Option.none : Option Jvm.ClassFile.FieldType), Jvm.Cond.code ({ cls := "java/lang/AbstractStringBuilder", name := "inflateIfNeededFor", desc := "(Ljava/lang/String;)V" } : Jvm.MethodName) jdk_68_method_71_code (2 : Nat) (Option.none : Option Jvm.ClassFile.FieldType), Jvm.Cond.code ({ cls := "java/lang/String", name := "getBytes", desc := "([BIB)V" } : Jvm.MethodName) jdk_42_method_147_code (4 : Nat) (Option.none : Option Jvm.ClassFile.FieldType), Jvm.Cond.code ({ cls := "java/lang/StringBuilder", name := "toString", desc := "()Ljava/lang/String;" } : Jvm.MethodName) jdk_67_method_42_code (1 : Nat) (Option.some (Jvm.ClassFile.FieldType.object "java/lang/String")), Jvm.Cond.code ({ cls := "java/lang/String", name := "<init>", desc := "(Ljava/lang/StringBuilder;)V" } : Jvm.MethodName) jdk_42_method_53_code (2 : Nat) (Option.none : Option Jvm.ClassFile.FieldType), Jvm.Cond.code ({ cls := "java/lang/String", name := "<init>", desc := "(Ljava/lang/AbstractStringBuilder;Ljava/lang/Void;)V" } : Jvm.MethodName) jdk_42_method_150_code (5 : Nat) (Option.none : Option Jvm.ClassFile.FieldType), Jvm.Cond.code ({ cls := "java/lang/AbstractStringBuilder", name := "getValue", desc := "()[B" } : Jvm.MethodName) jdk_68_method_64_code (1 : Nat) (Option.some (Jvm.ClassFile.FieldType.array Jvm.ClassFile.FieldType.byte)), Jvm.Cond.code ({ cls := "java/lang/StringBuilder", name := "length", desc := "()I" } : Jvm.MethodName) jdk_67_method_93_code (1 : Nat) (Option.some Jvm.ClassFile.FieldType.int), Jvm.Cond.code ({ cls := "java/lang/AbstractStringBuilder", name := "length", desc := "()I" } : Jvm.MethodName) jdk_68_method_6_code (1 : Nat) (Option.some Jvm.ClassFile.FieldType.int), Jvm.Cond.code ({ cls := "java/lang/AbstractStringBuilder", name := "isLatin1", desc := "()Z" } : Jvm.MethodName) jdk_68_method_68_code (1 : Nat) (Option.some Jvm.ClassFile.FieldType.boolean), Jvm.Cond.code ({ cls := "java/util/Arrays", name := "copyOfRange", desc := "([BII)[B" } : Jvm.MethodName) jdk_65_method_132_code (3 : Nat) (Option.some (Jvm.ClassFile.FieldType.array Jvm.ClassFile.FieldType.byte)), Jvm.Cond.code ({ cls := "java/util/Arrays", name := "copyOfRangeByte", desc := "([BII)[B" } : Jvm.MethodName) jdk_65_method_133_code (5 : Nat) (Option.some (Jvm.ClassFile.FieldType.array Jvm.ClassFile.FieldType.byte)), Jvm.Cond.code ({ cls := "java/util/Arrays", name := "checkLength", desc := "(II)V" } : Jvm.MethodName) jdk_65_method_131_code (2 : Nat) (Option.none : Option Jvm.ClassFile.FieldType), Jvm.Cond.code ({ cls := "java/lang/StringUTF16", name := "toBytes", desc := "([CII)[B" } : Jvm.MethodName) jdk_52_method_14_code (5 : Nat) (Option.some (Jvm.ClassFile.FieldType.array Jvm.ClassFile.FieldType.byte)), Jvm.Cond.code ({ cls := "java/lang/StringUTF16", name := "newBytesFor", desc := "(I)[B" } : Jvm.MethodName) jdk_52_method_2_code (1 : Nat) (Option.some (Jvm.ClassFile.FieldType.array Jvm.ClassFile.FieldType.byte)), Jvm.Cond.code ({ cls := "java/lang/StringUTF16", name := "newBytesLength", desc := "(I)I" } : Jvm.MethodName) jdk_52_method_3_code (1 : Nat) (Option.some Jvm.ClassFile.FieldType.int), Jvm.Cond.code ({ cls := "java/lang/StringUTF16", name := "putChar", desc := "([BII)V" } : Jvm.MethodName) jdk_52_method_4_code (3 : Nat) (Option.none : Option Jvm.ClassFile.FieldType), Jvm.Cond.code ({ cls := "java/lang/StringUTF16", name := "getChar", desc := "([BI)C" } : Jvm.MethodName) jdk_52_method_5_code (2 : Nat) (Option.some Jvm.ClassFile.FieldType.char), Jvm.Cond.code ({ cls := "java/lang/StringUTF16", name := "charAt", desc := "([BI)C" } : Jvm.MethodName) jdk_52_method_83_code (2 : Nat) (Option.some Jvm.ClassFile.FieldType.char), Jvm.Cond.code ({ cls := "java/lang/StringUTF16", name := "checkIndex", desc := "(I[B)V" } : Jvm.MethodName) jdk_52_method_91_code (2 : Nat) (Option.none : Option Jvm.ClassFile.FieldType), Jvm.Cond.code ({ cls := "java/lang/StringUTF16", name := "length", desc := "([B)I" } : Jvm.MethodName) jdk_52_method_6_code (1 : Nat) (Option.some Jvm.ClassFile.FieldType.int), Jvm.Cond.code ({ cls := "java/lang/AbstractStringBuilder", name := "inflate", desc := "()V" } : Jvm.MethodName) jdk_68_method_11_code (2 : Nat) (Option.none : Option Jvm.ClassFile.FieldType), Jvm.Cond.code ({ cls := "java/lang/StringLatin1", name := "inflate", desc := "([BI[BII)V" } : Jvm.MethodName) jdk_43_method_50_code (5 : Nat) (Option.none : Option Jvm.ClassFile.FieldType), Jvm.Cond.code ({ cls := "java/lang/StringUTF16", name := "inflate", desc := "([BI[BII)V" } : Jvm.MethodName) jdk_52_method_86_code (6 : Nat) (Option.none : Option Jvm.ClassFile.FieldType), Jvm.Cond.code ({ cls := "java/lang/StringUTF16", name := "checkBoundsOffCount", desc := "(II[B)V" } : Jvm.MethodName) jdk_52_method_94_code (3 : Nat) (Option.none : Option Jvm.ClassFile.FieldType), Jvm.Cond.code ({ cls := "java/lang/String", name := "checkBoundsOffCount", desc := "(III)I" } : Jvm.MethodName) jdk_42_method_157_code (3 : Nat) (Option.some Jvm.ClassFile.FieldType.int), Jvm.Cond.code ({ cls := "jdk/internal/util/Preconditions", name := "checkFromIndexSize", desc := "(IIILjava/util/function/BiFunction;)I" } : Jvm.MethodName) jdk_41_method_13_code (4 : Nat) (Option.some Jvm.ClassFile.FieldType.int)]
set_option maxRecDepth 65536 in
theorem codes_eq : words1.filter isCode = codes1 := rfl
theorem w_codes : ∀ c ∈ words1.filter isCode, c.before args0 about1 = true := by
  rw [codes_eq]
  intro c hc
  simp only [codes1, List.mem_cons, List.not_mem_nil, or_false] at hc
  rcases hc with rfl | rfl | rfl | rfl | rfl | rfl | rfl | rfl | rfl | rfl | rfl | rfl | rfl | rfl | rfl | rfl | rfl | rfl | rfl | rfl | rfl | rfl | rfl | rfl | rfl | rfl | rfl | rfl | rfl | rfl | rfl | rfl | rfl | rfl | rfl | rfl | rfl | rfl | rfl | rfl | rfl | rfl | rfl | rfl | rfl | rfl | rfl | rfl | rfl | rfl | rfl | rfl | rfl | rfl | rfl | rfl | rfl | rfl | rfl
  · exact w_c0
  · exact w_c1
  · exact w_c2
  · exact w_c3
  · exact w_c4
  · exact w_c5
  · exact w_c6
  · exact w_c7
  · exact w_c8
  · exact w_c9
  · exact w_c10
  · exact w_c11
  · exact w_c12
  · exact w_c13
  · exact w_c14
  · exact w_c15
  · exact w_c16
  · exact w_c17
  · exact w_c18
  · exact w_c19
  · exact w_c20
  · exact w_c21
  · exact w_c22
  · exact w_c23
  · exact w_c24
  · exact w_c25
  · exact w_c26
  · exact w_c27
  · exact w_c28
  · exact w_c29
  · exact w_c30
  · exact w_c31
  · exact w_c32
  · exact w_c33
  · exact w_c34
  · exact w_c35
  · exact w_c36
  · exact w_c37
  · exact w_c38
  · exact w_c39
  · exact w_c40
  · exact w_c41
  · exact w_c42
  · exact w_c43
  · exact w_c44
  · exact w_c45
  · exact w_c46
  · exact w_c47
  · exact w_c48
  · exact w_c49
  · exact w_c50
  · exact w_c51
  · exact w_c52
  · exact w_c53
  · exact w_c54
  · exact w_c55
  · exact w_c56
  · exact w_c57
  · exact w_c58
set_option maxRecDepth 65536 in
theorem w_t1 : (words1.take 24).all (fun c => isCode c || c.before args0 about1) = true := by decide +kernel
set_option maxRecDepth 65536 in
theorem w_t2 : ((words1.drop 24).take 24).all (fun c => isCode c || c.before args0 about1) = true := by decide +kernel
set_option maxRecDepth 65536 in
theorem w_t3 : (((words1.drop 24).drop 24).take 24).all (fun c => isCode c || c.before args0 about1) = true := by decide +kernel
set_option maxRecDepth 65536 in
theorem w_t4 : ((((words1.drop 24).drop 24).drop 24).take 24).all (fun c => isCode c || c.before args0 about1) = true := by decide +kernel
set_option maxRecDepth 65536 in
theorem w_t5 : (((((words1.drop 24).drop 24).drop 24).drop 24).take 24).all (fun c => isCode c || c.before args0 about1) = true := by decide +kernel
set_option maxRecDepth 65536 in
theorem w_t6 : ((((((words1.drop 24).drop 24).drop 24).drop 24).drop 24).take 24).all (fun c => isCode c || c.before args0 about1) = true := by decide +kernel
set_option maxRecDepth 65536 in
theorem w_t7 : (((((((words1.drop 24).drop 24).drop 24).drop 24).drop 24).drop 24).take 24).all (fun c => isCode c || c.before args0 about1) = true := by decide +kernel
set_option maxRecDepth 65536 in
theorem w_t8 : ((((((((words1.drop 24).drop 24).drop 24).drop 24).drop 24).drop 24).drop 24).take 24).all (fun c => isCode c || c.before args0 about1) = true := by decide +kernel
set_option maxRecDepth 65536 in
theorem w_t9 : (((((((((words1.drop 24).drop 24).drop 24).drop 24).drop 24).drop 24).drop 24).drop 24).take 24).all (fun c => isCode c || c.before args0 about1) = true := by decide +kernel
set_option maxRecDepth 65536 in
theorem w_t10 : ((((((((((words1.drop 24).drop 24).drop 24).drop 24).drop 24).drop 24).drop 24).drop 24).drop 24).take 24).all (fun c => isCode c || c.before args0 about1) = true := by decide +kernel
set_option maxRecDepth 65536 in
theorem w_t11 : (((((((((((words1.drop 24).drop 24).drop 24).drop 24).drop 24).drop 24).drop 24).drop 24).drop 24).drop 24).take 24).all (fun c => isCode c || c.before args0 about1) = true := by decide +kernel
set_option maxRecDepth 65536 in
theorem w_t12 : (((((((((((words1.drop 24).drop 24).drop 24).drop 24).drop 24).drop 24).drop 24).drop 24).drop 24).drop 24).drop 24).all (fun c => isCode c || c.before args0 about1) = true := by decide +kernel
theorem w_tables : (allAtoms (Jvm.Cond.code x code maxLocals ret :: tables_1)).before args0 about1 = true := by
  rw [allAtoms_all]
  show words1.all (fun c => c.before args0 about1) = true
  refine all_split ?_ w_codes
  rw [← List.take_append_drop 24 words1, List.all_append, w_t1, ← List.take_append_drop 24 (words1.drop 24), List.all_append, w_t2, ← List.take_append_drop 24 ((words1.drop 24).drop 24), List.all_append, w_t3, ← List.take_append_drop 24 (((words1.drop 24).drop 24).drop 24), List.all_append, w_t4, ← List.take_append_drop 24 ((((words1.drop 24).drop 24).drop 24).drop 24), List.all_append, w_t5, ← List.take_append_drop 24 (((((words1.drop 24).drop 24).drop 24).drop 24).drop 24), List.all_append, w_t6, ← List.take_append_drop 24 ((((((words1.drop 24).drop 24).drop 24).drop 24).drop 24).drop 24), List.all_append, w_t7, ← List.take_append_drop 24 (((((((words1.drop 24).drop 24).drop 24).drop 24).drop 24).drop 24).drop 24), List.all_append, w_t8, ← List.take_append_drop 24 ((((((((words1.drop 24).drop 24).drop 24).drop 24).drop 24).drop 24).drop 24).drop 24), List.all_append, w_t9, ← List.take_append_drop 24 (((((((((words1.drop 24).drop 24).drop 24).drop 24).drop 24).drop 24).drop 24).drop 24).drop 24), List.all_append, w_t10, ← List.take_append_drop 24 ((((((((((words1.drop 24).drop 24).drop 24).drop 24).drop 24).drop 24).drop 24).drop 24).drop 24).drop 24), List.all_append, w_t11, w_t12]
  rfl
set_option maxRecDepth 65536 in
theorem w_rest : rest_1_c.before args0 about1 = true := by decide +kernel
set_option maxRecDepth 65536 in
theorem w_case : (Jvm.Cond.and given_1 narrow_1).before args0 about1 = true := by decide +kernel
set_option maxRecDepth 65536 in
theorem w_consts : constsHeld consts_1 about1 := Jvm.Lit.constsHeldB_iff.mp (by decide +kernel)
theorem w_applies : (headSpec (Jvm.Cond.code x code maxLocals ret :: tables_1) room_1).applies x e0.platform about1 = true :=
  (Spec.applies_iff w_frames).mpr ⟨w_running, w_runnable, w_alone, w_named, w_hears, w_ripe, w_room, w_tables⟩
theorem atStart : AtStart classFile x code maxLocals ret World_1 tables_1 room_1 Calls_1 rest_1 Pre_1 launch0 p0 e0 about1 theMethod args0 below0 :=
  ⟨lists_1, trivial, launch0.admits_env _ _ _, launch0.least_env, fairChoices_fair.cas, fairChoices_fair.clock, w_frames, w_args, w_heap, w_applies, ⟨w_consts, trivial⟩, w_rest, w_case⟩
end start1
theorem witness_1 : WitnessClaimed_1 := ⟨start1.p0, start1.e0, start1.about1, start1.theMethod, start1.args0, start1.below0, start1.atStart⟩
end Jvm.Pilot.@@N@@
