import JvmDerived
import JvmDerived.Pilot.@@N@@Statement
import JvmDerived.Pilot.@@N@@Code
set_option linter.unusedVariables false
set_option linter.unusedSimpArgs false
namespace Jvm.RoadKit
open Sem ClassFile Op Lib Jvm.Stand Jvm.Free Jvm.LawKit
section New
variable {p : Program} {l : Launch} {e : Env} {R : Room} {s : State} {m : MethodId} {args : Array Value} {below : List Frame} {meth : Method} {c : Code} {T : State} {locs : List Loc} {cells slots : Nat}
theorem retI (X : Stand p l e R s m args below meth c T locs cells slots) (hx : p.tables.exec = Jvm.exec) {pc : Nat} {Ls : Array Slot} {z : Int32} {rest : List Value} (hret : meth.sig.returnType = some .int) (hd : decode c.code pc = .ok (.ireturn, 1)) {fs : List Frame}
    (hl : ∀ (f : JFrame) (acts : List Action), f.method = m → f.locked = none → f.entered = [] → (doReturn e (T.setTop f) acts (some (.int z))).1 = T.setFrames fs) : Steps p.tables e below (T.setTop (mkF m pc Ls (.int z :: rest))) (T.setFrames fs) := by
  have hm' : T.vm.method? m = some meth := X.method'
  have hn : narrow .int (.int z) = .int z := rfl
  show Steps p.tables e below (T.setTop { method := m, pc := pc, locals := Ls, stack := _ :: rest, locked := none }) _
  jvm_step X.here [X.here.top, hx, hd, hm', hret, hn]
  first | (intro acts; rw [hl _ acts rfl rfl rfl]) | rw [hl _ _ rfl rfl rfl]
  exact Steps.refl _
end New
end Jvm.RoadKit
namespace Jvm.Pilot.@@N@@
open Jvm Jvm.ClassFile Sem Op Lib Jvm.Free Jvm.Stand Jvm.LawKit Jvm.RoadKit Bundle Jvm.Pilot.@@N@@.Jvm.D
theorem own_keep_ext {h h' : Heap} (K : Keep h h' []) : Ext h h' := ⟨K.1, fun a c q => K.2.1 a c q nin0⟩
theorem own_sta_keep {Z : State} {h h' : Heap} {C n d K : String} {a : Addr} {v : Value} (F : Sta Z h C n d v) (Kp : Keep h h' [a]) (E : Exa Z h a K) : Sta Z h' C n d v := by
  obtain ⟨cf, i, k, f, st, cell, h1, h2, h3, h4, h5, h6, h7⟩ := F
  obtain ⟨cell', k', g1, -, -, g4, -⟩ := E
  have ne : st ≠ a := by
    intro q
    subst q
    rw [h5] at g1
    cases g1
    rw [h6] at g4
    cases g4
  exact ⟨cf, i, k, f, st, cell, h1, h2, h3, h4, Kp.2.1 st cell h5 (ninS ne nin0), h6, h7⟩
theorem own_W {a0 : Array Value} {Z : State} (hw : ∀ d ∈ tables_1, d.before a0 Z = true) (i : Nat) {d : Jvm.Cond} (h : tables_1[i]? = some d) : d.before a0 Z = true := hw d (List.mem_of_getElem? h)
theorem own_ex {α : Type} (a : α) : ∃ z, z = a := ⟨_, rfl⟩
abbrev oMet (l : Launch) (y : MethodName) (b : ByteArray) (k : Nat) (r : Option FieldType) (ws : List Jvm.Cond) (rm : Room) (as' : Array Value) (Z : State) (h0 : Heap) (Q : Option Value → Heap → List Loc → Prop) : Prop := MetFree l y (head1 (Jvm.Cond.code y b k r :: ws) rm) (fun a U => a = as' ∧ Z.Warmed39 U.vm ∧ U.heap = h0) (fun _ _ _ _ _ => True) (fun _ U o U' => ∃ v L, o = .returned v ∧ Q v U'.heap L ∧ FrameEnd U o U' L rm.cells rm.slots)
abbrev own_all (c : ByteArray) (L : List (Nat × Instr × Nat)) : Prop := ∀ x ∈ L, decode c x.1 = .ok (x.2.1, x.2.2)
theorem own_D {c : Code} {code : ByteArray} (h : c.code = code) {L : List (Nat × Instr × Nat)} (hL : own_all code L) (i : Nat) {pc n : Nat} {y : Instr} (e : L[i]? = some (pc, y, n)) : decode c.code pc = .ok (y, n) := by
  rw [h]
  have h2 := hL (pc, y, n) (List.mem_of_getElem? e)
  dsimp only at h2
  exact h2
abbrev oS0 : String := "com/example/quorum_lease/quorumlease/redis/Resp$Head"
abbrev oS1 : String := "com/example/quorum_lease/quorumlease/redis/Resp"
abbrev oS2 : String := "com/example/quorum_lease/quorumlease/redis/Resp$Built"
abbrev oS3 : String := "com/example/quorum_lease/quorumlease/redis/RespHeadPinLaw"
abbrev oS4 : String := "Lcom/example/quorum_lease/quorumlease/redis/Resp$Built;"
abbrev oS5 : String := "java/nio/charset/StandardCharsets"
abbrev oS6 : String := "Ljava/nio/charset/Charset;"
abbrev oS7 : String := "Lsun/nio/cs/UTF_8;"
abbrev oS8 : String := "java/lang/StringUTF16"
abbrev oS9 : String := "[Ljava/lang/String;"
abbrev oS10 : String := "java/lang/StringLatin1"
abbrev oS11 : String := "java/lang/StringCoding"
abbrev oM0 : MethodName := ⟨oS0, "request", "([Ljava/lang/String;)[B"⟩
abbrev oM1 : MethodName := ⟨oS3, "check", "([BII[CZCCC)Z"⟩
abbrev oM2 : MethodName := ⟨"java/lang/String", "<init>", "([CIILjava/lang/Void;)V"⟩
abbrev oM3 : MethodName := ⟨"java/lang/String", "<init>", "([C)V"⟩
abbrev oM4 : MethodName := ⟨"java/lang/String", "getBytes", "(Ljava/nio/charset/Charset;)[B"⟩
abbrev oM5 : MethodName := ⟨oS0, "<init>", "(I[B)V"⟩
abbrev oM6 : MethodName := ⟨oS2, "<init>", "([Ljava/lang/String;[B)V"⟩
abbrev oM7 : MethodName := ⟨oS1, "bulkStringsLength", "([[B)I"⟩
abbrev oM8 : MethodName := ⟨oS1, "putBulkStrings", "([BI[[B)V"⟩
abbrev oM9 : MethodName := ⟨"java/lang/String", "coder", "()B"⟩
abbrev oM10 : MethodName := ⟨oS1, "utf8", "([Ljava/lang/String;)[[B"⟩
abbrev oM11 : MethodName := ⟨oS1, "bulkStrings", "([Ljava/lang/String;)[B"⟩
abbrev oM12 : MethodName := ⟨oS1, "head", "([Ljava/lang/String;)Lcom/example/quorum_lease/quorumlease/redis/Resp$Head;"⟩
abbrev oM13 : MethodName := ⟨"java/lang/String", "<init>", "([BB)V"⟩
abbrev oM14 : MethodName := ⟨oS8, "compress", "([CI[BII)I"⟩
abbrev oM15 : MethodName := ⟨oS8, "compress", "([CII)[B"⟩
abbrev oM16 : MethodName := ⟨oS8, "coderFromArrayLen", "([BI)B"⟩
abbrev oM17 : MethodName := ⟨"java/util/Arrays", "equals", "([Ljava/lang/Object;[Ljava/lang/Object;)Z"⟩
abbrev oM18 : MethodName := ⟨oS3, "word1", "([BIZC)I"⟩
abbrev oR (f c s l : Nat) : Room := { frames := f, cells := c, slots := s, locals := l }
abbrev vR (a : Addr) : Slot := .val (.ref a)
abbrev vI (x : Int32) : Slot := .val (.int x)
abbrev vJ (x : Int64) : Slot := .val (.long x)
abbrev vU : Slot := .unset
abbrev oP (p : Program) (e : Env) (bw : List Frame) (G : State → Prop) (T : State) (m : MethodId) (pc : Nat) (L : Array Slot) (S : List Value) : Prop := ∀ t, Steps p.tables e bw (T.setTop (mkF m pc L S)) t → G t
theorem own_call {p : Program} {l : Launch} {e : Env} {R : Room} {s : State} {m : MethodId} {args : Array Value} {bw : List Frame} {meth : Method} {c : Code} {locs : List Loc} {cells slots : Nat} {Z T : State} {G : State → Prop} {a0 as' : Array Value} {h : Heap} {Q : Option Value → Heap → List Loc → Prop} {rm : Room} (X : Stand p l e R s m args bw meth c T locs cells slots) (hx : p.tables.exec = Jvm.exec) (hZ : Z.Warmed39 s.vm) {own : String} {index : Nat} {y : MethodName} {bytes : ByteArray} {maxL : Nat} {ret : Option FieldType}
  (hown : s.vm.findClass own = some m.cls) (w1 : (Cond.methodLink own index y).before a0 Z = true) (w2 : (Cond.static y).before a0 Z = true) (w3 : (Cond.initialized y.cls).before a0 Z = true) (w4 : (Cond.code y bytes maxL ret).before a0 Z = true) (hy : y.cls ≠ "java/lang/invoke/MethodHandle" ∧ y.cls ≠ "java/lang/invoke/VarHandle")
  (hM : MetFree l y (head1 [Cond.code y bytes maxL ret] rm) (fun a U => a = as' ∧ Z.Warmed39 U.vm ∧ U.heap = h) (fun _ _ _ _ _ => True) (fun _ U o U' => ∃ v L, o = .returned v ∧ Q v U'.heap L ∧ FrameEnd U o U' L rm.cells rm.slots)) (eT : T.heap = h) {pc : Nat} {L : Array Slot} {S : List Value} (pre : oP p e bw G T m pc L S) {ml : Nat} (hml : c.maxLocals = ml) (hz : L.size = ml) (hd : decode c.code pc = .ok (.invokestatic index, 3))
  (hlen : ∀ sig, parseMethodDescriptor y.desc = some sig → as'.toList.length = sig.parameters.length) (hS : S = as'.toList.reverse ++ S.drop as'.size) {W : Nat} (hW : ((S.drop as'.size).map fun v => v.category).sum = W) (hr : rm.frames + 1 ≤ R.frames ∧ W + (maxL + 11) + rm.locals ≤ R.locals ∧ cells + rm.cells ≤ R.cells ∧ slots + rm.slots ≤ R.slots) :
  ∃ (v : Option Value) (T' : State) (Lc : List Loc), Stand p l e R s m args bw meth c T' (locs ++ Lc) (cells + rm.cells) (slots + rm.slots) ∧ Q v T'.heap Lc ∧ oP p e bw G T' m (pc + 3) L (v.toList ++ S.drop as'.size) := by
 obtain ⟨hf, hl, hc, hs⟩ := hr
 obtain ⟨v, _, ⟨T1, L1, k1, n1⟩, -, X1, ⟨Lc, hQ, l1, y1, z1⟩, st⟩ := Jvm.LawKit.callS X hx (y := y) hown (mvT hZ w1) (mvT hZ w2) (mvT hZ w3) (mvT hZ w4) hy (backOf (W := W) hM hZ w4 w3 hf hl) (g := mkF m pc L S) rfl (hz.trans hml.symm) hlen hS (by show 2 * 0 + _ ≤ _; omega) hd (fun _ _ => ⟨by simp, eT, hc, hs⟩)
 dsimp only [Pt.U, Pt.locs, Pt.cells, Pt.slots] at X1 l1 y1 z1 st hQ
 subst l1 y1 z1
 exact ⟨v, T1, Lc, X1, hQ, fun t k => pre t (st t k)⟩
abbrev own_g {p : Program} {e : Env} {bw : List Frame} {G : State → Prop} {T : State} {m : MethodId} {pc : Nat} {L : Array Slot} {S : List Value} (_ : oP p e bw G T m pc L S) : JFrame := mkF m pc L S
def dl1 : List (Nat × Instr × Nat) := [(0, .aload_n 0, 1), (1, .aload_n 1, 1), (2, .iconst 0, 1), (3, .aload_n 1, 1), (4, .arraylength, 1), (5, .aconst_null, 1), (6, .invokespecial 27, 3), (9, .return_, 1)]
theorem dB1 : own_all jdk_42_method_3_code dl1 := by decide +kernel
def dl2 : List (Nat × Instr × Nat) := [(0, .aload_n 0, 1), (1, .invokespecial 1, 3), (4, .iload_n 3, 1), (5, .ifCond .ne 22, 3), (27, .getstatic 38, 3), (30, .ifCond .eq 28, 3), (33, .aload_n 1, 1), (34, .iload_n 2, 1), (35, .iload_n 3, 1), (36, .invokestatic 177, 3), (39, .astore 5, 2), (41, .aload_n 0, 1), (42, .aload 5, 2), (44, .iload_n 3, 1), (45, .invokestatic 47, 3), (48, .putfield 15, 3), (51, .aload_n 0, 1), (52, .aload 5, 2), (54, .putfield 9, 3), (57, .return_, 1), (8, .aload_n 0, 1), (9, .ldc 7, 2), (11, .getfield 9, 3), (14, .putfield 9, 3), (17, .aload_n 0, 1), (18, .ldc 7, 2), (20, .getfield 15, 3), (23, .putfield 15, 3), (26, .return_, 1)]
theorem dB2 : own_all jdk_42_method_149_code dl2 := by decide +kernel
def dl4 : List (Nat × Instr × Nat) := [(0, .iload_n 2, 1), (1, .newarray .byte, 2), (3, .astore_n 3, 1), (4, .aload_n 0, 1), (5, .iload_n 1, 1), (6, .aload_n 3, 1), (7, .iconst 0, 1), (8, .iload_n 2, 1), (9, .invokestatic 115, 3), (12, .istore 4, 2), (14, .iload 4, 2), (16, .iload_n 2, 1), (17, .if_icmp .eq 40, 3), (57, .aload_n 3, 1), (58, .areturn, 1)]
theorem dB4 : own_all jdk_52_method_16_code dl4 := by decide +kernel
def dl5 : List (Nat × Instr × Nat) := [(0, .iconst 0, 1), (1, .istore 5, 2), (3, .iload 5, 2), (5, .iload 4, 2), (7, .if_icmp .ge 37, 3), (10, .aload_n 0, 1), (11, .iload_n 1, 1), (12, .caload, 1), (13, .istore 6, 2), (15, .iload 6, 2), (17, .sipush 255, 3), (20, .if_icmp .le 6, 3), (26, .aload_n 2, 1), (27, .iload_n 3, 1), (28, .iload 6, 2), (30, .i2b, 1), (31, .bastore, 1), (32, .iinc 1 1, 3), (35, .iinc 3 1, 3), (38, .iinc 5 1, 3), (41, .goto (-38), 3), (44, .iload 4, 2), (46, .ireturn, 1)]
theorem dB5 : own_all jdk_52_method_21_code dl5 := by decide +kernel
def dl6 : List (Nat × Instr × Nat) := [(0, .iload_n 1, 1), (1, .aload_n 0, 1), (2, .arraylength, 1), (3, .isub, 1), (4, .bipush 31, 2), (6, .iushr, 1), (7, .i2b, 1), (8, .ireturn, 1)]
theorem dB6 : own_all jdk_52_method_15_code dl6 := by decide +kernel
def dl7 : List (Nat × Instr × Nat) := [(0, .getstatic 38, 3), (3, .ifCond .eq 23, 3), (6, .iload_n 0, 1), (7, .invokestatic 1015, 3), (10, .ifCond .eq 16, 3), (13, .new 10, 3), (16, .dup, 1), (17, .iload_n 0, 1), (18, .invokestatic 1018, 3), (21, .iconst 0, 1), (22, .invokespecial 209, 3), (25, .areturn, 1)]
theorem dB7 : own_all jdk_42_method_139_code dl7 := by decide +kernel
def dl8 : List (Nat × Instr × Nat) := [(0, .iload_n 0, 1), (1, .sipush 255, 3), (4, .if_icmp .gt 7, 3), (7, .iconst 1, 1), (8, .goto 4, 3), (12, .ireturn, 1)]
theorem dB8 : own_all jdk_43_method_3_code dl8 := by decide +kernel
def dl9 : List (Nat × Instr × Nat) := [(0, .iconst 1, 1), (1, .newarray .byte, 2), (3, .dup, 1), (4, .iconst 0, 1), (5, .iload_n 0, 1), (6, .i2b, 1), (7, .bastore, 1), (8, .areturn, 1)]
theorem dB9 : own_all jdk_43_method_46_code dl9 := by decide +kernel
def dl10 : List (Nat × Instr × Nat) := [(0, .aload_n 0, 1), (1, .invokespecial 1, 3), (4, .aload_n 0, 1), (5, .aload_n 1, 1), (6, .putfield 9, 3), (9, .aload_n 0, 1), (10, .iload_n 2, 1), (11, .putfield 15, 3), (14, .return_, 1)]
theorem dB10 : own_all jdk_42_method_151_code dl10 := by decide +kernel
def dl11 : List (Nat × Instr × Nat) := [(0, .new 16, 3), (3, .dup, 1), (4, .aload_n 0, 1), (5, .arraylength, 1), (6, .aload_n 0, 1), (7, .invokestatic 21, 3), (10, .invokespecial 24, 3), (13, .areturn, 1)]
theorem dB11 : own_all prog_10_method_3_code dl11 := by decide +kernel
def dl12 : List (Nat × Instr × Nat) := [(0, .aload_n 0, 1), (1, .invokestatic 149, 3), (4, .astore_n 1, 1), (5, .aload_n 1, 1), (6, .invokestatic 153, 3), (9, .newarray .byte, 2), (11, .astore_n 2, 1), (12, .aload_n 2, 1), (13, .iconst 0, 1), (14, .aload_n 1, 1), (15, .invokestatic 157, 3), (18, .aload_n 2, 1), (19, .areturn, 1)]
theorem dB12 : own_all prog_10_method_12_code dl12 := by decide +kernel
def dl13 : List (Nat × Instr × Nat) := [(0, .aload_n 0, 1), (1, .arraylength, 1), (2, .anewarray 161, 3), (5, .astore_n 1, 1), (6, .iconst 0, 1), (7, .istore_n 2, 1), (8, .iload_n 2, 1), (9, .aload_n 0, 1), (10, .arraylength, 1), (11, .if_icmp .ge 21, 3), (32, .aload_n 1, 1), (33, .areturn, 1), (14, .aload_n 1, 1), (15, .iload_n 2, 1), (16, .aload_n 0, 1), (17, .iload_n 2, 1), (18, .aaload, 1), (19, .getstatic 117, 3), (22, .invokevirtual 162, 3), (25, .aastore, 1), (26, .iinc 2 1, 3), (29, .goto (-21), 3)]
theorem dB13 : own_all prog_10_method_13_code dl13 := by decide +kernel
def dl14 : List (Nat × Instr × Nat) := [(0, .iconst 0, 1), (1, .istore_n 1, 1), (2, .aload_n 0, 1), (3, .astore_n 2, 1), (4, .aload_n 2, 1), (5, .arraylength, 1), (6, .istore_n 3, 1), (7, .iconst 0, 1), (8, .istore 4, 2), (10, .iload 4, 2), (12, .iload_n 3, 1), (13, .if_icmp .ge 33, 3), (46, .iload_n 1, 1), (47, .ireturn, 1), (16, .aload_n 2, 1), (17, .iload 4, 2), (19, .aaload, 1), (20, .astore 5, 2), (22, .iload_n 1, 1), (23, .aload 5, 2), (25, .arraylength, 1), (26, .invokestatic 166, 3), (29, .aload 5, 2), (31, .arraylength, 1), (32, .iadd, 1), (33, .getstatic 48, 3), (36, .arraylength, 1), (37, .iadd, 1), (38, .iadd, 1), (39, .istore_n 1, 1), (40, .iinc 4 1, 3), (43, .goto (-33), 3)]
theorem dB14 : own_all prog_10_method_14_code dl14 := by decide +kernel
def dl15 : List (Nat × Instr × Nat) := [(0, .iload_n 1, 1), (1, .istore_n 3, 1), (2, .aload_n 2, 1), (3, .astore 4, 2), (5, .aload 4, 2), (7, .arraylength, 1), (8, .istore 5, 2), (10, .iconst 0, 1), (11, .istore 6, 2), (13, .iload 6, 2), (15, .iload 5, 2), (17, .if_icmp .ge 60, 3), (77, .return_, 1), (20, .aload 4, 2), (22, .iload 6, 2), (24, .aaload, 1), (25, .astore 7, 2), (27, .aload_n 0, 1), (28, .iload_n 3, 1), (29, .bipush 36, 2), (31, .aload 7, 2), (33, .arraylength, 1), (34, .invokestatic 170, 3), (37, .istore_n 3, 1), (38, .aload 7, 2), (40, .iconst 0, 1), (41, .aload_n 0, 1), (42, .iload_n 3, 1), (43, .aload 7, 2), (45, .arraylength, 1), (46, .invokestatic 174, 3), (49, .iload_n 3, 1), (50, .aload 7, 2), (52, .arraylength, 1), (53, .iadd, 1), (54, .istore_n 3, 1), (55, .aload_n 0, 1), (56, .iload_n 3, 1), (57, .iinc 3 1, 3), (60, .bipush 13, 2), (62, .bastore, 1), (63, .aload_n 0, 1), (64, .iload_n 3, 1), (65, .iinc 3 1, 3), (68, .bipush 10, 2), (70, .bastore, 1), (71, .iinc 6 1, 3), (74, .goto (-61), 3)]
theorem dB15 : own_all prog_10_method_15_code dl15 := by decide +kernel
def dl16 : List (Nat × Instr × Nat) := [(0, .aload_n 0, 1), (1, .invokespecial 1, 3), (4, .aload_n 0, 1), (5, .iload_n 1, 1), (6, .putfield 7, 3), (9, .aload_n 0, 1), (10, .aload_n 2, 1), (11, .putfield 13, 3), (14, .return_, 1)]
theorem dB16 : own_all prog_12_method_1_code dl16 := by decide +kernel
def dl17 : List (Nat × Instr × Nat) := [(0, .aload_n 0, 1), (1, .getfield 17, 3), (4, .astore_n 2, 1), (5, .aload_n 2, 1), (6, .ifnull 22, 3), (28, .aload_n 1, 1), (29, .invokestatic 36, 3), (32, .astore 4, 2), (34, .aload_n 0, 1), (35, .getfield 7, 3), (38, .aload_n 1, 1), (39, .arraylength, 1), (40, .iadd, 1), (41, .istore 5, 2), (43, .iload 5, 2), (45, .invokestatic 42, 3), (48, .aload_n 0, 1), (49, .getfield 13, 3), (52, .arraylength, 1), (53, .iadd, 1), (54, .aload 4, 2), (56, .invokestatic 46, 3), (59, .iadd, 1), (60, .newarray .byte, 2), (62, .astore_n 3, 1), (63, .aload_n 3, 1), (64, .iconst 0, 1), (65, .bipush 42, 2), (67, .iload 5, 2), (69, .invokestatic 50, 3), (72, .istore 6, 2), (74, .aload_n 0, 1), (75, .getfield 13, 3), (78, .iconst 0, 1), (79, .aload_n 3, 1), (80, .iload 6, 2), (82, .aload_n 0, 1), (83, .getfield 13, 3), (86, .arraylength, 1), (87, .invokestatic 54, 3), (90, .aload_n 3, 1), (91, .iload 6, 2), (93, .aload_n 0, 1), (94, .getfield 13, 3), (97, .arraylength, 1), (98, .iadd, 1), (99, .aload 4, 2), (101, .invokestatic 60, 3), (104, .aload_n 0, 1), (105, .new 22, 3), (108, .dup, 1), (109, .aload_n 1, 1), (110, .aload_n 3, 1), (111, .invokespecial 64, 3), (114, .putfield 17, 3), (117, .aload_n 3, 1), (118, .areturn, 1), (9, .aload_n 2, 1), (10, .getfield 21, 3), (13, .aload_n 1, 1), (14, .invokestatic 27, 3), (17, .ifCond .eq 11, 3), (20, .aload_n 2, 1), (21, .getfield 33, 3), (24, .astore_n 3, 1), (25, .goto 92, 3)]
theorem dB17 : own_all prog_12_method_2_code dl17 := by decide +kernel
def dl18 : List (Nat × Instr × Nat) := [(0, .iconst 1, 1), (1, .iload_n 0, 1), (2, .invokestatic 180, 3), (5, .iadd, 1), (6, .getstatic 48, 3), (9, .arraylength, 1), (10, .iadd, 1), (11, .ireturn, 1)]
theorem dB18 : own_all prog_10_method_16_code dl18 := by decide +kernel
def dl19 : List (Nat × Instr × Nat) := [(0, .iconst 1, 1), (1, .istore_n 1, 1), (2, .iload_n 0, 1), (3, .bipush 10, 2), (5, .idiv, 1), (6, .istore_n 2, 1), (7, .iload_n 2, 1), (8, .ifCond .le 14, 3), (11, .iinc 1 1, 3), (14, .iload_n 2, 1), (15, .bipush 10, 2), (17, .idiv, 1), (18, .istore_n 2, 1), (19, .goto (-12), 3), (22, .iload_n 1, 1), (23, .ireturn, 1)]
theorem dB19 : own_all prog_10_method_18_code dl19 := by decide +kernel
def dl20 : List (Nat × Instr × Nat) := [(0, .iload_n 1, 1), (1, .iconst 1, 1), (2, .iadd, 1), (3, .iload_n 3, 1), (4, .invokestatic 180, 3), (7, .iadd, 1), (8, .istore 4, 2), (10, .aload_n 0, 1), (11, .iload_n 1, 1), (12, .iload_n 2, 1), (13, .i2b, 1), (14, .bastore, 1), (15, .iload_n 3, 1), (16, .istore 5, 2), (18, .iload 4, 2), (20, .iconst 1, 1), (21, .isub, 1), (22, .istore 6, 2), (24, .iload 6, 2), (26, .iload_n 1, 1), (27, .if_icmp .le 29, 3), (30, .aload_n 0, 1), (31, .iload 6, 2), (33, .bipush 48, 2), (35, .iload 5, 2), (37, .bipush 10, 2), (39, .irem, 1), (40, .iadd, 1), (41, .i2b, 1), (42, .bastore, 1), (43, .iload 5, 2), (45, .bipush 10, 2), (47, .idiv, 1), (48, .istore 5, 2), (50, .iinc 6 (-1), 3), (53, .goto (-29), 3), (56, .aload_n 0, 1), (57, .iload 4, 2), (59, .bipush 13, 2), (61, .bastore, 1), (62, .aload_n 0, 1), (63, .iload 4, 2), (65, .iconst 1, 1), (66, .iadd, 1), (67, .bipush 10, 2), (69, .bastore, 1), (70, .iload 4, 2), (72, .getstatic 48, 3), (75, .arraylength, 1), (76, .iadd, 1), (77, .ireturn, 1)]
theorem dB20 : own_all prog_10_method_17_code dl20 := by decide +kernel
def dl21 : List (Nat × Instr × Nat) := [(0, .aload_n 0, 1), (1, .invokespecial 1, 3), (4, .aload_n 0, 1), (5, .aload_n 1, 1), (6, .putfield 7, 3), (9, .aload_n 0, 1), (10, .aload_n 2, 1), (11, .putfield 13, 3), (14, .return_, 1)]
theorem dB21 : own_all prog_11_method_1_code dl21 := by decide +kernel
def dl22 : List (Nat × Instr × Nat) := [(0, .aload_n 0, 1), (1, .aload_n 1, 1), (2, .if_acmp .ne 5, 3), (7, .aload_n 0, 1), (8, .ifnull 7, 3), (11, .aload_n 1, 1), (12, .ifnonnull 5, 3), (17, .aload_n 0, 1), (18, .arraylength, 1), (19, .istore_n 2, 1), (20, .aload_n 1, 1), (21, .arraylength, 1), (22, .iload_n 2, 1), (23, .if_icmp .eq 5, 3), (28, .iconst 0, 1), (29, .istore_n 3, 1), (30, .iload_n 3, 1), (31, .iload_n 2, 1), (32, .if_icmp .ge 23, 3), (55, .iconst 1, 1), (56, .ireturn, 1), (26, .iconst 0, 1), (27, .ireturn, 1)]
theorem dB22 : own_all jdk_65_method_97_code dl22 := by decide +kernel
def dl23 : List (Nat × Instr × Nat) := [(0, .aload_n 0, 1), (1, .iconst 0, 1), (2, .bipush 42, 2), (4, .iload_n 1, 1), (5, .iload_n 2, 1), (6, .iadd, 1), (7, .invokestatic 37, 3), (10, .istore 8, 2), (12, .iload_n 1, 1), (13, .iconst 1, 1), (14, .if_icmp .lt 12, 3), (26, .iload_n 1, 1), (27, .iconst 2, 1), (28, .if_icmp .ne 15, 3), (43, .iload_n 2, 1), (44, .iconst 1, 1), (45, .if_icmp .ne 15, 3), (60, .iload 8, 2), (62, .aload_n 0, 1), (63, .arraylength, 1), (64, .if_icmp .ne 7, 3), (67, .iconst 1, 1), (68, .goto 4, 3), (72, .ireturn, 1), (48, .aload_n 0, 1), (49, .iload 8, 2), (51, .iload 6, 2), (53, .iload 7, 2), (55, .invokestatic 49, 3), (58, .istore 8, 2), (17, .aload_n 0, 1), (18, .iload 8, 2), (20, .aload_n 3, 1), (21, .invokestatic 41, 3), (24, .istore 8, 2), (31, .aload_n 0, 1), (32, .iload 8, 2), (34, .iload 4, 2), (36, .iload 5, 2), (38, .invokestatic 45, 3), (41, .istore 8, 2)]
theorem dB23 : own_all method_3_code dl23 := by decide +kernel
def dl24 : List (Nat × Instr × Nat) := [(0, .iload_n 1, 1), (1, .ifCond .ge 5, 3), (6, .iload_n 3, 1), (7, .bipush 10, 2), (9, .if_icmp .ge 7, 3), (12, .iconst 1, 1), (13, .goto 4, 3), (17, .istore 4, 2), (19, .iload_n 1, 1), (20, .iload 4, 2), (22, .iadd, 1), (23, .iconst 3, 1), (24, .iadd, 1), (25, .aload_n 0, 1), (26, .arraylength, 1), (27, .if_icmp .le 5, 3), (32, .aload_n 0, 1), (33, .iload_n 1, 1), (34, .baload, 1), (35, .iload_n 2, 1), (36, .if_icmp .eq 5, 3), (41, .iload 4, 2), (43, .iconst 1, 1), (44, .if_icmp .ne 17, 3), (47, .aload_n 0, 1), (48, .iload_n 1, 1), (49, .iconst 1, 1), (50, .iadd, 1), (51, .baload, 1), (52, .bipush 48, 2), (54, .iload_n 3, 1), (55, .iadd, 1), (56, .if_icmp .eq 37, 3), (93, .aload_n 0, 1), (94, .iload_n 1, 1), (95, .iload 4, 2), (97, .iadd, 1), (98, .iconst 1, 1), (99, .iadd, 1), (100, .baload, 1), (101, .bipush 13, 2), (103, .if_icmp .ne 16, 3), (106, .aload_n 0, 1), (107, .iload_n 1, 1), (108, .iload 4, 2), (110, .iadd, 1), (111, .iconst 2, 1), (112, .iadd, 1), (113, .baload, 1), (114, .bipush 10, 2), (116, .if_icmp .eq 5, 3), (121, .iload_n 1, 1), (122, .iload 4, 2), (124, .iadd, 1), (125, .iconst 3, 1), (126, .iadd, 1), (127, .ireturn, 1), (16, .iconst 2, 1), (61, .aload_n 0, 1), (62, .iload_n 1, 1), (63, .iconst 1, 1), (64, .iadd, 1), (65, .baload, 1), (66, .bipush 48, 2), (68, .iload_n 3, 1), (69, .bipush 10, 2), (71, .idiv, 1), (72, .iadd, 1), (73, .if_icmp .ne 18, 3), (76, .aload_n 0, 1), (77, .iload_n 1, 1), (78, .iconst 2, 1), (79, .iadd, 1), (80, .baload, 1), (81, .bipush 48, 2), (83, .iload_n 3, 1), (84, .bipush 10, 2), (86, .irem, 1), (87, .iadd, 1), (88, .if_icmp .eq 5, 3)]
theorem dB24 : own_all method_8_code dl24 := by decide +kernel
def dl25 : List (Nat × Instr × Nat) := [(0, .aload_n 1, 1), (1, .ifnonnull 11, 3), (12, .aload_n 1, 1), (13, .aload_n 0, 1), (14, .invokevirtual 335, 3), (17, .aload_n 0, 1), (18, .getfield 9, 3), (21, .invokestatic 535, 3), (24, .areturn, 1)]
theorem dB25 : own_all jdk_42_method_64_code dl25 := by decide +kernel
def dl26 : List (Nat × Instr × Nat) := [(0, .getstatic 38, 3), (3, .ifCond .eq 10, 3), (6, .aload_n 0, 1), (7, .getfield 15, 3), (10, .goto 4, 3), (14, .ireturn, 1)]
theorem dB26 : own_all jdk_42_method_152_code dl26 := by decide +kernel
def dl27 : List (Nat × Instr × Nat) := [(0, .aload_n 0, 1), (1, .getstatic 86, 3), (4, .if_acmp .ne 10, 3), (7, .iload_n 1, 1), (8, .aload_n 2, 1), (9, .iconst 1, 1), (10, .invokestatic 252, 3), (13, .areturn, 1)]
theorem dB27 : own_all jdk_42_method_18_code dl27 := by decide +kernel
def dl28 : List (Nat × Instr × Nat) := [(49, .iload 7, 2), (51, .iload 6, 2), (53, .if_icmp .ge 71, 3), (56, .aload 5, 2), (58, .iload 7, 2), (60, .baload, 1), (61, .istore 8, 2), (63, .iload 8, 2), (65, .ifCond .ge 44, 3), (68, .aload 4, 2), (70, .iload_n 3, 1), (71, .iinc 3 1, 3), (74, .sipush 192, 3), (77, .iload 8, 2), (79, .sipush 255, 3), (82, .iand, 1), (83, .bipush 6, 2), (85, .ishr, 1), (86, .ior, 1), (87, .i2b, 1), (88, .bastore, 1), (89, .aload 4, 2), (91, .iload_n 3, 1), (92, .iinc 3 1, 3), (95, .sipush 128, 3), (98, .iload 8, 2), (100, .bipush 63, 2), (102, .iand, 1), (103, .ior, 1), (104, .i2b, 1), (105, .bastore, 1), (106, .goto 12, 3), (118, .iinc 7 1, 3), (121, .goto (-72), 3), (109, .aload 4, 2), (111, .iload_n 3, 1), (112, .iinc 3 1, 3), (115, .iload 8, 2), (117, .bastore, 1), (0, .iload_n 0, 1), (1, .iconst 1, 1), (2, .if_icmp .ne 9, 3), (11, .aload_n 1, 1), (12, .iconst 0, 1), (13, .aload_n 1, 1), (14, .arraylength, 1), (15, .invokestatic 128, 3), (18, .ifCond .ne 11, 3), (21, .aload_n 1, 1), (22, .invokevirtual 279, 3), (25, .checkcast 280, 3), (28, .areturn, 1), (29, .iconst 0, 1), (30, .istore_n 3, 1), (31, .aload_n 1, 1), (32, .arraylength, 1), (33, .invokestatic 60, 3), (36, .astore 4, 2), (38, .aload_n 1, 1), (39, .astore 5, 2), (41, .aload 5, 2), (43, .arraylength, 1), (44, .istore 6, 2), (46, .iconst 0, 1), (47, .istore 7, 2), (124, .iload_n 3, 1), (125, .aload 4, 2), (127, .arraylength, 1), (128, .if_icmp .ne 6, 3), (131, .aload 4, 2), (133, .areturn, 1), (134, .aload 4, 2), (136, .iload_n 3, 1), (137, .invokestatic 102, 3), (140, .areturn, 1)]
theorem dB28 : own_all jdk_42_method_46_code dl28 := by decide +kernel
def dl29 : List (Nat × Instr × Nat) := [(0, .aload_n 0, 1), (1, .iload_n 1, 1), (2, .iload_n 2, 1), (3, .invokestatic 7, 3), (6, .iload_n 2, 1), (7, .if_icmp .eq 7, 3), (14, .iconst 0, 1), (15, .ireturn, 1), (10, .iconst 1, 1), (11, .goto 4, 3)]
theorem dB29 : own_all jdk_123_method_2_code dl29 := by decide +kernel
def dl30 : List (Nat × Instr × Nat) := [(7, .iload 4, 2), (9, .iload_n 3, 1), (10, .if_icmp .ge 21, 3), (13, .aload_n 0, 1), (14, .iload 4, 2), (16, .baload, 1), (17, .ifCond .ge 8, 3), (25, .iinc 4 1, 3), (28, .goto (-21), 3), (20, .iload 4, 2), (22, .iload_n 1, 1), (23, .isub, 1), (0, .iload_n 1, 1), (1, .iload_n 2, 1), (2, .iadd, 1), (3, .istore_n 3, 1), (4, .iload_n 1, 1), (5, .istore 4, 2), (31, .iload_n 2, 1), (32, .ireturn, 1), (24, .ireturn, 1)]
theorem dB30 : own_all jdk_123_method_3_code dl30 := by decide +kernel
def dl31 : List (Nat × Instr × Nat) := [(0, .aload_n 2, 1), (1, .iconst 0, 1), (2, .caload, 1), (3, .invokestatic 53, 3), (6, .aload_n 2, 1), (7, .iconst 1, 1), (8, .caload, 1), (9, .invokestatic 53, 3), (12, .iadd, 1), (13, .aload_n 2, 1), (14, .iconst 2, 1), (15, .caload, 1), (16, .invokestatic 53, 3), (19, .iadd, 1), (20, .aload_n 2, 1), (21, .iconst 3, 1), (22, .caload, 1), (23, .invokestatic 53, 3), (26, .iadd, 1), (27, .aload_n 2, 1), (28, .iconst 4, 1), (29, .caload, 1), (30, .invokestatic 53, 3), (33, .iadd, 1), (34, .istore_n 3, 1), (35, .aload_n 0, 1), (36, .iload_n 1, 1), (37, .bipush 36, 2), (39, .iload_n 3, 1), (40, .invokestatic 37, 3), (43, .istore 4, 2), (45, .aload_n 0, 1), (46, .iload 4, 2), (48, .aload_n 2, 1), (49, .iconst 0, 1), (50, .caload, 1), (51, .invokestatic 57, 3), (54, .istore 4, 2), (56, .aload_n 0, 1), (57, .iload 4, 2), (59, .aload_n 2, 1), (60, .iconst 1, 1), (61, .caload, 1), (62, .invokestatic 57, 3), (65, .istore 4, 2), (67, .aload_n 0, 1), (68, .iload 4, 2), (70, .aload_n 2, 1), (71, .iconst 2, 1), (72, .caload, 1), (73, .invokestatic 57, 3), (76, .istore 4, 2), (78, .aload_n 0, 1), (79, .iload 4, 2), (81, .aload_n 2, 1), (82, .iconst 3, 1), (83, .caload, 1), (84, .invokestatic 57, 3), (87, .istore 4, 2), (89, .aload_n 0, 1), (90, .iload 4, 2), (92, .aload_n 2, 1), (93, .iconst 4, 1), (94, .caload, 1), (95, .invokestatic 57, 3), (98, .istore 4, 2), (100, .aload_n 0, 1), (101, .iload 4, 2), (103, .invokestatic 61, 3), (106, .ireturn, 1)]
theorem dB31 : own_all method_5_code dl31 := by decide +kernel
def dl32 : List (Nat × Instr × Nat) := [(0, .iload_n 0, 1), (1, .sipush 128, 3), (4, .if_icmp .ge 7, 3), (7, .iconst 1, 1), (8, .goto 4, 3), (12, .ireturn, 1), (11, .iconst 2, 1)]
theorem dB32 : own_all method_4_code dl32 := by decide +kernel
def dl33 : List (Nat × Instr × Nat) := [(0, .iload_n 1, 1), (1, .ifCond .ge 5, 3), (6, .iload_n 2, 1), (7, .sipush 128, 3), (10, .if_icmp .ge 25, 3), (13, .iload_n 1, 1), (14, .iconst 1, 1), (15, .iadd, 1), (16, .aload_n 0, 1), (17, .arraylength, 1), (18, .if_icmp .gt 11, 3), (21, .aload_n 0, 1), (22, .iload_n 1, 1), (23, .baload, 1), (24, .iload_n 2, 1), (25, .i2b, 1), (26, .if_icmp .eq 5, 3), (31, .iload_n 1, 1), (32, .iconst 1, 1), (33, .iadd, 1), (34, .ireturn, 1), (35, .iload_n 1, 1), (36, .iconst 2, 1), (37, .iadd, 1), (38, .aload_n 0, 1), (39, .arraylength, 1), (40, .if_icmp .le 5, 3), (45, .aload_n 0, 1), (46, .iload_n 1, 1), (47, .baload, 1), (48, .sipush 192, 3), (51, .iload_n 2, 1), (52, .bipush 6, 2), (54, .ishr, 1), (55, .ior, 1), (56, .i2b, 1), (57, .if_icmp .ne 20, 3), (60, .aload_n 0, 1), (61, .iload_n 1, 1), (62, .iconst 1, 1), (63, .iadd, 1), (64, .baload, 1), (65, .sipush 128, 3), (68, .iload_n 2, 1), (69, .bipush 63, 2), (71, .iand, 1), (72, .ior, 1), (73, .i2b, 1), (74, .if_icmp .eq 5, 3), (79, .iload_n 1, 1), (80, .iconst 2, 1), (81, .iadd, 1), (82, .ireturn, 1)]
theorem dB33 : own_all method_9_code dl33 := by decide +kernel
def dl34 : List (Nat × Instr × Nat) := [(0, .iload_n 1, 1), (1, .ifCond .lt 11, 3), (4, .iload_n 1, 1), (5, .iconst 2, 1), (6, .iadd, 1), (7, .aload_n 0, 1), (8, .arraylength, 1), (9, .if_icmp .le 5, 3), (14, .aload_n 0, 1), (15, .iload_n 1, 1), (16, .baload, 1), (17, .bipush 13, 2), (19, .if_icmp .ne 13, 3), (22, .aload_n 0, 1), (23, .iload_n 1, 1), (24, .iconst 1, 1), (25, .iadd, 1), (26, .baload, 1), (27, .bipush 10, 2), (29, .if_icmp .eq 5, 3), (34, .iload_n 1, 1), (35, .iconst 2, 1), (36, .iadd, 1), (37, .ireturn, 1)]
theorem dB34 : own_all method_10_code dl34 := by decide +kernel
def dl35 : List (Nat × Instr × Nat) := [(0, .iload_n 0, 1), (1, .invokestatic 11, 3), (4, .newarray .byte, 2), (6, .areturn, 1)]
theorem dB35 : own_all jdk_52_method_2_code dl35 := by decide +kernel
def dl36 : List (Nat × Instr × Nat) := [(0, .iload_n 0, 1), (1, .ifCond .ge 11, 3), (12, .iload_n 0, 1), (13, .ldc 20, 2), (15, .if_icmp .lt 40, 3), (55, .iload_n 0, 1), (56, .iconst 1, 1), (57, .ishl, 1), (58, .ireturn, 1)]
theorem dB36 : own_all jdk_52_method_3_code dl36 := by decide +kernel
def dl37 : List (Nat × Instr × Nat) := [(0, .iload_n 1, 1), (1, .aload_n 0, 1), (2, .arraylength, 1), (3, .if_icmp .ne 11, 3), (14, .iload_n 1, 1), (15, .newarray .byte, 2), (17, .astore_n 2, 1), (18, .aload_n 0, 1), (19, .iconst 0, 1), (20, .aload_n 2, 1), (21, .iconst 0, 1), (22, .aload_n 0, 1), (23, .arraylength, 1), (24, .iload_n 1, 1), (25, .invokestatic 304, 3), (28, .invokestatic 150, 3), (31, .aload_n 2, 1), (32, .areturn, 1)]
theorem dB37 : own_all jdk_65_method_121_code dl37 := by decide +kernel
def dl38 : List (Nat × Instr × Nat) := [(0, .iload_n 0, 1), (1, .iload_n 1, 1), (2, .if_icmp .gt 7, 3), (9, .iload_n 1, 1), (10, .ireturn, 1), (5, .iload_n 0, 1), (6, .goto 4, 3)]
theorem dB38 : own_all jdk_29_method_69_code dl38 := by decide +kernel
def dl39 : List (Nat × Instr × Nat) := [(0, .aload_n 0, 1), (1, .iload_n 1, 1), (2, .bipush 36, 2), (4, .iload_n 2, 1), (5, .ifCond .eq 7, 3), (12, .iload_n 3, 1), (13, .invokestatic 53, 3), (16, .invokestatic 37, 3), (19, .istore 4, 2), (21, .iload_n 2, 1), (22, .ifCond .ne 12, 3), (25, .aload_n 0, 1), (26, .iload 4, 2), (28, .iload_n 3, 1), (29, .invokestatic 57, 3), (32, .istore 4, 2), (34, .aload_n 0, 1), (35, .iload 4, 2), (37, .invokestatic 61, 3), (40, .ireturn, 1), (8, .iconst 0, 1), (9, .goto 7, 3)]
theorem dB39 : own_all method_6_code dl39 := by decide +kernel
def dl40 : List (Nat × Instr × Nat) := [(0, .aload_n 0, 1), (1, .iload_n 1, 1), (2, .bipush 36, 2), (4, .iload_n 2, 1), (5, .invokestatic 53, 3), (8, .iload_n 3, 1), (9, .invokestatic 53, 3), (12, .iadd, 1), (13, .invokestatic 37, 3), (16, .istore 4, 2), (18, .aload_n 0, 1), (19, .iload 4, 2), (21, .iload_n 2, 1), (22, .invokestatic 57, 3), (25, .istore 4, 2), (27, .aload_n 0, 1), (28, .iload 4, 2), (30, .iload_n 3, 1), (31, .invokestatic 57, 3), (34, .istore 4, 2), (36, .aload_n 0, 1), (37, .iload 4, 2), (39, .invokestatic 61, 3), (42, .ireturn, 1)]
theorem dB40 : own_all method_7_code dl40 := by decide +kernel
def own_EL : List (String × Nat) := [("java/lang/String", 7)]
def own_at (xs : List Int32) (j : Int32) : Int32 := xs.getD j.toNatClampNeg 0
theorem own_getD (xs : List Int32) (i : Nat) : (xs.map Value.int).getD i (.int 0) = .int (xs.getD i 0) := by
 simp only [List.getD_eq_getElem?_getD, List.getElem?_map]
 cases xs[i]? <;> rfl
theorem own_setA {Z : State} {h : Heap} {a : Addr} {k : ClassId} {ty : FieldType} {z : Int32} {l : List Int32} {i : Nat} {x : Int32} {d : Value} (V : Arv Z h a k ty z ((l.map Value.int).set i (.int x)) d) : Arv Z h a k ty z ((l.set i x).map Value.int) d := by
 rw [List.map_set]; exact V
theorem own_rep (n : Nat) : ∀ i, ((List.replicate n (0 : Int32)).map Value.int).getD i (.int 0) = ([] : List Value).getD i (.int 0) := fun i => by
 rw [List.map_replicate]; simpa using pad_rep [] (.int 0) n i
theorem own_cv {Z : State} {h : Heap} {a : Addr} {k : ClassId} {ty : FieldType} {z : Int32} {l l' : List Int32} {d : Value} (e : l' = l) (V : Arv Z h a k ty z (l.map Value.int) d) : Arv Z h a k ty z (l'.map Value.int) d := by
 rw [e]; exact V
theorem own_in {l : List Int32} {n j : Int32} (hl : l.length = n.toNatClampNeg) (q : ¬ j < 0 ∧ j < n) : j.toNatClampNeg < (l.map Value.int).length := by
 rw [List.length_map, hl]
 obtain ⟨q1, q2⟩ := q
 rw [Int32.lt_iff_toInt_lt] at q1 q2
 have : (0 : Int32).toInt = 0 := rfl
 simp only [Int32.toNatClampNeg]
 omega
theorem pn0 : plainName oS10 = true := by first | (simp [plainName, overriddenIn]; done) | decide +kernel
theorem ef_rm_can (m : MethodId) (xc : Int32) : entryFrame m #[(.int xc)] 1 = mkF m 0 #[vI xc] [] := by simp [entryFrame, mkF, argsToLocals, Value.category]
def Q_rm_can (Z : State) (xc : Int32) (h0 : Heap) (n0 : Nat) (v : Option Value) (h : Heap) (L : List Loc) : Prop := v = some (.int 1) ∧ Fr n0 L ∧ h = h0
set_option maxRecDepth 65536 in
set_option maxHeartbeats 40000000 in
theorem rm_can (l : Launch) (Z : State) (a0 : Array Value) (hw : ∀ d ∈ tables_1, d.before a0 Z = true) (ws : List Jvm.Cond) (xc : Int32) (h0 : Heap) (n0 : Nat) (Z0 : n0 ≤ h0.size) (hc : ¬ ((255 : Int32) < xc)) :
  oMet l (⟨oS10, "canEncode", "(C)Z"⟩ : MethodName) jdk_43_method_3_code 1 (some .boolean) ws (oR 0 0 0 0) #[(.int xc)] Z h0 (Q_rm_can Z xc h0 n0) := by
 refine MetFree.of_bodySF (plainFor_of_name pn0) hisR ?_
 have W := own_W hw
 intro p e s m args bw meth c s₁ Bd hml0 hP hK
 obtain ⟨rfl, hZ, hh⟩ := hP
 have hx := Bd.exec
 have hby := Bd.bytes
 have hml : c.maxLocals = 1 := hml0
 have hown : s.vm.findClass oS10 = some m.cls := findClass_of_methodNamed Bd.named
 have hnm := (name_of_methodNamed Bd.named Bd.method).1
 have X0 : Stand p l e (oR 0 0 0 0) s m #[(.int xc)] bw meth c s₁ [] 0 0 := Stand.of_body Bd
 have e0 : s₁.heap = h0 := by rw [← hh, Bd.state]; rfl
 have N0 := Fr.nil n0
 have D := own_D hby dB8
 obtain ⟨G, hG⟩ := own_ex fun t => Steps p.tables e bw (s₁.setTop (entryFrame m #[(.int xc)] 1)) t
 have pre0 : oP p e bw G s₁ m 0 #[vI xc] [] := by intro t k; subst hG; exact castTop (ef_rm_can m xc) k
 have pre1 : oP p e bw G s₁ m 12 #[vI xc] [(.int 1)] := by
  intro t k
  refine pre0 t ?_
  refine XS.iloadN X0.here hx rfl (D 0 rfl) rfl ?_
  refine XS.sipush X0.here hx rfl (D 1 rfl) ?_
  refine XS.icmpNo X0.here hx rfl (D 2 rfl) rfl (flt (show ¬ ((255 : Int32) < xc) from hc)).2.2.1 ?_
  refine XS.iconst X0.here hx rfl (D 3 rfl) ?_
  refine XS.goto X0.here hx rfl (pc0 := 8) (pc' := 12) rfl (D 4 rfl) (by decide) (by decide) ?_
  exact k
 obtain ⟨fs, hr, hrun, hended, hW, hsame⟩ := X0.leave (hlocks := Bd.notSynchronized) (v := some (.int 1)) (fun h => by rw [Bd.returns] at h; cases h)
 subst hG
 refine ⟨_, _, pre1 _ ?_, hrun, hended, _, _, rfl, ?_, ⟨_, rfl⟩, hW, hsame.mono (by decide) (by decide)⟩
 ·exact retN X0 hx (t := .boolean) Bd.returns (by simp) (D 5 rfl) hr
 ·show Q_rm_can Z xc h0 n0 _ s₁.heap _
  rw [e0]
  exact ⟨rfl, N0, rfl⟩
theorem ef_rm_tob (m : MethodId) (xc : Int32) : entryFrame m #[(.int xc)] 1 = mkF m 0 #[vI xc] [] := by simp [entryFrame, mkF, argsToLocals, Value.category]
def Q_rm_tob (Z : State) (xc : Int32) (h0 : Heap) (n0 : Nat) (v : Option Value) (h : Heap) (L : List Loc) : Prop := ∃ kb : ClassId, ∃ bo : Addr, v = some (.ref bo) ∧ Fr n0 L ∧ n0 ≤ bo ∧ h0.size ≤ bo ∧ Keep h0 h ([] : List Addr) ∧ Arv Z h bo kb .byte (1 : Int32) [(.int (nar .byte (xc.toInt8.toInt32)))] (.int 0) ∧ Exa Z h bo "[B"
set_option maxRecDepth 65536 in
set_option maxHeartbeats 40000000 in
theorem rm_tob (l : Launch) (Z : State) (a0 : Array Value) (hw : ∀ d ∈ tables_1, d.before a0 Z = true) (ws : List Jvm.Cond) (xc : Int32) (h0 : Heap) (n0 : Nat) (Z0 : n0 ≤ h0.size) :
  oMet l (⟨oS10, "toBytes", "(C)[B"⟩ : MethodName) jdk_43_method_46_code 1 (some (.array .byte)) ws (oR 0 1 1 0) #[(.int xc)] Z h0 (Q_rm_tob Z xc h0 n0) := by
 refine MetFree.of_bodySF (plainFor_of_name pn0) hisR ?_
 have W := own_W hw
 intro p e s m args bw meth c s₁ Bd hml0 hP hK
 obtain ⟨rfl, hZ, hh⟩ := hP
 have hx := Bd.exec
 have hby := Bd.bytes
 have hml : c.maxLocals = 1 := hml0
 have hown : s.vm.findClass oS10 = some m.cls := findClass_of_methodNamed Bd.named
 have hnm := (name_of_methodNamed Bd.named Bd.method).1
 have X0 : Stand p l e (oR 0 1 1 0) s m #[(.int xc)] bw meth c s₁ [] 0 0 := Stand.of_body Bd
 have e0 : s₁.heap = h0 := by rw [← hh, Bd.state]; rfl
 have N0 := Fr.nil n0
 have D := own_D hby dB9
 obtain ⟨G, hG⟩ := own_ex fun t => Steps p.tables e bw (s₁.setTop (entryFrame m #[(.int xc)] 1)) t
 have pre0 : oP p e bw G s₁ m 0 #[vI xc] [] := by intro t k; subst hG; exact castTop (ef_rm_tob m xc) k
 have pre1 : oP p e bw G s₁ m 1 #[vI xc] [(.int 1)] := by
  intro t k
  refine pre0 t ?_
  refine XS.iconst X0.here hx rfl (D 0 rfl) ?_
  exact k
 obtain ⟨T2, h2, k2, X2, e2, E2, A2, x2, st2⟩ := newPE X0 hx hZ (W 21 rfl) e0 (g := (own_g pre1)) rfl (D 1 rfl) rfl (by decide) (cap := 1) (by decide) (by decide) (by decide) (by decide) (ad := "[B") rfl
 obtain ⟨b2, g2⟩ := own_ex h0.size
 rw [← g2] at A2 st2 x2
 have g_b2 : n0 ≤ b2 := Nat.le_trans Z0 (Nat.le_of_eq g2.symm)
 have sz_b2 : h0.size ≤ b2 := Nat.le_trans (Keep.refl h0 ([] : List Addr)).1 (Nat.le_of_eq g2.symm)
 have K2 : Keep h0 h2 ([] : List Addr) := (Keep.refl h0 ([] : List Addr)).ext E2
 have z2 : n0 ≤ h2.size := Nat.le_trans Z0 K2.1
 have V_b2 : Arv Z h2 b2 k2 .byte (1 : Int32) [(.int 0)] (.int 0) := (Arv.new A2 (by decide)).pad (pad_rep [] (.int 0) 1)
 have pre3 : oP p e bw G T2 m 7 #[vI xc] [(.int (xc.toInt8.toInt32)), (.int 0), (.ref b2), (.ref b2)] := by
  intro t k
  refine pre1 t (st2 t ?_)
  refine XS.dup X2.here hx rfl (D 2 rfl) rfl rfl ?_
  refine XS.iconst X2.here hx rfl (D 3 rfl) ?_
  refine XS.iloadN X2.here hx rfl (D 4 rfl) rfl ?_
  refine XS.i2b X2.here hx rfl (D 5 rfl) rfl ?_
  exact k
 obtain ⟨c4, a4, q4, s4, m4, i4, u4⟩ := id V_b2
 obtain ⟨T5, h5, X5, e5, W5, st5⟩ := stB X2 hx hZ e2 a4 (j := (0 : Int32)) (inb_of s4 ⟨by decide, by decide⟩) (g := (own_g pre3)) rfl rfl (D 6 rfl)
 have K5 : Keep h0 h5 ([] : List Addr) := K2.wr W5 (Or.inr sz_b2)
 have z5 : n0 ≤ h5.size := Nat.le_trans Z0 K5.1
 have N5 := Fr.snoc X5 N0 g_b2
 have V5 : Arv Z h5 b2 k2 .byte (1 : Int32) [(.int (nar .byte (xc.toInt8.toInt32)))] (.int 0) := Arv.set a4 q4 s4 m4 i4 u4 (fits_nar_byte _) W5 0 rfl (Nat.le_of_ble_eq_true rfl)
 have pre6 : oP p e bw G T5 m 8 #[vI xc] [(.ref b2)] := fun t k => pre3 t (st5 t k)
 obtain ⟨fs, hr, hrun, hended, hW, hsame⟩ := X5.leave (hlocks := Bd.notSynchronized) (v := some (.ref b2)) (fun h => by rw [Bd.returns] at h; cases h)
 subst hG
 refine ⟨_, _, pre6 _ ?_, hrun, hended, _, _, rfl, ?_, ⟨_, rfl⟩, hW, hsame.mono (by decide) (by decide)⟩
 ·exact retOut X5 hx Bd.returns rfl (Or.inr (Or.inr (Or.inr (Or.inr ⟨rfl, rfl, rfl⟩)))) (D 7 rfl) hr
 ·show Q_rm_tob Z xc h0 n0 _ T5.heap _
  rw [e5]
  exact ⟨k2, b2, rfl, N5, g_b2, sz_b2, K5, V5, (x2.wr W5)⟩
theorem pn1 : plainName "java/lang/String" = true := by first | (simp [plainName, overriddenIn]; done) | decide +kernel
theorem ef_rm_sinit (m : MethodId) (ra : Addr) (rb : Addr) : entryFrame m #[(.ref ra), (.ref rb), (.int 0)] 3 = mkF m 0 #[vR ra, vR rb, vI 0] [] := by simp [entryFrame, mkF, argsToLocals, Value.category]
def Q_rm_sinit (Z : State) (ra : Addr) (rb : Addr) (h0 : Heap) (n0 : Nat) (v : Option Value) (h : Heap) (L : List Loc) : Prop := v = none ∧ Fr n0 L ∧ Keep h0 h [ra] ∧ Exa Z h ra "java/lang/String" ∧ Fld Z h ra "java/lang/String" "value" "[B" (.ref rb) ∧ Fld Z h ra "java/lang/String" "coder" "B" (.int 0)
set_option maxRecDepth 65536 in
set_option maxHeartbeats 40000000 in
theorem rm_sinit (l : Launch) (Z : State) (a0 : Array Value) (hw : ∀ d ∈ tables_1, d.before a0 Z = true) (ws : List Jvm.Cond) (ra : Addr) (rb : Addr) (h0 : Heap) (n0 : Nat) (Z0 : n0 ≤ h0.size) (E_ra : Exa Z h0 ra "java/lang/String") (g_ra : n0 ≤ ra) (F_coder_ra : Fld Z h0 ra "java/lang/String" "coder" "B" (.int 0)) (F_value_ra : Fld Z h0 ra "java/lang/String" "value" "[B" .null) :
  oMet l oM13 jdk_42_method_151_code 3 none ws (oR 1 0 0 12) #[(.ref ra), (.ref rb), (.int 0)] Z h0 (Q_rm_sinit Z ra rb h0 n0) := by
 refine MetFree.of_bodySF (plainFor_of_name pn1) hisR ?_
 have W := own_W hw
 intro p e s m args bw meth c s₁ Bd hml0 hP hK
 obtain ⟨rfl, hZ, hh⟩ := hP
 have hx := Bd.exec
 have hby := Bd.bytes
 have hml : c.maxLocals = 3 := hml0
 have hown : s.vm.findClass "java/lang/String" = some m.cls := findClass_of_methodNamed Bd.named
 have hnm := (name_of_methodNamed Bd.named Bd.method).1
 have X0 : Stand p l e (oR 1 0 0 12) s m #[(.ref ra), (.ref rb), (.int 0)] bw meth c s₁ [] 0 0 := Stand.of_body Bd
 have e0 : s₁.heap = h0 := by rw [← hh, Bd.state]; rfl
 have N0 := Fr.nil n0
 have D := own_D hby dB10
 obtain ⟨G, hG⟩ := own_ex fun t => Steps p.tables e bw (s₁.setTop (entryFrame m #[(.ref ra), (.ref rb), (.int 0)] 3)) t
 have pre0 : oP p e bw G s₁ m 0 #[vR ra, vR rb, vI 0] [] := by intro t k; subst hG; exact castTop (ef_rm_sinit m ra rb) k
 have pre1 : oP p e bw G s₁ m 1 #[vR ra, vR rb, vI 0] [(.ref ra)] := by
  intro t k
  refine pre0 t ?_
  refine XS.aloadN X0.here hx rfl (D 0 rfl) rfl rfl ?_
  exact k
 obtain ⟨T2, X2, e2, st2⟩ := initO X0 hx hZ hown (W 13 rfl) (W 14 rfl) (W 15 rfl) e0 (g := (own_g pre1)) rfl (by rw [hml]; rfl) rfl (D 1 rfl) (by decide) (W := 0) (by show 2 * 0 + _ ≤ _; exact Nat.le_of_eq rfl) (by decide)
 have pre3 : oP p e bw G T2 m 6 #[vR ra, vR rb, vI 0] [(.ref rb), (.ref ra)] := by
  intro t k
  refine pre1 t (st2 t ?_)
  refine XS.aloadN X2.here hx rfl (D 2 rfl) rfl rfl ?_
  refine XS.aloadN X2.here hx rfl (D 3 rfl) rfl rfl ?_
  exact k
 obtain ⟨T4, h4, X4, e4, W4, st4⟩ := putF X2 hx hZ hown (host := "") (Or.inl (W 30 rfl)) Via.refl e2 F_value_ra E_ra (Or.inr ⟨(W 31 rfl), rfl, hnm⟩) (W 4 rfl) (ty := (.array .byte)) (by decide) rfl rfl (g := (own_g pre3)) rfl rfl (D 4 rfl)
 have K4 : Keep h0 h4 [ra] := (Keep.refl h0 [ra]).wr W4 (Or.inl (by simp))
 have z4 : n0 ≤ h4.size := Nat.le_trans Z0 K4.1
 have N4 := Fr.snoc X4 N0 g_ra
 have Fw4 := F_value_ra.same W4
 have pre5 : oP p e bw G T4 m 11 #[vR ra, vR rb, vI 0] [(.int 0), (.ref ra)] := by
  intro t k
  refine pre3 t (st4 t ?_)
  refine XS.aloadN X4.here hx rfl (D 5 rfl) rfl rfl ?_
  refine XS.iloadN X4.here hx rfl (D 6 rfl) rfl ?_
  exact k
 have f6 := (E_ra.wr W4)
 have f7 := (F_coder_ra.other W4 (Or.inr (slot_ne (Or.inr (W 29 rfl)) (Or.inr (W 31 rfl)) (by decide) (t := .byte) (t' := (.array .byte)) (by decide) (by decide))))
 obtain ⟨T8, h8, X8, e8, W8, st8⟩ := putFN X4 hx hZ hown (W 28 rfl) Via.refl e4 f7 f6 (Or.inr ⟨(W 29 rfl), rfl, hnm⟩) (W 4 rfl) (ty := .byte) (v' := (.int (nar .byte (0 : Int32)))) (by decide) rfl (fits_nar_byte _) (g := (own_g pre5)) rfl rfl (D 7 rfl)
 have K8 : Keep h0 h8 [ra] := K4.wr W8 (Or.inl (by simp))
 have z8 : n0 ≤ h8.size := Nat.le_trans Z0 K8.1
 have N8 := Fr.snoc X8 N4 g_ra
 have Fw8 := f7.same W8
 have pre9 : oP p e bw G T8 m 14 #[vR ra, vR rb, vI 0] [] := fun t k => pre5 t (st8 t k)
 obtain ⟨fs, hr, hrun, hended, hW, hsame⟩ := X8.leave (hlocks := Bd.notSynchronized) (v := none) (fun _ => rfl)
 subst hG
 refine ⟨_, _, pre9 _ ?_, hrun, hended, _, _, rfl, ?_, ⟨_, rfl⟩, hW, hsame.mono (by decide) (by decide)⟩
 ·exact X8.returnOut hx Bd.returns (D 8 rfl) hr
 ·show Q_rm_sinit Z ra rb h0 n0 _ T8.heap _
  rw [e8]
  exact ⟨rfl, N8, K8, (f6.wr W8), (Fw4.other W8 (Or.inr (slot_ne (Or.inr (W 31 rfl)) (Or.inr (W 29 rfl)) (by decide) (t := (.array .byte)) (t' := .byte) (by decide) (by decide)))), Fw8⟩
theorem pd0 : parseMethodDescriptor "(C)Z" = some ⟨[.char], some .boolean⟩ := by decide +kernel
theorem pd1 : parseMethodDescriptor "(C)[B" = some ⟨[.char], some (.array .byte)⟩ := by decide +kernel
theorem pd2 : parseMethodDescriptor "([BB)V" = some ⟨[(.array .byte), .byte], none⟩ := by decide +kernel
theorem ef_rm_sval (m : MethodId) (xc : Int32) : entryFrame m #[(.int xc)] 1 = mkF m 0 #[vI xc] [] := by simp [entryFrame, mkF, argsToLocals, Value.category]
def Q_rm_sval (Z : State) (xc : Int32) (xcs : Int32) (h0 : Heap) (n0 : Nat) (v : Option Value) (h : Heap) (L : List Loc) : Prop := ∃ ry : Addr, ∃ ky : ClassId, ∃ bo : Addr, v = some (.ref bo) ∧ Fr n0 L ∧ n0 ≤ bo ∧ h0.size ≤ bo ∧ Keep h0 h ([] : List Addr) ∧ Exa Z h bo "java/lang/String" ∧ Fld Z h bo "java/lang/String" "value" "[B" (.ref ry) ∧ Fld Z h bo "java/lang/String" "coder" "B" (.int 0) ∧ Arv Z h ry ky .byte (1 : Int32) [(.int (nar .byte (xc.toInt8.toInt32)))] (.int 0) ∧ Exa Z h ry "[B"
set_option maxRecDepth 65536 in
set_option maxHeartbeats 40000000 in
theorem rm_sval (l : Launch) (Z : State) (a0 : Array Value) (hw : ∀ d ∈ tables_1, d.before a0 Z = true) (ws : List Jvm.Cond) (xc : Int32) (xcs : Int32) (h0 : Heap) (n0 : Nat) (Z0 : n0 ≤ h0.size) (SC : Sta Z h0 "java/lang/String" "COMPACT_STRINGS" "Z" (.int xcs)) (hcs : ¬ (xcs = (0 : Int32))) (hc : ¬ ((255 : Int32) < xc)) :
  oMet l (⟨"java/lang/String", "valueOf", "(C)Ljava/lang/String;"⟩ : MethodName) jdk_42_method_139_code 1 (some (.object "java/lang/String")) ws (oR 2 2 5 27) #[(.int xc)] Z h0 (Q_rm_sval Z xc xcs h0 n0) := by
 refine MetFree.of_bodySF (plainFor_of_name pn1) hisR ?_
 have W := own_W hw
 intro p e s m args bw meth c s₁ Bd hml0 hP hK
 obtain ⟨rfl, hZ, hh⟩ := hP
 have hx := Bd.exec
 have hby := Bd.bytes
 have hml : c.maxLocals = 1 := hml0
 have hown : s.vm.findClass "java/lang/String" = some m.cls := findClass_of_methodNamed Bd.named
 have hnm := (name_of_methodNamed Bd.named Bd.method).1
 have X0 : Stand p l e (oR 2 2 5 27) s m #[(.int xc)] bw meth c s₁ [] 0 0 := Stand.of_body Bd
 have e0 : s₁.heap = h0 := by rw [← hh, Bd.state]; rfl
 have N0 := Fr.nil n0
 have D := own_D hby dB7
 obtain ⟨G, hG⟩ := own_ex fun t => Steps p.tables e bw (s₁.setTop (entryFrame m #[(.int xc)] 1)) t
 have pre0 : oP p e bw G s₁ m 0 #[vI xc] [] := by intro t k; subst hG; exact castTop (ef_rm_sval m xc) k
 obtain ⟨T1, X1, e1, st1⟩ := getS2 X0 hx hZ hown (host := "") (Or.inl (W 16 rfl)) Via.refl e0 SC (g := (own_g pre0)) rfl (D 0 rfl)
 have pre2 : oP p e bw G T1 m 7 #[vI xc] [(.int xc)] := by
  intro t k
  refine pre0 t (st1 t ?_)
  refine XS.ifNo X1.here hx rfl (D 1 rfl) rfl ((if0 _ _).trans (feq (show ¬ (xcs = (0 : Int32)) from hcs)).1) ?_
  refine XS.iloadN X1.here hx rfl (D 2 rfl) rfl ?_
  exact k
 obtain ⟨_, T3, Lc3, X3, hQ3, pc3⟩ := own_call X1 hx hZ hown (W 35 rfl) (W 36 rfl) (W 37 rfl) (W 38 rfl) (by decide) (rm_can l Z a0 hw [] xc h0 n0 Z0 (hc)) e1 pre2 hml rfl (D 3 rfl) (lenOf pd0 rfl) rfl (W := 0) rfl (by decide)
 obtain ⟨rfl, M3, e3⟩ := hQ3
 have N3 := Fr.app N0 M3
 have pre4 : oP p e bw G T3 m 13 #[vI xc] [] := by
  intro t k
  refine pc3 t ?_
  refine XS.ifNo X3.here hx rfl (D 4 rfl) rfl ((if0 _ _).trans (feq (show ¬ ((1 : Int32) = (0 : Int32)) from by decide)).1) ?_
  exact k
 obtain ⟨T5, h5, X5, e5, E5, A5, D5, -, st5⟩ := newO X3 hx hZ hown (W 39 rfl) (W 4 rfl) (W 5 rfl) e3 (g := (own_g pre4)) rfl (D 5 rfl) (by decide) (by decide)
 obtain ⟨b5, g5⟩ := own_ex h0.size
 rw [← g5] at A5 D5 st5
 have g_b5 : n0 ≤ b5 := Nat.le_trans Z0 (Nat.le_of_eq g5.symm)
 have sz_b5 : h0.size ≤ b5 := Nat.le_trans (Keep.refl h0 ([] : List Addr)).1 (Nat.le_of_eq g5.symm)
 have K5 : Keep h0 h5 ([] : List Addr) := (Keep.refl h0 ([] : List Addr)).ext E5
 have z5 : n0 ≤ h5.size := Nat.le_trans Z0 K5.1
 have F_coder_b5 : Fld Z h5 b5 "java/lang/String" "coder" "B" (.int 0) := D5 (Or.inr (W 29 rfl)) (ty := .byte) (by decide)
 have F_value_b5 : Fld Z h5 b5 "java/lang/String" "value" "[B" .null := D5 (Or.inr (W 31 rfl)) (ty := (.array .byte)) (by decide)
 have pre6 : oP p e bw G T5 m 18 #[vI xc] [(.int xc), (.ref b5), (.ref b5)] := by
  intro t k
  refine pre4 t (st5 t ?_)
  refine XS.dup X5.here hx rfl (D 6 rfl) rfl rfl ?_
  refine XS.iloadN X5.here hx rfl (D 7 rfl) rfl ?_
  exact k
 obtain ⟨_, T7, Lc7, X7, hQ7, pc7⟩ := own_call X5 hx hZ hown (W 40 rfl) (W 41 rfl) (W 37 rfl) (W 42 rfl) (by decide) (rm_tob l Z a0 hw [] xc h5 n0 z5 ) e5 pre6 hml rfl (D 8 rfl) (lenOf pd1 rfl) rfl (W := 2) rfl (by decide)
 obtain ⟨kb_7, b7, rfl, M7, g_b7, zs7, kp7, f7_0, f7_1⟩ := hQ7
 have sz_b7 : h0.size ≤ b7 := Nat.le_trans K5.1 zs7
 have K7 : Keep h0 T7.heap ([] : List Addr) := K5.trans kp7 all0
 have zz7 : n0 ≤ T7.heap.size := Nat.le_trans Z0 K7.1
 have N7 := Fr.app N3 M7
 have pre8 : oP p e bw G T7 m 22 #[vI xc] [(.int 0), (.ref b7), (.ref b5), (.ref b5)] := by
  intro t k
  refine pc7 t ?_
  refine XS.iconst X7.here hx rfl (D 9 rfl) ?_
  exact k
 have f9 := (A5.keep kp7)
 have f10 := (F_coder_b5.keep kp7 nin0)
 have f11 := (F_value_b5.keep kp7 nin0)
 obtain ⟨_, _, ⟨T12, L12, k12, n12⟩, -, X12, ⟨Lc12, hQ12, l12, y12, z12⟩, st12⟩ := X7.specialBack hx (y := oM13) rfl hown (mvT hZ (W 43 rfl)) (mvT hZ (W 44 rfl)) (mvT hZ (W 45 rfl)) (by decide) (backOf (W := 1) (rm_sinit l Z a0 hw [] b5 b7 T7.heap n0 zz7 f9 (g_b5) f10 f11) hZ (W 45 rfl) (W 5 rfl) (by decide) (by decide)) (g := (own_g pre8)) rfl (by rw [hml]; rfl) (Steps.refl _) (a := b5) (argsL := [(.ref b7), (.int 0)]) (rest := [(.ref b5)]) (lenOf pd2 rfl) rfl (by show 2 * 0 + _ ≤ _; exact Nat.le_of_eq rfl) (D 10 rfl) (fun _ _ => ⟨rfl, rfl, (by decide : 2 + 0 ≤ _), (by decide : 5 + 0 ≤ _)⟩)
 dsimp only [Pt.U, Pt.locs, Pt.cells, Pt.slots] at X12 l12 y12 z12 st12 hQ12
 subst y12 z12
 obtain ⟨rfl, M12, kp12, f12_0, f12_1, f12_2⟩ := hQ12
 have K12 : Keep h0 T12.heap ([] : List Addr) := K7.trans kp12 (allS (P := fun x => x ∈ ([] : List Addr) ∨ h0.size ≤ x) (Or.inr sz_b5) all0)
 have zz12 : n0 ≤ T12.heap.size := Nat.le_trans Z0 K12.1
 have N12 : Fr n0 L12 := by rw [l12]; exact Fr.app N7 M12
 clear l12
 have pre13 : oP p e bw G T12 m 25 #[vI xc] [(.ref b5)] := fun t k => pre8 t (st12.trans k)
 obtain ⟨fs, hr, hrun, hended, hW, hsame⟩ := X12.leave (hlocks := Bd.notSynchronized) (v := some (.ref b5)) (fun h => by rw [Bd.returns] at h; cases h)
 subst hG
 refine ⟨_, _, pre13 _ ?_, hrun, hended, _, _, rfl, ?_, ⟨_, rfl⟩, hW, hsame.mono (by decide) (by decide)⟩
 ·exact retOut X12 hx Bd.returns rfl (Or.inr (Or.inr (Or.inr (Or.inr ⟨rfl, rfl, rfl⟩)))) (D 11 rfl) hr
 ·show Q_rm_sval Z xc xcs h0 n0 _ T12.heap _
  have ne14 := (Ne.symm (Nat.ne_of_lt (Nat.lt_of_lt_of_le A5.lt zs7)))
  exact ⟨b7, kb_7, b5, rfl, N12, g_b5, sz_b5, K12, f12_0, f12_1, f12_2, (f7_0.keep kp12 (ninS ne14 nin0)), (f7_1.keep kp12)⟩
theorem pn2 : plainName oS8 = true := by first | (simp [plainName, overriddenIn]; done) | decide +kernel
theorem ef_rm_cmp2 (m : MethodId) (ra : Addr) (rb : Addr) : entryFrame m #[(.ref ra), (.int 0), (.ref rb), (.int 0), (.int 2)] 7 = mkF m 0 #[vR ra, vI 0, vR rb, vI 0, vI 2, vU, vU] [] := by simp [entryFrame, mkF, argsToLocals, Value.category]
def Q_rm_cmp2 (Z : State) (ra : Addr) (rb : Addr) (ka : ClassId) (kb : ClassId) (xc0 : Int32) (xc1 : Int32) (h0 : Heap) (n0 : Nat) (v : Option Value) (h : Heap) (L : List Loc) : Prop := v = some (.int 2) ∧ Fr n0 L ∧ Keep h0 h [rb] ∧ Arv Z h rb kb .byte (2 : Int32) [(.int (nar .byte (xc0.toInt8.toInt32))), (.int (nar .byte (xc1.toInt8.toInt32)))] (.int 0)
set_option maxRecDepth 65536 in
set_option maxHeartbeats 40000000 in
theorem rm_cmp2 (l : Launch) (Z : State) (a0 : Array Value) (hw : ∀ d ∈ tables_1, d.before a0 Z = true) (ws : List Jvm.Cond) (ra : Addr) (rb : Addr) (ka : ClassId) (kb : ClassId) (xc0 : Int32) (xc1 : Int32) (h0 : Heap) (n0 : Nat) (Z0 : n0 ≤ h0.size) (VA : Arv Z h0 ra ka .char (2 : Int32) [(.int xc0), (.int xc1)] (.int 0)) (VB0 : Arv Z h0 rb kb .byte (2 : Int32) [(.int 0), (.int 0)] (.int 0)) (g_rb : n0 ≤ rb) (hne : ra ≠ rb) (hd0 : ¬ ((255 : Int32) < xc0)) (hd1 : ¬ ((255 : Int32) < xc1)) :
  oMet l oM14 jdk_52_method_21_code 7 (some .int) ws (oR 0 0 0 0) #[(.ref ra), (.int 0), (.ref rb), (.int 0), (.int 2)] Z h0 (Q_rm_cmp2 Z ra rb ka kb xc0 xc1 h0 n0) := by
 refine MetFree.of_bodySF (plainFor_of_name pn2) hisR ?_
 have W := own_W hw
 intro p e s m args bw meth c s₁ Bd hml0 hP hK
 obtain ⟨rfl, hZ, hh⟩ := hP
 have hx := Bd.exec
 have hby := Bd.bytes
 have hml : c.maxLocals = 7 := hml0
 have hown : s.vm.findClass oS8 = some m.cls := findClass_of_methodNamed Bd.named
 have hnm := (name_of_methodNamed Bd.named Bd.method).1
 have X0 : Stand p l e (oR 0 0 0 0) s m #[(.ref ra), (.int 0), (.ref rb), (.int 0), (.int 2)] bw meth c s₁ [] 0 0 := Stand.of_body Bd
 have e0 : s₁.heap = h0 := by rw [← hh, Bd.state]; rfl
 have N0 := Fr.nil n0
 have D := own_D hby dB5
 obtain ⟨G, hG⟩ := own_ex fun t => Steps p.tables e bw (s₁.setTop (entryFrame m #[(.ref ra), (.int 0), (.ref rb), (.int 0), (.int 2)] 7)) t
 have pre0 : oP p e bw G s₁ m 0 #[vR ra, vI 0, vR rb, vI 0, vI 2, vU, vU] [] := by intro t k; subst hG; exact castTop (ef_rm_cmp2 m ra rb) k
 have pre1 : oP p e bw G s₁ m 12 #[vR ra, vI 0, vR rb, vI 0, vI 2, vI 0, vU] [(.int 0), (.ref ra)] := by
  intro t k
  refine pre0 t ?_
  refine XS.iconst X0.here hx rfl (D 0 rfl) ?_
  refine XS.istore X0.here hx rfl (D 1 rfl) rfl (l' := #[vR ra, vI 0, vR rb, vI 0, vI 2, vI 0, vU]) rfl ?_
  refine XS.iload X0.here hx rfl (D 2 rfl) rfl ?_
  refine XS.iload X0.here hx rfl (D 3 rfl) rfl ?_
  refine XS.icmpNo X0.here hx rfl (D 4 rfl) rfl (tlt (show (0 : Int32) < (2 : Int32) from by decide)).2.1 ?_
  refine XS.aloadN X0.here hx rfl (D 5 rfl) rfl rfl ?_
  refine XS.iloadN X0.here hx rfl (D 6 rfl) rfl ?_
  exact k
 have pre3 : oP p e bw G s₁ m 31 #[vR ra, vI 0, vR rb, vI 0, vI 2, vI 0, vI xc0] [(.int (xc0.toInt8.toInt32)), (.int 0), (.ref rb)] := by
  intro t k
  refine pre1 t ?_
  obtain ⟨c2, a2, q2, s2, m2, i2, u2⟩ := id VA
  have hin2 := inb_of (j := (0 : Int32)) s2 ⟨by decide, by decide⟩
  refine X0.caload hx (j := (0 : Int32)) (v := (.int xc0)) (by rw [e0]; exact a2.1) (State.isArrayOf_alike hZ.alike a2.2.1) a2.2.2 hin2 (i2.at hin2 rfl) (g := (own_g pre1)) rfl rfl (D 7 rfl) _ ?_
  refine XS.istore X0.here hx rfl (D 8 rfl) rfl (l' := #[vR ra, vI 0, vR rb, vI 0, vI 2, vI 0, vI xc0]) rfl ?_
  refine XS.iload X0.here hx rfl (D 9 rfl) rfl ?_
  refine XS.sipush X0.here hx rfl (D 10 rfl) ?_
  refine XS.icmpYes X0.here hx rfl (pc0 := 20) (pc' := 26) rfl (D 11 rfl) rfl (flt (show ¬ ((255 : Int32) < xc0) from hd0)).2.2.2 (by decide) (by decide) ?_
  refine XS.aloadN X0.here hx rfl (D 12 rfl) rfl rfl ?_
  refine XS.iloadN X0.here hx rfl (D 13 rfl) rfl ?_
  refine XS.iload X0.here hx rfl (D 14 rfl) rfl ?_
  refine XS.i2b X0.here hx rfl (D 15 rfl) rfl ?_
  exact k
 obtain ⟨c4, a4, q4, s4, m4, i4, u4⟩ := id VB0
 obtain ⟨T5, h5, X5, e5, W5, st5⟩ := stB X0 hx hZ e0 a4 (j := (0 : Int32)) (inb_of s4 ⟨by decide, by decide⟩) (g := (own_g pre3)) rfl rfl (D 16 rfl)
 have K5 : Keep h0 h5 [rb] := (Keep.refl h0 [rb]).wr W5 (Or.inl (by simp))
 have z5 : n0 ≤ h5.size := Nat.le_trans Z0 K5.1
 have N5 := Fr.snoc X5 N0 g_rb
 have V5 : Arv Z h5 rb kb .byte (2 : Int32) [(.int (nar .byte (xc0.toInt8.toInt32))), (.int 0)] (.int 0) := Arv.set a4 q4 s4 m4 i4 u4 (fits_nar_byte _) W5 0 rfl (Nat.le_of_ble_eq_true rfl)
 have pre6 : oP p e bw G T5 m 12 #[vR ra, vI 1, vR rb, vI 1, vI 2, vI 1, vI xc0] [(.int 1), (.ref ra)] := by
  intro t k
  refine pre3 t (st5 t ?_)
  refine XS.iinc X5.here hx rfl (D 17 rfl) rfl (l' := #[vR ra, vI 1, vR rb, vI 0, vI 2, vI 0, vI xc0]) rfl ?_
  refine XS.iinc X5.here hx rfl (D 18 rfl) rfl (l' := #[vR ra, vI 1, vR rb, vI 1, vI 2, vI 0, vI xc0]) rfl ?_
  refine XS.iinc X5.here hx rfl (D 19 rfl) rfl (l' := #[vR ra, vI 1, vR rb, vI 1, vI 2, vI 1, vI xc0]) rfl ?_
  refine XS.goto X5.here hx rfl (pc0 := 41) (pc' := 3) rfl (D 20 rfl) (by decide) (by decide) ?_
  refine XS.iload X5.here hx rfl (D 2 rfl) rfl ?_
  refine XS.iload X5.here hx rfl (D 3 rfl) rfl ?_
  refine XS.icmpNo X5.here hx rfl (D 4 rfl) rfl (tlt (show (1 : Int32) < (2 : Int32) from by decide)).2.1 ?_
  refine XS.aloadN X5.here hx rfl (D 5 rfl) rfl rfl ?_
  refine XS.iloadN X5.here hx rfl (D 6 rfl) rfl ?_
  exact k
 have pre8 : oP p e bw G T5 m 31 #[vR ra, vI 1, vR rb, vI 1, vI 2, vI 1, vI xc1] [(.int (xc1.toInt8.toInt32)), (.int 1), (.ref rb)] := by
  intro t k
  refine pre6 t ?_
  obtain ⟨c7, a7, q7, s7, m7, i7, u7⟩ := id (VA.other W5 hne)
  have hin7 := inb_of (j := (1 : Int32)) s7 ⟨by decide, by decide⟩
  refine X5.caload hx (j := (1 : Int32)) (v := (.int xc1)) (by rw [e5]; exact a7.1) (State.isArrayOf_alike hZ.alike a7.2.1) a7.2.2 hin7 (i7.at hin7 rfl) (g := (own_g pre6)) rfl rfl (D 7 rfl) _ ?_
  refine XS.istore X5.here hx rfl (D 8 rfl) rfl (l' := #[vR ra, vI 1, vR rb, vI 1, vI 2, vI 1, vI xc1]) rfl ?_
  refine XS.iload X5.here hx rfl (D 9 rfl) rfl ?_
  refine XS.sipush X5.here hx rfl (D 10 rfl) ?_
  refine XS.icmpYes X5.here hx rfl (pc0 := 20) (pc' := 26) rfl (D 11 rfl) rfl (flt (show ¬ ((255 : Int32) < xc1) from hd1)).2.2.2 (by decide) (by decide) ?_
  refine XS.aloadN X5.here hx rfl (D 12 rfl) rfl rfl ?_
  refine XS.iloadN X5.here hx rfl (D 13 rfl) rfl ?_
  refine XS.iload X5.here hx rfl (D 14 rfl) rfl ?_
  refine XS.i2b X5.here hx rfl (D 15 rfl) rfl ?_
  exact k
 obtain ⟨c9, a9, q9, s9, m9, i9, u9⟩ := id V5
 obtain ⟨T10, h10, X10, e10, W10, st10⟩ := stB X5 hx hZ e5 a9 (j := (1 : Int32)) (inb_of s9 ⟨by decide, by decide⟩) (g := (own_g pre8)) rfl rfl (D 16 rfl)
 have K10 : Keep h0 h10 [rb] := K5.wr W10 (Or.inl (by simp))
 have z10 : n0 ≤ h10.size := Nat.le_trans Z0 K10.1
 have N10 := Fr.snoc X10 N5 g_rb
 have V10 : Arv Z h10 rb kb .byte (2 : Int32) [(.int (nar .byte (xc0.toInt8.toInt32))), (.int (nar .byte (xc1.toInt8.toInt32)))] (.int 0) := Arv.set a9 q9 s9 m9 i9 u9 (fits_nar_byte _) W10 1 rfl (Nat.le_of_ble_eq_true rfl)
 have pre11 : oP p e bw G T10 m 46 #[vR ra, vI 2, vR rb, vI 2, vI 2, vI 2, vI xc1] [(.int 2)] := by
  intro t k
  refine pre8 t (st10 t ?_)
  refine XS.iinc X10.here hx rfl (D 17 rfl) rfl (l' := #[vR ra, vI 2, vR rb, vI 1, vI 2, vI 1, vI xc1]) rfl ?_
  refine XS.iinc X10.here hx rfl (D 18 rfl) rfl (l' := #[vR ra, vI 2, vR rb, vI 2, vI 2, vI 1, vI xc1]) rfl ?_
  refine XS.iinc X10.here hx rfl (D 19 rfl) rfl (l' := #[vR ra, vI 2, vR rb, vI 2, vI 2, vI 2, vI xc1]) rfl ?_
  refine XS.goto X10.here hx rfl (pc0 := 41) (pc' := 3) rfl (D 20 rfl) (by decide) (by decide) ?_
  refine XS.iload X10.here hx rfl (D 2 rfl) rfl ?_
  refine XS.iload X10.here hx rfl (D 3 rfl) rfl ?_
  refine XS.icmpYes X10.here hx rfl (pc0 := 7) (pc' := 44) rfl (D 4 rfl) rfl (flt (show ¬ ((2 : Int32) < (2 : Int32)) from by decide)).2.1 (by decide) (by decide) ?_
  refine XS.iload X10.here hx rfl (D 21 rfl) rfl ?_
  exact k
 obtain ⟨fs, hr, hrun, hended, hW, hsame⟩ := X10.leave (hlocks := Bd.notSynchronized) (v := some (.int 2)) (fun h => by rw [Bd.returns] at h; cases h)
 subst hG
 refine ⟨_, _, pre11 _ ?_, hrun, hended, _, _, rfl, ?_, ⟨_, rfl⟩, hW, hsame.mono (by decide) (by decide)⟩
 ·exact retI X10 hx Bd.returns (D 22 rfl) hr
 ·show Q_rm_cmp2 Z ra rb ka kb xc0 xc1 h0 n0 _ T10.heap _
  rw [e10]
  exact ⟨rfl, N10, K10, V10⟩
theorem pd3 : parseMethodDescriptor "([CI[BII)I" = some ⟨[(.array .char), .int, (.array .byte), .int, .int], some .int⟩ := by decide +kernel
theorem ef_rm_cmb2 (m : MethodId) (ra : Addr) : entryFrame m #[(.ref ra), (.int 0), (.int 2)] 6 = mkF m 0 #[vR ra, vI 0, vI 2, vU, vU, vU] [] := by simp [entryFrame, mkF, argsToLocals, Value.category]
def Q_rm_cmb2 (Z : State) (ra : Addr) (ka : ClassId) (xc0 : Int32) (xc1 : Int32) (h0 : Heap) (n0 : Nat) (v : Option Value) (h : Heap) (L : List Loc) : Prop := ∃ kb : ClassId, ∃ bo : Addr, v = some (.ref bo) ∧ Fr n0 L ∧ n0 ≤ bo ∧ h0.size ≤ bo ∧ Keep h0 h ([] : List Addr) ∧ Arv Z h bo kb .byte (2 : Int32) [(.int (nar .byte (xc0.toInt8.toInt32))), (.int (nar .byte (xc1.toInt8.toInt32)))] (.int 0) ∧ Exa Z h bo "[B"
set_option maxRecDepth 65536 in
set_option maxHeartbeats 40000000 in
theorem rm_cmb2 (l : Launch) (Z : State) (a0 : Array Value) (hw : ∀ d ∈ tables_1, d.before a0 Z = true) (ws : List Jvm.Cond) (ra : Addr) (ka : ClassId) (xc0 : Int32) (xc1 : Int32) (h0 : Heap) (n0 : Nat) (Z0 : n0 ≤ h0.size) (VA : Arv Z h0 ra ka .char (2 : Int32) [(.int xc0), (.int xc1)] (.int 0)) (hd0 : ¬ ((255 : Int32) < xc0)) (hd1 : ¬ ((255 : Int32) < xc1)) :
  oMet l oM15 jdk_52_method_16_code 6 (some (.array .byte)) ws (oR 1 1 2 18) #[(.ref ra), (.int 0), (.int 2)] Z h0 (Q_rm_cmb2 Z ra ka xc0 xc1 h0 n0) := by
 refine MetFree.of_bodySF (plainFor_of_name pn2) hisR ?_
 have W := own_W hw
 intro p e s m args bw meth c s₁ Bd hml0 hP hK
 obtain ⟨rfl, hZ, hh⟩ := hP
 have hx := Bd.exec
 have hby := Bd.bytes
 have hml : c.maxLocals = 6 := hml0
 have hown : s.vm.findClass oS8 = some m.cls := findClass_of_methodNamed Bd.named
 have hnm := (name_of_methodNamed Bd.named Bd.method).1
 have X0 : Stand p l e (oR 1 1 2 18) s m #[(.ref ra), (.int 0), (.int 2)] bw meth c s₁ [] 0 0 := Stand.of_body Bd
 have e0 : s₁.heap = h0 := by rw [← hh, Bd.state]; rfl
 have N0 := Fr.nil n0
 have D := own_D hby dB4
 obtain ⟨G, hG⟩ := own_ex fun t => Steps p.tables e bw (s₁.setTop (entryFrame m #[(.ref ra), (.int 0), (.int 2)] 6)) t
 have pre0 : oP p e bw G s₁ m 0 #[vR ra, vI 0, vI 2, vU, vU, vU] [] := by intro t k; subst hG; exact castTop (ef_rm_cmb2 m ra) k
 have pre1 : oP p e bw G s₁ m 1 #[vR ra, vI 0, vI 2, vU, vU, vU] [(.int 2)] := by
  intro t k
  refine pre0 t ?_
  refine XS.iloadN X0.here hx rfl (D 0 rfl) rfl ?_
  exact k
 obtain ⟨T2, h2, k2, X2, e2, E2, A2, x2, st2⟩ := newPE X0 hx hZ (W 21 rfl) e0 (g := (own_g pre1)) rfl (D 1 rfl) rfl (by decide) (cap := 2) (by decide) (by decide) (by decide) (by decide) (ad := "[B") rfl
 obtain ⟨b2, g2⟩ := own_ex h0.size
 rw [← g2] at A2 st2 x2
 have g_b2 : n0 ≤ b2 := Nat.le_trans Z0 (Nat.le_of_eq g2.symm)
 have sz_b2 : h0.size ≤ b2 := Nat.le_trans (Keep.refl h0 ([] : List Addr)).1 (Nat.le_of_eq g2.symm)
 have K2 : Keep h0 h2 ([] : List Addr) := (Keep.refl h0 ([] : List Addr)).ext E2
 have z2 : n0 ≤ h2.size := Nat.le_trans Z0 K2.1
 have V_b2 : Arv Z h2 b2 k2 .byte (2 : Int32) [(.int 0), (.int 0)] (.int 0) := (Arv.new A2 (by decide)).pad (pad_rep [] (.int 0) 2)
 have pre3 : oP p e bw G T2 m 9 #[vR ra, vI 0, vI 2, vR b2, vU, vU] [(.int 2), (.int 0), (.ref b2), (.int 0), (.ref ra)] := by
  intro t k
  refine pre1 t (st2 t ?_)
  refine XS.astoreN X2.here hx rfl (D 2 rfl) rfl rfl (l' := #[vR ra, vI 0, vI 2, vR b2, vU, vU]) rfl ?_
  refine XS.aloadN X2.here hx rfl (D 3 rfl) rfl rfl ?_
  refine XS.iloadN X2.here hx rfl (D 4 rfl) rfl ?_
  refine XS.aloadN X2.here hx rfl (D 5 rfl) rfl rfl ?_
  refine XS.iconst X2.here hx rfl (D 6 rfl) ?_
  refine XS.iloadN X2.here hx rfl (D 7 rfl) rfl ?_
  exact k
 have f4 := (VA.ext E2)
 have ne5 := (Nat.ne_of_lt (Nat.lt_of_lt_of_le VA.lt (Nat.le_of_eq g2.symm)))
 obtain ⟨_, T6, Lc6, X6, hQ6, pc6⟩ := own_call X2 hx hZ hown (W 22 rfl) (W 23 rfl) (W 19 rfl) (W 24 rfl) (by decide) (rm_cmp2 l Z a0 hw [] ra b2 ka k2 xc0 xc1 h2 n0 z2 f4 V_b2 (g_b2) (ne5) (hd0) (hd1)) e2 pre3 hml rfl (D 8 rfl) (lenOf pd3 rfl) rfl (W := 0) rfl (by decide)
 obtain ⟨rfl, M6, kp6, f6_0⟩ := hQ6
 have K6 : Keep h0 T6.heap ([] : List Addr) := K2.trans kp6 (allS (P := fun x => x ∈ ([] : List Addr) ∨ h0.size ≤ x) (Or.inr sz_b2) all0)
 have zz6 : n0 ≤ T6.heap.size := Nat.le_trans Z0 K6.1
 have N6 := Fr.app N0 M6
 have pre7 : oP p e bw G T6 m 58 #[vR ra, vI 0, vI 2, vR b2, vI 2, vU] [(.ref b2)] := by
  intro t k
  refine pc6 t ?_
  refine XS.istore X6.here hx rfl (D 9 rfl) rfl (l' := #[vR ra, vI 0, vI 2, vR b2, vI 2, vU]) rfl ?_
  refine XS.iload X6.here hx rfl (D 10 rfl) rfl ?_
  refine XS.iloadN X6.here hx rfl (D 11 rfl) rfl ?_
  refine XS.icmpYes X6.here hx rfl (pc0 := 17) (pc' := 57) rfl (D 12 rfl) rfl (teq (show (2 : Int32) = (2 : Int32) from rfl)).1 (by decide) (by decide) ?_
  refine XS.aloadN X6.here hx rfl (D 13 rfl) rfl rfl ?_
  exact k
 obtain ⟨fs, hr, hrun, hended, hW, hsame⟩ := X6.leave (hlocks := Bd.notSynchronized) (v := some (.ref b2)) (fun h => by rw [Bd.returns] at h; cases h)
 subst hG
 refine ⟨_, _, pre7 _ ?_, hrun, hended, _, _, rfl, ?_, ⟨_, rfl⟩, hW, hsame.mono (by decide) (by decide)⟩
 ·exact retOut X6 hx Bd.returns rfl (Or.inr (Or.inr (Or.inr (Or.inr ⟨rfl, rfl, rfl⟩)))) (D 14 rfl) hr
 ·show Q_rm_cmb2 Z ra ka xc0 xc1 h0 n0 _ T6.heap _
  exact ⟨k2, b2, rfl, N6, g_b2, sz_b2, K6, f6_0, (x2.keep kp6)⟩
theorem ef_rm_cfa2 (m : MethodId) (rb : Addr) : entryFrame m #[(.ref rb), (.int 2)] 2 = mkF m 0 #[vR rb, vI 2] [] := by simp [entryFrame, mkF, argsToLocals, Value.category]
def Q_rm_cfa2 (Z : State) (rb : Addr) (kb : ClassId) (xv0 : Int32) (xv1 : Int32) (h0 : Heap) (n0 : Nat) (v : Option Value) (h : Heap) (L : List Loc) : Prop := v = some (.int 0) ∧ Fr n0 L ∧ h = h0
set_option maxRecDepth 65536 in
set_option maxHeartbeats 40000000 in
theorem rm_cfa2 (l : Launch) (Z : State) (a0 : Array Value) (hw : ∀ d ∈ tables_1, d.before a0 Z = true) (ws : List Jvm.Cond) (rb : Addr) (kb : ClassId) (xv0 : Int32) (xv1 : Int32) (h0 : Heap) (n0 : Nat) (Z0 : n0 ≤ h0.size) (VB0 : Arv Z h0 rb kb .byte (2 : Int32) [(.int xv0), (.int xv1)] (.int 0)) :
  oMet l oM16 jdk_52_method_15_code 2 (some .byte) ws (oR 0 0 0 0) #[(.ref rb), (.int 2)] Z h0 (Q_rm_cfa2 Z rb kb xv0 xv1 h0 n0) := by
 refine MetFree.of_bodySF (plainFor_of_name pn2) hisR ?_
 have W := own_W hw
 intro p e s m args bw meth c s₁ Bd hml0 hP hK
 obtain ⟨rfl, hZ, hh⟩ := hP
 have hx := Bd.exec
 have hby := Bd.bytes
 have hml : c.maxLocals = 2 := hml0
 have hown : s.vm.findClass oS8 = some m.cls := findClass_of_methodNamed Bd.named
 have hnm := (name_of_methodNamed Bd.named Bd.method).1
 have X0 : Stand p l e (oR 0 0 0 0) s m #[(.ref rb), (.int 2)] bw meth c s₁ [] 0 0 := Stand.of_body Bd
 have e0 : s₁.heap = h0 := by rw [← hh, Bd.state]; rfl
 have N0 := Fr.nil n0
 have D := own_D hby dB6
 obtain ⟨G, hG⟩ := own_ex fun t => Steps p.tables e bw (s₁.setTop (entryFrame m #[(.ref rb), (.int 2)] 2)) t
 have pre0 : oP p e bw G s₁ m 0 #[vR rb, vI 2] [] := by intro t k; subst hG; exact castTop (ef_rm_cfa2 m rb) k
 have pre1 : oP p e bw G s₁ m 2 #[vR rb, vI 2] [(.ref rb), (.int 2)] := by
  intro t k
  refine pre0 t ?_
  refine XS.iloadN X0.here hx rfl (D 0 rfl) rfl ?_
  refine XS.aloadN X0.here hx rfl (D 1 rfl) rfl rfl ?_
  exact k
 have pre3 : oP p e bw G s₁ m 8 #[vR rb, vI 2] [(.int (((((2 : Int32) - (2 : Int32)).toUInt32 >>> ((31 : Int32) &&& 31).toUInt32).toInt32).toInt8.toInt32))] := by
  intro t k
  refine pre1 t ?_
  obtain ⟨c2, a2, q2, s2, m2, i2, u2⟩ := id VB0
  refine X0.arraylength hx (by rw [e0]; exact a2.1) (State.isArrayOf_alike hZ.alike a2.2.1) (g := (own_g pre1)) rfl rfl (D 2 rfl) _ ?_
  rw [len_of s2 m2]
  refine XS.isub X0.here hx rfl (D 3 rfl) rfl ?_
  refine XS.bipush X0.here hx rfl (D 4 rfl) ?_
  refine XS.iushr X0.here hx rfl (D 5 rfl) rfl ?_
  refine XS.i2b X0.here hx rfl (D 6 rfl) rfl ?_
  exact k
 obtain ⟨fs, hr, hrun, hended, hW, hsame⟩ := X0.leave (hlocks := Bd.notSynchronized) (v := some (.int (nar .byte (((((2 : Int32) - (2 : Int32)).toUInt32 >>> ((31 : Int32) &&& 31).toUInt32).toInt32).toInt8.toInt32)))) (fun h => by rw [Bd.returns] at h; cases h)
 subst hG
 refine ⟨_, _, pre3 _ ?_, hrun, hended, _, _, rfl, ?_, ⟨_, rfl⟩, hW, hsame.mono (by decide) (by decide)⟩
 ·exact retN X0 hx (t := .byte) Bd.returns (by simp) (D 7 rfl) hr
 ·show Q_rm_cfa2 Z rb kb xv0 xv1 h0 n0 _ s₁.heap _
  rw [e0]
  exact ⟨congrArg (fun z => some (Value.int z)) (by decide), N0, rfl⟩
theorem pd4 : parseMethodDescriptor "([CII)[B" = some ⟨[(.array .char), .int, .int], some (.array .byte)⟩ := by decide +kernel
theorem pd5 : parseMethodDescriptor "([BI)B" = some ⟨[(.array .byte), .int], some .byte⟩ := by decide +kernel
theorem ef_rm_sc2 (m : MethodId) (ra : Addr) (rb : Addr) : entryFrame m #[(.ref ra), (.ref rb), (.int 0), (.int 2), .null] 6 = mkF m 0 #[vR ra, vR rb, vI 0, vI 2, .val .null, vU] [] := by simp [entryFrame, mkF, argsToLocals, Value.category]
def Q_rm_sc2 (Z : State) (ra : Addr) (rb : Addr) (ka : ClassId) (xcs : Int32) (xc0 : Int32) (xc1 : Int32) (h0 : Heap) (n0 : Nat) (v : Option Value) (h : Heap) (L : List Loc) : Prop := ∃ ry : Addr, ∃ ky : ClassId, v = none ∧ Fr n0 L ∧ Keep h0 h [ra] ∧ Exa Z h ra "java/lang/String" ∧ Fld Z h ra "java/lang/String" "value" "[B" (.ref ry) ∧ Fld Z h ra "java/lang/String" "coder" "B" (.int (nar .byte (0 : Int32))) ∧ Arv Z h ry ky .byte (2 : Int32) [(.int (nar .byte (xc0.toInt8.toInt32))), (.int (nar .byte (xc1.toInt8.toInt32)))] (.int 0) ∧ Exa Z h ry "[B"
set_option maxRecDepth 65536 in
set_option maxHeartbeats 40000000 in
theorem rm_sc2 (l : Launch) (Z : State) (a0 : Array Value) (hw : ∀ d ∈ tables_1, d.before a0 Z = true) (ws : List Jvm.Cond) (ra : Addr) (rb : Addr) (ka : ClassId) (xcs : Int32) (xc0 : Int32) (xc1 : Int32) (h0 : Heap) (n0 : Nat) (Z0 : n0 ≤ h0.size) (E_ra : Exa Z h0 ra "java/lang/String") (g_ra : n0 ≤ ra) (F_coder_ra : Fld Z h0 ra "java/lang/String" "coder" "B" (.int 0)) (F_value_ra : Fld Z h0 ra "java/lang/String" "value" "[B" .null) (VA : Arv Z h0 rb ka .char (2 : Int32) [(.int xc0), (.int xc1)] (.int 0)) (SC : Sta Z h0 "java/lang/String" "COMPACT_STRINGS" "Z" (.int xcs)) (hcs : ¬ (xcs = (0 : Int32))) (hne : rb ≠ ra) (hd0 : ¬ ((255 : Int32) < xc0)) (hd1 : ¬ ((255 : Int32) < xc1)) :
  oMet l oM2 jdk_42_method_149_code 6 none ws (oR 2 1 2 35) #[(.ref ra), (.ref rb), (.int 0), (.int 2), .null] Z h0 (Q_rm_sc2 Z ra rb ka xcs xc0 xc1 h0 n0) := by
 refine MetFree.of_bodySF (plainFor_of_name pn1) hisR ?_
 have W := own_W hw
 intro p e s m args bw meth c s₁ Bd hml0 hP hK
 obtain ⟨rfl, hZ, hh⟩ := hP
 have hx := Bd.exec
 have hby := Bd.bytes
 have hml : c.maxLocals = 6 := hml0
 have hown : s.vm.findClass "java/lang/String" = some m.cls := findClass_of_methodNamed Bd.named
 have hnm := (name_of_methodNamed Bd.named Bd.method).1
 have X0 : Stand p l e (oR 2 1 2 35) s m #[(.ref ra), (.ref rb), (.int 0), (.int 2), .null] bw meth c s₁ [] 0 0 := Stand.of_body Bd
 have e0 : s₁.heap = h0 := by rw [← hh, Bd.state]; rfl
 have N0 := Fr.nil n0
 have D := own_D hby dB2
 obtain ⟨G, hG⟩ := own_ex fun t => Steps p.tables e bw (s₁.setTop (entryFrame m #[(.ref ra), (.ref rb), (.int 0), (.int 2), .null] 6)) t
 have pre0 : oP p e bw G s₁ m 0 #[vR ra, vR rb, vI 0, vI 2, .val .null, vU] [] := by intro t k; subst hG; exact castTop (ef_rm_sc2 m ra rb) k
 have pre1 : oP p e bw G s₁ m 1 #[vR ra, vR rb, vI 0, vI 2, .val .null, vU] [(.ref ra)] := by
  intro t k
  refine pre0 t ?_
  refine XS.aloadN X0.here hx rfl (D 0 rfl) rfl rfl ?_
  exact k
 obtain ⟨T2, X2, e2, st2⟩ := initO X0 hx hZ hown (W 13 rfl) (W 14 rfl) (W 15 rfl) e0 (g := (own_g pre1)) rfl (by rw [hml]; rfl) rfl (D 1 rfl) (by decide) (W := 0) (by show 2 * 0 + _ ≤ _; exact Nat.le_of_eq rfl) (by decide)
 have pre3 : oP p e bw G T2 m 27 #[vR ra, vR rb, vI 0, vI 2, .val .null, vU] [] := by
  intro t k
  refine pre1 t (st2 t ?_)
  refine XS.iloadN X2.here hx rfl (D 2 rfl) rfl ?_
  refine XS.ifYes X2.here hx rfl (pc0 := 5) (pc' := 27) rfl (D 3 rfl) rfl ((if0 _ _).trans (feq (show ¬ ((2 : Int32) = (0 : Int32)) from by decide)).2) (by decide) (by decide) ?_
  exact k
 obtain ⟨T4, X4, e4, st4⟩ := getS2 X2 hx hZ hown (host := "") (Or.inl (W 16 rfl)) Via.refl e2 SC (g := (own_g pre3)) rfl (D 4 rfl)
 have pre5 : oP p e bw G T4 m 36 #[vR ra, vR rb, vI 0, vI 2, .val .null, vU] [(.int 2), (.int 0), (.ref rb)] := by
  intro t k
  refine pre3 t (st4 t ?_)
  refine XS.ifNo X4.here hx rfl (D 5 rfl) rfl ((if0 _ _).trans (feq (show ¬ (xcs = (0 : Int32)) from hcs)).1) ?_
  refine XS.aloadN X4.here hx rfl (D 6 rfl) rfl rfl ?_
  refine XS.iloadN X4.here hx rfl (D 7 rfl) rfl ?_
  refine XS.iloadN X4.here hx rfl (D 8 rfl) rfl ?_
  exact k
 obtain ⟨_, T6, Lc6, X6, hQ6, pc6⟩ := own_call X4 hx hZ hown (W 17 rfl) (W 18 rfl) (W 19 rfl) (W 20 rfl) (by decide) (rm_cmb2 l Z a0 hw [] rb ka xc0 xc1 h0 n0 Z0 VA (hd0) (hd1)) e4 pre5 hml rfl (D 9 rfl) (lenOf pd4 rfl) rfl (W := 0) rfl (by decide)
 obtain ⟨kb_6, b6, rfl, M6, g_b6, zs6, kp6, f6_0, f6_1⟩ := hQ6
 have sz_b6 : h0.size ≤ b6 := Nat.le_trans (Keep.refl h0 [ra]).1 zs6
 have K6 : Keep h0 T6.heap [ra] := (Keep.refl h0 [ra]).trans kp6 all0
 have zz6 : n0 ≤ T6.heap.size := Nat.le_trans Z0 K6.1
 have N6 := Fr.app N0 M6
 have pre7 : oP p e bw G T6 m 45 #[vR ra, vR rb, vI 0, vI 2, .val .null, vR b6] [(.int 2), (.ref b6), (.ref ra)] := by
  intro t k
  refine pc6 t ?_
  refine XS.astore X6.here hx rfl (D 10 rfl) rfl rfl (l' := #[vR ra, vR rb, vI 0, vI 2, .val .null, vR b6]) rfl ?_
  refine XS.aloadN X6.here hx rfl (D 11 rfl) rfl rfl ?_
  refine XS.aload X6.here hx rfl (D 12 rfl) rfl rfl ?_
  refine XS.iloadN X6.here hx rfl (D 13 rfl) rfl ?_
  exact k
 obtain ⟨_, T8, Lc8, X8, hQ8, pc8⟩ := own_call X6 hx hZ hown (W 25 rfl) (W 26 rfl) (W 19 rfl) (W 27 rfl) (by decide) (rm_cfa2 l Z a0 hw [] b6 _ _ _ T6.heap n0 zz6 f6_0) rfl pre7 hml rfl (D 14 rfl) (lenOf pd5 rfl) rfl (W := 1) rfl (by decide)
 obtain ⟨rfl, M8, e8⟩ := hQ8
 have N8 := Fr.app N6 M8
 have pre9 : oP p e bw G T8 m 48 #[vR ra, vR rb, vI 0, vI 2, .val .null, vR b6] [(.int 0), (.ref ra)] := pc8
 have f10 := (E_ra.keep kp6)
 have f11 := (F_coder_ra.keep kp6 nin0)
 obtain ⟨T12, h12, X12, e12, W12, st12⟩ := putFN X8 hx hZ hown (W 28 rfl) Via.refl e8 f11 f10 (Or.inr ⟨(W 29 rfl), rfl, hnm⟩) (W 4 rfl) (ty := .byte) (v' := (.int (nar .byte (0 : Int32)))) (by decide) rfl (fits_nar_byte _) (g := (own_g pre9)) rfl rfl (D 15 rfl)
 have K12 : Keep h0 h12 [ra] := K6.wr W12 (Or.inl (by simp))
 have z12 : n0 ≤ h12.size := Nat.le_trans Z0 K12.1
 have N12 := Fr.snoc X12 N8 g_ra
 have Fw12 := f11.same W12
 have pre13 : oP p e bw G T12 m 54 #[vR ra, vR rb, vI 0, vI 2, .val .null, vR b6] [(.ref b6), (.ref ra)] := by
  intro t k
  refine pre9 t (st12 t ?_)
  refine XS.aloadN X12.here hx rfl (D 16 rfl) rfl rfl ?_
  refine XS.aload X12.here hx rfl (D 17 rfl) rfl rfl ?_
  exact k
 have f14 := (f10.wr W12)
 have f15 := ((F_value_ra.keep kp6 nin0).other W12 (Or.inr (slot_ne (Or.inr (W 31 rfl)) (Or.inr (W 29 rfl)) (by decide) (t := (.array .byte)) (t' := .byte) (by decide) (by decide))))
 obtain ⟨T16, h16, X16, e16, W16, st16⟩ := putF X12 hx hZ hown (host := "") (Or.inl (W 30 rfl)) Via.refl e12 f15 f14 (Or.inr ⟨(W 31 rfl), rfl, hnm⟩) (W 4 rfl) (ty := (.array .byte)) (by decide) rfl rfl (g := (own_g pre13)) rfl rfl (D 18 rfl)
 have K16 : Keep h0 h16 [ra] := K12.wr W16 (Or.inl (by simp))
 have z16 : n0 ≤ h16.size := Nat.le_trans Z0 K16.1
 have N16 := Fr.snoc X16 N12 g_ra
 have Fw16 := f15.same W16
 have pre17 : oP p e bw G T16 m 57 #[vR ra, vR rb, vI 0, vI 2, .val .null, vR b6] [] := fun t k => pre13 t (st16 t k)
 obtain ⟨fs, hr, hrun, hended, hW, hsame⟩ := X16.leave (hlocks := Bd.notSynchronized) (v := none) (fun _ => rfl)
 subst hG
 refine ⟨_, _, pre17 _ ?_, hrun, hended, _, _, rfl, ?_, ⟨_, rfl⟩, hW, hsame.mono (by decide) (by decide)⟩
 ·exact X16.returnOut hx Bd.returns (D 19 rfl) hr
 ·show Q_rm_sc2 Z ra rb ka xcs xc0 xc1 h0 n0 _ T16.heap _
  rw [e16]
  have ne18 := (Ne.symm (Nat.ne_of_lt (Nat.lt_of_lt_of_le E_ra.lt zs6)))
  exact ⟨b6, kb_6, rfl, N16, K16, (f14.wr W16), Fw16, (Fw12.other W16 (Or.inr (slot_ne (Or.inr (W 29 rfl)) (Or.inr (W 31 rfl)) (by decide) (t := .byte) (t' := (.array .byte)) (by decide) (by decide)))), ((f6_0.other W12 ne18).other W16 ne18), ((f6_1.wr W12).wr W16)⟩
theorem pd6 : parseMethodDescriptor "([CIILjava/lang/Void;)V" = some ⟨[(.array .char), .int, .int, (.object "java/lang/Void")], none⟩ := by decide +kernel
theorem ef_rm_sn2 (m : MethodId) (ra : Addr) (rb : Addr) : entryFrame m #[(.ref ra), (.ref rb)] 2 = mkF m 0 #[vR ra, vR rb] [] := by simp [entryFrame, mkF, argsToLocals, Value.category]
def Q_rm_sn2 (Z : State) (ra : Addr) (rb : Addr) (ka : ClassId) (xcs : Int32) (xc0 : Int32) (xc1 : Int32) (h0 : Heap) (n0 : Nat) (v : Option Value) (h : Heap) (L : List Loc) : Prop := ∃ ry : Addr, ∃ ky : ClassId, v = none ∧ Fr n0 L ∧ Keep h0 h [ra] ∧ Exa Z h ra "java/lang/String" ∧ Fld Z h ra "java/lang/String" "value" "[B" (.ref ry) ∧ Fld Z h ra "java/lang/String" "coder" "B" (.int (nar .byte (0 : Int32))) ∧ Arv Z h ry ky .byte (2 : Int32) [(.int (nar .byte (xc0.toInt8.toInt32))), (.int (nar .byte (xc1.toInt8.toInt32)))] (.int 0) ∧ Exa Z h ry "[B"
set_option maxRecDepth 65536 in
set_option maxHeartbeats 40000000 in
theorem rm_sn2 (l : Launch) (Z : State) (a0 : Array Value) (hw : ∀ d ∈ tables_1, d.before a0 Z = true) (ws : List Jvm.Cond) (ra : Addr) (rb : Addr) (ka : ClassId) (xcs : Int32) (xc0 : Int32) (xc1 : Int32) (h0 : Heap) (n0 : Nat) (Z0 : n0 ≤ h0.size) (E_ra : Exa Z h0 ra "java/lang/String") (g_ra : n0 ≤ ra) (F_coder_ra : Fld Z h0 ra "java/lang/String" "coder" "B" (.int 0)) (F_value_ra : Fld Z h0 ra "java/lang/String" "value" "[B" .null) (VA : Arv Z h0 rb ka .char (2 : Int32) [(.int xc0), (.int xc1)] (.int 0)) (SC : Sta Z h0 "java/lang/String" "COMPACT_STRINGS" "Z" (.int xcs)) (hcs : ¬ (xcs = (0 : Int32))) (hne : rb ≠ ra) (hd0 : ¬ ((255 : Int32) < xc0)) (hd1 : ¬ ((255 : Int32) < xc1)) :
  oMet l oM3 jdk_42_method_3_code 2 none ws (oR 3 1 2 52) #[(.ref ra), (.ref rb)] Z h0 (Q_rm_sn2 Z ra rb ka xcs xc0 xc1 h0 n0) := by
 refine MetFree.of_bodySF (plainFor_of_name pn1) hisR ?_
 have W := own_W hw
 intro p e s m args bw meth c s₁ Bd hml0 hP hK
 obtain ⟨rfl, hZ, hh⟩ := hP
 have hx := Bd.exec
 have hby := Bd.bytes
 have hml : c.maxLocals = 2 := hml0
 have hown : s.vm.findClass "java/lang/String" = some m.cls := findClass_of_methodNamed Bd.named
 have hnm := (name_of_methodNamed Bd.named Bd.method).1
 have X0 : Stand p l e (oR 3 1 2 52) s m #[(.ref ra), (.ref rb)] bw meth c s₁ [] 0 0 := Stand.of_body Bd
 have e0 : s₁.heap = h0 := by rw [← hh, Bd.state]; rfl
 have N0 := Fr.nil n0
 have D := own_D hby dB1
 obtain ⟨G, hG⟩ := own_ex fun t => Steps p.tables e bw (s₁.setTop (entryFrame m #[(.ref ra), (.ref rb)] 2)) t
 have pre0 : oP p e bw G s₁ m 0 #[vR ra, vR rb] [] := by intro t k; subst hG; exact castTop (ef_rm_sn2 m ra rb) k
 have pre1 : oP p e bw G s₁ m 4 #[vR ra, vR rb] [(.ref rb), (.int 0), (.ref rb), (.ref ra)] := by
  intro t k
  refine pre0 t ?_
  refine XS.aloadN X0.here hx rfl (D 0 rfl) rfl rfl ?_
  refine XS.aloadN X0.here hx rfl (D 1 rfl) rfl rfl ?_
  refine XS.iconst X0.here hx rfl (D 2 rfl) ?_
  refine XS.aloadN X0.here hx rfl (D 3 rfl) rfl rfl ?_
  exact k
 have pre3 : oP p e bw G s₁ m 6 #[vR ra, vR rb] [.null, (.int 2), (.int 0), (.ref rb), (.ref ra)] := by
  intro t k
  refine pre1 t ?_
  obtain ⟨c2, a2, q2, s2, m2, i2, u2⟩ := id VA
  refine X0.arraylength hx (by rw [e0]; exact a2.1) (State.isArrayOf_alike hZ.alike a2.2.1) (g := (own_g pre1)) rfl rfl (D 4 rfl) _ ?_
  rw [len_of s2 m2]
  refine XS.aconstNull X0.here hx rfl (D 5 rfl) ?_
  exact k
 obtain ⟨_, _, ⟨T4, L4, k4, n4⟩, -, X4, ⟨Lc4, hQ4, l4, y4, z4⟩, st4⟩ := X0.specialBack hx (y := oM2) rfl hown (mvT hZ (W 9 rfl)) (mvT hZ (W 10 rfl)) (mvT hZ (W 12 rfl)) (by decide) (backOf (W := 0) (rm_sc2 l Z a0 hw [] ra rb ka xcs xc0 xc1 h0 n0 Z0 E_ra (g_ra) F_coder_ra F_value_ra VA SC (hcs) (hne) (hd0) (hd1)) hZ (W 12 rfl) (W 5 rfl) (by decide) (by decide)) (g := (own_g pre3)) rfl (by rw [hml]; rfl) (Steps.refl _) (a := ra) (argsL := [(.ref rb), (.int 0), (.int 2), .null]) (rest := []) (lenOf pd6 rfl) rfl (by show 2 * 0 + _ ≤ _; exact Nat.le_of_eq rfl) (D 6 rfl) (fun _ _ => ⟨rfl, e0, (by decide : 0 + 1 ≤ _), (by decide : 0 + 2 ≤ _)⟩)
 dsimp only [Pt.U, Pt.locs, Pt.cells, Pt.slots] at X4 l4 y4 z4 st4 hQ4
 subst y4 z4
 obtain ⟨ry_4, ky_4, rfl, M4, kp4, f4_0, f4_1, f4_2, f4_3, f4_4⟩ := hQ4
 have K4 : Keep h0 T4.heap [ra] := (Keep.refl h0 [ra]).trans kp4 (allS (P := fun x => x ∈ [ra] ∨ h0.size ≤ x) (Or.inl (by simp)) all0)
 have zz4 : n0 ≤ T4.heap.size := Nat.le_trans Z0 K4.1
 have N4 : Fr n0 L4 := by rw [l4]; exact Fr.app N0 M4
 clear l4
 have pre5 : oP p e bw G T4 m 9 #[vR ra, vR rb] [] := fun t k => pre3 t (st4.trans k)
 obtain ⟨fs, hr, hrun, hended, hW, hsame⟩ := X4.leave (hlocks := Bd.notSynchronized) (v := none) (fun _ => rfl)
 subst hG
 refine ⟨_, _, pre5 _ ?_, hrun, hended, _, _, rfl, ?_, ⟨_, rfl⟩, hW, hsame.mono (by decide) (by decide)⟩
 ·exact X4.returnOut hx Bd.returns (D 7 rfl) hr
 ·show Q_rm_sn2 Z ra rb ka xcs xc0 xc1 h0 n0 _ T4.heap _
  exact ⟨ry_4, ky_4, rfl, N4, K4, f4_0, f4_1, f4_2, f4_3, f4_4⟩
theorem ef_rm_cmp5 (m : MethodId) (ra : Addr) (rb : Addr) : entryFrame m #[(.ref ra), (.int 0), (.ref rb), (.int 0), (.int 5)] 7 = mkF m 0 #[vR ra, vI 0, vR rb, vI 0, vI 5, vU, vU] [] := by simp [entryFrame, mkF, argsToLocals, Value.category]
def Q_rm_cmp5 (Z : State) (ra : Addr) (rb : Addr) (ka : ClassId) (kb : ClassId) (xc0 : Int32) (xc1 : Int32) (xc2 : Int32) (xc3 : Int32) (xc4 : Int32) (h0 : Heap) (n0 : Nat) (v : Option Value) (h : Heap) (L : List Loc) : Prop := v = some (.int 5) ∧ Fr n0 L ∧ Keep h0 h [rb] ∧ Arv Z h rb kb .byte (5 : Int32) [(.int (nar .byte (xc0.toInt8.toInt32))), (.int (nar .byte (xc1.toInt8.toInt32))), (.int (nar .byte (xc2.toInt8.toInt32))), (.int (nar .byte (xc3.toInt8.toInt32))), (.int (nar .byte (xc4.toInt8.toInt32)))] (.int 0)
set_option maxRecDepth 65536 in
set_option maxHeartbeats 40000000 in
theorem rm_cmp5 (l : Launch) (Z : State) (a0 : Array Value) (hw : ∀ d ∈ tables_1, d.before a0 Z = true) (ws : List Jvm.Cond) (ra : Addr) (rb : Addr) (ka : ClassId) (kb : ClassId) (xc0 : Int32) (xc1 : Int32) (xc2 : Int32) (xc3 : Int32) (xc4 : Int32) (h0 : Heap) (n0 : Nat) (Z0 : n0 ≤ h0.size) (VA : Arv Z h0 ra ka .char (5 : Int32) [(.int xc0), (.int xc1), (.int xc2), (.int xc3), (.int xc4)] (.int 0)) (VB0 : Arv Z h0 rb kb .byte (5 : Int32) [(.int 0), (.int 0), (.int 0), (.int 0), (.int 0)] (.int 0)) (g_rb : n0 ≤ rb) (hne : ra ≠ rb) (hd0 : ¬ ((255 : Int32) < xc0)) (hd1 : ¬ ((255 : Int32) < xc1)) (hd2 : ¬ ((255 : Int32) < xc2)) (hd3 : ¬ ((255 : Int32) < xc3)) (hd4 : ¬ ((255 : Int32) < xc4)) :
  oMet l oM14 jdk_52_method_21_code 7 (some .int) ws (oR 0 0 0 0) #[(.ref ra), (.int 0), (.ref rb), (.int 0), (.int 5)] Z h0 (Q_rm_cmp5 Z ra rb ka kb xc0 xc1 xc2 xc3 xc4 h0 n0) := by
 refine MetFree.of_bodySF (plainFor_of_name pn2) hisR ?_
 have W := own_W hw
 intro p e s m args bw meth c s₁ Bd hml0 hP hK
 obtain ⟨rfl, hZ, hh⟩ := hP
 have hx := Bd.exec
 have hby := Bd.bytes
 have hml : c.maxLocals = 7 := hml0
 have hown : s.vm.findClass oS8 = some m.cls := findClass_of_methodNamed Bd.named
 have hnm := (name_of_methodNamed Bd.named Bd.method).1
 have X0 : Stand p l e (oR 0 0 0 0) s m #[(.ref ra), (.int 0), (.ref rb), (.int 0), (.int 5)] bw meth c s₁ [] 0 0 := Stand.of_body Bd
 have e0 : s₁.heap = h0 := by rw [← hh, Bd.state]; rfl
 have N0 := Fr.nil n0
 have D := own_D hby dB5
 obtain ⟨G, hG⟩ := own_ex fun t => Steps p.tables e bw (s₁.setTop (entryFrame m #[(.ref ra), (.int 0), (.ref rb), (.int 0), (.int 5)] 7)) t
 have pre0 : oP p e bw G s₁ m 0 #[vR ra, vI 0, vR rb, vI 0, vI 5, vU, vU] [] := by intro t k; subst hG; exact castTop (ef_rm_cmp5 m ra rb) k
 have pre1 : oP p e bw G s₁ m 12 #[vR ra, vI 0, vR rb, vI 0, vI 5, vI 0, vU] [(.int 0), (.ref ra)] := by
  intro t k
  refine pre0 t ?_
  refine XS.iconst X0.here hx rfl (D 0 rfl) ?_
  refine XS.istore X0.here hx rfl (D 1 rfl) rfl (l' := #[vR ra, vI 0, vR rb, vI 0, vI 5, vI 0, vU]) rfl ?_
  refine XS.iload X0.here hx rfl (D 2 rfl) rfl ?_
  refine XS.iload X0.here hx rfl (D 3 rfl) rfl ?_
  refine XS.icmpNo X0.here hx rfl (D 4 rfl) rfl (tlt (show (0 : Int32) < (5 : Int32) from by decide)).2.1 ?_
  refine XS.aloadN X0.here hx rfl (D 5 rfl) rfl rfl ?_
  refine XS.iloadN X0.here hx rfl (D 6 rfl) rfl ?_
  exact k
 have pre3 : oP p e bw G s₁ m 31 #[vR ra, vI 0, vR rb, vI 0, vI 5, vI 0, vI xc0] [(.int (xc0.toInt8.toInt32)), (.int 0), (.ref rb)] := by
  intro t k
  refine pre1 t ?_
  obtain ⟨c2, a2, q2, s2, m2, i2, u2⟩ := id VA
  have hin2 := inb_of (j := (0 : Int32)) s2 ⟨by decide, by decide⟩
  refine X0.caload hx (j := (0 : Int32)) (v := (.int xc0)) (by rw [e0]; exact a2.1) (State.isArrayOf_alike hZ.alike a2.2.1) a2.2.2 hin2 (i2.at hin2 rfl) (g := (own_g pre1)) rfl rfl (D 7 rfl) _ ?_
  refine XS.istore X0.here hx rfl (D 8 rfl) rfl (l' := #[vR ra, vI 0, vR rb, vI 0, vI 5, vI 0, vI xc0]) rfl ?_
  refine XS.iload X0.here hx rfl (D 9 rfl) rfl ?_
  refine XS.sipush X0.here hx rfl (D 10 rfl) ?_
  refine XS.icmpYes X0.here hx rfl (pc0 := 20) (pc' := 26) rfl (D 11 rfl) rfl (flt (show ¬ ((255 : Int32) < xc0) from hd0)).2.2.2 (by decide) (by decide) ?_
  refine XS.aloadN X0.here hx rfl (D 12 rfl) rfl rfl ?_
  refine XS.iloadN X0.here hx rfl (D 13 rfl) rfl ?_
  refine XS.iload X0.here hx rfl (D 14 rfl) rfl ?_
  refine XS.i2b X0.here hx rfl (D 15 rfl) rfl ?_
  exact k
 obtain ⟨c4, a4, q4, s4, m4, i4, u4⟩ := id VB0
 obtain ⟨T5, h5, X5, e5, W5, st5⟩ := stB X0 hx hZ e0 a4 (j := (0 : Int32)) (inb_of s4 ⟨by decide, by decide⟩) (g := (own_g pre3)) rfl rfl (D 16 rfl)
 have K5 : Keep h0 h5 [rb] := (Keep.refl h0 [rb]).wr W5 (Or.inl (by simp))
 have z5 : n0 ≤ h5.size := Nat.le_trans Z0 K5.1
 have N5 := Fr.snoc X5 N0 g_rb
 have V5 : Arv Z h5 rb kb .byte (5 : Int32) [(.int (nar .byte (xc0.toInt8.toInt32))), (.int 0), (.int 0), (.int 0), (.int 0)] (.int 0) := Arv.set a4 q4 s4 m4 i4 u4 (fits_nar_byte _) W5 0 rfl (Nat.le_of_ble_eq_true rfl)
 have pre6 : oP p e bw G T5 m 12 #[vR ra, vI 1, vR rb, vI 1, vI 5, vI 1, vI xc0] [(.int 1), (.ref ra)] := by
  intro t k
  refine pre3 t (st5 t ?_)
  refine XS.iinc X5.here hx rfl (D 17 rfl) rfl (l' := #[vR ra, vI 1, vR rb, vI 0, vI 5, vI 0, vI xc0]) rfl ?_
  refine XS.iinc X5.here hx rfl (D 18 rfl) rfl (l' := #[vR ra, vI 1, vR rb, vI 1, vI 5, vI 0, vI xc0]) rfl ?_
  refine XS.iinc X5.here hx rfl (D 19 rfl) rfl (l' := #[vR ra, vI 1, vR rb, vI 1, vI 5, vI 1, vI xc0]) rfl ?_
  refine XS.goto X5.here hx rfl (pc0 := 41) (pc' := 3) rfl (D 20 rfl) (by decide) (by decide) ?_
  refine XS.iload X5.here hx rfl (D 2 rfl) rfl ?_
  refine XS.iload X5.here hx rfl (D 3 rfl) rfl ?_
  refine XS.icmpNo X5.here hx rfl (D 4 rfl) rfl (tlt (show (1 : Int32) < (5 : Int32) from by decide)).2.1 ?_
  refine XS.aloadN X5.here hx rfl (D 5 rfl) rfl rfl ?_
  refine XS.iloadN X5.here hx rfl (D 6 rfl) rfl ?_
  exact k
 have pre8 : oP p e bw G T5 m 31 #[vR ra, vI 1, vR rb, vI 1, vI 5, vI 1, vI xc1] [(.int (xc1.toInt8.toInt32)), (.int 1), (.ref rb)] := by
  intro t k
  refine pre6 t ?_
  obtain ⟨c7, a7, q7, s7, m7, i7, u7⟩ := id (VA.other W5 hne)
  have hin7 := inb_of (j := (1 : Int32)) s7 ⟨by decide, by decide⟩
  refine X5.caload hx (j := (1 : Int32)) (v := (.int xc1)) (by rw [e5]; exact a7.1) (State.isArrayOf_alike hZ.alike a7.2.1) a7.2.2 hin7 (i7.at hin7 rfl) (g := (own_g pre6)) rfl rfl (D 7 rfl) _ ?_
  refine XS.istore X5.here hx rfl (D 8 rfl) rfl (l' := #[vR ra, vI 1, vR rb, vI 1, vI 5, vI 1, vI xc1]) rfl ?_
  refine XS.iload X5.here hx rfl (D 9 rfl) rfl ?_
  refine XS.sipush X5.here hx rfl (D 10 rfl) ?_
  refine XS.icmpYes X5.here hx rfl (pc0 := 20) (pc' := 26) rfl (D 11 rfl) rfl (flt (show ¬ ((255 : Int32) < xc1) from hd1)).2.2.2 (by decide) (by decide) ?_
  refine XS.aloadN X5.here hx rfl (D 12 rfl) rfl rfl ?_
  refine XS.iloadN X5.here hx rfl (D 13 rfl) rfl ?_
  refine XS.iload X5.here hx rfl (D 14 rfl) rfl ?_
  refine XS.i2b X5.here hx rfl (D 15 rfl) rfl ?_
  exact k
 obtain ⟨c9, a9, q9, s9, m9, i9, u9⟩ := id V5
 obtain ⟨T10, h10, X10, e10, W10, st10⟩ := stB X5 hx hZ e5 a9 (j := (1 : Int32)) (inb_of s9 ⟨by decide, by decide⟩) (g := (own_g pre8)) rfl rfl (D 16 rfl)
 have K10 : Keep h0 h10 [rb] := K5.wr W10 (Or.inl (by simp))
 have z10 : n0 ≤ h10.size := Nat.le_trans Z0 K10.1
 have N10 := Fr.snoc X10 N5 g_rb
 have V10 : Arv Z h10 rb kb .byte (5 : Int32) [(.int (nar .byte (xc0.toInt8.toInt32))), (.int (nar .byte (xc1.toInt8.toInt32))), (.int 0), (.int 0), (.int 0)] (.int 0) := Arv.set a9 q9 s9 m9 i9 u9 (fits_nar_byte _) W10 1 rfl (Nat.le_of_ble_eq_true rfl)
 have pre11 : oP p e bw G T10 m 12 #[vR ra, vI 2, vR rb, vI 2, vI 5, vI 2, vI xc1] [(.int 2), (.ref ra)] := by
  intro t k
  refine pre8 t (st10 t ?_)
  refine XS.iinc X10.here hx rfl (D 17 rfl) rfl (l' := #[vR ra, vI 2, vR rb, vI 1, vI 5, vI 1, vI xc1]) rfl ?_
  refine XS.iinc X10.here hx rfl (D 18 rfl) rfl (l' := #[vR ra, vI 2, vR rb, vI 2, vI 5, vI 1, vI xc1]) rfl ?_
  refine XS.iinc X10.here hx rfl (D 19 rfl) rfl (l' := #[vR ra, vI 2, vR rb, vI 2, vI 5, vI 2, vI xc1]) rfl ?_
  refine XS.goto X10.here hx rfl (pc0 := 41) (pc' := 3) rfl (D 20 rfl) (by decide) (by decide) ?_
  refine XS.iload X10.here hx rfl (D 2 rfl) rfl ?_
  refine XS.iload X10.here hx rfl (D 3 rfl) rfl ?_
  refine XS.icmpNo X10.here hx rfl (D 4 rfl) rfl (tlt (show (2 : Int32) < (5 : Int32) from by decide)).2.1 ?_
  refine XS.aloadN X10.here hx rfl (D 5 rfl) rfl rfl ?_
  refine XS.iloadN X10.here hx rfl (D 6 rfl) rfl ?_
  exact k
 have pre13 : oP p e bw G T10 m 31 #[vR ra, vI 2, vR rb, vI 2, vI 5, vI 2, vI xc2] [(.int (xc2.toInt8.toInt32)), (.int 2), (.ref rb)] := by
  intro t k
  refine pre11 t ?_
  obtain ⟨c12, a12, q12, s12, m12, i12, u12⟩ := id ((VA.other W5 hne).other W10 hne)
  have hin12 := inb_of (j := (2 : Int32)) s12 ⟨by decide, by decide⟩
  refine X10.caload hx (j := (2 : Int32)) (v := (.int xc2)) (by rw [e10]; exact a12.1) (State.isArrayOf_alike hZ.alike a12.2.1) a12.2.2 hin12 (i12.at hin12 rfl) (g := (own_g pre11)) rfl rfl (D 7 rfl) _ ?_
  refine XS.istore X10.here hx rfl (D 8 rfl) rfl (l' := #[vR ra, vI 2, vR rb, vI 2, vI 5, vI 2, vI xc2]) rfl ?_
  refine XS.iload X10.here hx rfl (D 9 rfl) rfl ?_
  refine XS.sipush X10.here hx rfl (D 10 rfl) ?_
  refine XS.icmpYes X10.here hx rfl (pc0 := 20) (pc' := 26) rfl (D 11 rfl) rfl (flt (show ¬ ((255 : Int32) < xc2) from hd2)).2.2.2 (by decide) (by decide) ?_
  refine XS.aloadN X10.here hx rfl (D 12 rfl) rfl rfl ?_
  refine XS.iloadN X10.here hx rfl (D 13 rfl) rfl ?_
  refine XS.iload X10.here hx rfl (D 14 rfl) rfl ?_
  refine XS.i2b X10.here hx rfl (D 15 rfl) rfl ?_
  exact k
 obtain ⟨c14, a14, q14, s14, m14, i14, u14⟩ := id V10
 obtain ⟨T15, h15, X15, e15, W15, st15⟩ := stB X10 hx hZ e10 a14 (j := (2 : Int32)) (inb_of s14 ⟨by decide, by decide⟩) (g := (own_g pre13)) rfl rfl (D 16 rfl)
 have K15 : Keep h0 h15 [rb] := K10.wr W15 (Or.inl (by simp))
 have z15 : n0 ≤ h15.size := Nat.le_trans Z0 K15.1
 have N15 := Fr.snoc X15 N10 g_rb
 have V15 : Arv Z h15 rb kb .byte (5 : Int32) [(.int (nar .byte (xc0.toInt8.toInt32))), (.int (nar .byte (xc1.toInt8.toInt32))), (.int (nar .byte (xc2.toInt8.toInt32))), (.int 0), (.int 0)] (.int 0) := Arv.set a14 q14 s14 m14 i14 u14 (fits_nar_byte _) W15 2 rfl (Nat.le_of_ble_eq_true rfl)
 have pre16 : oP p e bw G T15 m 12 #[vR ra, vI 3, vR rb, vI 3, vI 5, vI 3, vI xc2] [(.int 3), (.ref ra)] := by
  intro t k
  refine pre13 t (st15 t ?_)
  refine XS.iinc X15.here hx rfl (D 17 rfl) rfl (l' := #[vR ra, vI 3, vR rb, vI 2, vI 5, vI 2, vI xc2]) rfl ?_
  refine XS.iinc X15.here hx rfl (D 18 rfl) rfl (l' := #[vR ra, vI 3, vR rb, vI 3, vI 5, vI 2, vI xc2]) rfl ?_
  refine XS.iinc X15.here hx rfl (D 19 rfl) rfl (l' := #[vR ra, vI 3, vR rb, vI 3, vI 5, vI 3, vI xc2]) rfl ?_
  refine XS.goto X15.here hx rfl (pc0 := 41) (pc' := 3) rfl (D 20 rfl) (by decide) (by decide) ?_
  refine XS.iload X15.here hx rfl (D 2 rfl) rfl ?_
  refine XS.iload X15.here hx rfl (D 3 rfl) rfl ?_
  refine XS.icmpNo X15.here hx rfl (D 4 rfl) rfl (tlt (show (3 : Int32) < (5 : Int32) from by decide)).2.1 ?_
  refine XS.aloadN X15.here hx rfl (D 5 rfl) rfl rfl ?_
  refine XS.iloadN X15.here hx rfl (D 6 rfl) rfl ?_
  exact k
 have pre18 : oP p e bw G T15 m 31 #[vR ra, vI 3, vR rb, vI 3, vI 5, vI 3, vI xc3] [(.int (xc3.toInt8.toInt32)), (.int 3), (.ref rb)] := by
  intro t k
  refine pre16 t ?_
  obtain ⟨c17, a17, q17, s17, m17, i17, u17⟩ := id (((VA.other W5 hne).other W10 hne).other W15 hne)
  have hin17 := inb_of (j := (3 : Int32)) s17 ⟨by decide, by decide⟩
  refine X15.caload hx (j := (3 : Int32)) (v := (.int xc3)) (by rw [e15]; exact a17.1) (State.isArrayOf_alike hZ.alike a17.2.1) a17.2.2 hin17 (i17.at hin17 rfl) (g := (own_g pre16)) rfl rfl (D 7 rfl) _ ?_
  refine XS.istore X15.here hx rfl (D 8 rfl) rfl (l' := #[vR ra, vI 3, vR rb, vI 3, vI 5, vI 3, vI xc3]) rfl ?_
  refine XS.iload X15.here hx rfl (D 9 rfl) rfl ?_
  refine XS.sipush X15.here hx rfl (D 10 rfl) ?_
  refine XS.icmpYes X15.here hx rfl (pc0 := 20) (pc' := 26) rfl (D 11 rfl) rfl (flt (show ¬ ((255 : Int32) < xc3) from hd3)).2.2.2 (by decide) (by decide) ?_
  refine XS.aloadN X15.here hx rfl (D 12 rfl) rfl rfl ?_
  refine XS.iloadN X15.here hx rfl (D 13 rfl) rfl ?_
  refine XS.iload X15.here hx rfl (D 14 rfl) rfl ?_
  refine XS.i2b X15.here hx rfl (D 15 rfl) rfl ?_
  exact k
 obtain ⟨c19, a19, q19, s19, m19, i19, u19⟩ := id V15
 obtain ⟨T20, h20, X20, e20, W20, st20⟩ := stB X15 hx hZ e15 a19 (j := (3 : Int32)) (inb_of s19 ⟨by decide, by decide⟩) (g := (own_g pre18)) rfl rfl (D 16 rfl)
 have K20 : Keep h0 h20 [rb] := K15.wr W20 (Or.inl (by simp))
 have z20 : n0 ≤ h20.size := Nat.le_trans Z0 K20.1
 have N20 := Fr.snoc X20 N15 g_rb
 have V20 : Arv Z h20 rb kb .byte (5 : Int32) [(.int (nar .byte (xc0.toInt8.toInt32))), (.int (nar .byte (xc1.toInt8.toInt32))), (.int (nar .byte (xc2.toInt8.toInt32))), (.int (nar .byte (xc3.toInt8.toInt32))), (.int 0)] (.int 0) := Arv.set a19 q19 s19 m19 i19 u19 (fits_nar_byte _) W20 3 rfl (Nat.le_of_ble_eq_true rfl)
 have pre21 : oP p e bw G T20 m 12 #[vR ra, vI 4, vR rb, vI 4, vI 5, vI 4, vI xc3] [(.int 4), (.ref ra)] := by
  intro t k
  refine pre18 t (st20 t ?_)
  refine XS.iinc X20.here hx rfl (D 17 rfl) rfl (l' := #[vR ra, vI 4, vR rb, vI 3, vI 5, vI 3, vI xc3]) rfl ?_
  refine XS.iinc X20.here hx rfl (D 18 rfl) rfl (l' := #[vR ra, vI 4, vR rb, vI 4, vI 5, vI 3, vI xc3]) rfl ?_
  refine XS.iinc X20.here hx rfl (D 19 rfl) rfl (l' := #[vR ra, vI 4, vR rb, vI 4, vI 5, vI 4, vI xc3]) rfl ?_
  refine XS.goto X20.here hx rfl (pc0 := 41) (pc' := 3) rfl (D 20 rfl) (by decide) (by decide) ?_
  refine XS.iload X20.here hx rfl (D 2 rfl) rfl ?_
  refine XS.iload X20.here hx rfl (D 3 rfl) rfl ?_
  refine XS.icmpNo X20.here hx rfl (D 4 rfl) rfl (tlt (show (4 : Int32) < (5 : Int32) from by decide)).2.1 ?_
  refine XS.aloadN X20.here hx rfl (D 5 rfl) rfl rfl ?_
  refine XS.iloadN X20.here hx rfl (D 6 rfl) rfl ?_
  exact k
 have pre23 : oP p e bw G T20 m 31 #[vR ra, vI 4, vR rb, vI 4, vI 5, vI 4, vI xc4] [(.int (xc4.toInt8.toInt32)), (.int 4), (.ref rb)] := by
  intro t k
  refine pre21 t ?_
  obtain ⟨c22, a22, q22, s22, m22, i22, u22⟩ := id ((((VA.other W5 hne).other W10 hne).other W15 hne).other W20 hne)
  have hin22 := inb_of (j := (4 : Int32)) s22 ⟨by decide, by decide⟩
  refine X20.caload hx (j := (4 : Int32)) (v := (.int xc4)) (by rw [e20]; exact a22.1) (State.isArrayOf_alike hZ.alike a22.2.1) a22.2.2 hin22 (i22.at hin22 rfl) (g := (own_g pre21)) rfl rfl (D 7 rfl) _ ?_
  refine XS.istore X20.here hx rfl (D 8 rfl) rfl (l' := #[vR ra, vI 4, vR rb, vI 4, vI 5, vI 4, vI xc4]) rfl ?_
  refine XS.iload X20.here hx rfl (D 9 rfl) rfl ?_
  refine XS.sipush X20.here hx rfl (D 10 rfl) ?_
  refine XS.icmpYes X20.here hx rfl (pc0 := 20) (pc' := 26) rfl (D 11 rfl) rfl (flt (show ¬ ((255 : Int32) < xc4) from hd4)).2.2.2 (by decide) (by decide) ?_
  refine XS.aloadN X20.here hx rfl (D 12 rfl) rfl rfl ?_
  refine XS.iloadN X20.here hx rfl (D 13 rfl) rfl ?_
  refine XS.iload X20.here hx rfl (D 14 rfl) rfl ?_
  refine XS.i2b X20.here hx rfl (D 15 rfl) rfl ?_
  exact k
 obtain ⟨c24, a24, q24, s24, m24, i24, u24⟩ := id V20
 obtain ⟨T25, h25, X25, e25, W25, st25⟩ := stB X20 hx hZ e20 a24 (j := (4 : Int32)) (inb_of s24 ⟨by decide, by decide⟩) (g := (own_g pre23)) rfl rfl (D 16 rfl)
 have K25 : Keep h0 h25 [rb] := K20.wr W25 (Or.inl (by simp))
 have z25 : n0 ≤ h25.size := Nat.le_trans Z0 K25.1
 have N25 := Fr.snoc X25 N20 g_rb
 have V25 : Arv Z h25 rb kb .byte (5 : Int32) [(.int (nar .byte (xc0.toInt8.toInt32))), (.int (nar .byte (xc1.toInt8.toInt32))), (.int (nar .byte (xc2.toInt8.toInt32))), (.int (nar .byte (xc3.toInt8.toInt32))), (.int (nar .byte (xc4.toInt8.toInt32)))] (.int 0) := Arv.set a24 q24 s24 m24 i24 u24 (fits_nar_byte _) W25 4 rfl (Nat.le_of_ble_eq_true rfl)
 have pre26 : oP p e bw G T25 m 46 #[vR ra, vI 5, vR rb, vI 5, vI 5, vI 5, vI xc4] [(.int 5)] := by
  intro t k
  refine pre23 t (st25 t ?_)
  refine XS.iinc X25.here hx rfl (D 17 rfl) rfl (l' := #[vR ra, vI 5, vR rb, vI 4, vI 5, vI 4, vI xc4]) rfl ?_
  refine XS.iinc X25.here hx rfl (D 18 rfl) rfl (l' := #[vR ra, vI 5, vR rb, vI 5, vI 5, vI 4, vI xc4]) rfl ?_
  refine XS.iinc X25.here hx rfl (D 19 rfl) rfl (l' := #[vR ra, vI 5, vR rb, vI 5, vI 5, vI 5, vI xc4]) rfl ?_
  refine XS.goto X25.here hx rfl (pc0 := 41) (pc' := 3) rfl (D 20 rfl) (by decide) (by decide) ?_
  refine XS.iload X25.here hx rfl (D 2 rfl) rfl ?_
  refine XS.iload X25.here hx rfl (D 3 rfl) rfl ?_
  refine XS.icmpYes X25.here hx rfl (pc0 := 7) (pc' := 44) rfl (D 4 rfl) rfl (flt (show ¬ ((5 : Int32) < (5 : Int32)) from by decide)).2.1 (by decide) (by decide) ?_
  refine XS.iload X25.here hx rfl (D 21 rfl) rfl ?_
  exact k
 obtain ⟨fs, hr, hrun, hended, hW, hsame⟩ := X25.leave (hlocks := Bd.notSynchronized) (v := some (.int 5)) (fun h => by rw [Bd.returns] at h; cases h)
 subst hG
 refine ⟨_, _, pre26 _ ?_, hrun, hended, _, _, rfl, ?_, ⟨_, rfl⟩, hW, hsame.mono (by decide) (by decide)⟩
 ·exact retI X25 hx Bd.returns (D 22 rfl) hr
 ·show Q_rm_cmp5 Z ra rb ka kb xc0 xc1 xc2 xc3 xc4 h0 n0 _ T25.heap _
  rw [e25]
  exact ⟨rfl, N25, K25, V25⟩
theorem ef_rm_cmb5 (m : MethodId) (ra : Addr) : entryFrame m #[(.ref ra), (.int 0), (.int 5)] 6 = mkF m 0 #[vR ra, vI 0, vI 5, vU, vU, vU] [] := by simp [entryFrame, mkF, argsToLocals, Value.category]
def Q_rm_cmb5 (Z : State) (ra : Addr) (ka : ClassId) (xc0 : Int32) (xc1 : Int32) (xc2 : Int32) (xc3 : Int32) (xc4 : Int32) (h0 : Heap) (n0 : Nat) (v : Option Value) (h : Heap) (L : List Loc) : Prop := ∃ kb : ClassId, ∃ bo : Addr, v = some (.ref bo) ∧ Fr n0 L ∧ n0 ≤ bo ∧ h0.size ≤ bo ∧ Keep h0 h ([] : List Addr) ∧ Arv Z h bo kb .byte (5 : Int32) [(.int (nar .byte (xc0.toInt8.toInt32))), (.int (nar .byte (xc1.toInt8.toInt32))), (.int (nar .byte (xc2.toInt8.toInt32))), (.int (nar .byte (xc3.toInt8.toInt32))), (.int (nar .byte (xc4.toInt8.toInt32)))] (.int 0) ∧ Exa Z h bo "[B"
set_option maxRecDepth 65536 in
set_option maxHeartbeats 40000000 in
theorem rm_cmb5 (l : Launch) (Z : State) (a0 : Array Value) (hw : ∀ d ∈ tables_1, d.before a0 Z = true) (ws : List Jvm.Cond) (ra : Addr) (ka : ClassId) (xc0 : Int32) (xc1 : Int32) (xc2 : Int32) (xc3 : Int32) (xc4 : Int32) (h0 : Heap) (n0 : Nat) (Z0 : n0 ≤ h0.size) (VA : Arv Z h0 ra ka .char (5 : Int32) [(.int xc0), (.int xc1), (.int xc2), (.int xc3), (.int xc4)] (.int 0)) (hd0 : ¬ ((255 : Int32) < xc0)) (hd1 : ¬ ((255 : Int32) < xc1)) (hd2 : ¬ ((255 : Int32) < xc2)) (hd3 : ¬ ((255 : Int32) < xc3)) (hd4 : ¬ ((255 : Int32) < xc4)) :
  oMet l oM15 jdk_52_method_16_code 6 (some (.array .byte)) ws (oR 1 1 5 18) #[(.ref ra), (.int 0), (.int 5)] Z h0 (Q_rm_cmb5 Z ra ka xc0 xc1 xc2 xc3 xc4 h0 n0) := by
 refine MetFree.of_bodySF (plainFor_of_name pn2) hisR ?_
 have W := own_W hw
 intro p e s m args bw meth c s₁ Bd hml0 hP hK
 obtain ⟨rfl, hZ, hh⟩ := hP
 have hx := Bd.exec
 have hby := Bd.bytes
 have hml : c.maxLocals = 6 := hml0
 have hown : s.vm.findClass oS8 = some m.cls := findClass_of_methodNamed Bd.named
 have hnm := (name_of_methodNamed Bd.named Bd.method).1
 have X0 : Stand p l e (oR 1 1 5 18) s m #[(.ref ra), (.int 0), (.int 5)] bw meth c s₁ [] 0 0 := Stand.of_body Bd
 have e0 : s₁.heap = h0 := by rw [← hh, Bd.state]; rfl
 have N0 := Fr.nil n0
 have D := own_D hby dB4
 obtain ⟨G, hG⟩ := own_ex fun t => Steps p.tables e bw (s₁.setTop (entryFrame m #[(.ref ra), (.int 0), (.int 5)] 6)) t
 have pre0 : oP p e bw G s₁ m 0 #[vR ra, vI 0, vI 5, vU, vU, vU] [] := by intro t k; subst hG; exact castTop (ef_rm_cmb5 m ra) k
 have pre1 : oP p e bw G s₁ m 1 #[vR ra, vI 0, vI 5, vU, vU, vU] [(.int 5)] := by
  intro t k
  refine pre0 t ?_
  refine XS.iloadN X0.here hx rfl (D 0 rfl) rfl ?_
  exact k
 obtain ⟨T2, h2, k2, X2, e2, E2, A2, x2, st2⟩ := newPE X0 hx hZ (W 21 rfl) e0 (g := (own_g pre1)) rfl (D 1 rfl) rfl (by decide) (cap := 5) (by decide) (by decide) (by decide) (by decide) (ad := "[B") rfl
 obtain ⟨b2, g2⟩ := own_ex h0.size
 rw [← g2] at A2 st2 x2
 have g_b2 : n0 ≤ b2 := Nat.le_trans Z0 (Nat.le_of_eq g2.symm)
 have sz_b2 : h0.size ≤ b2 := Nat.le_trans (Keep.refl h0 ([] : List Addr)).1 (Nat.le_of_eq g2.symm)
 have K2 : Keep h0 h2 ([] : List Addr) := (Keep.refl h0 ([] : List Addr)).ext E2
 have z2 : n0 ≤ h2.size := Nat.le_trans Z0 K2.1
 have V_b2 : Arv Z h2 b2 k2 .byte (5 : Int32) [(.int 0), (.int 0), (.int 0), (.int 0), (.int 0)] (.int 0) := (Arv.new A2 (by decide)).pad (pad_rep [] (.int 0) 5)
 have pre3 : oP p e bw G T2 m 9 #[vR ra, vI 0, vI 5, vR b2, vU, vU] [(.int 5), (.int 0), (.ref b2), (.int 0), (.ref ra)] := by
  intro t k
  refine pre1 t (st2 t ?_)
  refine XS.astoreN X2.here hx rfl (D 2 rfl) rfl rfl (l' := #[vR ra, vI 0, vI 5, vR b2, vU, vU]) rfl ?_
  refine XS.aloadN X2.here hx rfl (D 3 rfl) rfl rfl ?_
  refine XS.iloadN X2.here hx rfl (D 4 rfl) rfl ?_
  refine XS.aloadN X2.here hx rfl (D 5 rfl) rfl rfl ?_
  refine XS.iconst X2.here hx rfl (D 6 rfl) ?_
  refine XS.iloadN X2.here hx rfl (D 7 rfl) rfl ?_
  exact k
 have f4 := (VA.ext E2)
 have ne5 := (Nat.ne_of_lt (Nat.lt_of_lt_of_le VA.lt (Nat.le_of_eq g2.symm)))
 obtain ⟨_, T6, Lc6, X6, hQ6, pc6⟩ := own_call X2 hx hZ hown (W 22 rfl) (W 23 rfl) (W 19 rfl) (W 24 rfl) (by decide) (rm_cmp5 l Z a0 hw [] ra b2 ka k2 xc0 xc1 xc2 xc3 xc4 h2 n0 z2 f4 V_b2 (g_b2) (ne5) (hd0) (hd1) (hd2) (hd3) (hd4)) e2 pre3 hml rfl (D 8 rfl) (lenOf pd3 rfl) rfl (W := 0) rfl (by decide)
 obtain ⟨rfl, M6, kp6, f6_0⟩ := hQ6
 have K6 : Keep h0 T6.heap ([] : List Addr) := K2.trans kp6 (allS (P := fun x => x ∈ ([] : List Addr) ∨ h0.size ≤ x) (Or.inr sz_b2) all0)
 have zz6 : n0 ≤ T6.heap.size := Nat.le_trans Z0 K6.1
 have N6 := Fr.app N0 M6
 have pre7 : oP p e bw G T6 m 58 #[vR ra, vI 0, vI 5, vR b2, vI 5, vU] [(.ref b2)] := by
  intro t k
  refine pc6 t ?_
  refine XS.istore X6.here hx rfl (D 9 rfl) rfl (l' := #[vR ra, vI 0, vI 5, vR b2, vI 5, vU]) rfl ?_
  refine XS.iload X6.here hx rfl (D 10 rfl) rfl ?_
  refine XS.iloadN X6.here hx rfl (D 11 rfl) rfl ?_
  refine XS.icmpYes X6.here hx rfl (pc0 := 17) (pc' := 57) rfl (D 12 rfl) rfl (teq (show (5 : Int32) = (5 : Int32) from rfl)).1 (by decide) (by decide) ?_
  refine XS.aloadN X6.here hx rfl (D 13 rfl) rfl rfl ?_
  exact k
 obtain ⟨fs, hr, hrun, hended, hW, hsame⟩ := X6.leave (hlocks := Bd.notSynchronized) (v := some (.ref b2)) (fun h => by rw [Bd.returns] at h; cases h)
 subst hG
 refine ⟨_, _, pre7 _ ?_, hrun, hended, _, _, rfl, ?_, ⟨_, rfl⟩, hW, hsame.mono (by decide) (by decide)⟩
 ·exact retOut X6 hx Bd.returns rfl (Or.inr (Or.inr (Or.inr (Or.inr ⟨rfl, rfl, rfl⟩)))) (D 14 rfl) hr
 ·show Q_rm_cmb5 Z ra ka xc0 xc1 xc2 xc3 xc4 h0 n0 _ T6.heap _
  exact ⟨k2, b2, rfl, N6, g_b2, sz_b2, K6, f6_0, (x2.keep kp6)⟩
theorem ef_rm_cfa5 (m : MethodId) (rb : Addr) : entryFrame m #[(.ref rb), (.int 5)] 2 = mkF m 0 #[vR rb, vI 5] [] := by simp [entryFrame, mkF, argsToLocals, Value.category]
def Q_rm_cfa5 (Z : State) (rb : Addr) (kb : ClassId) (xv0 : Int32) (xv1 : Int32) (xv2 : Int32) (xv3 : Int32) (xv4 : Int32) (h0 : Heap) (n0 : Nat) (v : Option Value) (h : Heap) (L : List Loc) : Prop := v = some (.int 0) ∧ Fr n0 L ∧ h = h0
set_option maxRecDepth 65536 in
set_option maxHeartbeats 40000000 in
theorem rm_cfa5 (l : Launch) (Z : State) (a0 : Array Value) (hw : ∀ d ∈ tables_1, d.before a0 Z = true) (ws : List Jvm.Cond) (rb : Addr) (kb : ClassId) (xv0 : Int32) (xv1 : Int32) (xv2 : Int32) (xv3 : Int32) (xv4 : Int32) (h0 : Heap) (n0 : Nat) (Z0 : n0 ≤ h0.size) (VB0 : Arv Z h0 rb kb .byte (5 : Int32) [(.int xv0), (.int xv1), (.int xv2), (.int xv3), (.int xv4)] (.int 0)) :
  oMet l oM16 jdk_52_method_15_code 2 (some .byte) ws (oR 0 0 0 0) #[(.ref rb), (.int 5)] Z h0 (Q_rm_cfa5 Z rb kb xv0 xv1 xv2 xv3 xv4 h0 n0) := by
 refine MetFree.of_bodySF (plainFor_of_name pn2) hisR ?_
 have W := own_W hw
 intro p e s m args bw meth c s₁ Bd hml0 hP hK
 obtain ⟨rfl, hZ, hh⟩ := hP
 have hx := Bd.exec
 have hby := Bd.bytes
 have hml : c.maxLocals = 2 := hml0
 have hown : s.vm.findClass oS8 = some m.cls := findClass_of_methodNamed Bd.named
 have hnm := (name_of_methodNamed Bd.named Bd.method).1
 have X0 : Stand p l e (oR 0 0 0 0) s m #[(.ref rb), (.int 5)] bw meth c s₁ [] 0 0 := Stand.of_body Bd
 have e0 : s₁.heap = h0 := by rw [← hh, Bd.state]; rfl
 have N0 := Fr.nil n0
 have D := own_D hby dB6
 obtain ⟨G, hG⟩ := own_ex fun t => Steps p.tables e bw (s₁.setTop (entryFrame m #[(.ref rb), (.int 5)] 2)) t
 have pre0 : oP p e bw G s₁ m 0 #[vR rb, vI 5] [] := by intro t k; subst hG; exact castTop (ef_rm_cfa5 m rb) k
 have pre1 : oP p e bw G s₁ m 2 #[vR rb, vI 5] [(.ref rb), (.int 5)] := by
  intro t k
  refine pre0 t ?_
  refine XS.iloadN X0.here hx rfl (D 0 rfl) rfl ?_
  refine XS.aloadN X0.here hx rfl (D 1 rfl) rfl rfl ?_
  exact k
 have pre3 : oP p e bw G s₁ m 8 #[vR rb, vI 5] [(.int (((((5 : Int32) - (5 : Int32)).toUInt32 >>> ((31 : Int32) &&& 31).toUInt32).toInt32).toInt8.toInt32))] := by
  intro t k
  refine pre1 t ?_
  obtain ⟨c2, a2, q2, s2, m2, i2, u2⟩ := id VB0
  refine X0.arraylength hx (by rw [e0]; exact a2.1) (State.isArrayOf_alike hZ.alike a2.2.1) (g := (own_g pre1)) rfl rfl (D 2 rfl) _ ?_
  rw [len_of s2 m2]
  refine XS.isub X0.here hx rfl (D 3 rfl) rfl ?_
  refine XS.bipush X0.here hx rfl (D 4 rfl) ?_
  refine XS.iushr X0.here hx rfl (D 5 rfl) rfl ?_
  refine XS.i2b X0.here hx rfl (D 6 rfl) rfl ?_
  exact k
 obtain ⟨fs, hr, hrun, hended, hW, hsame⟩ := X0.leave (hlocks := Bd.notSynchronized) (v := some (.int (nar .byte (((((5 : Int32) - (5 : Int32)).toUInt32 >>> ((31 : Int32) &&& 31).toUInt32).toInt32).toInt8.toInt32)))) (fun h => by rw [Bd.returns] at h; cases h)
 subst hG
 refine ⟨_, _, pre3 _ ?_, hrun, hended, _, _, rfl, ?_, ⟨_, rfl⟩, hW, hsame.mono (by decide) (by decide)⟩
 ·exact retN X0 hx (t := .byte) Bd.returns (by simp) (D 7 rfl) hr
 ·show Q_rm_cfa5 Z rb kb xv0 xv1 xv2 xv3 xv4 h0 n0 _ s₁.heap _
  rw [e0]
  exact ⟨congrArg (fun z => some (Value.int z)) (by decide), N0, rfl⟩
theorem ef_rm_sc5 (m : MethodId) (ra : Addr) (rb : Addr) : entryFrame m #[(.ref ra), (.ref rb), (.int 0), (.int 5), .null] 6 = mkF m 0 #[vR ra, vR rb, vI 0, vI 5, .val .null, vU] [] := by simp [entryFrame, mkF, argsToLocals, Value.category]
def Q_rm_sc5 (Z : State) (ra : Addr) (rb : Addr) (ka : ClassId) (xcs : Int32) (xc0 : Int32) (xc1 : Int32) (xc2 : Int32) (xc3 : Int32) (xc4 : Int32) (h0 : Heap) (n0 : Nat) (v : Option Value) (h : Heap) (L : List Loc) : Prop := ∃ ry : Addr, ∃ ky : ClassId, v = none ∧ Fr n0 L ∧ Keep h0 h [ra] ∧ Exa Z h ra "java/lang/String" ∧ Fld Z h ra "java/lang/String" "value" "[B" (.ref ry) ∧ Fld Z h ra "java/lang/String" "coder" "B" (.int (nar .byte (0 : Int32))) ∧ Arv Z h ry ky .byte (5 : Int32) [(.int (nar .byte (xc0.toInt8.toInt32))), (.int (nar .byte (xc1.toInt8.toInt32))), (.int (nar .byte (xc2.toInt8.toInt32))), (.int (nar .byte (xc3.toInt8.toInt32))), (.int (nar .byte (xc4.toInt8.toInt32)))] (.int 0) ∧ Exa Z h ry "[B"
set_option maxRecDepth 65536 in
set_option maxHeartbeats 40000000 in
theorem rm_sc5 (l : Launch) (Z : State) (a0 : Array Value) (hw : ∀ d ∈ tables_1, d.before a0 Z = true) (ws : List Jvm.Cond) (ra : Addr) (rb : Addr) (ka : ClassId) (xcs : Int32) (xc0 : Int32) (xc1 : Int32) (xc2 : Int32) (xc3 : Int32) (xc4 : Int32) (h0 : Heap) (n0 : Nat) (Z0 : n0 ≤ h0.size) (E_ra : Exa Z h0 ra "java/lang/String") (g_ra : n0 ≤ ra) (F_coder_ra : Fld Z h0 ra "java/lang/String" "coder" "B" (.int 0)) (F_value_ra : Fld Z h0 ra "java/lang/String" "value" "[B" .null) (VA : Arv Z h0 rb ka .char (5 : Int32) [(.int xc0), (.int xc1), (.int xc2), (.int xc3), (.int xc4)] (.int 0)) (SC : Sta Z h0 "java/lang/String" "COMPACT_STRINGS" "Z" (.int xcs)) (hcs : ¬ (xcs = (0 : Int32))) (hne : rb ≠ ra) (hd0 : ¬ ((255 : Int32) < xc0)) (hd1 : ¬ ((255 : Int32) < xc1)) (hd2 : ¬ ((255 : Int32) < xc2)) (hd3 : ¬ ((255 : Int32) < xc3)) (hd4 : ¬ ((255 : Int32) < xc4)) :
  oMet l oM2 jdk_42_method_149_code 6 none ws (oR 2 1 5 35) #[(.ref ra), (.ref rb), (.int 0), (.int 5), .null] Z h0 (Q_rm_sc5 Z ra rb ka xcs xc0 xc1 xc2 xc3 xc4 h0 n0) := by
 refine MetFree.of_bodySF (plainFor_of_name pn1) hisR ?_
 have W := own_W hw
 intro p e s m args bw meth c s₁ Bd hml0 hP hK
 obtain ⟨rfl, hZ, hh⟩ := hP
 have hx := Bd.exec
 have hby := Bd.bytes
 have hml : c.maxLocals = 6 := hml0
 have hown : s.vm.findClass "java/lang/String" = some m.cls := findClass_of_methodNamed Bd.named
 have hnm := (name_of_methodNamed Bd.named Bd.method).1
 have X0 : Stand p l e (oR 2 1 5 35) s m #[(.ref ra), (.ref rb), (.int 0), (.int 5), .null] bw meth c s₁ [] 0 0 := Stand.of_body Bd
 have e0 : s₁.heap = h0 := by rw [← hh, Bd.state]; rfl
 have N0 := Fr.nil n0
 have D := own_D hby dB2
 obtain ⟨G, hG⟩ := own_ex fun t => Steps p.tables e bw (s₁.setTop (entryFrame m #[(.ref ra), (.ref rb), (.int 0), (.int 5), .null] 6)) t
 have pre0 : oP p e bw G s₁ m 0 #[vR ra, vR rb, vI 0, vI 5, .val .null, vU] [] := by intro t k; subst hG; exact castTop (ef_rm_sc5 m ra rb) k
 have pre1 : oP p e bw G s₁ m 1 #[vR ra, vR rb, vI 0, vI 5, .val .null, vU] [(.ref ra)] := by
  intro t k
  refine pre0 t ?_
  refine XS.aloadN X0.here hx rfl (D 0 rfl) rfl rfl ?_
  exact k
 obtain ⟨T2, X2, e2, st2⟩ := initO X0 hx hZ hown (W 13 rfl) (W 14 rfl) (W 15 rfl) e0 (g := (own_g pre1)) rfl (by rw [hml]; rfl) rfl (D 1 rfl) (by decide) (W := 0) (by show 2 * 0 + _ ≤ _; exact Nat.le_of_eq rfl) (by decide)
 have pre3 : oP p e bw G T2 m 27 #[vR ra, vR rb, vI 0, vI 5, .val .null, vU] [] := by
  intro t k
  refine pre1 t (st2 t ?_)
  refine XS.iloadN X2.here hx rfl (D 2 rfl) rfl ?_
  refine XS.ifYes X2.here hx rfl (pc0 := 5) (pc' := 27) rfl (D 3 rfl) rfl ((if0 _ _).trans (feq (show ¬ ((5 : Int32) = (0 : Int32)) from by decide)).2) (by decide) (by decide) ?_
  exact k
 obtain ⟨T4, X4, e4, st4⟩ := getS2 X2 hx hZ hown (host := "") (Or.inl (W 16 rfl)) Via.refl e2 SC (g := (own_g pre3)) rfl (D 4 rfl)
 have pre5 : oP p e bw G T4 m 36 #[vR ra, vR rb, vI 0, vI 5, .val .null, vU] [(.int 5), (.int 0), (.ref rb)] := by
  intro t k
  refine pre3 t (st4 t ?_)
  refine XS.ifNo X4.here hx rfl (D 5 rfl) rfl ((if0 _ _).trans (feq (show ¬ (xcs = (0 : Int32)) from hcs)).1) ?_
  refine XS.aloadN X4.here hx rfl (D 6 rfl) rfl rfl ?_
  refine XS.iloadN X4.here hx rfl (D 7 rfl) rfl ?_
  refine XS.iloadN X4.here hx rfl (D 8 rfl) rfl ?_
  exact k
 obtain ⟨_, T6, Lc6, X6, hQ6, pc6⟩ := own_call X4 hx hZ hown (W 17 rfl) (W 18 rfl) (W 19 rfl) (W 20 rfl) (by decide) (rm_cmb5 l Z a0 hw [] rb ka xc0 xc1 xc2 xc3 xc4 h0 n0 Z0 VA (hd0) (hd1) (hd2) (hd3) (hd4)) e4 pre5 hml rfl (D 9 rfl) (lenOf pd4 rfl) rfl (W := 0) rfl (by decide)
 obtain ⟨kb_6, b6, rfl, M6, g_b6, zs6, kp6, f6_0, f6_1⟩ := hQ6
 have sz_b6 : h0.size ≤ b6 := Nat.le_trans (Keep.refl h0 [ra]).1 zs6
 have K6 : Keep h0 T6.heap [ra] := (Keep.refl h0 [ra]).trans kp6 all0
 have zz6 : n0 ≤ T6.heap.size := Nat.le_trans Z0 K6.1
 have N6 := Fr.app N0 M6
 have pre7 : oP p e bw G T6 m 45 #[vR ra, vR rb, vI 0, vI 5, .val .null, vR b6] [(.int 5), (.ref b6), (.ref ra)] := by
  intro t k
  refine pc6 t ?_
  refine XS.astore X6.here hx rfl (D 10 rfl) rfl rfl (l' := #[vR ra, vR rb, vI 0, vI 5, .val .null, vR b6]) rfl ?_
  refine XS.aloadN X6.here hx rfl (D 11 rfl) rfl rfl ?_
  refine XS.aload X6.here hx rfl (D 12 rfl) rfl rfl ?_
  refine XS.iloadN X6.here hx rfl (D 13 rfl) rfl ?_
  exact k
 obtain ⟨_, T8, Lc8, X8, hQ8, pc8⟩ := own_call X6 hx hZ hown (W 25 rfl) (W 26 rfl) (W 19 rfl) (W 27 rfl) (by decide) (rm_cfa5 l Z a0 hw [] b6 _ _ _ _ _ _ T6.heap n0 zz6 f6_0) rfl pre7 hml rfl (D 14 rfl) (lenOf pd5 rfl) rfl (W := 1) rfl (by decide)
 obtain ⟨rfl, M8, e8⟩ := hQ8
 have N8 := Fr.app N6 M8
 have pre9 : oP p e bw G T8 m 48 #[vR ra, vR rb, vI 0, vI 5, .val .null, vR b6] [(.int 0), (.ref ra)] := pc8
 have f10 := (E_ra.keep kp6)
 have f11 := (F_coder_ra.keep kp6 nin0)
 obtain ⟨T12, h12, X12, e12, W12, st12⟩ := putFN X8 hx hZ hown (W 28 rfl) Via.refl e8 f11 f10 (Or.inr ⟨(W 29 rfl), rfl, hnm⟩) (W 4 rfl) (ty := .byte) (v' := (.int (nar .byte (0 : Int32)))) (by decide) rfl (fits_nar_byte _) (g := (own_g pre9)) rfl rfl (D 15 rfl)
 have K12 : Keep h0 h12 [ra] := K6.wr W12 (Or.inl (by simp))
 have z12 : n0 ≤ h12.size := Nat.le_trans Z0 K12.1
 have N12 := Fr.snoc X12 N8 g_ra
 have Fw12 := f11.same W12
 have pre13 : oP p e bw G T12 m 54 #[vR ra, vR rb, vI 0, vI 5, .val .null, vR b6] [(.ref b6), (.ref ra)] := by
  intro t k
  refine pre9 t (st12 t ?_)
  refine XS.aloadN X12.here hx rfl (D 16 rfl) rfl rfl ?_
  refine XS.aload X12.here hx rfl (D 17 rfl) rfl rfl ?_
  exact k
 have f14 := (f10.wr W12)
 have f15 := ((F_value_ra.keep kp6 nin0).other W12 (Or.inr (slot_ne (Or.inr (W 31 rfl)) (Or.inr (W 29 rfl)) (by decide) (t := (.array .byte)) (t' := .byte) (by decide) (by decide))))
 obtain ⟨T16, h16, X16, e16, W16, st16⟩ := putF X12 hx hZ hown (host := "") (Or.inl (W 30 rfl)) Via.refl e12 f15 f14 (Or.inr ⟨(W 31 rfl), rfl, hnm⟩) (W 4 rfl) (ty := (.array .byte)) (by decide) rfl rfl (g := (own_g pre13)) rfl rfl (D 18 rfl)
 have K16 : Keep h0 h16 [ra] := K12.wr W16 (Or.inl (by simp))
 have z16 : n0 ≤ h16.size := Nat.le_trans Z0 K16.1
 have N16 := Fr.snoc X16 N12 g_ra
 have Fw16 := f15.same W16
 have pre17 : oP p e bw G T16 m 57 #[vR ra, vR rb, vI 0, vI 5, .val .null, vR b6] [] := fun t k => pre13 t (st16 t k)
 obtain ⟨fs, hr, hrun, hended, hW, hsame⟩ := X16.leave (hlocks := Bd.notSynchronized) (v := none) (fun _ => rfl)
 subst hG
 refine ⟨_, _, pre17 _ ?_, hrun, hended, _, _, rfl, ?_, ⟨_, rfl⟩, hW, hsame.mono (by decide) (by decide)⟩
 ·exact X16.returnOut hx Bd.returns (D 19 rfl) hr
 ·show Q_rm_sc5 Z ra rb ka xcs xc0 xc1 xc2 xc3 xc4 h0 n0 _ T16.heap _
  rw [e16]
  have ne18 := (Ne.symm (Nat.ne_of_lt (Nat.lt_of_lt_of_le E_ra.lt zs6)))
  exact ⟨b6, kb_6, rfl, N16, K16, (f14.wr W16), Fw16, (Fw12.other W16 (Or.inr (slot_ne (Or.inr (W 29 rfl)) (Or.inr (W 31 rfl)) (by decide) (t := .byte) (t' := (.array .byte)) (by decide) (by decide)))), ((f6_0.other W12 ne18).other W16 ne18), ((f6_1.wr W12).wr W16)⟩
theorem ef_rm_sn5 (m : MethodId) (ra : Addr) (rb : Addr) : entryFrame m #[(.ref ra), (.ref rb)] 2 = mkF m 0 #[vR ra, vR rb] [] := by simp [entryFrame, mkF, argsToLocals, Value.category]
def Q_rm_sn5 (Z : State) (ra : Addr) (rb : Addr) (ka : ClassId) (xcs : Int32) (xc0 : Int32) (xc1 : Int32) (xc2 : Int32) (xc3 : Int32) (xc4 : Int32) (h0 : Heap) (n0 : Nat) (v : Option Value) (h : Heap) (L : List Loc) : Prop := ∃ ry : Addr, ∃ ky : ClassId, v = none ∧ Fr n0 L ∧ Keep h0 h [ra] ∧ Exa Z h ra "java/lang/String" ∧ Fld Z h ra "java/lang/String" "value" "[B" (.ref ry) ∧ Fld Z h ra "java/lang/String" "coder" "B" (.int (nar .byte (0 : Int32))) ∧ Arv Z h ry ky .byte (5 : Int32) [(.int (nar .byte (xc0.toInt8.toInt32))), (.int (nar .byte (xc1.toInt8.toInt32))), (.int (nar .byte (xc2.toInt8.toInt32))), (.int (nar .byte (xc3.toInt8.toInt32))), (.int (nar .byte (xc4.toInt8.toInt32)))] (.int 0) ∧ Exa Z h ry "[B"
set_option maxRecDepth 65536 in
set_option maxHeartbeats 40000000 in
theorem rm_sn5 (l : Launch) (Z : State) (a0 : Array Value) (hw : ∀ d ∈ tables_1, d.before a0 Z = true) (ws : List Jvm.Cond) (ra : Addr) (rb : Addr) (ka : ClassId) (xcs : Int32) (xc0 : Int32) (xc1 : Int32) (xc2 : Int32) (xc3 : Int32) (xc4 : Int32) (h0 : Heap) (n0 : Nat) (Z0 : n0 ≤ h0.size) (E_ra : Exa Z h0 ra "java/lang/String") (g_ra : n0 ≤ ra) (F_coder_ra : Fld Z h0 ra "java/lang/String" "coder" "B" (.int 0)) (F_value_ra : Fld Z h0 ra "java/lang/String" "value" "[B" .null) (VA : Arv Z h0 rb ka .char (5 : Int32) [(.int xc0), (.int xc1), (.int xc2), (.int xc3), (.int xc4)] (.int 0)) (SC : Sta Z h0 "java/lang/String" "COMPACT_STRINGS" "Z" (.int xcs)) (hcs : ¬ (xcs = (0 : Int32))) (hne : rb ≠ ra) (hd0 : ¬ ((255 : Int32) < xc0)) (hd1 : ¬ ((255 : Int32) < xc1)) (hd2 : ¬ ((255 : Int32) < xc2)) (hd3 : ¬ ((255 : Int32) < xc3)) (hd4 : ¬ ((255 : Int32) < xc4)) :
  oMet l oM3 jdk_42_method_3_code 2 none ws (oR 3 1 5 52) #[(.ref ra), (.ref rb)] Z h0 (Q_rm_sn5 Z ra rb ka xcs xc0 xc1 xc2 xc3 xc4 h0 n0) := by
 refine MetFree.of_bodySF (plainFor_of_name pn1) hisR ?_
 have W := own_W hw
 intro p e s m args bw meth c s₁ Bd hml0 hP hK
 obtain ⟨rfl, hZ, hh⟩ := hP
 have hx := Bd.exec
 have hby := Bd.bytes
 have hml : c.maxLocals = 2 := hml0
 have hown : s.vm.findClass "java/lang/String" = some m.cls := findClass_of_methodNamed Bd.named
 have hnm := (name_of_methodNamed Bd.named Bd.method).1
 have X0 : Stand p l e (oR 3 1 5 52) s m #[(.ref ra), (.ref rb)] bw meth c s₁ [] 0 0 := Stand.of_body Bd
 have e0 : s₁.heap = h0 := by rw [← hh, Bd.state]; rfl
 have N0 := Fr.nil n0
 have D := own_D hby dB1
 obtain ⟨G, hG⟩ := own_ex fun t => Steps p.tables e bw (s₁.setTop (entryFrame m #[(.ref ra), (.ref rb)] 2)) t
 have pre0 : oP p e bw G s₁ m 0 #[vR ra, vR rb] [] := by intro t k; subst hG; exact castTop (ef_rm_sn5 m ra rb) k
 have pre1 : oP p e bw G s₁ m 4 #[vR ra, vR rb] [(.ref rb), (.int 0), (.ref rb), (.ref ra)] := by
  intro t k
  refine pre0 t ?_
  refine XS.aloadN X0.here hx rfl (D 0 rfl) rfl rfl ?_
  refine XS.aloadN X0.here hx rfl (D 1 rfl) rfl rfl ?_
  refine XS.iconst X0.here hx rfl (D 2 rfl) ?_
  refine XS.aloadN X0.here hx rfl (D 3 rfl) rfl rfl ?_
  exact k
 have pre3 : oP p e bw G s₁ m 6 #[vR ra, vR rb] [.null, (.int 5), (.int 0), (.ref rb), (.ref ra)] := by
  intro t k
  refine pre1 t ?_
  obtain ⟨c2, a2, q2, s2, m2, i2, u2⟩ := id VA
  refine X0.arraylength hx (by rw [e0]; exact a2.1) (State.isArrayOf_alike hZ.alike a2.2.1) (g := (own_g pre1)) rfl rfl (D 4 rfl) _ ?_
  rw [len_of s2 m2]
  refine XS.aconstNull X0.here hx rfl (D 5 rfl) ?_
  exact k
 obtain ⟨_, _, ⟨T4, L4, k4, n4⟩, -, X4, ⟨Lc4, hQ4, l4, y4, z4⟩, st4⟩ := X0.specialBack hx (y := oM2) rfl hown (mvT hZ (W 9 rfl)) (mvT hZ (W 10 rfl)) (mvT hZ (W 12 rfl)) (by decide) (backOf (W := 0) (rm_sc5 l Z a0 hw [] ra rb ka xcs xc0 xc1 xc2 xc3 xc4 h0 n0 Z0 E_ra (g_ra) F_coder_ra F_value_ra VA SC (hcs) (hne) (hd0) (hd1) (hd2) (hd3) (hd4)) hZ (W 12 rfl) (W 5 rfl) (by decide) (by decide)) (g := (own_g pre3)) rfl (by rw [hml]; rfl) (Steps.refl _) (a := ra) (argsL := [(.ref rb), (.int 0), (.int 5), .null]) (rest := []) (lenOf pd6 rfl) rfl (by show 2 * 0 + _ ≤ _; exact Nat.le_of_eq rfl) (D 6 rfl) (fun _ _ => ⟨rfl, e0, (by decide : 0 + 1 ≤ _), (by decide : 0 + 5 ≤ _)⟩)
 dsimp only [Pt.U, Pt.locs, Pt.cells, Pt.slots] at X4 l4 y4 z4 st4 hQ4
 subst y4 z4
 obtain ⟨ry_4, ky_4, rfl, M4, kp4, f4_0, f4_1, f4_2, f4_3, f4_4⟩ := hQ4
 have K4 : Keep h0 T4.heap [ra] := (Keep.refl h0 [ra]).trans kp4 (allS (P := fun x => x ∈ [ra] ∨ h0.size ≤ x) (Or.inl (by simp)) all0)
 have zz4 : n0 ≤ T4.heap.size := Nat.le_trans Z0 K4.1
 have N4 : Fr n0 L4 := by rw [l4]; exact Fr.app N0 M4
 clear l4
 have pre5 : oP p e bw G T4 m 9 #[vR ra, vR rb] [] := fun t k => pre3 t (st4.trans k)
 obtain ⟨fs, hr, hrun, hended, hW, hsame⟩ := X4.leave (hlocks := Bd.notSynchronized) (v := none) (fun _ => rfl)
 subst hG
 refine ⟨_, _, pre5 _ ?_, hrun, hended, _, _, rfl, ?_, ⟨_, rfl⟩, hW, hsame.mono (by decide) (by decide)⟩
 ·exact X4.returnOut hx Bd.returns (D 7 rfl) hr
 ·show Q_rm_sn5 Z ra rb ka xcs xc0 xc1 xc2 xc3 xc4 h0 n0 _ T4.heap _
  exact ⟨ry_4, ky_4, rfl, N4, K4, f4_0, f4_1, f4_2, f4_3, f4_4⟩
def F_rm_min (xa : Int32) (xb : Int32) : Int32 := (if xb < xa then xb else xa)
theorem ef_rm_min (m : MethodId) (xa : Int32) (xb : Int32) : entryFrame m #[(.int xa), (.int xb)] 2 = mkF m 0 #[vI xa, vI xb] [] := by simp [entryFrame, mkF, argsToLocals, Value.category]
def Q_rm_min (Z : State) (xa : Int32) (xb : Int32) (h0 : Heap) (n0 : Nat) (v : Option Value) (h : Heap) (L : List Loc) : Prop := v = some (.int (F_rm_min xa xb)) ∧ Fr n0 L ∧ h = h0
set_option maxRecDepth 65536 in
set_option maxHeartbeats 40000000 in
theorem rm_min (l : Launch) (Z : State) (a0 : Array Value) (hw : ∀ d ∈ tables_1, d.before a0 Z = true) (ws : List Jvm.Cond) (xa : Int32) (xb : Int32) (h0 : Heap) (n0 : Nat) (Z0 : n0 ≤ h0.size) :
  oMet l (⟨"java/lang/Math", "min", "(II)I"⟩ : MethodName) jdk_29_method_69_code 2 (some .int) ws (oR 0 0 0 0) #[(.int xa), (.int xb)] Z h0 (Q_rm_min Z xa xb h0 n0) := by
 refine MetFree.of_bodySF (Jvm.Free.JP.mathPlain rfl (by decide +kernel)) hisR ?_
 have W := own_W hw
 intro p e s m args bw meth c s₁ Bd hml0 hP hK
 obtain ⟨rfl, hZ, hh⟩ := hP
 have hx := Bd.exec
 have hby := Bd.bytes
 have hml : c.maxLocals = 2 := hml0
 have hown : s.vm.findClass "java/lang/Math" = some m.cls := findClass_of_methodNamed Bd.named
 have hnm := (name_of_methodNamed Bd.named Bd.method).1
 have X0 : Stand p l e (oR 0 0 0 0) s m #[(.int xa), (.int xb)] bw meth c s₁ [] 0 0 := Stand.of_body Bd
 have e0 : s₁.heap = h0 := by rw [← hh, Bd.state]; rfl
 have N0 := Fr.nil n0
 have D := own_D hby dB38
 obtain ⟨G, hG⟩ := own_ex fun t => Steps p.tables e bw (s₁.setTop (entryFrame m #[(.int xa), (.int xb)] 2)) t
 have pre0 : oP p e bw G s₁ m 0 #[vI xa, vI xb] [] := by intro t k; subst hG; exact castTop (ef_rm_min m xa xb) k
 have pre1 : oP p e bw G s₁ m 2 #[vI xa, vI xb] [(.int xb), (.int xa)] := by
  intro t k
  refine pre0 t ?_
  refine XS.iloadN X0.here hx rfl (D 0 rfl) rfl ?_
  refine XS.iloadN X0.here hx rfl (D 1 rfl) rfl ?_
  exact k
 by_cases hc2 : xb < xa
 ·have pre2 : oP p e bw G s₁ m 10 #[vI xa, vI xb] [(.int xb)] := by
   intro t k
   refine pre1 t ?_
   refine XS.icmpYes X0.here hx rfl (pc0 := 2) (pc' := 9) rfl (D 2 rfl) rfl (tlt hc2).2.2.1 (by decide) (by decide) ?_
   refine XS.iloadN X0.here hx rfl (D 3 rfl) rfl ?_
   exact k
  obtain ⟨fs, hr, hrun, hended, hW, hsame⟩ := X0.leave (hlocks := Bd.notSynchronized) (v := some (.int xb)) (fun h => by rw [Bd.returns] at h; cases h)
  subst hG
  refine ⟨_, _, pre2 _ ?_, hrun, hended, _, _, rfl, ?_, ⟨_, rfl⟩, hW, hsame.mono (by decide) (by decide)⟩
  ·exact retI X0 hx Bd.returns (D 4 rfl) hr
  ·show Q_rm_min Z xa xb h0 n0 _ s₁.heap _
   rw [e0]
   exact ⟨congrArg (fun z => some (Value.int z)) (show xb = (F_rm_min xa xb) from by rw [F_rm_min, if_pos hc2]), N0, rfl⟩
 ·have pre3 : oP p e bw G s₁ m 10 #[vI xa, vI xb] [(.int xa)] := by
   intro t k
   refine pre1 t ?_
   refine XS.icmpNo X0.here hx rfl (D 2 rfl) rfl (flt hc2).2.2.1 ?_
   refine XS.iloadN X0.here hx rfl (D 5 rfl) rfl ?_
   refine XS.goto X0.here hx rfl (pc0 := 6) (pc' := 10) rfl (D 6 rfl) (by decide) (by decide) ?_
   exact k
  obtain ⟨fs, hr, hrun, hended, hW, hsame⟩ := X0.leave (hlocks := Bd.notSynchronized) (v := some (.int xa)) (fun h => by rw [Bd.returns] at h; cases h)
  subst hG
  refine ⟨_, _, pre3 _ ?_, hrun, hended, _, _, rfl, ?_, ⟨_, rfl⟩, hW, hsame.mono (by decide) (by decide)⟩
  ·exact retI X0 hx Bd.returns (D 4 rfl) hr
  ·show Q_rm_min Z xa xb h0 n0 _ s₁.heap _
   rw [e0]
   exact ⟨congrArg (fun z => some (Value.int z)) (show xa = (F_rm_min xa xb) from by rw [F_rm_min, if_neg hc2]), N0, rfl⟩
def own_enc : List Int32 → List Int32
 | [] => []
 | x :: r => (if x < (0 : Int32) then [nar .byte ((192 : Int32) ||| ((x &&& (255 : Int32)) >>> ((6 : Int32) &&& 0x1f))).toInt8.toInt32, nar .byte ((128 : Int32) ||| (x &&& (63 : Int32))).toInt8.toInt32] else [x]) ++ own_enc r
def own_len (l : List Int32) : Int32 := Int32.ofNat l.length
theorem own_dig {x : Int32} (q : 0 ≤ x.toInt ∧ x.toInt ≤ 99) : ¬ ((0 : Int32) < ((x / (10 : Int32)) / (10 : Int32))) := by
 obtain ⟨q1, q2⟩ := q
 have := rng32 x
 have : (10 : Int32).toInt = 10 := rfl
 have := c_idiv x (10 : Int32) 10 rfl (by decide)
 have := rng32 (x / (10 : Int32))
 have := c_idiv (x / (10 : Int32)) (10 : Int32) 10 rfl (by decide)
 have := rng32 ((x / (10 : Int32)) / (10 : Int32))
 rw [Int32.lt_iff_toInt_lt]
 have : (0 : Int32).toInt = 0 := rfl
 omega
theorem pn3 : plainName oS1 = true := by first | (simp [plainName, overriddenIn]; done) | decide +kernel
def F_rm_dig (xn : Int32) : Int32 := (if (0 : Int32) < (xn / (10 : Int32)) then (2 : Int32) else (1 : Int32))
theorem ef_rm_dig (m : MethodId) (xn : Int32) : entryFrame m #[(.int xn)] 3 = mkF m 0 #[vI xn, vU, vU] [] := by simp [entryFrame, mkF, argsToLocals, Value.category]
def Q_rm_dig (Z : State) (xn : Int32) (h0 : Heap) (n0 : Nat) (v : Option Value) (h : Heap) (L : List Loc) : Prop := v = some (.int (F_rm_dig xn)) ∧ Fr n0 L ∧ h = h0
set_option maxRecDepth 65536 in
set_option maxHeartbeats 40000000 in
theorem rm_dig (l : Launch) (Z : State) (a0 : Array Value) (hw : ∀ d ∈ tables_1, d.before a0 Z = true) (ws : List Jvm.Cond) (xn : Int32) (h0 : Heap) (n0 : Nat) (Z0 : n0 ≤ h0.size) (hq : 0 ≤ xn.toInt ∧ xn.toInt ≤ 99) :
  oMet l (⟨oS1, "digits", "(I)I"⟩ : MethodName) prog_10_method_18_code 3 (some .int) ws (oR 0 0 0 0) #[(.int xn)] Z h0 (Q_rm_dig Z xn h0 n0) := by
 refine MetFree.of_bodySF (plainFor_of_name pn3) hisR ?_
 have W := own_W hw
 intro p e s m args bw meth c s₁ Bd hml0 hP hK
 obtain ⟨rfl, hZ, hh⟩ := hP
 have hx := Bd.exec
 have hby := Bd.bytes
 have hml : c.maxLocals = 3 := hml0
 have hown : s.vm.findClass oS1 = some m.cls := findClass_of_methodNamed Bd.named
 have hnm := (name_of_methodNamed Bd.named Bd.method).1
 have X0 : Stand p l e (oR 0 0 0 0) s m #[(.int xn)] bw meth c s₁ [] 0 0 := Stand.of_body Bd
 have e0 : s₁.heap = h0 := by rw [← hh, Bd.state]; rfl
 have N0 := Fr.nil n0
 have D := own_D hby dB19
 obtain ⟨G, hG⟩ := own_ex fun t => Steps p.tables e bw (s₁.setTop (entryFrame m #[(.int xn)] 3)) t
 have pre0 : oP p e bw G s₁ m 0 #[vI xn, vU, vU] [] := by intro t k; subst hG; exact castTop (ef_rm_dig m xn) k
 have pre1 : oP p e bw G s₁ m 8 #[vI xn, vI 1, vI (xn / (10 : Int32))] [(.int (xn / (10 : Int32)))] := by
  intro t k
  refine pre0 t ?_
  refine XS.iconst X0.here hx rfl (D 0 rfl) ?_
  refine XS.istoreN X0.here hx rfl (D 1 rfl) rfl (l' := #[vI xn, vI 1, vU]) rfl ?_
  refine XS.iloadN X0.here hx rfl (D 2 rfl) rfl ?_
  refine XS.bipush X0.here hx rfl (D 3 rfl) ?_
  refine XS.idiv X0.here hx rfl (D 4 rfl) rfl (by decide) ?_
  refine XS.istoreN X0.here hx rfl (D 5 rfl) rfl (l' := #[vI xn, vI 1, vI (xn / (10 : Int32))]) rfl ?_
  refine XS.iloadN X0.here hx rfl (D 6 rfl) rfl ?_
  exact k
 by_cases hc8 : (0 : Int32) < (xn / (10 : Int32))
 ·have pre2 : oP p e bw G s₁ m 23 #[vI xn, vI 2, vI ((xn / (10 : Int32)) / (10 : Int32))] [(.int 2)] := by
   intro t k
   refine pre1 t ?_
   refine XS.ifNo X0.here hx rfl (D 7 rfl) rfl ((if0 _ _).trans (tlt hc8).2.2.2) ?_
   refine XS.iinc X0.here hx rfl (D 8 rfl) rfl (l' := #[vI xn, vI 2, vI (xn / (10 : Int32))]) rfl ?_
   refine XS.iloadN X0.here hx rfl (D 9 rfl) rfl ?_
   refine XS.bipush X0.here hx rfl (D 10 rfl) ?_
   refine XS.idiv X0.here hx rfl (D 11 rfl) rfl (by decide) ?_
   refine XS.istoreN X0.here hx rfl (D 12 rfl) rfl (l' := #[vI xn, vI 2, vI ((xn / (10 : Int32)) / (10 : Int32))]) rfl ?_
   refine XS.goto X0.here hx rfl (pc0 := 19) (pc' := 7) rfl (D 13 rfl) (by decide) (by decide) ?_
   refine XS.iloadN X0.here hx rfl (D 6 rfl) rfl ?_
   refine XS.ifYes X0.here hx rfl (pc0 := 8) (pc' := 22) rfl (D 7 rfl) rfl ((if0 _ _).trans (flt (show ¬ ((0 : Int32) < ((xn / (10 : Int32)) / (10 : Int32))) from own_dig hq)).2.2.2) (by decide) (by decide) ?_
   refine XS.iloadN X0.here hx rfl (D 14 rfl) rfl ?_
   exact k
  obtain ⟨fs, hr, hrun, hended, hW, hsame⟩ := X0.leave (hlocks := Bd.notSynchronized) (v := some (.int 2)) (fun h => by rw [Bd.returns] at h; cases h)
  subst hG
  refine ⟨_, _, pre2 _ ?_, hrun, hended, _, _, rfl, ?_, ⟨_, rfl⟩, hW, hsame.mono (by decide) (by decide)⟩
  ·exact retI X0 hx Bd.returns (D 15 rfl) hr
  ·show Q_rm_dig Z xn h0 n0 _ s₁.heap _
   rw [e0]
   exact ⟨congrArg (fun z => some (Value.int z)) (show (2 : Int32) = (F_rm_dig xn) from by rw [F_rm_dig, if_pos hc8]), N0, rfl⟩
 ·have pre3 : oP p e bw G s₁ m 23 #[vI xn, vI 1, vI (xn / (10 : Int32))] [(.int 1)] := by
   intro t k
   refine pre1 t ?_
   refine XS.ifYes X0.here hx rfl (pc0 := 8) (pc' := 22) rfl (D 7 rfl) rfl ((if0 _ _).trans (flt hc8).2.2.2) (by decide) (by decide) ?_
   refine XS.iloadN X0.here hx rfl (D 14 rfl) rfl ?_
   exact k
  obtain ⟨fs, hr, hrun, hended, hW, hsame⟩ := X0.leave (hlocks := Bd.notSynchronized) (v := some (.int 1)) (fun h => by rw [Bd.returns] at h; cases h)
  subst hG
  refine ⟨_, _, pre3 _ ?_, hrun, hended, _, _, rfl, ?_, ⟨_, rfl⟩, hW, hsame.mono (by decide) (by decide)⟩
  ·exact retI X0 hx Bd.returns (D 15 rfl) hr
  ·show Q_rm_dig Z xn h0 n0 _ s₁.heap _
   rw [e0]
   exact ⟨congrArg (fun z => some (Value.int z)) (show (1 : Int32) = (F_rm_dig xn) from by rw [F_rm_dig, if_neg hc8]), N0, rfl⟩
theorem pd7 : parseMethodDescriptor "(I)I" = some ⟨[.int], some .int⟩ := by decide +kernel
def F_rm_hl (xn : Int32) (xr0 : Int32) (xr1 : Int32) : Int32 := (((1 : Int32) + (F_rm_dig xn)) + (2 : Int32))
theorem ef_rm_hl (m : MethodId) (xn : Int32) : entryFrame m #[(.int xn)] 1 = mkF m 0 #[vI xn] [] := by simp [entryFrame, mkF, argsToLocals, Value.category]
def Q_rm_hl (Z : State) (xn : Int32) (wc : Addr) (kc : ClassId) (xr0 : Int32) (xr1 : Int32) (h0 : Heap) (n0 : Nat) (v : Option Value) (h : Heap) (L : List Loc) : Prop := v = some (.int (F_rm_hl xn xr0 xr1)) ∧ Fr n0 L ∧ h = h0
set_option maxRecDepth 65536 in
set_option maxHeartbeats 40000000 in
theorem rm_hl (l : Launch) (Z : State) (a0 : Array Value) (hw : ∀ d ∈ tables_1, d.before a0 Z = true) (ws : List Jvm.Cond) (xn : Int32) (wc : Addr) (kc : ClassId) (xr0 : Int32) (xr1 : Int32) (h0 : Heap) (n0 : Nat) (Z0 : n0 ≤ h0.size) (SR : Sta Z h0 oS1 "CRLF" "[B" (.ref wc)) (VR : Arv Z h0 wc kc .byte (2 : Int32) [(.int xr0), (.int xr1)] (.int 0)) (hq : 0 ≤ xn.toInt ∧ xn.toInt ≤ 99) :
  oMet l (⟨oS1, "headerLength", "(I)I"⟩ : MethodName) prog_10_method_16_code 1 (some .int) ws (oR 1 0 0 15) #[(.int xn)] Z h0 (Q_rm_hl Z xn wc kc xr0 xr1 h0 n0) := by
 refine MetFree.of_bodySF (plainFor_of_name pn3) hisR ?_
 have W := own_W hw
 intro p e s m args bw meth c s₁ Bd hml0 hP hK
 obtain ⟨rfl, hZ, hh⟩ := hP
 have hx := Bd.exec
 have hby := Bd.bytes
 have hml : c.maxLocals = 1 := hml0
 have hown : s.vm.findClass oS1 = some m.cls := findClass_of_methodNamed Bd.named
 have hnm := (name_of_methodNamed Bd.named Bd.method).1
 have X0 : Stand p l e (oR 1 0 0 15) s m #[(.int xn)] bw meth c s₁ [] 0 0 := Stand.of_body Bd
 have e0 : s₁.heap = h0 := by rw [← hh, Bd.state]; rfl
 have N0 := Fr.nil n0
 have D := own_D hby dB18
 obtain ⟨G, hG⟩ := own_ex fun t => Steps p.tables e bw (s₁.setTop (entryFrame m #[(.int xn)] 1)) t
 have pre0 : oP p e bw G s₁ m 0 #[vI xn] [] := by intro t k; subst hG; exact castTop (ef_rm_hl m xn) k
 have pre1 : oP p e bw G s₁ m 2 #[vI xn] [(.int xn), (.int 1)] := by
  intro t k
  refine pre0 t ?_
  refine XS.iconst X0.here hx rfl (D 0 rfl) ?_
  refine XS.iloadN X0.here hx rfl (D 1 rfl) rfl ?_
  exact k
 obtain ⟨_, T2, Lc2, X2, hQ2, pc2⟩ := own_call X0 hx hZ hown (W 87 rfl) (W 88 rfl) (W 49 rfl) (W 89 rfl) (by decide) (rm_dig l Z a0 hw [] xn h0 n0 Z0 (hq)) e0 pre1 hml rfl (D 2 rfl) (lenOf pd7 rfl) rfl (W := 1) rfl (by decide)
 obtain ⟨rfl, M2, e2⟩ := hQ2
 have N2 := Fr.app N0 M2
 have pre3 : oP p e bw G T2 m 6 #[vI xn] [(.int ((1 : Int32) + (F_rm_dig xn)))] := by
  intro t k
  refine pc2 t ?_
  refine XS.iadd X2.here hx rfl (D 3 rfl) rfl ?_
  exact k
 obtain ⟨T4, X4, e4, st4⟩ := getS2 X2 hx hZ hown (host := "") (Or.inl (W 90 rfl)) Via.refl e2 SR (g := (own_g pre3)) rfl (D 4 rfl)
 have pre5 : oP p e bw G T4 m 9 #[vI xn] [(.ref wc), (.int ((1 : Int32) + (F_rm_dig xn)))] := fun t k => pre3 t (st4 t k)
 have pre7 : oP p e bw G T4 m 11 #[vI xn] [(.int (((1 : Int32) + (F_rm_dig xn)) + (2 : Int32)))] := by
  intro t k
  refine pre5 t ?_
  obtain ⟨c6, a6, q6, s6, m6, i6, u6⟩ := id VR
  refine X4.arraylength hx (by rw [e4]; exact a6.1) (State.isArrayOf_alike hZ.alike a6.2.1) (g := (own_g pre5)) rfl rfl (D 5 rfl) _ ?_
  rw [len_of s6 m6]
  refine XS.iadd X4.here hx rfl (D 6 rfl) rfl ?_
  exact k
 obtain ⟨fs, hr, hrun, hended, hW, hsame⟩ := X4.leave (hlocks := Bd.notSynchronized) (v := some (.int (((1 : Int32) + (F_rm_dig xn)) + (2 : Int32)))) (fun h => by rw [Bd.returns] at h; cases h)
 subst hG
 refine ⟨_, _, pre7 _ ?_, hrun, hended, _, _, rfl, ?_, ⟨_, rfl⟩, hW, hsame.mono (by decide) (by decide)⟩
 ·exact retI X4 hx Bd.returns (D 7 rfl) hr
 ·show Q_rm_hl Z xn wc kc xr0 xr1 h0 n0 _ T4.heap _
  rw [e4]
  exact ⟨congrArg (fun z => some (Value.int z)) (show (((1 : Int32) + (F_rm_dig xn)) + (2 : Int32)) = (F_rm_hl xn xr0 xr1) from by rw [F_rm_hl]), N2, rfl⟩
theorem own_d12 (x : Int32) : (F_rm_dig x).toInt = 1 ∨ (F_rm_dig x).toInt = 2 := by
 unfold F_rm_dig
 split
 ·exact Or.inr rfl
 ·exact Or.inl rfl
theorem own_p0 {xa xn xz : Int32} (q : xa.toInt ≥ 0 ∧ xa.toInt + (F_rm_dig xn).toInt + 3 ≤ xz.toInt ∧ xz.toInt ≤ 1000) : ¬ xa < 0 ∧ xa < xz := by
 obtain ⟨q1, q2, q3⟩ := q
 have q4 := own_d12 xn
 generalize F_rm_dig xn = y at *

 simp only [Int32.lt_iff_toInt_lt] at *
 have : (0 : Int32).toInt = 0 := rfl
 refine ⟨?_, ?_⟩ <;> omega
theorem own_p1 {xa xn xz : Int32} (q : xa.toInt ≥ 0 ∧ xa.toInt + (F_rm_dig xn).toInt + 3 ≤ xz.toInt ∧ xz.toInt ≤ 1000) : ¬ (((xa + (1 : Int32)) + (F_rm_dig xn)) - (1 : Int32)) < 0 ∧ (((xa + (1 : Int32)) + (F_rm_dig xn)) - (1 : Int32)) < xz := by
 obtain ⟨q1, q2, q3⟩ := q
 have q4 := own_d12 xn
 generalize F_rm_dig xn = y at *
 have : (xa + (1 : Int32)).toInt = xa.toInt + 1 := by have := c_iadd xa (1 : Int32); have := rng32 (xa + (1 : Int32)); have : (1 : Int32).toInt = 1 := rfl; have : (-1 : Int32).toInt = -1 := rfl; omega
 have : ((xa + (1 : Int32)) + y).toInt = xa.toInt + 1 + y.toInt := by have := c_iadd (xa + (1 : Int32)) y; have := rng32 ((xa + (1 : Int32)) + y); have : (1 : Int32).toInt = 1 := rfl; have : (-1 : Int32).toInt = -1 := rfl; omega
 have : (((xa + (1 : Int32)) + y) - (1 : Int32)).toInt = xa.toInt + y.toInt := by have := c_isub ((xa + (1 : Int32)) + y) (1 : Int32); have := rng32 (((xa + (1 : Int32)) + y) - (1 : Int32)); have : (1 : Int32).toInt = 1 := rfl; have : (-1 : Int32).toInt = -1 := rfl; omega
 simp only [Int32.lt_iff_toInt_lt] at *
 have : (0 : Int32).toInt = 0 := rfl
 refine ⟨?_, ?_⟩ <;> omega
theorem own_p3 {xa xn xz : Int32} (q : xa.toInt ≥ 0 ∧ xa.toInt + (F_rm_dig xn).toInt + 3 ≤ xz.toInt ∧ xz.toInt ≤ 1000) : ¬ ((xa + (1 : Int32)) + (F_rm_dig xn)) < 0 ∧ ((xa + (1 : Int32)) + (F_rm_dig xn)) < xz := by
 obtain ⟨q1, q2, q3⟩ := q
 have q4 := own_d12 xn
 generalize F_rm_dig xn = y at *
 have : (xa + (1 : Int32)).toInt = xa.toInt + 1 := by have := c_iadd xa (1 : Int32); have := rng32 (xa + (1 : Int32)); have : (1 : Int32).toInt = 1 := rfl; have : (-1 : Int32).toInt = -1 := rfl; omega
 have : ((xa + (1 : Int32)) + y).toInt = xa.toInt + 1 + y.toInt := by have := c_iadd (xa + (1 : Int32)) y; have := rng32 ((xa + (1 : Int32)) + y); have : (1 : Int32).toInt = 1 := rfl; have : (-1 : Int32).toInt = -1 := rfl; omega
 simp only [Int32.lt_iff_toInt_lt] at *
 have : (0 : Int32).toInt = 0 := rfl
 refine ⟨?_, ?_⟩ <;> omega
theorem own_p4 {xa xn xz : Int32} (q : xa.toInt ≥ 0 ∧ xa.toInt + (F_rm_dig xn).toInt + 3 ≤ xz.toInt ∧ xz.toInt ≤ 1000) : ¬ (((xa + (1 : Int32)) + (F_rm_dig xn)) + (1 : Int32)) < 0 ∧ (((xa + (1 : Int32)) + (F_rm_dig xn)) + (1 : Int32)) < xz := by
 obtain ⟨q1, q2, q3⟩ := q
 have q4 := own_d12 xn
 generalize F_rm_dig xn = y at *
 have : (xa + (1 : Int32)).toInt = xa.toInt + 1 := by have := c_iadd xa (1 : Int32); have := rng32 (xa + (1 : Int32)); have : (1 : Int32).toInt = 1 := rfl; have : (-1 : Int32).toInt = -1 := rfl; omega
 have : ((xa + (1 : Int32)) + y).toInt = xa.toInt + 1 + y.toInt := by have := c_iadd (xa + (1 : Int32)) y; have := rng32 ((xa + (1 : Int32)) + y); have : (1 : Int32).toInt = 1 := rfl; have : (-1 : Int32).toInt = -1 := rfl; omega
 have : (((xa + (1 : Int32)) + y) + (1 : Int32)).toInt = xa.toInt + 2 + y.toInt := by have := c_iadd ((xa + (1 : Int32)) + y) (1 : Int32); have := rng32 (((xa + (1 : Int32)) + y) + (1 : Int32)); have : (1 : Int32).toInt = 1 := rfl; have : (-1 : Int32).toInt = -1 := rfl; omega
 simp only [Int32.lt_iff_toInt_lt] at *
 have : (0 : Int32).toInt = 0 := rfl
 refine ⟨?_, ?_⟩ <;> omega
theorem own_p2 {xa xn xz : Int32} (q : xa.toInt ≥ 0 ∧ xa.toInt + (F_rm_dig xn).toInt + 3 ≤ xz.toInt ∧ xz.toInt ≤ 1000) (c : xa < ((((xa + (1 : Int32)) + (F_rm_dig xn)) - (1 : Int32)) + (-1 : Int32))) : ¬ ((((xa + (1 : Int32)) + (F_rm_dig xn)) - (1 : Int32)) + (-1 : Int32)) < 0 ∧ ((((xa + (1 : Int32)) + (F_rm_dig xn)) - (1 : Int32)) + (-1 : Int32)) < xz := by
 obtain ⟨q1, q2, q3⟩ := q
 have q4 := own_d12 xn
 generalize F_rm_dig xn = y at *
 have : (xa + (1 : Int32)).toInt = xa.toInt + 1 := by have := c_iadd xa (1 : Int32); have := rng32 (xa + (1 : Int32)); have : (1 : Int32).toInt = 1 := rfl; have : (-1 : Int32).toInt = -1 := rfl; omega
 have : ((xa + (1 : Int32)) + y).toInt = xa.toInt + 1 + y.toInt := by have := c_iadd (xa + (1 : Int32)) y; have := rng32 ((xa + (1 : Int32)) + y); have : (1 : Int32).toInt = 1 := rfl; have : (-1 : Int32).toInt = -1 := rfl; omega
 have : (((xa + (1 : Int32)) + y) - (1 : Int32)).toInt = xa.toInt + y.toInt := by have := c_isub ((xa + (1 : Int32)) + y) (1 : Int32); have := rng32 (((xa + (1 : Int32)) + y) - (1 : Int32)); have : (1 : Int32).toInt = 1 := rfl; have : (-1 : Int32).toInt = -1 := rfl; omega
 have : ((((xa + (1 : Int32)) + y) - (1 : Int32)) + (-1 : Int32)).toInt = xa.toInt + y.toInt - 1 := by have := c_iadd (((xa + (1 : Int32)) + y) - (1 : Int32)) (-1 : Int32); have := rng32 ((((xa + (1 : Int32)) + y) - (1 : Int32)) + (-1 : Int32)); have : (1 : Int32).toInt = 1 := rfl; have : (-1 : Int32).toInt = -1 := rfl; omega
 simp only [Int32.lt_iff_toInt_lt] at *
 have : (0 : Int32).toInt = 0 := rfl
 refine ⟨?_, ?_⟩ <;> omega
theorem own_t1 {xa xn xz : Int32} (q : xa.toInt ≥ 0 ∧ xa.toInt + (F_rm_dig xn).toInt + 3 ≤ xz.toInt ∧ xz.toInt ≤ 1000) : xa < (((xa + (1 : Int32)) + (F_rm_dig xn)) - (1 : Int32)) := by
 obtain ⟨q1, q2, q3⟩ := q
 have q4 := own_d12 xn
 generalize F_rm_dig xn = y at *
 have : (xa + (1 : Int32)).toInt = xa.toInt + 1 := by have := c_iadd xa (1 : Int32); have := rng32 (xa + (1 : Int32)); have : (1 : Int32).toInt = 1 := rfl; have : (-1 : Int32).toInt = -1 := rfl; omega
 have : ((xa + (1 : Int32)) + y).toInt = xa.toInt + 1 + y.toInt := by have := c_iadd (xa + (1 : Int32)) y; have := rng32 ((xa + (1 : Int32)) + y); have : (1 : Int32).toInt = 1 := rfl; have : (-1 : Int32).toInt = -1 := rfl; omega
 have : (((xa + (1 : Int32)) + y) - (1 : Int32)).toInt = xa.toInt + y.toInt := by have := c_isub ((xa + (1 : Int32)) + y) (1 : Int32); have := rng32 (((xa + (1 : Int32)) + y) - (1 : Int32)); have : (1 : Int32).toInt = 1 := rfl; have : (-1 : Int32).toInt = -1 := rfl; omega
 simp only [Int32.lt_iff_toInt_lt] at *
 have : (0 : Int32).toInt = 0 := rfl
 omega
theorem own_t3 {xa xn xz : Int32} (q : xa.toInt ≥ 0 ∧ xa.toInt + (F_rm_dig xn).toInt + 3 ≤ xz.toInt ∧ xz.toInt ≤ 1000) : ¬ (xa < (((((xa + (1 : Int32)) + (F_rm_dig xn)) - (1 : Int32)) + (-1 : Int32)) + (-1 : Int32))) := by
 obtain ⟨q1, q2, q3⟩ := q
 have q4 := own_d12 xn
 generalize F_rm_dig xn = y at *
 have : (xa + (1 : Int32)).toInt = xa.toInt + 1 := by have := c_iadd xa (1 : Int32); have := rng32 (xa + (1 : Int32)); have : (1 : Int32).toInt = 1 := rfl; have : (-1 : Int32).toInt = -1 := rfl; omega
 have : ((xa + (1 : Int32)) + y).toInt = xa.toInt + 1 + y.toInt := by have := c_iadd (xa + (1 : Int32)) y; have := rng32 ((xa + (1 : Int32)) + y); have : (1 : Int32).toInt = 1 := rfl; have : (-1 : Int32).toInt = -1 := rfl; omega
 have : (((xa + (1 : Int32)) + y) - (1 : Int32)).toInt = xa.toInt + y.toInt := by have := c_isub ((xa + (1 : Int32)) + y) (1 : Int32); have := rng32 (((xa + (1 : Int32)) + y) - (1 : Int32)); have : (1 : Int32).toInt = 1 := rfl; have : (-1 : Int32).toInt = -1 := rfl; omega
 have : ((((xa + (1 : Int32)) + y) - (1 : Int32)) + (-1 : Int32)).toInt = xa.toInt + y.toInt - 1 := by have := c_iadd (((xa + (1 : Int32)) + y) - (1 : Int32)) (-1 : Int32); have := rng32 ((((xa + (1 : Int32)) + y) - (1 : Int32)) + (-1 : Int32)); have : (1 : Int32).toInt = 1 := rfl; have : (-1 : Int32).toInt = -1 := rfl; omega
 have : (((((xa + (1 : Int32)) + y) - (1 : Int32)) + (-1 : Int32)) + (-1 : Int32)).toInt = xa.toInt + y.toInt - 2 := by have := c_iadd ((((xa + (1 : Int32)) + y) - (1 : Int32)) + (-1 : Int32)) (-1 : Int32); have := rng32 (((((xa + (1 : Int32)) + y) - (1 : Int32)) + (-1 : Int32)) + (-1 : Int32)); have : (1 : Int32).toInt = 1 := rfl; have : (-1 : Int32).toInt = -1 := rfl; omega
 simp only [Int32.lt_iff_toInt_lt] at *
 have : (0 : Int32).toInt = 0 := rfl
 omega
def own_ph (l1 : List Int32) (xa xk xn : Int32) : List Int32 := if xa < ((((xa + (1 : Int32)) + (F_rm_dig xn)) - (1 : Int32)) + (-1 : Int32)) then (((((l1.set (xa).toNatClampNeg (nar .byte (xk.toInt8.toInt32))).set ((((xa + (1 : Int32)) + (F_rm_dig xn)) - (1 : Int32))).toNatClampNeg (nar .byte (((48 : Int32) + (xn % (10 : Int32))).toInt8.toInt32))).set (((((xa + (1 : Int32)) + (F_rm_dig xn)) - (1 : Int32)) + (-1 : Int32))).toNatClampNeg (nar .byte (((48 : Int32) + ((xn / (10 : Int32)) % (10 : Int32))).toInt8.toInt32))).set (((xa + (1 : Int32)) + (F_rm_dig xn))).toNatClampNeg (nar .byte (13 : Int32))).set ((((xa + (1 : Int32)) + (F_rm_dig xn)) + (1 : Int32))).toNatClampNeg (nar .byte (10 : Int32))) else ((((l1.set (xa).toNatClampNeg (nar .byte (xk.toInt8.toInt32))).set ((((xa + (1 : Int32)) + (F_rm_dig xn)) - (1 : Int32))).toNatClampNeg (nar .byte (((48 : Int32) + (xn % (10 : Int32))).toInt8.toInt32))).set (((xa + (1 : Int32)) + (F_rm_dig xn))).toNatClampNeg (nar .byte (13 : Int32))).set ((((xa + (1 : Int32)) + (F_rm_dig xn)) + (1 : Int32))).toNatClampNeg (nar .byte (10 : Int32)))
theorem ef_rm_ph (m : MethodId) (ra : Addr) (xa : Int32) (xk : Int32) (xn : Int32) : entryFrame m #[(.ref ra), (.int xa), (.int xk), (.int xn)] 7 = mkF m 0 #[vR ra, vI xa, vI xk, vI xn, vU, vU, vU] [] := by simp [entryFrame, mkF, argsToLocals, Value.category]
def Q_rm_ph (Z : State) (ra : Addr) (xa : Int32) (xk : Int32) (xn : Int32) (wc : Addr) (kc : ClassId) (xr0 : Int32) (xr1 : Int32) (ka : ClassId) (xz : Int32) (l1 : List Int32) (h0 : Heap) (n0 : Nat) (v : Option Value) (h : Heap) (L : List Loc) : Prop := v = some (.int (((xa + (1 : Int32)) + (F_rm_dig xn)) + (2 : Int32))) ∧ Fr n0 L ∧ Keep h0 h [ra] ∧ Arv Z h ra ka .byte xz ((own_ph l1 xa xk xn).map Value.int) (.int 0)
set_option maxRecDepth 65536 in
set_option maxHeartbeats 40000000 in
theorem rm_ph (l : Launch) (Z : State) (a0 : Array Value) (hw : ∀ d ∈ tables_1, d.before a0 Z = true) (ws : List Jvm.Cond) (ra : Addr) (xa : Int32) (xk : Int32) (xn : Int32) (wc : Addr) (kc : ClassId) (xr0 : Int32) (xr1 : Int32) (ka : ClassId) (xz : Int32) (l1 : List Int32) (h0 : Heap) (n0 : Nat) (Z0 : n0 ≤ h0.size) (SR : Sta Z h0 oS1 "CRLF" "[B" (.ref wc)) (VR : Arv Z h0 wc kc .byte (2 : Int32) [(.int xr0), (.int xr1)] (.int 0)) (hq : 0 ≤ xn.toInt ∧ xn.toInt ≤ 99) (VA : Arv Z h0 ra ka .byte xz (l1.map Value.int) (.int 0)) (g_ra : n0 ≤ ra) (hl : l1.length = xz.toNatClampNeg) (hr : xa.toInt ≥ 0 ∧ xa.toInt + (F_rm_dig xn).toInt + 3 ≤ xz.toInt ∧ xz.toInt ≤ 1000) (hne : wc ≠ ra) :
  oMet l (⟨oS1, "putHeader", "([BICI)I"⟩ : MethodName) prog_10_method_17_code 7 (some .int) ws (oR 1 0 0 15) #[(.ref ra), (.int xa), (.int xk), (.int xn)] Z h0 (Q_rm_ph Z ra xa xk xn wc kc xr0 xr1 ka xz l1 h0 n0) := by
 refine MetFree.of_bodySF (plainFor_of_name pn3) hisR ?_
 have W := own_W hw
 intro p e s m args bw meth c s₁ Bd hml0 hP hK
 obtain ⟨rfl, hZ, hh⟩ := hP
 have hx := Bd.exec
 have hby := Bd.bytes
 have hml : c.maxLocals = 7 := hml0
 have hown : s.vm.findClass oS1 = some m.cls := findClass_of_methodNamed Bd.named
 have hnm := (name_of_methodNamed Bd.named Bd.method).1
 have X0 : Stand p l e (oR 1 0 0 15) s m #[(.ref ra), (.int xa), (.int xk), (.int xn)] bw meth c s₁ [] 0 0 := Stand.of_body Bd
 have e0 : s₁.heap = h0 := by rw [← hh, Bd.state]; rfl
 have N0 := Fr.nil n0
 have D := own_D hby dB20
 obtain ⟨G, hG⟩ := own_ex fun t => Steps p.tables e bw (s₁.setTop (entryFrame m #[(.ref ra), (.int xa), (.int xk), (.int xn)] 7)) t
 have pre0 : oP p e bw G s₁ m 0 #[vR ra, vI xa, vI xk, vI xn, vU, vU, vU] [] := by intro t k; subst hG; exact castTop (ef_rm_ph m ra xa xk xn) k
 have pre1 : oP p e bw G s₁ m 4 #[vR ra, vI xa, vI xk, vI xn, vU, vU, vU] [(.int xn), (.int (xa + (1 : Int32)))] := by
  intro t k
  refine pre0 t ?_
  refine XS.iloadN X0.here hx rfl (D 0 rfl) rfl ?_
  refine XS.iconst X0.here hx rfl (D 1 rfl) ?_
  refine XS.iadd X0.here hx rfl (D 2 rfl) rfl ?_
  refine XS.iloadN X0.here hx rfl (D 3 rfl) rfl ?_
  exact k
 obtain ⟨_, T2, Lc2, X2, hQ2, pc2⟩ := own_call X0 hx hZ hown (W 87 rfl) (W 88 rfl) (W 49 rfl) (W 89 rfl) (by decide) (rm_dig l Z a0 hw [] xn h0 n0 Z0 (hq)) e0 pre1 hml rfl (D 4 rfl) (lenOf pd7 rfl) rfl (W := 1) rfl (by decide)
 obtain ⟨rfl, M2, e2⟩ := hQ2
 have N2 := Fr.app N0 M2
 have pre3 : oP p e bw G T2 m 14 #[vR ra, vI xa, vI xk, vI xn, vI ((xa + (1 : Int32)) + (F_rm_dig xn)), vU, vU] [(.int (xk.toInt8.toInt32)), (.int xa), (.ref ra)] := by
  intro t k
  refine pc2 t ?_
  refine XS.iadd X2.here hx rfl (D 5 rfl) rfl ?_
  refine XS.istore X2.here hx rfl (D 6 rfl) rfl (l' := #[vR ra, vI xa, vI xk, vI xn, vI ((xa + (1 : Int32)) + (F_rm_dig xn)), vU, vU]) rfl ?_
  refine XS.aloadN X2.here hx rfl (D 7 rfl) rfl rfl ?_
  refine XS.iloadN X2.here hx rfl (D 8 rfl) rfl ?_
  refine XS.iloadN X2.here hx rfl (D 9 rfl) rfl ?_
  refine XS.i2b X2.here hx rfl (D 10 rfl) rfl ?_
  exact k
 obtain ⟨c4, a4, q4, s4, m4, i4, u4⟩ := id VA
 obtain ⟨T5, h5, X5, e5, W5, st5⟩ := stB X2 hx hZ e2 a4 (j := xa) (inb_of s4 (own_p0 hr)) (g := (own_g pre3)) rfl rfl (D 11 rfl)
 have K5 : Keep h0 h5 [ra] := (Keep.refl h0 [ra]).wr W5 (Or.inl (by simp))
 have z5 : n0 ≤ h5.size := Nat.le_trans Z0 K5.1
 have N5 := Fr.snoc X5 N2 g_ra
 have V5 : Arv Z h5 ra ka .byte xz ((l1.set (xa).toNatClampNeg (nar .byte (xk.toInt8.toInt32))).map Value.int) (.int 0) := own_setA (Arv.set a4 q4 s4 m4 i4 u4 (fits_nar_byte _) W5 _ rfl (own_in (by first | exact hl | (simp only [List.length_set]; exact hl)) (own_p0 hr)))
 have pre6 : oP p e bw G T5 m 42 #[vR ra, vI xa, vI xk, vI xn, vI ((xa + (1 : Int32)) + (F_rm_dig xn)), vI xn, vI (((xa + (1 : Int32)) + (F_rm_dig xn)) - (1 : Int32))] [(.int (((48 : Int32) + (xn % (10 : Int32))).toInt8.toInt32)), (.int (((xa + (1 : Int32)) + (F_rm_dig xn)) - (1 : Int32))), (.ref ra)] := by
  intro t k
  refine pre3 t (st5 t ?_)
  refine XS.iloadN X5.here hx rfl (D 12 rfl) rfl ?_
  refine XS.istore X5.here hx rfl (D 13 rfl) rfl (l' := #[vR ra, vI xa, vI xk, vI xn, vI ((xa + (1 : Int32)) + (F_rm_dig xn)), vI xn, vU]) rfl ?_
  refine XS.iload X5.here hx rfl (D 14 rfl) rfl ?_
  refine XS.iconst X5.here hx rfl (D 15 rfl) ?_
  refine XS.isub X5.here hx rfl (D 16 rfl) rfl ?_
  refine XS.istore X5.here hx rfl (D 17 rfl) rfl (l' := #[vR ra, vI xa, vI xk, vI xn, vI ((xa + (1 : Int32)) + (F_rm_dig xn)), vI xn, vI (((xa + (1 : Int32)) + (F_rm_dig xn)) - (1 : Int32))]) rfl ?_
  refine XS.iload X5.here hx rfl (D 18 rfl) rfl ?_
  refine XS.iloadN X5.here hx rfl (D 19 rfl) rfl ?_
  refine XS.icmpNo X5.here hx rfl (D 20 rfl) rfl (tlt (show xa < (((xa + (1 : Int32)) + (F_rm_dig xn)) - (1 : Int32)) from own_t1 hr)).2.2.2 ?_
  refine XS.aloadN X5.here hx rfl (D 21 rfl) rfl rfl ?_
  refine XS.iload X5.here hx rfl (D 22 rfl) rfl ?_
  refine XS.bipush X5.here hx rfl (D 23 rfl) ?_
  refine XS.iload X5.here hx rfl (D 24 rfl) rfl ?_
  refine XS.bipush X5.here hx rfl (D 25 rfl) ?_
  refine iremM X5 hx rfl (D 26 rfl) rfl (by decide) ?_
  refine XS.iadd X5.here hx rfl (D 27 rfl) rfl ?_
  refine XS.i2b X5.here hx rfl (D 28 rfl) rfl ?_
  exact k
 obtain ⟨c7, a7, q7, s7, m7, i7, u7⟩ := id V5
 obtain ⟨T8, h8, X8, e8, W8, st8⟩ := stB X5 hx hZ e5 a7 (j := (((xa + (1 : Int32)) + (F_rm_dig xn)) - (1 : Int32))) (inb_of s7 (own_p1 hr)) (g := (own_g pre6)) rfl rfl (D 29 rfl)
 have K8 : Keep h0 h8 [ra] := K5.wr W8 (Or.inl (by simp))
 have z8 : n0 ≤ h8.size := Nat.le_trans Z0 K8.1
 have N8 := Fr.snoc X8 N5 g_ra
 have V8 : Arv Z h8 ra ka .byte xz (((l1.set (xa).toNatClampNeg (nar .byte (xk.toInt8.toInt32))).set ((((xa + (1 : Int32)) + (F_rm_dig xn)) - (1 : Int32))).toNatClampNeg (nar .byte (((48 : Int32) + (xn % (10 : Int32))).toInt8.toInt32))).map Value.int) (.int 0) := own_setA (Arv.set a7 q7 s7 m7 i7 u7 (fits_nar_byte _) W8 _ rfl (own_in (by first | exact hl | (simp only [List.length_set]; exact hl)) (own_p1 hr)))
 have pre9 : oP p e bw G T8 m 27 #[vR ra, vI xa, vI xk, vI xn, vI ((xa + (1 : Int32)) + (F_rm_dig xn)), vI (xn / (10 : Int32)), vI ((((xa + (1 : Int32)) + (F_rm_dig xn)) - (1 : Int32)) + (-1 : Int32))] [(.int xa), (.int ((((xa + (1 : Int32)) + (F_rm_dig xn)) - (1 : Int32)) + (-1 : Int32)))] := by
  intro t k
  refine pre6 t (st8 t ?_)
  refine XS.iload X8.here hx rfl (D 30 rfl) rfl ?_
  refine XS.bipush X8.here hx rfl (D 31 rfl) ?_
  refine XS.idiv X8.here hx rfl (D 32 rfl) rfl (by decide) ?_
  refine XS.istore X8.here hx rfl (D 33 rfl) rfl (l' := #[vR ra, vI xa, vI xk, vI xn, vI ((xa + (1 : Int32)) + (F_rm_dig xn)), vI (xn / (10 : Int32)), vI (((xa + (1 : Int32)) + (F_rm_dig xn)) - (1 : Int32))]) rfl ?_
  refine XS.iinc X8.here hx rfl (D 34 rfl) rfl (l' := #[vR ra, vI xa, vI xk, vI xn, vI ((xa + (1 : Int32)) + (F_rm_dig xn)), vI (xn / (10 : Int32)), vI ((((xa + (1 : Int32)) + (F_rm_dig xn)) - (1 : Int32)) + (-1 : Int32))]) rfl ?_
  refine XS.goto X8.here hx rfl (pc0 := 53) (pc' := 24) rfl (D 35 rfl) (by decide) (by decide) ?_
  refine XS.iload X8.here hx rfl (D 18 rfl) rfl ?_
  refine XS.iloadN X8.here hx rfl (D 19 rfl) rfl ?_
  exact k
 by_cases hc27_2 : xa < ((((xa + (1 : Int32)) + (F_rm_dig xn)) - (1 : Int32)) + (-1 : Int32))
 ·have pre10 : oP p e bw G T8 m 42 #[vR ra, vI xa, vI xk, vI xn, vI ((xa + (1 : Int32)) + (F_rm_dig xn)), vI (xn / (10 : Int32)), vI ((((xa + (1 : Int32)) + (F_rm_dig xn)) - (1 : Int32)) + (-1 : Int32))] [(.int (((48 : Int32) + ((xn / (10 : Int32)) % (10 : Int32))).toInt8.toInt32)), (.int ((((xa + (1 : Int32)) + (F_rm_dig xn)) - (1 : Int32)) + (-1 : Int32))), (.ref ra)] := by
   intro t k
   refine pre9 t ?_
   refine XS.icmpNo X8.here hx rfl (D 20 rfl) rfl (tlt hc27_2).2.2.2 ?_
   refine XS.aloadN X8.here hx rfl (D 21 rfl) rfl rfl ?_
   refine XS.iload X8.here hx rfl (D 22 rfl) rfl ?_
   refine XS.bipush X8.here hx rfl (D 23 rfl) ?_
   refine XS.iload X8.here hx rfl (D 24 rfl) rfl ?_
   refine XS.bipush X8.here hx rfl (D 25 rfl) ?_
   refine iremM X8 hx rfl (D 26 rfl) rfl (by decide) ?_
   refine XS.iadd X8.here hx rfl (D 27 rfl) rfl ?_
   refine XS.i2b X8.here hx rfl (D 28 rfl) rfl ?_
   exact k
  obtain ⟨c11, a11, q11, s11, m11, i11, u11⟩ := id V8
  obtain ⟨T12, h12, X12, e12, W12, st12⟩ := stB X8 hx hZ e8 a11 (j := ((((xa + (1 : Int32)) + (F_rm_dig xn)) - (1 : Int32)) + (-1 : Int32))) (inb_of s11 (own_p2 hr hc27_2)) (g := (own_g pre10)) rfl rfl (D 29 rfl)
  have K12 : Keep h0 h12 [ra] := K8.wr W12 (Or.inl (by simp))
  have z12 : n0 ≤ h12.size := Nat.le_trans Z0 K12.1
  have N12 := Fr.snoc X12 N8 g_ra
  have V12 : Arv Z h12 ra ka .byte xz ((((l1.set (xa).toNatClampNeg (nar .byte (xk.toInt8.toInt32))).set ((((xa + (1 : Int32)) + (F_rm_dig xn)) - (1 : Int32))).toNatClampNeg (nar .byte (((48 : Int32) + (xn % (10 : Int32))).toInt8.toInt32))).set (((((xa + (1 : Int32)) + (F_rm_dig xn)) - (1 : Int32)) + (-1 : Int32))).toNatClampNeg (nar .byte (((48 : Int32) + ((xn / (10 : Int32)) % (10 : Int32))).toInt8.toInt32))).map Value.int) (.int 0) := own_setA (Arv.set a11 q11 s11 m11 i11 u11 (fits_nar_byte _) W12 _ rfl (own_in (by first | exact hl | (simp only [List.length_set]; exact hl)) (own_p2 hr hc27_2)))
  have pre13 : oP p e bw G T12 m 61 #[vR ra, vI xa, vI xk, vI xn, vI ((xa + (1 : Int32)) + (F_rm_dig xn)), vI ((xn / (10 : Int32)) / (10 : Int32)), vI (((((xa + (1 : Int32)) + (F_rm_dig xn)) - (1 : Int32)) + (-1 : Int32)) + (-1 : Int32))] [(.int 13), (.int ((xa + (1 : Int32)) + (F_rm_dig xn))), (.ref ra)] := by
   intro t k
   refine pre10 t (st12 t ?_)
   refine XS.iload X12.here hx rfl (D 30 rfl) rfl ?_
   refine XS.bipush X12.here hx rfl (D 31 rfl) ?_
   refine XS.idiv X12.here hx rfl (D 32 rfl) rfl (by decide) ?_
   refine XS.istore X12.here hx rfl (D 33 rfl) rfl (l' := #[vR ra, vI xa, vI xk, vI xn, vI ((xa + (1 : Int32)) + (F_rm_dig xn)), vI ((xn / (10 : Int32)) / (10 : Int32)), vI ((((xa + (1 : Int32)) + (F_rm_dig xn)) - (1 : Int32)) + (-1 : Int32))]) rfl ?_
   refine XS.iinc X12.here hx rfl (D 34 rfl) rfl (l' := #[vR ra, vI xa, vI xk, vI xn, vI ((xa + (1 : Int32)) + (F_rm_dig xn)), vI ((xn / (10 : Int32)) / (10 : Int32)), vI (((((xa + (1 : Int32)) + (F_rm_dig xn)) - (1 : Int32)) + (-1 : Int32)) + (-1 : Int32))]) rfl ?_
   refine XS.goto X12.here hx rfl (pc0 := 53) (pc' := 24) rfl (D 35 rfl) (by decide) (by decide) ?_
   refine XS.iload X12.here hx rfl (D 18 rfl) rfl ?_
   refine XS.iloadN X12.here hx rfl (D 19 rfl) rfl ?_
   refine XS.icmpYes X12.here hx rfl (pc0 := 27) (pc' := 56) rfl (D 20 rfl) rfl (flt (show ¬ (xa < (((((xa + (1 : Int32)) + (F_rm_dig xn)) - (1 : Int32)) + (-1 : Int32)) + (-1 : Int32))) from own_t3 hr)).2.2.2 (by decide) (by decide) ?_
   refine XS.aloadN X12.here hx rfl (D 36 rfl) rfl rfl ?_
   refine XS.iload X12.here hx rfl (D 37 rfl) rfl ?_
   refine XS.bipush X12.here hx rfl (D 38 rfl) ?_
   exact k
  obtain ⟨c14, a14, q14, s14, m14, i14, u14⟩ := id V12
  obtain ⟨T15, h15, X15, e15, W15, st15⟩ := stB X12 hx hZ e12 a14 (j := ((xa + (1 : Int32)) + (F_rm_dig xn))) (inb_of s14 (own_p3 hr)) (g := (own_g pre13)) rfl rfl (D 39 rfl)
  have K15 : Keep h0 h15 [ra] := K12.wr W15 (Or.inl (by simp))
  have z15 : n0 ≤ h15.size := Nat.le_trans Z0 K15.1
  have N15 := Fr.snoc X15 N12 g_ra
  have V15 : Arv Z h15 ra ka .byte xz (((((l1.set (xa).toNatClampNeg (nar .byte (xk.toInt8.toInt32))).set ((((xa + (1 : Int32)) + (F_rm_dig xn)) - (1 : Int32))).toNatClampNeg (nar .byte (((48 : Int32) + (xn % (10 : Int32))).toInt8.toInt32))).set (((((xa + (1 : Int32)) + (F_rm_dig xn)) - (1 : Int32)) + (-1 : Int32))).toNatClampNeg (nar .byte (((48 : Int32) + ((xn / (10 : Int32)) % (10 : Int32))).toInt8.toInt32))).set (((xa + (1 : Int32)) + (F_rm_dig xn))).toNatClampNeg (nar .byte (13 : Int32))).map Value.int) (.int 0) := own_setA (Arv.set a14 q14 s14 m14 i14 u14 (fits_nar_byte _) W15 _ rfl (own_in (by first | exact hl | (simp only [List.length_set]; exact hl)) (own_p3 hr)))
  have pre16 : oP p e bw G T15 m 69 #[vR ra, vI xa, vI xk, vI xn, vI ((xa + (1 : Int32)) + (F_rm_dig xn)), vI ((xn / (10 : Int32)) / (10 : Int32)), vI (((((xa + (1 : Int32)) + (F_rm_dig xn)) - (1 : Int32)) + (-1 : Int32)) + (-1 : Int32))] [(.int 10), (.int (((xa + (1 : Int32)) + (F_rm_dig xn)) + (1 : Int32))), (.ref ra)] := by
   intro t k
   refine pre13 t (st15 t ?_)
   refine XS.aloadN X15.here hx rfl (D 40 rfl) rfl rfl ?_
   refine XS.iload X15.here hx rfl (D 41 rfl) rfl ?_
   refine XS.iconst X15.here hx rfl (D 42 rfl) ?_
   refine XS.iadd X15.here hx rfl (D 43 rfl) rfl ?_
   refine XS.bipush X15.here hx rfl (D 44 rfl) ?_
   exact k
  obtain ⟨c17, a17, q17, s17, m17, i17, u17⟩ := id V15
  obtain ⟨T18, h18, X18, e18, W18, st18⟩ := stB X15 hx hZ e15 a17 (j := (((xa + (1 : Int32)) + (F_rm_dig xn)) + (1 : Int32))) (inb_of s17 (own_p4 hr)) (g := (own_g pre16)) rfl rfl (D 45 rfl)
  have K18 : Keep h0 h18 [ra] := K15.wr W18 (Or.inl (by simp))
  have z18 : n0 ≤ h18.size := Nat.le_trans Z0 K18.1
  have N18 := Fr.snoc X18 N15 g_ra
  have V18 : Arv Z h18 ra ka .byte xz ((((((l1.set (xa).toNatClampNeg (nar .byte (xk.toInt8.toInt32))).set ((((xa + (1 : Int32)) + (F_rm_dig xn)) - (1 : Int32))).toNatClampNeg (nar .byte (((48 : Int32) + (xn % (10 : Int32))).toInt8.toInt32))).set (((((xa + (1 : Int32)) + (F_rm_dig xn)) - (1 : Int32)) + (-1 : Int32))).toNatClampNeg (nar .byte (((48 : Int32) + ((xn / (10 : Int32)) % (10 : Int32))).toInt8.toInt32))).set (((xa + (1 : Int32)) + (F_rm_dig xn))).toNatClampNeg (nar .byte (13 : Int32))).set ((((xa + (1 : Int32)) + (F_rm_dig xn)) + (1 : Int32))).toNatClampNeg (nar .byte (10 : Int32))).map Value.int) (.int 0) := own_setA (Arv.set a17 q17 s17 m17 i17 u17 (fits_nar_byte _) W18 _ rfl (own_in (by first | exact hl | (simp only [List.length_set]; exact hl)) (own_p4 hr)))
  have pre19 : oP p e bw G T18 m 72 #[vR ra, vI xa, vI xk, vI xn, vI ((xa + (1 : Int32)) + (F_rm_dig xn)), vI ((xn / (10 : Int32)) / (10 : Int32)), vI (((((xa + (1 : Int32)) + (F_rm_dig xn)) - (1 : Int32)) + (-1 : Int32)) + (-1 : Int32))] [(.int ((xa + (1 : Int32)) + (F_rm_dig xn)))] := by
   intro t k
   refine pre16 t (st18 t ?_)
   refine XS.iload X18.here hx rfl (D 46 rfl) rfl ?_
   exact k
  have f20 := (((((SR.wr W5).wr W8).wr W12).wr W15).wr W18)
  obtain ⟨T21, X21, e21, st21⟩ := getS2 X18 hx hZ hown (host := "") (Or.inl (W 90 rfl)) Via.refl e18 f20 (g := (own_g pre19)) rfl (D 47 rfl)
  have pre22 : oP p e bw G T21 m 75 #[vR ra, vI xa, vI xk, vI xn, vI ((xa + (1 : Int32)) + (F_rm_dig xn)), vI ((xn / (10 : Int32)) / (10 : Int32)), vI (((((xa + (1 : Int32)) + (F_rm_dig xn)) - (1 : Int32)) + (-1 : Int32)) + (-1 : Int32))] [(.ref wc), (.int ((xa + (1 : Int32)) + (F_rm_dig xn)))] := fun t k => pre19 t (st21 t k)
  have pre24 : oP p e bw G T21 m 77 #[vR ra, vI xa, vI xk, vI xn, vI ((xa + (1 : Int32)) + (F_rm_dig xn)), vI ((xn / (10 : Int32)) / (10 : Int32)), vI (((((xa + (1 : Int32)) + (F_rm_dig xn)) - (1 : Int32)) + (-1 : Int32)) + (-1 : Int32))] [(.int (((xa + (1 : Int32)) + (F_rm_dig xn)) + (2 : Int32)))] := by
   intro t k
   refine pre22 t ?_
   obtain ⟨c23, a23, q23, s23, m23, i23, u23⟩ := id (((((VR.other W5 hne).other W8 hne).other W12 hne).other W15 hne).other W18 hne)
   refine X21.arraylength hx (by rw [e21]; exact a23.1) (State.isArrayOf_alike hZ.alike a23.2.1) (g := (own_g pre22)) rfl rfl (D 48 rfl) _ ?_
   rw [len_of s23 m23]
   refine XS.iadd X21.here hx rfl (D 49 rfl) rfl ?_
   exact k
  obtain ⟨fs, hr, hrun, hended, hW, hsame⟩ := X21.leave (hlocks := Bd.notSynchronized) (v := some (.int (((xa + (1 : Int32)) + (F_rm_dig xn)) + (2 : Int32)))) (fun h => by rw [Bd.returns] at h; cases h)
  subst hG
  refine ⟨_, _, pre24 _ ?_, hrun, hended, _, _, rfl, ?_, ⟨_, rfl⟩, hW, hsame.mono (by decide) (by decide)⟩
  ·exact retI X21 hx Bd.returns (D 50 rfl) hr
  ·show Q_rm_ph Z ra xa xk xn wc kc xr0 xr1 ka xz l1 h0 n0 _ T21.heap _
   rw [e21]
   exact ⟨rfl, N18, K18, (by rw [own_ph, if_pos hc27_2]; exact V18)⟩
 ·have pre25 : oP p e bw G T8 m 61 #[vR ra, vI xa, vI xk, vI xn, vI ((xa + (1 : Int32)) + (F_rm_dig xn)), vI (xn / (10 : Int32)), vI ((((xa + (1 : Int32)) + (F_rm_dig xn)) - (1 : Int32)) + (-1 : Int32))] [(.int 13), (.int ((xa + (1 : Int32)) + (F_rm_dig xn))), (.ref ra)] := by
   intro t k
   refine pre9 t ?_
   refine XS.icmpYes X8.here hx rfl (pc0 := 27) (pc' := 56) rfl (D 20 rfl) rfl (flt hc27_2).2.2.2 (by decide) (by decide) ?_
   refine XS.aloadN X8.here hx rfl (D 36 rfl) rfl rfl ?_
   refine XS.iload X8.here hx rfl (D 37 rfl) rfl ?_
   refine XS.bipush X8.here hx rfl (D 38 rfl) ?_
   exact k
  obtain ⟨c26, a26, q26, s26, m26, i26, u26⟩ := id V8
  obtain ⟨T27, h27, X27, e27, W27, st27⟩ := stB X8 hx hZ e8 a26 (j := ((xa + (1 : Int32)) + (F_rm_dig xn))) (inb_of s26 (own_p3 hr)) (g := (own_g pre25)) rfl rfl (D 39 rfl)
  have K27 : Keep h0 h27 [ra] := K8.wr W27 (Or.inl (by simp))
  have z27 : n0 ≤ h27.size := Nat.le_trans Z0 K27.1
  have N27 := Fr.snoc X27 N8 g_ra
  have V27 : Arv Z h27 ra ka .byte xz ((((l1.set (xa).toNatClampNeg (nar .byte (xk.toInt8.toInt32))).set ((((xa + (1 : Int32)) + (F_rm_dig xn)) - (1 : Int32))).toNatClampNeg (nar .byte (((48 : Int32) + (xn % (10 : Int32))).toInt8.toInt32))).set (((xa + (1 : Int32)) + (F_rm_dig xn))).toNatClampNeg (nar .byte (13 : Int32))).map Value.int) (.int 0) := own_setA (Arv.set a26 q26 s26 m26 i26 u26 (fits_nar_byte _) W27 _ rfl (own_in (by first | exact hl | (simp only [List.length_set]; exact hl)) (own_p3 hr)))
  have pre28 : oP p e bw G T27 m 69 #[vR ra, vI xa, vI xk, vI xn, vI ((xa + (1 : Int32)) + (F_rm_dig xn)), vI (xn / (10 : Int32)), vI ((((xa + (1 : Int32)) + (F_rm_dig xn)) - (1 : Int32)) + (-1 : Int32))] [(.int 10), (.int (((xa + (1 : Int32)) + (F_rm_dig xn)) + (1 : Int32))), (.ref ra)] := by
   intro t k
   refine pre25 t (st27 t ?_)
   refine XS.aloadN X27.here hx rfl (D 40 rfl) rfl rfl ?_
   refine XS.iload X27.here hx rfl (D 41 rfl) rfl ?_
   refine XS.iconst X27.here hx rfl (D 42 rfl) ?_
   refine XS.iadd X27.here hx rfl (D 43 rfl) rfl ?_
   refine XS.bipush X27.here hx rfl (D 44 rfl) ?_
   exact k
  obtain ⟨c29, a29, q29, s29, m29, i29, u29⟩ := id V27
  obtain ⟨T30, h30, X30, e30, W30, st30⟩ := stB X27 hx hZ e27 a29 (j := (((xa + (1 : Int32)) + (F_rm_dig xn)) + (1 : Int32))) (inb_of s29 (own_p4 hr)) (g := (own_g pre28)) rfl rfl (D 45 rfl)
  have K30 : Keep h0 h30 [ra] := K27.wr W30 (Or.inl (by simp))
  have z30 : n0 ≤ h30.size := Nat.le_trans Z0 K30.1
  have N30 := Fr.snoc X30 N27 g_ra
  have V30 : Arv Z h30 ra ka .byte xz (((((l1.set (xa).toNatClampNeg (nar .byte (xk.toInt8.toInt32))).set ((((xa + (1 : Int32)) + (F_rm_dig xn)) - (1 : Int32))).toNatClampNeg (nar .byte (((48 : Int32) + (xn % (10 : Int32))).toInt8.toInt32))).set (((xa + (1 : Int32)) + (F_rm_dig xn))).toNatClampNeg (nar .byte (13 : Int32))).set ((((xa + (1 : Int32)) + (F_rm_dig xn)) + (1 : Int32))).toNatClampNeg (nar .byte (10 : Int32))).map Value.int) (.int 0) := own_setA (Arv.set a29 q29 s29 m29 i29 u29 (fits_nar_byte _) W30 _ rfl (own_in (by first | exact hl | (simp only [List.length_set]; exact hl)) (own_p4 hr)))
  have pre31 : oP p e bw G T30 m 72 #[vR ra, vI xa, vI xk, vI xn, vI ((xa + (1 : Int32)) + (F_rm_dig xn)), vI (xn / (10 : Int32)), vI ((((xa + (1 : Int32)) + (F_rm_dig xn)) - (1 : Int32)) + (-1 : Int32))] [(.int ((xa + (1 : Int32)) + (F_rm_dig xn)))] := by
   intro t k
   refine pre28 t (st30 t ?_)
   refine XS.iload X30.here hx rfl (D 46 rfl) rfl ?_
   exact k
  have f32 := ((((SR.wr W5).wr W8).wr W27).wr W30)
  obtain ⟨T33, X33, e33, st33⟩ := getS2 X30 hx hZ hown (host := "") (Or.inl (W 90 rfl)) Via.refl e30 f32 (g := (own_g pre31)) rfl (D 47 rfl)
  have pre34 : oP p e bw G T33 m 75 #[vR ra, vI xa, vI xk, vI xn, vI ((xa + (1 : Int32)) + (F_rm_dig xn)), vI (xn / (10 : Int32)), vI ((((xa + (1 : Int32)) + (F_rm_dig xn)) - (1 : Int32)) + (-1 : Int32))] [(.ref wc), (.int ((xa + (1 : Int32)) + (F_rm_dig xn)))] := fun t k => pre31 t (st33 t k)
  have pre36 : oP p e bw G T33 m 77 #[vR ra, vI xa, vI xk, vI xn, vI ((xa + (1 : Int32)) + (F_rm_dig xn)), vI (xn / (10 : Int32)), vI ((((xa + (1 : Int32)) + (F_rm_dig xn)) - (1 : Int32)) + (-1 : Int32))] [(.int (((xa + (1 : Int32)) + (F_rm_dig xn)) + (2 : Int32)))] := by
   intro t k
   refine pre34 t ?_
   obtain ⟨c35, a35, q35, s35, m35, i35, u35⟩ := id ((((VR.other W5 hne).other W8 hne).other W27 hne).other W30 hne)
   refine X33.arraylength hx (by rw [e33]; exact a35.1) (State.isArrayOf_alike hZ.alike a35.2.1) (g := (own_g pre34)) rfl rfl (D 48 rfl) _ ?_
   rw [len_of s35 m35]
   refine XS.iadd X33.here hx rfl (D 49 rfl) rfl ?_
   exact k
  obtain ⟨fs, hr, hrun, hended, hW, hsame⟩ := X33.leave (hlocks := Bd.notSynchronized) (v := some (.int (((xa + (1 : Int32)) + (F_rm_dig xn)) + (2 : Int32)))) (fun h => by rw [Bd.returns] at h; cases h)
  subst hG
  refine ⟨_, _, pre36 _ ?_, hrun, hended, _, _, rfl, ?_, ⟨_, rfl⟩, hW, hsame.mono (by decide) (by decide)⟩
  ·exact retI X33 hx Bd.returns (D 50 rfl) hr
  ·show Q_rm_ph Z ra xa xk xn wc kc xr0 xr1 ka xz l1 h0 n0 _ T33.heap _
   rw [e33]
   exact ⟨rfl, N30, K30, (by rw [own_ph, if_neg hc27_2]; exact V30)⟩
def F_rm_bl0 (xr0 : Int32) (xr1 : Int32) : Int32 := (0 : Int32)
theorem ef_rm_bl0 (m : MethodId) (ra : Addr) : entryFrame m #[(.ref ra)] 6 = mkF m 0 #[vR ra, vU, vU, vU, vU, vU] [] := by simp [entryFrame, mkF, argsToLocals, Value.category]
def Q_rm_bl0 (Z : State) (ra : Addr) (wc : Addr) (kc : ClassId) (xr0 : Int32) (xr1 : Int32) (ka : ClassId) (h0 : Heap) (n0 : Nat) (v : Option Value) (h : Heap) (L : List Loc) : Prop := v = some (.int (F_rm_bl0 xr0 xr1)) ∧ Fr n0 L ∧ h = h0
set_option maxRecDepth 65536 in
set_option maxHeartbeats 40000000 in
theorem rm_bl0 (l : Launch) (Z : State) (a0 : Array Value) (hw : ∀ d ∈ tables_1, d.before a0 Z = true) (ws : List Jvm.Cond) (ra : Addr) (wc : Addr) (kc : ClassId) (xr0 : Int32) (xr1 : Int32) (ka : ClassId) (h0 : Heap) (n0 : Nat) (Z0 : n0 ≤ h0.size) (SR : Sta Z h0 oS1 "CRLF" "[B" (.ref wc)) (VR : Arv Z h0 wc kc .byte (2 : Int32) [(.int xr0), (.int xr1)] (.int 0)) (VA : Arv Z h0 ra ka (.array .byte) (0 : Int32) [] .null) :
  oMet l oM7 prog_10_method_14_code 6 (some .int) ws (oR 0 0 0 0) #[(.ref ra)] Z h0 (Q_rm_bl0 Z ra wc kc xr0 xr1 ka h0 n0) := by
 refine MetFree.of_bodySF (plainFor_of_name pn3) hisR ?_
 have W := own_W hw
 intro p e s m args bw meth c s₁ Bd hml0 hP hK
 obtain ⟨rfl, hZ, hh⟩ := hP
 have hx := Bd.exec
 have hby := Bd.bytes
 have hml : c.maxLocals = 6 := hml0
 have hown : s.vm.findClass oS1 = some m.cls := findClass_of_methodNamed Bd.named
 have hnm := (name_of_methodNamed Bd.named Bd.method).1
 have X0 : Stand p l e (oR 0 0 0 0) s m #[(.ref ra)] bw meth c s₁ [] 0 0 := Stand.of_body Bd
 have e0 : s₁.heap = h0 := by rw [← hh, Bd.state]; rfl
 have N0 := Fr.nil n0
 have D := own_D hby dB14
 obtain ⟨G, hG⟩ := own_ex fun t => Steps p.tables e bw (s₁.setTop (entryFrame m #[(.ref ra)] 6)) t
 have pre0 : oP p e bw G s₁ m 0 #[vR ra, vU, vU, vU, vU, vU] [] := by intro t k; subst hG; exact castTop (ef_rm_bl0 m ra) k
 have pre1 : oP p e bw G s₁ m 5 #[vR ra, vI 0, vR ra, vU, vU, vU] [(.ref ra)] := by
  intro t k
  refine pre0 t ?_
  refine XS.iconst X0.here hx rfl (D 0 rfl) ?_
  refine XS.istoreN X0.here hx rfl (D 1 rfl) rfl (l' := #[vR ra, vI 0, vU, vU, vU, vU]) rfl ?_
  refine XS.aloadN X0.here hx rfl (D 2 rfl) rfl rfl ?_
  refine XS.astoreN X0.here hx rfl (D 3 rfl) rfl rfl (l' := #[vR ra, vI 0, vR ra, vU, vU, vU]) rfl ?_
  refine XS.aloadN X0.here hx rfl (D 4 rfl) rfl rfl ?_
  exact k
 have pre3 : oP p e bw G s₁ m 47 #[vR ra, vI 0, vR ra, vI 0, vI 0, vU] [(.int 0)] := by
  intro t k
  refine pre1 t ?_
  obtain ⟨c2, a2, q2, s2, m2, i2, u2⟩ := id VA
  refine X0.arraylength hx (by rw [e0]; exact a2.1) (State.isArrayOf_alike hZ.alike a2.2.1) (g := (own_g pre1)) rfl rfl (D 5 rfl) _ ?_
  rw [len_of s2 m2]
  refine XS.istoreN X0.here hx rfl (D 6 rfl) rfl (l' := #[vR ra, vI 0, vR ra, vI 0, vU, vU]) rfl ?_
  refine XS.iconst X0.here hx rfl (D 7 rfl) ?_
  refine XS.istore X0.here hx rfl (D 8 rfl) rfl (l' := #[vR ra, vI 0, vR ra, vI 0, vI 0, vU]) rfl ?_
  refine XS.iload X0.here hx rfl (D 9 rfl) rfl ?_
  refine XS.iloadN X0.here hx rfl (D 10 rfl) rfl ?_
  refine XS.icmpYes X0.here hx rfl (pc0 := 13) (pc' := 46) rfl (D 11 rfl) rfl (flt (show ¬ ((0 : Int32) < (0 : Int32)) from by decide)).2.1 (by decide) (by decide) ?_
  refine XS.iloadN X0.here hx rfl (D 12 rfl) rfl ?_
  exact k
 obtain ⟨fs, hr, hrun, hended, hW, hsame⟩ := X0.leave (hlocks := Bd.notSynchronized) (v := some (.int 0)) (fun h => by rw [Bd.returns] at h; cases h)
 subst hG
 refine ⟨_, _, pre3 _ ?_, hrun, hended, _, _, rfl, ?_, ⟨_, rfl⟩, hW, hsame.mono (by decide) (by decide)⟩
 ·exact retI X0 hx Bd.returns (D 13 rfl) hr
 ·show Q_rm_bl0 Z ra wc kc xr0 xr1 ka h0 n0 _ s₁.heap _
  rw [e0]
  exact ⟨congrArg (fun z => some (Value.int z)) (show (0 : Int32) = (F_rm_bl0 xr0 xr1) from by rw [F_rm_bl0]), N0, rfl⟩
def F_rm_bl1 (xr0 : Int32) (xr1 : Int32) (xn0 : Int32) (lw0 : List Int32) : Int32 := ((0 : Int32) + (((F_rm_hl xn0 xr0 xr1) + xn0) + (2 : Int32)))
theorem ef_rm_bl1 (m : MethodId) (ra : Addr) : entryFrame m #[(.ref ra)] 6 = mkF m 0 #[vR ra, vU, vU, vU, vU, vU] [] := by simp [entryFrame, mkF, argsToLocals, Value.category]
def Q_rm_bl1 (Z : State) (ra : Addr) (wc : Addr) (kc : ClassId) (xr0 : Int32) (xr1 : Int32) (ka : ClassId) (ro0 : Addr) (ko0 : ClassId) (xn0 : Int32) (lw0 : List Int32) (h0 : Heap) (n0 : Nat) (v : Option Value) (h : Heap) (L : List Loc) : Prop := v = some (.int (F_rm_bl1 xr0 xr1 xn0 lw0)) ∧ Fr n0 L ∧ h = h0
set_option maxRecDepth 65536 in
set_option maxHeartbeats 40000000 in
theorem rm_bl1 (l : Launch) (Z : State) (a0 : Array Value) (hw : ∀ d ∈ tables_1, d.before a0 Z = true) (ws : List Jvm.Cond) (ra : Addr) (wc : Addr) (kc : ClassId) (xr0 : Int32) (xr1 : Int32) (ka : ClassId) (ro0 : Addr) (ko0 : ClassId) (xn0 : Int32) (lw0 : List Int32) (h0 : Heap) (n0 : Nat) (Z0 : n0 ≤ h0.size) (SR : Sta Z h0 oS1 "CRLF" "[B" (.ref wc)) (VR : Arv Z h0 wc kc .byte (2 : Int32) [(.int xr0), (.int xr1)] (.int 0)) (VA : Arv Z h0 ra ka (.array .byte) (1 : Int32) [(.ref ro0)] .null) (VO0 : Arv Z h0 ro0 ko0 .byte xn0 (lw0.map Value.int) (.int 0)) (hq0 : 0 ≤ xn0.toInt ∧ xn0.toInt ≤ 99) :
  oMet l oM7 prog_10_method_14_code 6 (some .int) ws (oR 2 0 0 28) #[(.ref ra)] Z h0 (Q_rm_bl1 Z ra wc kc xr0 xr1 ka ro0 ko0 xn0 lw0 h0 n0) := by
 refine MetFree.of_bodySF (plainFor_of_name pn3) hisR ?_
 have W := own_W hw
 intro p e s m args bw meth c s₁ Bd hml0 hP hK
 obtain ⟨rfl, hZ, hh⟩ := hP
 have hx := Bd.exec
 have hby := Bd.bytes
 have hml : c.maxLocals = 6 := hml0
 have hown : s.vm.findClass oS1 = some m.cls := findClass_of_methodNamed Bd.named
 have hnm := (name_of_methodNamed Bd.named Bd.method).1
 have X0 : Stand p l e (oR 2 0 0 28) s m #[(.ref ra)] bw meth c s₁ [] 0 0 := Stand.of_body Bd
 have e0 : s₁.heap = h0 := by rw [← hh, Bd.state]; rfl
 have N0 := Fr.nil n0
 have D := own_D hby dB14
 obtain ⟨G, hG⟩ := own_ex fun t => Steps p.tables e bw (s₁.setTop (entryFrame m #[(.ref ra)] 6)) t
 have pre0 : oP p e bw G s₁ m 0 #[vR ra, vU, vU, vU, vU, vU] [] := by intro t k; subst hG; exact castTop (ef_rm_bl1 m ra) k
 have pre1 : oP p e bw G s₁ m 5 #[vR ra, vI 0, vR ra, vU, vU, vU] [(.ref ra)] := by
  intro t k
  refine pre0 t ?_
  refine XS.iconst X0.here hx rfl (D 0 rfl) ?_
  refine XS.istoreN X0.here hx rfl (D 1 rfl) rfl (l' := #[vR ra, vI 0, vU, vU, vU, vU]) rfl ?_
  refine XS.aloadN X0.here hx rfl (D 2 rfl) rfl rfl ?_
  refine XS.astoreN X0.here hx rfl (D 3 rfl) rfl rfl (l' := #[vR ra, vI 0, vR ra, vU, vU, vU]) rfl ?_
  refine XS.aloadN X0.here hx rfl (D 4 rfl) rfl rfl ?_
  exact k
 have pre3 : oP p e bw G s₁ m 19 #[vR ra, vI 0, vR ra, vI 1, vI 0, vU] [(.int 0), (.ref ra)] := by
  intro t k
  refine pre1 t ?_
  obtain ⟨c2, a2, q2, s2, m2, i2, u2⟩ := id VA
  refine X0.arraylength hx (by rw [e0]; exact a2.1) (State.isArrayOf_alike hZ.alike a2.2.1) (g := (own_g pre1)) rfl rfl (D 5 rfl) _ ?_
  rw [len_of s2 m2]
  refine XS.istoreN X0.here hx rfl (D 6 rfl) rfl (l' := #[vR ra, vI 0, vR ra, vI 1, vU, vU]) rfl ?_
  refine XS.iconst X0.here hx rfl (D 7 rfl) ?_
  refine XS.istore X0.here hx rfl (D 8 rfl) rfl (l' := #[vR ra, vI 0, vR ra, vI 1, vI 0, vU]) rfl ?_
  refine XS.iload X0.here hx rfl (D 9 rfl) rfl ?_
  refine XS.iloadN X0.here hx rfl (D 10 rfl) rfl ?_
  refine XS.icmpNo X0.here hx rfl (D 11 rfl) rfl (tlt (show (0 : Int32) < (1 : Int32) from by decide)).2.1 ?_
  refine XS.aloadN X0.here hx rfl (D 14 rfl) rfl rfl ?_
  refine XS.iload X0.here hx rfl (D 15 rfl) rfl ?_
  exact k
 have pre5 : oP p e bw G s₁ m 25 #[vR ra, vI 0, vR ra, vI 1, vI 0, vR ro0] [(.ref ro0), (.int 0)] := by
  intro t k
  refine pre3 t ?_
  obtain ⟨c4, a4, q4, s4, m4, i4, u4⟩ := id VA
  have hin4 := inb_of (j := (0 : Int32)) s4 ⟨by decide, by decide⟩
  refine X0.aaload hx (j := (0 : Int32)) (v := (.ref ro0)) (by rw [e0]; exact a4.1) (State.isArrayOf_alike hZ.alike a4.2.1) rfl a4.2.2 hin4 (i4.at hin4 rfl) (g := (own_g pre3)) rfl rfl (D 16 rfl) _ ?_
  refine XS.astore X0.here hx rfl (D 17 rfl) rfl rfl (l' := #[vR ra, vI 0, vR ra, vI 1, vI 0, vR ro0]) rfl ?_
  refine XS.iloadN X0.here hx rfl (D 18 rfl) rfl ?_
  refine XS.aload X0.here hx rfl (D 19 rfl) rfl rfl ?_
  exact k
 have pre7 : oP p e bw G s₁ m 26 #[vR ra, vI 0, vR ra, vI 1, vI 0, vR ro0] [(.int xn0), (.int 0)] := by
  intro t k
  refine pre5 t ?_
  obtain ⟨c6, a6, q6, s6, m6, i6, u6⟩ := id VO0
  refine X0.arraylength hx (by rw [e0]; exact a6.1) (State.isArrayOf_alike hZ.alike a6.2.1) (g := (own_g pre5)) rfl rfl (D 20 rfl) _ ?_
  rw [len_of s6 m6]
  exact k
 obtain ⟨_, T8, Lc8, X8, hQ8, pc8⟩ := own_call X0 hx hZ hown (W 161 rfl) (W 85 rfl) (W 49 rfl) (W 86 rfl) (by decide) (rm_hl l Z a0 hw [] xn0 wc kc xr0 xr1 h0 n0 Z0 SR VR (hq0)) e0 pre7 hml rfl (D 21 rfl) (lenOf pd7 rfl) rfl (W := 1) rfl (by decide)
 obtain ⟨rfl, M8, e8⟩ := hQ8
 have N8 := Fr.app N0 M8
 have pre9 : oP p e bw G T8 m 31 #[vR ra, vI 0, vR ra, vI 1, vI 0, vR ro0] [(.ref ro0), (.int (F_rm_hl xn0 xr0 xr1)), (.int 0)] := by
  intro t k
  refine pc8 t ?_
  refine XS.aload X8.here hx rfl (D 22 rfl) rfl rfl ?_
  exact k
 have pre11 : oP p e bw G T8 m 33 #[vR ra, vI 0, vR ra, vI 1, vI 0, vR ro0] [(.int ((F_rm_hl xn0 xr0 xr1) + xn0)), (.int 0)] := by
  intro t k
  refine pre9 t ?_
  obtain ⟨c10, a10, q10, s10, m10, i10, u10⟩ := id VO0
  refine X8.arraylength hx (by rw [e8]; exact a10.1) (State.isArrayOf_alike hZ.alike a10.2.1) (g := (own_g pre9)) rfl rfl (D 23 rfl) _ ?_
  rw [len_of s10 m10]
  refine XS.iadd X8.here hx rfl (D 24 rfl) rfl ?_
  exact k
 obtain ⟨T12, X12, e12, st12⟩ := getS2 X8 hx hZ hown (host := "") (Or.inl (W 90 rfl)) Via.refl e8 SR (g := (own_g pre11)) rfl (D 25 rfl)
 have pre13 : oP p e bw G T12 m 36 #[vR ra, vI 0, vR ra, vI 1, vI 0, vR ro0] [(.ref wc), (.int ((F_rm_hl xn0 xr0 xr1) + xn0)), (.int 0)] := fun t k => pre11 t (st12 t k)
 have pre15 : oP p e bw G T12 m 47 #[vR ra, vI ((0 : Int32) + (((F_rm_hl xn0 xr0 xr1) + xn0) + (2 : Int32))), vR ra, vI 1, vI 1, vR ro0] [(.int ((0 : Int32) + (((F_rm_hl xn0 xr0 xr1) + xn0) + (2 : Int32))))] := by
  intro t k
  refine pre13 t ?_
  obtain ⟨c14, a14, q14, s14, m14, i14, u14⟩ := id VR
  refine X12.arraylength hx (by rw [e12]; exact a14.1) (State.isArrayOf_alike hZ.alike a14.2.1) (g := (own_g pre13)) rfl rfl (D 26 rfl) _ ?_
  rw [len_of s14 m14]
  refine XS.iadd X12.here hx rfl (D 27 rfl) rfl ?_
  refine XS.iadd X12.here hx rfl (D 28 rfl) rfl ?_
  refine XS.istoreN X12.here hx rfl (D 29 rfl) rfl (l' := #[vR ra, vI ((0 : Int32) + (((F_rm_hl xn0 xr0 xr1) + xn0) + (2 : Int32))), vR ra, vI 1, vI 0, vR ro0]) rfl ?_
  refine XS.iinc X12.here hx rfl (D 30 rfl) rfl (l' := #[vR ra, vI ((0 : Int32) + (((F_rm_hl xn0 xr0 xr1) + xn0) + (2 : Int32))), vR ra, vI 1, vI 1, vR ro0]) rfl ?_
  refine XS.goto X12.here hx rfl (pc0 := 43) (pc' := 10) rfl (D 31 rfl) (by decide) (by decide) ?_
  refine XS.iload X12.here hx rfl (D 9 rfl) rfl ?_
  refine XS.iloadN X12.here hx rfl (D 10 rfl) rfl ?_
  refine XS.icmpYes X12.here hx rfl (pc0 := 13) (pc' := 46) rfl (D 11 rfl) rfl (flt (show ¬ ((1 : Int32) < (1 : Int32)) from by decide)).2.1 (by decide) (by decide) ?_
  refine XS.iloadN X12.here hx rfl (D 12 rfl) rfl ?_
  exact k
 obtain ⟨fs, hr, hrun, hended, hW, hsame⟩ := X12.leave (hlocks := Bd.notSynchronized) (v := some (.int ((0 : Int32) + (((F_rm_hl xn0 xr0 xr1) + xn0) + (2 : Int32))))) (fun h => by rw [Bd.returns] at h; cases h)
 subst hG
 refine ⟨_, _, pre15 _ ?_, hrun, hended, _, _, rfl, ?_, ⟨_, rfl⟩, hW, hsame.mono (by decide) (by decide)⟩
 ·exact retI X12 hx Bd.returns (D 13 rfl) hr
 ·show Q_rm_bl1 Z ra wc kc xr0 xr1 ka ro0 ko0 xn0 lw0 h0 n0 _ T12.heap _
  rw [e12]
  exact ⟨congrArg (fun z => some (Value.int z)) (show ((0 : Int32) + (((F_rm_hl xn0 xr0 xr1) + xn0) + (2 : Int32))) = (F_rm_bl1 xr0 xr1 xn0 lw0) from by rw [F_rm_bl1]), N8, rfl⟩
def F_rm_bl2 (xr0 : Int32) (xr1 : Int32) (xn0 : Int32) (lw0 : List Int32) (xn1 : Int32) (lw1 : List Int32) : Int32 := (((0 : Int32) + (((F_rm_hl xn0 xr0 xr1) + xn0) + (2 : Int32))) + (((F_rm_hl xn1 xr0 xr1) + xn1) + (2 : Int32)))
theorem ef_rm_bl2 (m : MethodId) (ra : Addr) : entryFrame m #[(.ref ra)] 6 = mkF m 0 #[vR ra, vU, vU, vU, vU, vU] [] := by simp [entryFrame, mkF, argsToLocals, Value.category]
def Q_rm_bl2 (Z : State) (ra : Addr) (wc : Addr) (kc : ClassId) (xr0 : Int32) (xr1 : Int32) (ka : ClassId) (ro0 : Addr) (ko0 : ClassId) (xn0 : Int32) (lw0 : List Int32) (ro1 : Addr) (ko1 : ClassId) (xn1 : Int32) (lw1 : List Int32) (h0 : Heap) (n0 : Nat) (v : Option Value) (h : Heap) (L : List Loc) : Prop := v = some (.int (F_rm_bl2 xr0 xr1 xn0 lw0 xn1 lw1)) ∧ Fr n0 L ∧ h = h0
set_option maxRecDepth 65536 in
set_option maxHeartbeats 40000000 in
theorem rm_bl2 (l : Launch) (Z : State) (a0 : Array Value) (hw : ∀ d ∈ tables_1, d.before a0 Z = true) (ws : List Jvm.Cond) (ra : Addr) (wc : Addr) (kc : ClassId) (xr0 : Int32) (xr1 : Int32) (ka : ClassId) (ro0 : Addr) (ko0 : ClassId) (xn0 : Int32) (lw0 : List Int32) (ro1 : Addr) (ko1 : ClassId) (xn1 : Int32) (lw1 : List Int32) (h0 : Heap) (n0 : Nat) (Z0 : n0 ≤ h0.size) (SR : Sta Z h0 oS1 "CRLF" "[B" (.ref wc)) (VR : Arv Z h0 wc kc .byte (2 : Int32) [(.int xr0), (.int xr1)] (.int 0)) (VA : Arv Z h0 ra ka (.array .byte) (2 : Int32) [(.ref ro0), (.ref ro1)] .null) (VO0 : Arv Z h0 ro0 ko0 .byte xn0 (lw0.map Value.int) (.int 0)) (hq0 : 0 ≤ xn0.toInt ∧ xn0.toInt ≤ 99) (VO1 : Arv Z h0 ro1 ko1 .byte xn1 (lw1.map Value.int) (.int 0)) (hq1 : 0 ≤ xn1.toInt ∧ xn1.toInt ≤ 99) :
  oMet l oM7 prog_10_method_14_code 6 (some .int) ws (oR 2 0 0 28) #[(.ref ra)] Z h0 (Q_rm_bl2 Z ra wc kc xr0 xr1 ka ro0 ko0 xn0 lw0 ro1 ko1 xn1 lw1 h0 n0) := by
 refine MetFree.of_bodySF (plainFor_of_name pn3) hisR ?_
 have W := own_W hw
 intro p e s m args bw meth c s₁ Bd hml0 hP hK
 obtain ⟨rfl, hZ, hh⟩ := hP
 have hx := Bd.exec
 have hby := Bd.bytes
 have hml : c.maxLocals = 6 := hml0
 have hown : s.vm.findClass oS1 = some m.cls := findClass_of_methodNamed Bd.named
 have hnm := (name_of_methodNamed Bd.named Bd.method).1
 have X0 : Stand p l e (oR 2 0 0 28) s m #[(.ref ra)] bw meth c s₁ [] 0 0 := Stand.of_body Bd
 have e0 : s₁.heap = h0 := by rw [← hh, Bd.state]; rfl
 have N0 := Fr.nil n0
 have D := own_D hby dB14
 obtain ⟨G, hG⟩ := own_ex fun t => Steps p.tables e bw (s₁.setTop (entryFrame m #[(.ref ra)] 6)) t
 have pre0 : oP p e bw G s₁ m 0 #[vR ra, vU, vU, vU, vU, vU] [] := by intro t k; subst hG; exact castTop (ef_rm_bl2 m ra) k
 have pre1 : oP p e bw G s₁ m 5 #[vR ra, vI 0, vR ra, vU, vU, vU] [(.ref ra)] := by
  intro t k
  refine pre0 t ?_
  refine XS.iconst X0.here hx rfl (D 0 rfl) ?_
  refine XS.istoreN X0.here hx rfl (D 1 rfl) rfl (l' := #[vR ra, vI 0, vU, vU, vU, vU]) rfl ?_
  refine XS.aloadN X0.here hx rfl (D 2 rfl) rfl rfl ?_
  refine XS.astoreN X0.here hx rfl (D 3 rfl) rfl rfl (l' := #[vR ra, vI 0, vR ra, vU, vU, vU]) rfl ?_
  refine XS.aloadN X0.here hx rfl (D 4 rfl) rfl rfl ?_
  exact k
 have pre3 : oP p e bw G s₁ m 19 #[vR ra, vI 0, vR ra, vI 2, vI 0, vU] [(.int 0), (.ref ra)] := by
  intro t k
  refine pre1 t ?_
  obtain ⟨c2, a2, q2, s2, m2, i2, u2⟩ := id VA
  refine X0.arraylength hx (by rw [e0]; exact a2.1) (State.isArrayOf_alike hZ.alike a2.2.1) (g := (own_g pre1)) rfl rfl (D 5 rfl) _ ?_
  rw [len_of s2 m2]
  refine XS.istoreN X0.here hx rfl (D 6 rfl) rfl (l' := #[vR ra, vI 0, vR ra, vI 2, vU, vU]) rfl ?_
  refine XS.iconst X0.here hx rfl (D 7 rfl) ?_
  refine XS.istore X0.here hx rfl (D 8 rfl) rfl (l' := #[vR ra, vI 0, vR ra, vI 2, vI 0, vU]) rfl ?_
  refine XS.iload X0.here hx rfl (D 9 rfl) rfl ?_
  refine XS.iloadN X0.here hx rfl (D 10 rfl) rfl ?_
  refine XS.icmpNo X0.here hx rfl (D 11 rfl) rfl (tlt (show (0 : Int32) < (2 : Int32) from by decide)).2.1 ?_
  refine XS.aloadN X0.here hx rfl (D 14 rfl) rfl rfl ?_
  refine XS.iload X0.here hx rfl (D 15 rfl) rfl ?_
  exact k
 have pre5 : oP p e bw G s₁ m 25 #[vR ra, vI 0, vR ra, vI 2, vI 0, vR ro0] [(.ref ro0), (.int 0)] := by
  intro t k
  refine pre3 t ?_
  obtain ⟨c4, a4, q4, s4, m4, i4, u4⟩ := id VA
  have hin4 := inb_of (j := (0 : Int32)) s4 ⟨by decide, by decide⟩
  refine X0.aaload hx (j := (0 : Int32)) (v := (.ref ro0)) (by rw [e0]; exact a4.1) (State.isArrayOf_alike hZ.alike a4.2.1) rfl a4.2.2 hin4 (i4.at hin4 rfl) (g := (own_g pre3)) rfl rfl (D 16 rfl) _ ?_
  refine XS.astore X0.here hx rfl (D 17 rfl) rfl rfl (l' := #[vR ra, vI 0, vR ra, vI 2, vI 0, vR ro0]) rfl ?_
  refine XS.iloadN X0.here hx rfl (D 18 rfl) rfl ?_
  refine XS.aload X0.here hx rfl (D 19 rfl) rfl rfl ?_
  exact k
 have pre7 : oP p e bw G s₁ m 26 #[vR ra, vI 0, vR ra, vI 2, vI 0, vR ro0] [(.int xn0), (.int 0)] := by
  intro t k
  refine pre5 t ?_
  obtain ⟨c6, a6, q6, s6, m6, i6, u6⟩ := id VO0
  refine X0.arraylength hx (by rw [e0]; exact a6.1) (State.isArrayOf_alike hZ.alike a6.2.1) (g := (own_g pre5)) rfl rfl (D 20 rfl) _ ?_
  rw [len_of s6 m6]
  exact k
 obtain ⟨_, T8, Lc8, X8, hQ8, pc8⟩ := own_call X0 hx hZ hown (W 161 rfl) (W 85 rfl) (W 49 rfl) (W 86 rfl) (by decide) (rm_hl l Z a0 hw [] xn0 wc kc xr0 xr1 h0 n0 Z0 SR VR (hq0)) e0 pre7 hml rfl (D 21 rfl) (lenOf pd7 rfl) rfl (W := 1) rfl (by decide)
 obtain ⟨rfl, M8, e8⟩ := hQ8
 have N8 := Fr.app N0 M8
 have pre9 : oP p e bw G T8 m 31 #[vR ra, vI 0, vR ra, vI 2, vI 0, vR ro0] [(.ref ro0), (.int (F_rm_hl xn0 xr0 xr1)), (.int 0)] := by
  intro t k
  refine pc8 t ?_
  refine XS.aload X8.here hx rfl (D 22 rfl) rfl rfl ?_
  exact k
 have pre11 : oP p e bw G T8 m 33 #[vR ra, vI 0, vR ra, vI 2, vI 0, vR ro0] [(.int ((F_rm_hl xn0 xr0 xr1) + xn0)), (.int 0)] := by
  intro t k
  refine pre9 t ?_
  obtain ⟨c10, a10, q10, s10, m10, i10, u10⟩ := id VO0
  refine X8.arraylength hx (by rw [e8]; exact a10.1) (State.isArrayOf_alike hZ.alike a10.2.1) (g := (own_g pre9)) rfl rfl (D 23 rfl) _ ?_
  rw [len_of s10 m10]
  refine XS.iadd X8.here hx rfl (D 24 rfl) rfl ?_
  exact k
 obtain ⟨T12, X12, e12, st12⟩ := getS2 X8 hx hZ hown (host := "") (Or.inl (W 90 rfl)) Via.refl e8 SR (g := (own_g pre11)) rfl (D 25 rfl)
 have pre13 : oP p e bw G T12 m 36 #[vR ra, vI 0, vR ra, vI 2, vI 0, vR ro0] [(.ref wc), (.int ((F_rm_hl xn0 xr0 xr1) + xn0)), (.int 0)] := fun t k => pre11 t (st12 t k)
 have pre15 : oP p e bw G T12 m 19 #[vR ra, vI ((0 : Int32) + (((F_rm_hl xn0 xr0 xr1) + xn0) + (2 : Int32))), vR ra, vI 2, vI 1, vR ro0] [(.int 1), (.ref ra)] := by
  intro t k
  refine pre13 t ?_
  obtain ⟨c14, a14, q14, s14, m14, i14, u14⟩ := id VR
  refine X12.arraylength hx (by rw [e12]; exact a14.1) (State.isArrayOf_alike hZ.alike a14.2.1) (g := (own_g pre13)) rfl rfl (D 26 rfl) _ ?_
  rw [len_of s14 m14]
  refine XS.iadd X12.here hx rfl (D 27 rfl) rfl ?_
  refine XS.iadd X12.here hx rfl (D 28 rfl) rfl ?_
  refine XS.istoreN X12.here hx rfl (D 29 rfl) rfl (l' := #[vR ra, vI ((0 : Int32) + (((F_rm_hl xn0 xr0 xr1) + xn0) + (2 : Int32))), vR ra, vI 2, vI 0, vR ro0]) rfl ?_
  refine XS.iinc X12.here hx rfl (D 30 rfl) rfl (l' := #[vR ra, vI ((0 : Int32) + (((F_rm_hl xn0 xr0 xr1) + xn0) + (2 : Int32))), vR ra, vI 2, vI 1, vR ro0]) rfl ?_
  refine XS.goto X12.here hx rfl (pc0 := 43) (pc' := 10) rfl (D 31 rfl) (by decide) (by decide) ?_
  refine XS.iload X12.here hx rfl (D 9 rfl) rfl ?_
  refine XS.iloadN X12.here hx rfl (D 10 rfl) rfl ?_
  refine XS.icmpNo X12.here hx rfl (D 11 rfl) rfl (tlt (show (1 : Int32) < (2 : Int32) from by decide)).2.1 ?_
  refine XS.aloadN X12.here hx rfl (D 14 rfl) rfl rfl ?_
  refine XS.iload X12.here hx rfl (D 15 rfl) rfl ?_
  exact k
 have pre17 : oP p e bw G T12 m 25 #[vR ra, vI ((0 : Int32) + (((F_rm_hl xn0 xr0 xr1) + xn0) + (2 : Int32))), vR ra, vI 2, vI 1, vR ro1] [(.ref ro1), (.int ((0 : Int32) + (((F_rm_hl xn0 xr0 xr1) + xn0) + (2 : Int32))))] := by
  intro t k
  refine pre15 t ?_
  obtain ⟨c16, a16, q16, s16, m16, i16, u16⟩ := id VA
  have hin16 := inb_of (j := (1 : Int32)) s16 ⟨by decide, by decide⟩
  refine X12.aaload hx (j := (1 : Int32)) (v := (.ref ro1)) (by rw [e12]; exact a16.1) (State.isArrayOf_alike hZ.alike a16.2.1) rfl a16.2.2 hin16 (i16.at hin16 rfl) (g := (own_g pre15)) rfl rfl (D 16 rfl) _ ?_
  refine XS.astore X12.here hx rfl (D 17 rfl) rfl rfl (l' := #[vR ra, vI ((0 : Int32) + (((F_rm_hl xn0 xr0 xr1) + xn0) + (2 : Int32))), vR ra, vI 2, vI 1, vR ro1]) rfl ?_
  refine XS.iloadN X12.here hx rfl (D 18 rfl) rfl ?_
  refine XS.aload X12.here hx rfl (D 19 rfl) rfl rfl ?_
  exact k
 have pre19 : oP p e bw G T12 m 26 #[vR ra, vI ((0 : Int32) + (((F_rm_hl xn0 xr0 xr1) + xn0) + (2 : Int32))), vR ra, vI 2, vI 1, vR ro1] [(.int xn1), (.int ((0 : Int32) + (((F_rm_hl xn0 xr0 xr1) + xn0) + (2 : Int32))))] := by
  intro t k
  refine pre17 t ?_
  obtain ⟨c18, a18, q18, s18, m18, i18, u18⟩ := id VO1
  refine X12.arraylength hx (by rw [e12]; exact a18.1) (State.isArrayOf_alike hZ.alike a18.2.1) (g := (own_g pre17)) rfl rfl (D 20 rfl) _ ?_
  rw [len_of s18 m18]
  exact k
 obtain ⟨_, T20, Lc20, X20, hQ20, pc20⟩ := own_call X12 hx hZ hown (W 161 rfl) (W 85 rfl) (W 49 rfl) (W 86 rfl) (by decide) (rm_hl l Z a0 hw [] xn1 wc kc xr0 xr1 h0 n0 Z0 SR VR (hq1)) e12 pre19 hml rfl (D 21 rfl) (lenOf pd7 rfl) rfl (W := 1) rfl (by decide)
 obtain ⟨rfl, M20, e20⟩ := hQ20
 have N20 := Fr.app N8 M20
 have pre21 : oP p e bw G T20 m 31 #[vR ra, vI ((0 : Int32) + (((F_rm_hl xn0 xr0 xr1) + xn0) + (2 : Int32))), vR ra, vI 2, vI 1, vR ro1] [(.ref ro1), (.int (F_rm_hl xn1 xr0 xr1)), (.int ((0 : Int32) + (((F_rm_hl xn0 xr0 xr1) + xn0) + (2 : Int32))))] := by
  intro t k
  refine pc20 t ?_
  refine XS.aload X20.here hx rfl (D 22 rfl) rfl rfl ?_
  exact k
 have pre23 : oP p e bw G T20 m 33 #[vR ra, vI ((0 : Int32) + (((F_rm_hl xn0 xr0 xr1) + xn0) + (2 : Int32))), vR ra, vI 2, vI 1, vR ro1] [(.int ((F_rm_hl xn1 xr0 xr1) + xn1)), (.int ((0 : Int32) + (((F_rm_hl xn0 xr0 xr1) + xn0) + (2 : Int32))))] := by
  intro t k
  refine pre21 t ?_
  obtain ⟨c22, a22, q22, s22, m22, i22, u22⟩ := id VO1
  refine X20.arraylength hx (by rw [e20]; exact a22.1) (State.isArrayOf_alike hZ.alike a22.2.1) (g := (own_g pre21)) rfl rfl (D 23 rfl) _ ?_
  rw [len_of s22 m22]
  refine XS.iadd X20.here hx rfl (D 24 rfl) rfl ?_
  exact k
 obtain ⟨T24, X24, e24, st24⟩ := getS2 X20 hx hZ hown (host := "") (Or.inl (W 90 rfl)) Via.refl e20 SR (g := (own_g pre23)) rfl (D 25 rfl)
 have pre25 : oP p e bw G T24 m 36 #[vR ra, vI ((0 : Int32) + (((F_rm_hl xn0 xr0 xr1) + xn0) + (2 : Int32))), vR ra, vI 2, vI 1, vR ro1] [(.ref wc), (.int ((F_rm_hl xn1 xr0 xr1) + xn1)), (.int ((0 : Int32) + (((F_rm_hl xn0 xr0 xr1) + xn0) + (2 : Int32))))] := fun t k => pre23 t (st24 t k)
 have pre27 : oP p e bw G T24 m 47 #[vR ra, vI (((0 : Int32) + (((F_rm_hl xn0 xr0 xr1) + xn0) + (2 : Int32))) + (((F_rm_hl xn1 xr0 xr1) + xn1) + (2 : Int32))), vR ra, vI 2, vI 2, vR ro1] [(.int (((0 : Int32) + (((F_rm_hl xn0 xr0 xr1) + xn0) + (2 : Int32))) + (((F_rm_hl xn1 xr0 xr1) + xn1) + (2 : Int32))))] := by
  intro t k
  refine pre25 t ?_
  obtain ⟨c26, a26, q26, s26, m26, i26, u26⟩ := id VR
  refine X24.arraylength hx (by rw [e24]; exact a26.1) (State.isArrayOf_alike hZ.alike a26.2.1) (g := (own_g pre25)) rfl rfl (D 26 rfl) _ ?_
  rw [len_of s26 m26]
  refine XS.iadd X24.here hx rfl (D 27 rfl) rfl ?_
  refine XS.iadd X24.here hx rfl (D 28 rfl) rfl ?_
  refine XS.istoreN X24.here hx rfl (D 29 rfl) rfl (l' := #[vR ra, vI (((0 : Int32) + (((F_rm_hl xn0 xr0 xr1) + xn0) + (2 : Int32))) + (((F_rm_hl xn1 xr0 xr1) + xn1) + (2 : Int32))), vR ra, vI 2, vI 1, vR ro1]) rfl ?_
  refine XS.iinc X24.here hx rfl (D 30 rfl) rfl (l' := #[vR ra, vI (((0 : Int32) + (((F_rm_hl xn0 xr0 xr1) + xn0) + (2 : Int32))) + (((F_rm_hl xn1 xr0 xr1) + xn1) + (2 : Int32))), vR ra, vI 2, vI 2, vR ro1]) rfl ?_
  refine XS.goto X24.here hx rfl (pc0 := 43) (pc' := 10) rfl (D 31 rfl) (by decide) (by decide) ?_
  refine XS.iload X24.here hx rfl (D 9 rfl) rfl ?_
  refine XS.iloadN X24.here hx rfl (D 10 rfl) rfl ?_
  refine XS.icmpYes X24.here hx rfl (pc0 := 13) (pc' := 46) rfl (D 11 rfl) rfl (flt (show ¬ ((2 : Int32) < (2 : Int32)) from by decide)).2.1 (by decide) (by decide) ?_
  refine XS.iloadN X24.here hx rfl (D 12 rfl) rfl ?_
  exact k
 obtain ⟨fs, hr, hrun, hended, hW, hsame⟩ := X24.leave (hlocks := Bd.notSynchronized) (v := some (.int (((0 : Int32) + (((F_rm_hl xn0 xr0 xr1) + xn0) + (2 : Int32))) + (((F_rm_hl xn1 xr0 xr1) + xn1) + (2 : Int32))))) (fun h => by rw [Bd.returns] at h; cases h)
 subst hG
 refine ⟨_, _, pre27 _ ?_, hrun, hended, _, _, rfl, ?_, ⟨_, rfl⟩, hW, hsame.mono (by decide) (by decide)⟩
 ·exact retI X24 hx Bd.returns (D 13 rfl) hr
 ·show Q_rm_bl2 Z ra wc kc xr0 xr1 ka ro0 ko0 xn0 lw0 ro1 ko1 xn1 lw1 h0 n0 _ T24.heap _
  rw [e24]
  exact ⟨congrArg (fun z => some (Value.int z)) (show (((0 : Int32) + (((F_rm_hl xn0 xr0 xr1) + xn0) + (2 : Int32))) + (((F_rm_hl xn1 xr0 xr1) + xn1) + (2 : Int32))) = (F_rm_bl2 xr0 xr1 xn0 lw0 xn1 lw1) from by rw [F_rm_bl2]), N20, rfl⟩
theorem pn4 : plainName oS3 = true := by first | (simp [plainName, overriddenIn]; done) | decide +kernel
def F_rm_len (xc : Int32) : Int32 := (if xc < (128 : Int32) then (1 : Int32) else (2 : Int32))
theorem ef_rm_len (m : MethodId) (xc : Int32) : entryFrame m #[(.int xc)] 1 = mkF m 0 #[vI xc] [] := by simp [entryFrame, mkF, argsToLocals, Value.category]
def Q_rm_len (Z : State) (xc : Int32) (h0 : Heap) (n0 : Nat) (v : Option Value) (h : Heap) (L : List Loc) : Prop := v = some (.int (F_rm_len xc)) ∧ Fr n0 L ∧ h = h0
set_option maxRecDepth 65536 in
set_option maxHeartbeats 40000000 in
theorem rm_len (l : Launch) (Z : State) (a0 : Array Value) (hw : ∀ d ∈ tables_1, d.before a0 Z = true) (ws : List Jvm.Cond) (xc : Int32) (h0 : Heap) (n0 : Nat) (Z0 : n0 ≤ h0.size) :
  oMet l (⟨oS3, "len", "(C)I"⟩ : MethodName) method_4_code 1 (some .int) ws (oR 0 0 0 0) #[(.int xc)] Z h0 (Q_rm_len Z xc h0 n0) := by
 refine MetFree.of_bodySF (plainFor_of_name pn4) hisR ?_
 have W := own_W hw
 intro p e s m args bw meth c s₁ Bd hml0 hP hK
 obtain ⟨rfl, hZ, hh⟩ := hP
 have hx := Bd.exec
 have hby := Bd.bytes
 have hml : c.maxLocals = 1 := hml0
 have hown : s.vm.findClass oS3 = some m.cls := findClass_of_methodNamed Bd.named
 have hnm := (name_of_methodNamed Bd.named Bd.method).1
 have X0 : Stand p l e (oR 0 0 0 0) s m #[(.int xc)] bw meth c s₁ [] 0 0 := Stand.of_body Bd
 have e0 : s₁.heap = h0 := by rw [← hh, Bd.state]; rfl
 have N0 := Fr.nil n0
 have D := own_D hby dB32
 obtain ⟨G, hG⟩ := own_ex fun t => Steps p.tables e bw (s₁.setTop (entryFrame m #[(.int xc)] 1)) t
 have pre0 : oP p e bw G s₁ m 0 #[vI xc] [] := by intro t k; subst hG; exact castTop (ef_rm_len m xc) k
 have pre1 : oP p e bw G s₁ m 4 #[vI xc] [(.int 128), (.int xc)] := by
  intro t k
  refine pre0 t ?_
  refine XS.iloadN X0.here hx rfl (D 0 rfl) rfl ?_
  refine XS.sipush X0.here hx rfl (D 1 rfl) ?_
  exact k
 by_cases hc4 : xc < (128 : Int32)
 ·have pre2 : oP p e bw G s₁ m 12 #[vI xc] [(.int 1)] := by
   intro t k
   refine pre1 t ?_
   refine XS.icmpNo X0.here hx rfl (D 2 rfl) rfl (tlt hc4).2.1 ?_
   refine XS.iconst X0.here hx rfl (D 3 rfl) ?_
   refine XS.goto X0.here hx rfl (pc0 := 8) (pc' := 12) rfl (D 4 rfl) (by decide) (by decide) ?_
   exact k
  obtain ⟨fs, hr, hrun, hended, hW, hsame⟩ := X0.leave (hlocks := Bd.notSynchronized) (v := some (.int 1)) (fun h => by rw [Bd.returns] at h; cases h)
  subst hG
  refine ⟨_, _, pre2 _ ?_, hrun, hended, _, _, rfl, ?_, ⟨_, rfl⟩, hW, hsame.mono (by decide) (by decide)⟩
  ·exact retI X0 hx Bd.returns (D 5 rfl) hr
  ·show Q_rm_len Z xc h0 n0 _ s₁.heap _
   rw [e0]
   exact ⟨congrArg (fun z => some (Value.int z)) (show (1 : Int32) = (F_rm_len xc) from by rw [F_rm_len, if_pos hc4]), N0, rfl⟩
 ·have pre3 : oP p e bw G s₁ m 12 #[vI xc] [(.int 2)] := by
   intro t k
   refine pre1 t ?_
   refine XS.icmpYes X0.here hx rfl (pc0 := 4) (pc' := 11) rfl (D 2 rfl) rfl (flt hc4).2.1 (by decide) (by decide) ?_
   refine XS.iconst X0.here hx rfl (D 6 rfl) ?_
   exact k
  obtain ⟨fs, hr, hrun, hended, hW, hsame⟩ := X0.leave (hlocks := Bd.notSynchronized) (v := some (.int 2)) (fun h => by rw [Bd.returns] at h; cases h)
  subst hG
  refine ⟨_, _, pre3 _ ?_, hrun, hended, _, _, rfl, ?_, ⟨_, rfl⟩, hW, hsame.mono (by decide) (by decide)⟩
  ·exact retI X0 hx Bd.returns (D 5 rfl) hr
  ·show Q_rm_len Z xc h0 n0 _ s₁.heap _
   rw [e0]
   exact ⟨congrArg (fun z => some (Value.int z)) (show (2 : Int32) = (F_rm_len xc) from by rw [F_rm_len, if_neg hc4]), N0, rfl⟩
theorem own_lenI {l : List Int32} (q : l.length ≤ 1000) : (own_len l).toInt = l.length := by
 rw [own_len, Int32.toInt_ofNat_of_lt (by omega)]
theorem own_lenN {l : List Int32} (q : l.length ≤ 1000) : (own_len l).toNatClampNeg = l.length := by
 rw [Int32.toNatClampNeg, own_lenI q]; omega
theorem own_lenA (a b : List Int32) : own_len (a ++ b) = own_len a + own_len b := by
 rw [own_len, own_len, own_len, List.length_append, Int32.ofNat_add]
theorem own_c99 {P : Int32 → Prop} (H : ∀ i : Fin 100, P (Int32.ofNat i.val)) {n : Int32} (q : 0 ≤ n.toInt ∧ n.toInt ≤ 99) : P n := by
 have e : n = Int32.ofNat n.toInt.toNat := by
  rw [← Int32.toInt_inj, Int32.toInt_ofNat_of_lt (by omega)]; omega
 rw [e]; exact H ⟨n.toInt.toNat, by omega⟩
theorem own_c255 {P : Int32 → Prop} (H : ∀ i : Fin 256, P (Int32.ofNat i.val)) {n : Int32} (q : 0 ≤ n.toInt ∧ n.toInt ≤ 255) : P n := by
 have e : n = Int32.ofNat n.toInt.toNat := by
  rw [← Int32.toInt_inj, Int32.toInt_ofNat_of_lt (by omega)]; omega
 rw [e]; exact H ⟨n.toInt.toNat, by omega⟩
def own_hdr (k n : Int32) : List Int32 := if n < (10 : Int32) then [k, (48 : Int32) + n, 13, 10] else [k, (48 : Int32) + n / (10 : Int32), (48 : Int32) + n % (10 : Int32), 13, 10]
def own_bulk (w : List Int32) : List Int32 := own_hdr 36 (own_len w) ++ (w ++ [13, 10])
theorem own_dg {n : Int32} (q : 0 ≤ n.toInt ∧ n.toInt ≤ 99) : F_rm_dig n = (if n < (10 : Int32) then 1 else 2) ∧ (n < (10 : Int32) → nar .byte (((48 : Int32) + (n % (10 : Int32))).toInt8.toInt32) = (48 : Int32) + n) ∧ nar .byte (((48 : Int32) + (n % (10 : Int32))).toInt8.toInt32) = (48 : Int32) + n % 10 ∧ nar .byte (((48 : Int32) + ((n / (10 : Int32)) % (10 : Int32))).toInt8.toInt32) = (48 : Int32) + n / 10 := by
 refine own_c99 (P := fun n => F_rm_dig n = (if n < (10 : Int32) then 1 else 2) ∧ (n < (10 : Int32) → nar .byte (((48 : Int32) + (n % (10 : Int32))).toInt8.toInt32) = (48 : Int32) + n) ∧ nar .byte (((48 : Int32) + (n % (10 : Int32))).toInt8.toInt32) = (48 : Int32) + n % 10 ∧ nar .byte (((48 : Int32) + ((n / (10 : Int32)) % (10 : Int32))).toInt8.toInt32) = (48 : Int32) + n / 10) ?_ q
 unfold F_rm_dig
 decide +kernel
theorem own_hdrL {k n : Int32} (q : 0 ≤ n.toInt ∧ n.toInt ≤ 99) : own_len (own_hdr k n) = (1 + F_rm_dig n) + 2 ∧ (own_hdr k n).length ≤ 5 ∧ 4 ≤ (own_hdr k n).length ∧ (F_rm_dig n).toInt + 3 = (own_hdr k n).length := by
 rw [(own_dg q).1, own_hdr]
 split
 ·exact ⟨rfl, by simp, by simp, by simp⟩
 ·exact ⟨rfl, by simp, by simp, by simp⟩
theorem own_setN (A R : List Int32) (i : Nat) (v : Int32) : (A ++ R).set (A.length + i) v = A ++ R.set i v := by
 rw [List.set_append_right _ _ (by omega)]; congr 2; omega
theorem own_a1 {x : Int32} {a : Nat} (h : x.toInt = a) (q : a ≤ 2000) : (x + (1 : Int32)).toInt = ((a + 1 : Nat) : Int) := by
 have := c_iadd x 1; have := rng32 (x + 1); have o1 : (1 : Int32).toInt = 1 := rfl; omega
theorem own_a2 {x : Int32} {a : Nat} (h : x.toInt = a) (q : a ≤ 2000) : (x + (2 : Int32)).toInt = ((a + 2 : Nat) : Int) := by
 have := c_iadd x 2; have := rng32 (x + 2); have o1 : (2 : Int32).toInt = 2 := rfl; omega
theorem own_a3 {x : Int32} {a : Nat} (h : x.toInt = a) (q : a ≤ 2000) : (x + (3 : Int32)).toInt = ((a + 3 : Nat) : Int) := by
 have := c_iadd x 3; have := rng32 (x + 3); have o1 : (3 : Int32).toInt = 3 := rfl; omega
theorem own_s1 {x : Int32} {a : Nat} (h : x.toInt = ((a + 1 : Nat) : Int)) (q : a ≤ 2000) : (x - (1 : Int32)).toInt = a := by
 have := c_isub x 1; have := rng32 (x - 1); have o1 : (1 : Int32).toInt = 1 := rfl; omega
theorem own_m1 {x : Int32} {a : Nat} (h : x.toInt = ((a + 1 : Nat) : Int)) (q : a ≤ 2000) : (x + (-1 : Int32)).toInt = a := by
 have := c_iadd x (-1); have := rng32 (x + (-1)); have o1 : (-1 : Int32).toInt = -1 := rfl; omega
theorem own_nat {x : Int32} {a : Nat} (h : x.toInt = a) : x.toNatClampNeg = a := by rw [Int32.toNatClampNeg, h]; exact Int.toNat_natCast a
theorem own_le {a b : Nat} (q : a ≤ 1000) (hb : b ≤ 1000) : a + b ≤ 2000 := by omega
theorem own_ps1 {x : Int32} {a : Nat} (h : x.toInt = a) (q : a ≤ 1000) : x.toNatClampNeg = a + 0 ∧ (x + (1 : Int32) + (1 : Int32)).toNatClampNeg = a + 2 ∧ (x + (1 : Int32) + (1 : Int32) - (1 : Int32)).toNatClampNeg = a + 1 ∧ (x + (1 : Int32) + (1 : Int32) + (1 : Int32)).toNatClampNeg = a + 3 ∧ ¬ (x < (x + (1 : Int32) + (1 : Int32) - (1 : Int32) + (-1 : Int32))) := by
 have a1 := own_a1 h (own_le q (b := 0) (by decide))
 have a2 := own_a1 a1 (own_le q (by decide))
 have a3 := own_s1 a2 (own_le q (by decide))
 have a4 := own_m1 a3 (own_le q (b := 0) (by decide))
 have a5 := own_a1 a2 (own_le q (b := 2) (by decide))
 exact ⟨own_nat h, own_nat a2, own_nat a3, own_nat a5, by rw [Int32.lt_iff_toInt_lt, a4, h]; exact Int.lt_irrefl _⟩
theorem own_ps2 {x : Int32} {a : Nat} (h : x.toInt = a) (q : a ≤ 1000) : x.toNatClampNeg = a + 0 ∧ (x + (1 : Int32) + (2 : Int32)).toNatClampNeg = a + 3 ∧ (x + (1 : Int32) + (2 : Int32) - (1 : Int32)).toNatClampNeg = a + 2 ∧ (x + (1 : Int32) + (2 : Int32) + (1 : Int32)).toNatClampNeg = a + 4 ∧ (x + (1 : Int32) + (2 : Int32) - (1 : Int32) + (-1 : Int32)).toNatClampNeg = a + 1 ∧ (x < (x + (1 : Int32) + (2 : Int32) - (1 : Int32) + (-1 : Int32))) := by
 have a1 := own_a1 h (own_le q (b := 0) (by decide))
 have a2 := own_a2 a1 (own_le q (by decide))
 have a3 := own_s1 a2 (own_le q (by decide))
 have a4 := own_m1 a3 (own_le q (by decide))
 have a5 := own_a1 a2 (own_le q (b := 3) (by decide))
 exact ⟨own_nat h, own_nat a2, own_nat a3, own_nat a5, own_nat a4, by rw [Int32.lt_iff_toInt_lt, a4, h]; exact Int.ofNat_lt.mpr (Nat.lt_succ_self _)⟩
theorem own_phA {A R : List Int32} {xa xk n : Int32} (hxa : xa = own_len A) (q : 0 ≤ n.toInt ∧ n.toInt ≤ 99) (hb : A.length + R.length ≤ 1000) (hR : (own_hdr xk n).length ≤ R.length) (hk : nar .byte (xk.toInt8.toInt32) = xk) :
  own_ph (A ++ R) xa xk n = A ++ (own_hdr xk n ++ R.drop (own_hdr xk n).length) := by
 have qA : A.length ≤ 1000 := by omega
 have ex : xa.toInt = A.length := by rw [hxa]; exact own_lenI qA
 obtain ⟨d1, d2, d3, d4⟩ := own_dg q
 by_cases c : n < (10 : Int32)
 ·rw [own_hdr, if_pos c] at hR ⊢
  rw [if_pos c] at d1
  match R, hR with
  | r0 :: r1 :: r2 :: r3 :: R, _ =>
  obtain ⟨p0, p2, p3, p5, p6⟩ := own_ps1 ex qA
  rw [own_ph, d1, if_neg p6, p0, p2, p3, p5, hk, d2 c]
  simp only [own_setN]
  rfl
 ·rw [own_hdr, if_neg c] at hR ⊢
  rw [if_neg c] at d1
  match R, hR with
  | r0 :: r1 :: r2 :: r3 :: r4 :: R, _ =>
  obtain ⟨p0, p2, p3, p5, p4, p6⟩ := own_ps2 ex qA
  rw [own_ph, d1, if_pos p6, p0, p2, p3, p4, p5, hk, d3, d4]
  simp only [own_setN]
  rfl
theorem own_phR {A : List Int32} {xa xk n : Int32} (hxa : xa = own_len A) (q : 0 ≤ n.toInt ∧ n.toInt ≤ 99) : ((xa + (1 : Int32)) + (F_rm_dig n)) + (2 : Int32) = own_len (A ++ own_hdr xk n) := by
 rw [own_lenA, (own_hdrL q).1, hxa]
 simp only [Int32.add_assoc]
theorem own_us (w : List Int32) (q : w.length ≤ 1000) : w.map Value.int = (List.range (own_len w).toNatClampNeg).map fun i => (w.map Value.int).getD ((0 : Int32).toNatClampNeg + i) (.int 0) := by
 rw [own_lenN q]
 apply List.ext_getElem
 ·simp
 ·intro i h1 h2
  have e : (0 : Int32).toNatClampNeg + i = i := by rw [show (0 : Int32).toNatClampNeg = 0 from rfl]; omega
  simp only [List.length_map] at h1
  simp only [List.getElem_map, List.getElem_range, e, own_getD]
  simp [List.getD_eq_getElem?_getD, h1]
theorem own_cp {A R w : List Int32} (hA : A.length ≤ 1000) (hw : w.length ≤ 1000) : (((A ++ R).map Value.int).take (own_len A).toNatClampNeg ++ w.map Value.int ++ ((A ++ R).map Value.int).drop ((own_len A).toNatClampNeg + (own_len w).toNatClampNeg)) = (A ++ (w ++ R.drop w.length)).map Value.int := by
 rw [own_lenN hA, own_lenN hw]
 rw [← List.map_take, ← List.map_drop]
 simp [List.take_append, List.drop_append]
theorem own_set2 {A R : List Int32} {j : Int32} (hj : j = own_len A) (hb : A.length + R.length ≤ 1000) (hR : 2 ≤ R.length) : ((A ++ R).set (j).toNatClampNeg (nar .byte (13 : Int32))).set ((j + (1 : Int32))).toNatClampNeg (nar .byte (10 : Int32)) = A ++ ([13, 10] ++ R.drop 2) := by
 have ex : j.toInt = A.length := by rw [hj]; exact own_lenI (by omega)
 have o1 : (1 : Int32).toInt = 1 := rfl
 have p0 : j.toNatClampNeg = A.length + 0 := by rw [Int32.toNatClampNeg]; omega
 have a1 : (j + (1 : Int32)).toInt = A.length + 1 := by have := c_iadd j 1; have := rng32 (j + 1); omega
 have p1 : (j + (1 : Int32)).toNatClampNeg = A.length + 1 := by rw [Int32.toNatClampNeg]; omega
 match R, hR with
 | r0 :: r1 :: R, _ =>
 rw [p0, p1]
 simp only [own_setN]
 rfl
theorem own_lz {a b : List Int32} (h : a.length = b.length) : own_len a = own_len b := by rw [own_len, own_len, h]
def own_bulks : List (List Int32) → List Int32
 | [] => []
 | w :: r => own_bulk w ++ own_bulks r
theorem own_99 {w : List Int32} (h : w.length ≤ 99) : 0 ≤ (own_len w).toInt ∧ (own_len w).toInt ≤ 99 := by
 rw [own_lenI (by omega)]; omega
theorem own_bkL {w : List Int32} (h : w.length ≤ 99) : (own_bulk w).length = (own_hdr 36 (own_len w)).length + (w.length + 2) ∧ (own_hdr 36 (own_len w)).length ≤ 5 := by
 refine ⟨?_, (own_hdrL (own_99 h)).2.1⟩
 simp only [own_bulk, List.length_append, List.length_cons, List.length_nil]
theorem own_bkS {w : List Int32} (h : w.length ≤ 99) (a b : Int32) : own_len (own_bulk w) = ((F_rm_hl (own_len w) a b) + (own_len w)) + (2 : Int32) := by
 rw [own_bulk, own_lenA, own_lenA, (own_hdrL (own_99 h)).1, F_rm_hl, show own_len [(13 : Int32), 10] = 2 from rfl]
 simp only [Int32.add_assoc]
abbrev own_IT (A R w : List Int32) (xz : Int32)  : Prop := (w.length ≤ 99) ∧ (xz = own_len (A ++ R)) ∧ ((A ++ R).length ≤ 1000) ∧ ((own_bulk w).length ≤ R.length)
theorem own_IT.hw {A R w : List Int32} {xz : Int32} (H : own_IT A R w xz) : w.length ≤ 99 := H.1
theorem own_IT.hz {A R w : List Int32} {xz : Int32} (H : own_IT A R w xz) : xz = own_len (A ++ R) := H.2.1
theorem own_IT.hb {A R w : List Int32} {xz : Int32} (H : own_IT A R w xz) : (A ++ R).length ≤ 1000 := H.2.2.1
theorem own_IT.hR {A R w : List Int32} {xz : Int32} (H : own_IT A R w xz) : (own_bulk w).length ≤ R.length := H.2.2.2
theorem own_it0 {A R w : List Int32} {xz : Int32} (H : own_IT A R w xz) : (own_hdr 36 (own_len w)).length + (w.length + 2) ≤ R.length ∧ A.length + R.length ≤ 1000 ∧ xz.toInt = ((A.length + R.length : Nat) : Int) ∧ (own_hdr 36 (own_len w)).length ≤ 5 := by
 obtain ⟨hw, hz, hb, hR⟩ := H
 have := own_bkL hw
 rw [hz, own_lenI hb]
 rw [List.length_append] at *
 omega
theorem own_it1 {A R w : List Int32} {xz : Int32} (H : own_IT A R w xz) : (A ++ R).length = xz.toNatClampNeg := by
 rw [H.hz, own_lenN H.hb]
theorem own_it2 {A R w : List Int32} {xz : Int32} (H : own_IT A R w xz) : (own_len A).toInt ≥ 0 ∧ (own_len A).toInt + (F_rm_dig (own_len w)).toInt + 3 ≤ xz.toInt ∧ xz.toInt ≤ 1000 := by
 obtain ⟨h1, h2, h3, -⟩ := own_it0 H
 have h4 := (own_hdrL (k := 36) (own_99 H.hw)).2.2.2
 rw [own_lenI (by omega), h3]
 omega
theorem own_it3 {A R w : List Int32} {xz : Int32} (H : own_IT A R w xz) : own_ph (A ++ R) (own_len A) 36 (own_len w) = (A ++ own_hdr 36 (own_len w)) ++ R.drop (own_hdr 36 (own_len w)).length := by
 obtain ⟨h1, h2, h3, -⟩ := own_it0 H
 rw [own_phA rfl (own_99 H.hw) h2 (by omega) rfl, List.append_assoc]
theorem own_it4 {A R w : List Int32} {xz : Int32} (H : own_IT A R w xz) : ((own_len A + (1 : Int32)) + (F_rm_dig (own_len w))) + (2 : Int32) = own_len (A ++ own_hdr 36 (own_len w)) := own_phR rfl (own_99 H.hw)
abbrev own_JT (A R w : List Int32) (xz : Int32)  : Prop := (w.length ≤ 99) ∧ (xz = own_len (A ++ R)) ∧ ((A ++ R).length ≤ 1000) ∧ (w.length ≤ R.length)
theorem own_JT.hw {A R w : List Int32} {xz : Int32} (H : own_JT A R w xz) : w.length ≤ 99 := H.1
theorem own_JT.hz {A R w : List Int32} {xz : Int32} (H : own_JT A R w xz) : xz = own_len (A ++ R) := H.2.1
theorem own_JT.hb {A R w : List Int32} {xz : Int32} (H : own_JT A R w xz) : (A ++ R).length ≤ 1000 := H.2.2.1
theorem own_JT.hR {A R w : List Int32} {xz : Int32} (H : own_JT A R w xz) : w.length ≤ R.length := H.2.2.2
theorem own_it5 {A R w : List Int32} {xz : Int32} (H : own_IT A R w xz) : own_JT (A ++ own_hdr 36 (own_len w)) (R.drop (own_hdr 36 (own_len w)).length) w xz := by
 obtain ⟨h1, h2, h3, -⟩ := own_it0 H
 have e : ((A ++ own_hdr 36 (own_len w)) ++ (R.drop (own_hdr 36 (own_len w)).length)).length = (A ++ R).length := by
  simp only [List.length_append, List.length_drop]; omega
 exact ⟨H.hw, by rw [own_lz e]; exact H.hz, by rw [e]; exact H.hb, by rw [List.length_drop]; omega⟩
theorem own_nn {l : List Int32} (h : l.length ≤ 1000) : ¬ own_len l < 0 := by
 rw [Int32.lt_iff_toInt_lt, own_lenI h]; exact Int.not_lt.mpr (Int.natCast_nonneg _)
theorem own_jt0 {A R w : List Int32} {xz : Int32} (H : own_JT A R w xz) : A.length + R.length ≤ 1000 := by
 have := H.hb; rwa [List.length_append] at this
theorem own_jt1 {A R w : List Int32} {xz : Int32} (H : own_JT A R w xz) : ¬ own_len A < 0 := own_nn (by have := own_jt0 H; omega)
theorem own_jt2 {A R w : List Int32} {xz : Int32} (H : own_JT A R w xz) : ¬ own_len w < 0 := own_nn (by have := H.hw; omega)
theorem own_jt3 {A R w : List Int32} {xz : Int32} (H : own_JT A R w xz) : (0 : Int32).toNatClampNeg + (own_len w).toNatClampNeg ≤ (own_len w).toNatClampNeg := by
 rw [show (0 : Int32).toNatClampNeg = 0 from rfl, Nat.zero_add]; exact Nat.le_refl _
theorem own_jt4 {A R w : List Int32} {xz : Int32} (H : own_JT A R w xz) : (own_len A).toNatClampNeg + (own_len w).toNatClampNeg ≤ xz.toNatClampNeg := by
 have h1 := own_jt0 H; have h2 := H.hw; have h3 := H.hR
 rw [H.hz, own_lenN H.hb, own_lenN (by omega), own_lenN (by omega), List.length_append]; omega
theorem own_jt5 {A R w : List Int32} {xz : Int32} (H : own_JT A R w xz) : (own_len A).toNatClampNeg + (own_len w).toNatClampNeg ≤ ((A ++ R).map Value.int).length := by
 have h1 := own_jt0 H; have h2 := H.hw; have h3 := H.hR
 rw [List.length_map, own_lenN (by omega), own_lenN (by omega), List.length_append]; omega
theorem own_jt6 {A R w : List Int32} {xz : Int32} (H : own_JT A R w xz) : w.map Value.int = (List.range (own_len w).toNatClampNeg).map fun i => (w.map Value.int).getD ((0 : Int32).toNatClampNeg + i) (.int 0) := own_us w (by have := H.hw; omega)
theorem own_jt7 {A R w : List Int32} {xz : Int32} (H : own_JT A R w xz) : (((A ++ R).map Value.int).take (own_len A).toNatClampNeg ++ w.map Value.int ++ ((A ++ R).map Value.int).drop ((own_len A).toNatClampNeg + (own_len w).toNatClampNeg)) = ((A ++ w) ++ R.drop w.length).map Value.int := by
 have h1 := own_jt0 H; have h2 := H.hw
 rw [own_cp (by omega) (by omega), List.append_assoc]
abbrev own_KT (A R : List Int32) (xz : Int32)  : Prop := (xz = own_len (A ++ R)) ∧ ((A ++ R).length ≤ 1000) ∧ (2 ≤ R.length)
theorem own_KT.hz {A R : List Int32} {xz : Int32} (H : own_KT A R xz) : xz = own_len (A ++ R) := H.1
theorem own_KT.hb {A R : List Int32} {xz : Int32} (H : own_KT A R xz) : (A ++ R).length ≤ 1000 := H.2.1
theorem own_KT.hR {A R : List Int32} {xz : Int32} (H : own_KT A R xz) : 2 ≤ R.length := H.2.2
theorem own_jt8 {A R w : List Int32} {xz : Int32} (H : own_JT A R w xz) (h : w.length + 2 ≤ R.length) : own_KT (A ++ w) (R.drop w.length) xz := by
 have e : ((A ++ w) ++ (R.drop w.length)).length = (A ++ R).length := by
  simp only [List.length_append, List.length_drop]; omega
 exact ⟨by rw [own_lz e]; exact H.hz, by rw [e]; exact H.hb, by rw [List.length_drop]; omega⟩
theorem own_it6 {A R w : List Int32} {xz : Int32} (H : own_IT A R w xz) : w.length + 2 ≤ (R.drop (own_hdr 36 (own_len w)).length).length := by
 have := own_it0 H
 rw [List.length_drop]; omega
theorem own_kt1 {A R : List Int32} {xz : Int32} (H : own_KT A R xz) : (¬ own_len A < 0 ∧ own_len A < xz) ∧ (¬ (own_len A + (1 : Int32)) < 0 ∧ (own_len A + (1 : Int32)) < xz) := by
 have hb := H.hb; have hR := H.hR
 rw [List.length_append] at hb
 have hA : A.length ≤ 1000 := by omega
 have e1 := own_lenI hA
 have e2 := own_a1 e1 (by omega)
 simp only [Int32.lt_iff_toInt_lt, e1, e2, H.hz, own_lenI H.hb, List.length_append, show (0 : Int32).toInt = 0 from rfl]
 omega
theorem own_kt2 {A R : List Int32} {xz : Int32} (H : own_KT A R xz) : (A ++ R).length = xz.toNatClampNeg := by rw [H.hz, own_lenN H.hb]
theorem own_kt3 {A R : List Int32} {xz : Int32} (H : own_KT A R xz) : ((A ++ R).set (own_len A).toNatClampNeg (nar .byte (13 : Int32))).set ((own_len A + (1 : Int32))).toNatClampNeg (nar .byte (10 : Int32)) = (A ++ [13, 10]) ++ R.drop 2 := by
 have hb := H.hb
 rw [List.length_append] at hb
 rw [own_set2 rfl hb H.hR, List.append_assoc]
theorem own_kt4 (A : List Int32) : ((own_len A + (1 : Int32)) + (1 : Int32)) = own_len (A ++ [13, 10]) := by
 rw [own_lenA, Int32.add_assoc]; rfl
theorem own_it8 (A w : List Int32) : (((A ++ own_hdr 36 (own_len w)) ++ w) ++ [13, 10]) = (A ++ own_bulk w) := by
 simp only [own_bulk, List.append_assoc]
theorem own_it7 (A R w : List Int32) : (((A ++ own_hdr 36 (own_len w)) ++ w) ++ [13, 10]) ++ ((R.drop (own_hdr 36 (own_len w)).length).drop w.length).drop 2 = (A ++ own_bulk w) ++ R.drop (own_bulk w).length := by
 have e : (own_hdr 36 (own_len w)).length + (w.length + 2) = (own_bulk w).length := by
  simp only [own_bulk, List.length_append, List.length_cons, List.length_nil]
 rw [own_it8, List.drop_drop, List.drop_drop, e]
theorem own_it9 {A R w v : List Int32} {xz : Int32} (H : own_IT A R w xz) (hv : v.length ≤ 99) (h2 : (own_bulk w).length + (own_bulk v).length ≤ R.length) : own_IT (A ++ own_bulk w) (R.drop (own_bulk w).length) v xz := by
 have e : ((A ++ own_bulk w) ++ (R.drop (own_bulk w).length)).length = (A ++ R).length := by
  simp only [List.length_append, List.length_drop]; omega
 exact ⟨hv, by rw [own_lz e]; exact H.hz, by rw [e]; exact H.hb, by rw [List.length_drop]; omega⟩
theorem own_f0 {A R : List Int32} (h : R.length = (own_bulks []).length) : A ++ own_bulks [] = A ++ R := by
 rw [List.length_eq_zero_iff.mp h]; rfl
theorem own_f1 {A R w : List Int32} (h : R.length = (own_bulks [w]).length) : A ++ own_bulks [w] = (A ++ own_bulk w) ++ R.drop (own_bulk w).length := by
 rw [own_bulks, own_bulks, List.append_nil] at h ⊢
 rw [List.drop_of_length_le (by omega), List.append_nil]
theorem own_f2 {A R w v : List Int32} (h : R.length = (own_bulks [w, v]).length) : A ++ own_bulks [w, v] = ((A ++ own_bulk w) ++ own_bulk v) ++ (R.drop (own_bulk w).length).drop (own_bulk v).length := by
 rw [own_bulks, own_bulks, own_bulks, List.append_nil, List.length_append] at h
 rw [own_bulks, own_bulks, own_bulks, List.append_nil, List.drop_drop, List.drop_of_length_le (by omega), List.append_nil, List.append_assoc]
theorem own_encA (a b : List Int32) : own_enc (a ++ b) = own_enc a ++ own_enc b := by
 induction a with
 | nil => rfl
 | cons x r ih => rw [List.cons_append, own_enc, ih, own_enc, List.append_assoc]
theorem own_encL (a : List Int32) : (own_enc a).length ≤ 2 * a.length := by
 induction a with
 | nil => simp [own_enc]
 | cons x r ih =>
  rw [own_enc, List.length_append, List.length_cons]
  split <;> simp only [List.length_cons, List.length_nil] <;> omega
def own_OKc (z : Int32) : Prop := 0 ≤ z.toInt ∧ z.toInt ≤ 255
def own_b (c : Int32) : Int32 := nar .byte (c.toInt8.toInt32)
theorem own_bb (c : Int32) : nar .byte (own_b c) = own_b c := by
 show c.toInt8.toInt32.toInt8.toInt32.toInt8.toInt32 = c.toInt8.toInt32.toInt8.toInt32
 have h1 := c_i2b c.toInt8.toInt32
 have h2 := c_i2b c.toInt8.toInt32.toInt8.toInt32
 rw [← Int32.toInt_inj]; omega
theorem own_chx {c : Int32} (q : own_OKc c) : (c < (128 : Int32) → own_enc [own_b c] = [c.toInt8.toInt32]) ∧ (¬ (c < (128 : Int32)) → own_enc [own_b c] = [((192 : Int32) ||| (c >>> ((6 : Int32) &&& 31))).toInt8.toInt32, ((128 : Int32) ||| (c &&& (63 : Int32))).toInt8.toInt32]) ∧ own_len (own_enc [own_b c]) = F_rm_len c := by
 refine own_c255 (P := fun c => (c < (128 : Int32) → own_enc [own_b c] = [c.toInt8.toInt32]) ∧ (¬ (c < (128 : Int32)) → own_enc [own_b c] = [((192 : Int32) ||| (c >>> ((6 : Int32) &&& 31))).toInt8.toInt32, ((128 : Int32) ||| (c &&& (63 : Int32))).toInt8.toInt32]) ∧ own_len (own_enc [own_b c]) = F_rm_len c) ?_ q
 unfold F_rm_len
 decide +kernel
abbrev own_RT (l A B R : List Int32) (xa xz : Int32)  : Prop := (l = A ++ (B ++ R)) ∧ (l.length ≤ 1000) ∧ (xz = own_len l) ∧ (xa = own_len A)
theorem own_RT.hl {l A B R : List Int32} {xa xz : Int32} (H : own_RT l A B R xa xz) : l = A ++ (B ++ R) := H.1
theorem own_RT.hb {l A B R : List Int32} {xa xz : Int32} (H : own_RT l A B R xa xz) : l.length ≤ 1000 := H.2.1
theorem own_RT.hz {l A B R : List Int32} {xa xz : Int32} (H : own_RT l A B R xa xz) : xz = own_len l := H.2.2.1
theorem own_RT.ha {l A B R : List Int32} {xa xz : Int32} (H : own_RT l A B R xa xz) : xa = own_len A := H.2.2.2
theorem own_rt0 {l A B R : List Int32} {xa xz : Int32} (H : own_RT l A B R xa xz) : xa.toInt = A.length ∧ xz.toInt = ((A.length + (B.length + R.length) : Nat) : Int) ∧ A.length ≤ 1000 ∧ A.length + (B.length + R.length) ≤ 1000 := by
 obtain ⟨hl, hb, hz, ha⟩ := H
 have e : l.length = A.length + (B.length + R.length) := by rw [hl, List.length_append, List.length_append]
 rw [ha, hz, own_lenI hb, own_lenI (by omega), e]
 omega
theorem own_rt1 {l A B R : List Int32} {xa xz : Int32} (H : own_RT l A B R xa xz) : ¬ (xa < (0 : Int32)) := by
 rw [Int32.lt_iff_toInt_lt, (own_rt0 H).1]; exact Int.not_lt.mpr (Int.natCast_nonneg _)
/-- an index i places behind xa -/
theorem own_rt2 {l A B R : List Int32} {xa xz j : Int32} (H : own_RT l A B R xa xz) (i : Nat) (hj : j.toInt = ((A.length + i : Nat) : Int)) (hi : i < B.length) : ¬ j < 0 ∧ j < xz := by
 obtain ⟨h1, h2, h3, h4⟩ := own_rt0 H
 rw [Int32.lt_iff_toInt_lt, Int32.lt_iff_toInt_lt, hj, h2, show (0 : Int32).toInt = 0 from rfl]
 omega
theorem own_rt3 {l A B R : List Int32} {xa xz j : Int32} (H : own_RT l A B R xa xz) (i : Nat) (hj : j.toInt = ((A.length + i : Nat) : Int)) (hi : i < B.length) {v : Int32} (hv : B.getD i 0 = v) : (l.map Value.int).getD j.toNatClampNeg (.int 0) = .int v := by
 rw [own_getD, own_nat hj, H.hl, ← hv]
 simp only [List.getD_eq_getElem?_getD]
 rw [List.getElem?_append_right (by omega), show A.length + i - A.length = i from by omega, List.getElem?_append_left hi]
theorem own_rt4 {l A B R : List Int32} {xa xz j : Int32} (H : own_RT l A B R xa xz) (hj : j.toInt = ((A.length + B.length : Nat) : Int)) : ¬ (xz < j) := by
 obtain ⟨h1, h2, h3, h4⟩ := own_rt0 H
 rw [Int32.lt_iff_toInt_lt, hj, h2]; omega
theorem own_rt5 {l A B R : List Int32} {xa xz j : Int32} (H : own_RT l A B R xa xz) (hj : j.toInt = ((A.length + B.length : Nat) : Int)) : j = own_len (A ++ B) := by
 obtain ⟨h1, h2, h3, h4⟩ := own_rt0 H
 rw [← Int32.toInt_inj, hj, own_lenI (by rw [List.length_append]; omega), List.length_append]
theorem own_j1 {A : Nat} {x : Int32} (h : x.toInt = A) (q : A ≤ 1000) : (x + (1 : Int32)).toInt = ((A + 1 : Nat) : Int) ∧ (x + (2 : Int32)).toInt = ((A + 2 : Nat) : Int) ∧ ((x + (1 : Int32)) + (1 : Int32)).toInt = ((A + 2 : Nat) : Int) ∧ ((x + (1 : Int32)) + (2 : Int32)).toInt = ((A + 3 : Nat) : Int) ∧ ((x + (1 : Int32)) + (3 : Int32)).toInt = ((A + 4 : Nat) : Int) ∧ ((x + (2 : Int32)) + (1 : Int32)).toInt = ((A + 3 : Nat) : Int) ∧ ((x + (2 : Int32)) + (2 : Int32)).toInt = ((A + 4 : Nat) : Int) ∧ ((x + (2 : Int32)) + (3 : Int32)).toInt = ((A + 5 : Nat) : Int) := by
 have a1 := own_a1 h (own_le q (b := 0) (by decide))
 have a2 := own_a2 h (own_le q (b := 0) (by decide))
 exact ⟨a1, a2, own_a1 a1 (own_le q (by decide)), own_a2 a1 (own_le q (by decide)), own_a3 a1 (own_le q (by decide)), own_a1 a2 (own_le q (by decide)), own_a2 a2 (own_le q (by decide)), own_a3 a2 (own_le q (by decide))⟩
def own_rd (l : List Int32) (xz j v : Int32) : Prop := (¬ j < 0 ∧ j < xz) ∧ (l.map Value.int).getD j.toNatClampNeg (.int 0) = .int v
theorem own_rt6 {l A B R : List Int32} {xa xz j : Int32} (H : own_RT l A B R xa xz) (i : Nat) (hj : j.toInt = ((A.length + i : Nat) : Int)) {v : Int32} (hv : B[i]? = some v) : own_rd l xz j v := by
 have hi : i < B.length := (List.getElem?_eq_some_iff.mp hv).1
 exact ⟨own_rt2 H i hj hi, own_rt3 H i hj hi (by rw [List.getD_eq_getElem?_getD, hv]; rfl)⟩
theorem own_hA {l A R : List Int32} {xa xz k n : Int32} (H : own_RT l A (own_hdr k n) R xa xz) (c : n < (10 : Int32)) : own_rd l xz xa k ∧ own_rd l xz (xa + (1 : Int32)) ((48 : Int32) + n) ∧ own_rd l xz ((xa + (1 : Int32)) + (1 : Int32)) 13 ∧ own_rd l xz ((xa + (1 : Int32)) + (2 : Int32)) 10 ∧ ¬ (xz < ((xa + (1 : Int32)) + (3 : Int32))) ∧ ((xa + (1 : Int32)) + (3 : Int32)) = own_len (A ++ own_hdr k n) := by
 have h0 := own_rt0 H
 have h1 := own_j1 h0.1 h0.2.2.1
 have e : own_hdr k n = [k, (48 : Int32) + n, 13, 10] := by rw [own_hdr, if_pos c]
 rw [e] at H ⊢
 exact ⟨own_rt6 H 0 h0.1 rfl, own_rt6 H 1 h1.1 rfl, own_rt6 H 2 h1.2.2.1 rfl, own_rt6 H 3 h1.2.2.2.1 rfl, own_rt4 H h1.2.2.2.2.1, own_rt5 H h1.2.2.2.2.1⟩
theorem own_hB {l A R : List Int32} {xa xz k n : Int32} (H : own_RT l A (own_hdr k n) R xa xz) (c : ¬ (n < (10 : Int32))) : own_rd l xz xa k ∧ own_rd l xz (xa + (1 : Int32)) ((48 : Int32) + n / (10 : Int32)) ∧ own_rd l xz (xa + (2 : Int32)) ((48 : Int32) + n % (10 : Int32)) ∧ own_rd l xz ((xa + (2 : Int32)) + (1 : Int32)) 13 ∧ own_rd l xz ((xa + (2 : Int32)) + (2 : Int32)) 10 ∧ ¬ (xz < ((xa + (2 : Int32)) + (3 : Int32))) ∧ ((xa + (2 : Int32)) + (3 : Int32)) = own_len (A ++ own_hdr k n) := by
 have h0 := own_rt0 H
 have h1 := own_j1 h0.1 h0.2.2.1
 have e : own_hdr k n = [k, (48 : Int32) + n / (10 : Int32), (48 : Int32) + n % (10 : Int32), 13, 10] := by rw [own_hdr, if_neg c]
 rw [e] at H ⊢
 exact ⟨own_rt6 H 0 h0.1 rfl, own_rt6 H 1 h1.1 rfl, own_rt6 H 2 h1.2.1 rfl, own_rt6 H 3 h1.2.2.2.2.2.1 rfl, own_rt6 H 4 h1.2.2.2.2.2.2.1 rfl, own_rt4 H h1.2.2.2.2.2.2.2, own_rt5 H h1.2.2.2.2.2.2.2⟩
theorem own_cA {l A R : List Int32} {xa xz c : Int32} (H : own_RT l A (own_enc [own_b c]) R xa xz) (q : own_OKc c) (d : c < (128 : Int32)) : own_rd l xz xa (c.toInt8.toInt32) ∧ ¬ (xz < (xa + (1 : Int32))) ∧ (xa + (1 : Int32)) = own_len (A ++ own_enc [own_b c]) := by
 have h0 := own_rt0 H
 have h1 := own_j1 h0.1 h0.2.2.1
 rw [(own_chx q).1 d] at H ⊢
 exact ⟨own_rt6 H 0 h0.1 rfl, own_rt4 H h1.1, own_rt5 H h1.1⟩
theorem own_cB {l A R : List Int32} {xa xz c : Int32} (H : own_RT l A (own_enc [own_b c]) R xa xz) (q : own_OKc c) (d : ¬ (c < (128 : Int32))) : own_rd l xz xa (((192 : Int32) ||| (c >>> ((6 : Int32) &&& 31))).toInt8.toInt32) ∧ own_rd l xz (xa + (1 : Int32)) (((128 : Int32) ||| (c &&& (63 : Int32))).toInt8.toInt32) ∧ ¬ (xz < (xa + (2 : Int32))) ∧ (xa + (2 : Int32)) = own_len (A ++ own_enc [own_b c]) := by
 have h0 := own_rt0 H
 have h1 := own_j1 h0.1 h0.2.2.1
 rw [(own_chx q).2.1 d] at H ⊢
 exact ⟨own_rt6 H 0 h0.1 rfl, own_rt6 H 1 h1.1 rfl, own_rt4 H h1.2.1, own_rt5 H h1.2.1⟩
theorem own_rC {l A R : List Int32} {xa xz : Int32} (H : own_RT l A [13, 10] R xa xz) : own_rd l xz xa 13 ∧ own_rd l xz (xa + (1 : Int32)) 10 ∧ ¬ (xz < (xa + (2 : Int32))) ∧ (xa + (2 : Int32)) = own_len (A ++ [13, 10]) := by
 have h0 := own_rt0 H
 have h1 := own_j1 h0.1 h0.2.2.1
 exact ⟨own_rt6 H 0 h0.1 rfl, own_rt6 H 1 h1.1 rfl, own_rt4 H h1.2.1, own_rt5 H h1.2.1⟩
theorem own_rtS {l A B1 B2 R : List Int32} {xa xz : Int32} (H : own_RT l A (B1 ++ B2) R xa xz) : own_RT l A B1 (B2 ++ R) xa xz ∧ own_RT l (A ++ B1) B2 R (own_len (A ++ B1)) xz :=
 ⟨⟨by rw [H.hl, List.append_assoc], H.hb, H.hz, H.ha⟩, ⟨by rw [H.hl]; simp only [List.append_assoc], H.hb, H.hz, rfl⟩⟩
theorem own_rtX {l A R r : List Int32} {b xa xz : Int32} (H : own_RT l A (own_enc (b :: r)) R xa xz) : own_RT l A (own_enc [b]) (own_enc r ++ R) xa xz ∧ own_RT l (A ++ own_enc [b]) (own_enc r) R (own_len (A ++ own_enc [b])) xz :=
 own_rtS (by rw [← own_encA]; exact H)
theorem own_rtE {l A R : List Int32} {xa xz : Int32} (H : own_RT l A (own_enc []) ([13, 10] ++ R) xa xz) : own_RT l A [13, 10] R xa xz := ⟨H.hl, H.hb, H.hz, H.ha⟩
theorem own_e5 (a b c d e : Int32) : own_enc [a, b, c, d, e] = own_enc [a] ++ (own_enc [b] ++ (own_enc [c] ++ (own_enc [d] ++ own_enc [e]))) := by
 rw [← own_encA, ← own_encA, ← own_encA, ← own_encA]; rfl
theorem own_e2 (a b : Int32) : own_enc [a, b] = own_enc [a] ++ own_enc [b] := by
 rw [← own_encA]; rfl
theorem own_n5 {a b c d e : Int32} (qa : own_OKc a) (qb : own_OKc b) (qc : own_OKc c) (qd : own_OKc d) (qe : own_OKc e) : ((((F_rm_len a + F_rm_len b) + F_rm_len c) + F_rm_len d) + F_rm_len e) = own_len (own_enc [own_b a, own_b b, own_b c, own_b d, own_b e]) := by
 rw [own_e5, own_lenA, own_lenA, own_lenA, own_lenA, (own_chx qa).2.2, (own_chx qb).2.2, (own_chx qc).2.2, (own_chx qd).2.2, (own_chx qe).2.2]
 simp only [Int32.add_assoc]
theorem own_n2 {a b : Int32} (qa : own_OKc a) (qb : own_OKc b) : (F_rm_len a + F_rm_len b) = own_len (own_enc [own_b a, own_b b]) := by
 rw [own_e2, own_lenA, (own_chx qa).2.2, (own_chx qb).2.2]
theorem own_n1 {a : Int32} (qa : own_OKc a) : F_rm_len a = own_len (own_enc [own_b a]) := (own_chx qa).2.2.symm
theorem own_bl1 {w : List Int32} (h : w.length ≤ 99) (a b : Int32) : F_rm_bl1 a b (own_len w) w = own_len (own_bulks [w]) := by
 rw [F_rm_bl1, own_bulks, own_bulks, List.append_nil, own_bkS h a b, Int32.zero_add]
theorem own_bl2 {w v : List Int32} (h : w.length ≤ 99) (g : v.length ≤ 99) (a b : Int32) : F_rm_bl2 a b (own_len w) w (own_len v) v = own_len (own_bulks [w, v]) := by
 rw [F_rm_bl2, own_bulks, own_bulks, own_bulks, List.append_nil, own_lenA, own_bkS h a b, own_bkS g a b, Int32.zero_add]
theorem own_bl0 (a b : Int32) : F_rm_bl0 a b = own_len (own_bulks []) := rfl
theorem own_bs1 {w : List Int32} (h : w.length ≤ 99) : (own_bulks [w]).length ≤ w.length + 7 := by
 rw [own_bulks, own_bulks, List.append_nil]; have := own_bkL h; omega
theorem own_bs2 {w v : List Int32} (h : w.length ≤ 99) (g : v.length ≤ 99) : (own_bulks [w, v]).length ≤ w.length + 7 + (v.length + 7) := by
 rw [own_bulks, own_bulks, own_bulks, List.append_nil, List.length_append]; have := own_bkL h; have := own_bkL g; omega
theorem own_el (l : List Int32) {n : Nat} (h : l.length = n) : (own_enc l).length ≤ 2 * n := h ▸ own_encL l
def own_zs (L : List Int32) : List Int32 := List.replicate (own_len L).toNatClampNeg (0 : Int32)
theorem own_zL {L : List Int32} (h : L.length ≤ 1000) : (own_zs L).length = L.length := by rw [own_zs, List.length_replicate, own_lenN h]
theorem own_cap {L : List Int32} {n : Nat} (h : L.length ≤ n) (hn : n ≤ 1000) : (own_len L).toNatClampNeg ≤ n := by rw [own_lenN (by omega)]; exact h
abbrev own_QT (T : Int32) (le bs : List Int32)  : Prop := (0 ≤ T.toInt ∧ T.toInt ≤ 99) ∧ (le.length ≤ 99) ∧ ((own_hdr 42 T ++ (le ++ bs)).length ≤ 1000)
theorem own_QT.hq {T : Int32} {le bs : List Int32} (H : own_QT T le bs) : 0 ≤ T.toInt ∧ T.toInt ≤ 99 := H.1
theorem own_QT.hle {T : Int32} {le bs : List Int32} (H : own_QT T le bs) : le.length ≤ 99 := H.2.1
theorem own_QT.hb {T : Int32} {le bs : List Int32} (H : own_QT T le bs) : (own_hdr 42 T ++ (le ++ bs)).length ≤ 1000 := H.2.2
theorem own_q0 {T : Int32} {le bs : List Int32} (H : own_QT T le bs) : (own_zs (own_hdr 42 T ++ (le ++ bs))).length = (own_hdr 42 T).length + (le.length + bs.length) ∧ (own_hdr 42 T).length + (le.length + bs.length) ≤ 1000 := by
 have h := H.hb
 rw [own_zL h]
 rw [List.length_append, List.length_append] at *
 exact ⟨rfl, h⟩
theorem own_q1 {T : Int32} {le bs : List Int32} (H : own_QT T le bs) : (own_zs (own_hdr 42 T ++ (le ++ bs))).length = (own_len (own_hdr 42 T ++ (le ++ bs))).toNatClampNeg := by rw [own_zL H.hb, own_lenN H.hb]
theorem own_q2 {T : Int32} {le bs : List Int32} (H : own_QT T le bs) : (0 : Int32).toInt ≥ 0 ∧ (0 : Int32).toInt + (F_rm_dig T).toInt + 3 ≤ (own_len (own_hdr 42 T ++ (le ++ bs))).toInt ∧ (own_len (own_hdr 42 T ++ (le ++ bs))).toInt ≤ 1000 := by
 have h := (own_hdrL (k := 42) H.hq).2.2.2
 have h2 := own_q0 H
 rw [own_lenI H.hb, List.length_append, List.length_append, show (0 : Int32).toInt = 0 from rfl]
 omega
theorem own_q3 {T : Int32} {le bs : List Int32} (H : own_QT T le bs) : own_ph (own_zs (own_hdr 42 T ++ (le ++ bs))) (0 : Int32) 42 T = own_hdr 42 T ++ (own_zs (own_hdr 42 T ++ (le ++ bs))).drop (own_hdr 42 T).length := by
 have h2 := own_q0 H
 exact own_phA (A := []) (R := own_zs (own_hdr 42 T ++ (le ++ bs))) rfl H.hq (by rw [h2.1]; simp only [List.length_nil]; omega) (by rw [h2.1]; omega) rfl
theorem own_q4 {T : Int32} {le bs : List Int32} (H : own_QT T le bs) : (((0 : Int32) + (1 : Int32)) + (F_rm_dig T)) + (2 : Int32) = own_len (own_hdr 42 T) := own_phR (A := []) rfl H.hq
theorem own_q5 {T : Int32} {le bs : List Int32} (H : own_QT T le bs) : own_JT (own_hdr 42 T) ((own_zs (own_hdr 42 T ++ (le ++ bs))).drop (own_hdr 42 T).length) le (own_len (own_hdr 42 T ++ (le ++ bs))) := by
 have h2 := own_q0 H
 have e : (own_hdr 42 T ++ (own_zs (own_hdr 42 T ++ (le ++ bs))).drop (own_hdr 42 T).length).length = (own_hdr 42 T ++ (le ++ bs)).length := by
  simp only [List.length_append, List.length_drop, h2.1]; omega
 exact ⟨H.hle, (own_lz e).symm, by rw [e]; exact H.hb, by rw [List.length_drop, h2.1]; omega⟩
theorem own_q6 {T : Int32} {le bs : List Int32} (H : own_QT T le bs) : ((own_hdr 42 T ++ le) ++ ((own_zs (own_hdr 42 T ++ (le ++ bs))).drop (own_hdr 42 T).length).drop le.length).length = (own_hdr 42 T ++ (le ++ bs)).length := by
 have h2 := own_q0 H
 simp only [List.length_append, List.length_drop, h2.1]; omega
theorem own_q7 {T : Int32} {le bs : List Int32} (H : own_QT T le bs) : (((own_zs (own_hdr 42 T ++ (le ++ bs))).drop (own_hdr 42 T).length).drop le.length).length = bs.length := by
 have h2 := own_q0 H
 simp only [List.length_drop, h2.1]; omega
theorem own_q8 {T : Int32} {le bs : List Int32} (H : own_QT T le bs) (a b : Int32) : ((F_rm_hl T a b) + own_len le) + own_len bs = own_len (own_hdr 42 T ++ (le ++ bs)) := by
 rw [own_lenA, own_lenA, (own_hdrL H.hq).1, F_rm_hl, Int32.add_assoc]

def own_pos : List Int32 → List Int32
 | [] => []
 | x :: r => if x < (0 : Int32) then [] else x :: own_pos r
theorem own_posN {x : Int32} {r : List Int32} (c : x < (0 : Int32)) : own_pos (x :: r) = [] := by rw [own_pos, if_pos c]
theorem own_posP {x : Int32} {r : List Int32} (c : ¬ (x < (0 : Int32))) : own_pos (x :: r) = x :: own_pos r := by rw [own_pos, if_neg c]
theorem own_posA {q r : List Int32} (h : own_pos q = q) : own_pos (q ++ r) = q ++ own_pos r := by
 induction q with
 | nil => rfl
 | cons x q ih =>
  by_cases c : x < (0 : Int32)
  ·rw [own_posN c] at h; cases h
  ·rw [own_posP c] at h
   rw [List.cons_append, own_posP c, ih (List.cons.inj h).2]; rfl
theorem own_posL (l : List Int32) : (own_pos l).length ≤ l.length := by
 induction l with
 | nil => exact Nat.le_refl _
 | cons x r ih =>
  by_cases c : x < (0 : Int32)
  ·rw [own_posN c]; exact Nat.zero_le _
  ·rw [own_posP c, List.length_cons, List.length_cons]; omega
theorem own_posE {l : List Int32} (h : (own_pos l).length = l.length) : own_enc l = l := by
 induction l with
 | nil => rfl
 | cons x r ih =>
  by_cases c : x < (0 : Int32)
  ·rw [own_posN c] at h; cases h
  ·rw [own_posP c, List.length_cons, List.length_cons] at h
   rw [own_enc, if_neg c, ih (by omega)]; rfl
theorem own_linj {a b : List Int32} (ha : a.length ≤ 1000) (hb : b.length ≤ 1000) (h : own_len a = own_len b) : a.length = b.length := by
 have := own_lenI ha
 rw [h, own_lenI hb] at this
 omega
theorem own_lt_snoc {q r : List Int32} {x : Int32} {l : List Int32} (h : l = q ++ x :: r) (hl : l.length ≤ 1000) : (¬ own_len q < 0 ∧ own_len q < own_len l) ∧ (l.map Value.int).getD (own_len q).toNatClampNeg (.int 0) = .int x := by
 have e : l.length = q.length + (r.length + 1) := by rw [h, List.length_append, List.length_cons]
 refine ⟨⟨own_nn (by omega), ?_⟩, ?_⟩
 ·rw [Int32.lt_iff_toInt_lt, own_lenI hl, own_lenI (by omega)]; omega
 ·rw [own_getD, own_lenN (by omega), h]
  simp [List.getD_eq_getElem?_getD]
theorem own_snoc (q : List Int32) (x : Int32) : own_len q + (1 : Int32) = own_len (q ++ [x]) := by rw [own_lenA]; rfl

theorem own_g1 {R w : List Int32} (h : R.length = (own_bulks [w]).length) : (own_bulk w).length ≤ R.length := by
 rw [own_bulks, own_bulks, List.append_nil] at h; omega
theorem own_g2 {R w v : List Int32} (h : R.length = (own_bulks [w, v]).length) : (own_bulk w).length + (own_bulk v).length ≤ R.length := by
 rw [own_bulks, own_bulks, own_bulks, List.append_nil, List.length_append] at h; omega
theorem own_w99 {l : List Int32} (h : l.length ≤ 5) : (own_enc l).length ≤ 99 := by
 have := own_encL l; omega
theorem own_mkQ {T : Int32} {le bs : List Int32} (hq : 0 ≤ T.toInt ∧ T.toInt ≤ 99) (h1 : le.length ≤ 40) (h2 : bs.length ≤ 18) : own_QT T le bs ∧ (own_hdr 42 T ++ (le ++ bs)).length ≤ 64 := by
 have h3 := (own_hdrL (k := 42) hq).2.1
 have h4 : (own_hdr 42 T ++ (le ++ bs)).length ≤ 64 := by rw [List.length_append, List.length_append]; omega
 exact ⟨⟨hq, by omega, by omega⟩, h4⟩
theorem own_bsL (cs : List Int32) : ∀ x ∈ cs.map own_b, nar .byte x = x := fun x hx => by
 obtain ⟨c, -, rfl⟩ := List.mem_map.mp hx
 exact own_bb c
theorem own_mvM {Z s : State} {a0 args : Array Value} {own host : String} {index : Nat} {y : MethodName} (hZ : Z.Warmed39 s.vm) (w : (Cond.methodLinkNest own index y host).before a0 Z = true) : (Cond.methodLinkNest own index y host).before args s = true := (Cond.methodLinkNest_wide hZ w :)
theorem own_callN {p : Program} {l : Launch} {e : Env} {R : Room} {s : State} {m : MethodId} {args : Array Value} {bw : List Frame} {meth : Method} {c : Code} {locs : List Loc} {cells slots : Nat} {Z T : State} {G : State → Prop} {a0 as' : Array Value} {h : Heap} {Q : Option Value → Heap → List Loc → Prop} {rm : Room} (X : Stand p l e R s m args bw meth c T locs cells slots) (hx : p.tables.exec = Jvm.exec) (hZ : Z.Warmed39 s.vm) {own host : String} {index : Nat} {y : MethodName} {bytes : ByteArray} {maxL : Nat} {ret : Option FieldType}
  (hown : s.vm.findClass own = some m.cls) (w1 : (Cond.methodLinkNest own index y host).before a0 Z = true) (w2 : (Cond.static y).before a0 Z = true) (w3 : (Cond.initialized y.cls).before a0 Z = true) (w4 : (Cond.code y bytes maxL ret).before a0 Z = true) (hy : y.cls ≠ "java/lang/invoke/MethodHandle" ∧ y.cls ≠ "java/lang/invoke/VarHandle")
  (hM : MetFree l y (head1 [Cond.code y bytes maxL ret] rm) (fun a U => a = as' ∧ Z.Warmed39 U.vm ∧ U.heap = h) (fun _ _ _ _ _ => True) (fun _ U o U' => ∃ v L, o = .returned v ∧ Q v U'.heap L ∧ FrameEnd U o U' L rm.cells rm.slots)) (eT : T.heap = h) {pc : Nat} {L : Array Slot} {S : List Value} (pre : oP p e bw G T m pc L S) {ml : Nat} (hml : c.maxLocals = ml) (hz : L.size = ml) (hd : decode c.code pc = .ok (.invokestatic index, 3))
  (hlen : ∀ sig, parseMethodDescriptor y.desc = some sig → as'.toList.length = sig.parameters.length) (hS : S = as'.toList.reverse ++ S.drop as'.size) {W : Nat} (hW : ((S.drop as'.size).map fun v => v.category).sum = W) (hr : rm.frames + 1 ≤ R.frames ∧ W + (maxL + 11) + rm.locals ≤ R.locals ∧ cells + rm.cells ≤ R.cells ∧ slots + rm.slots ≤ R.slots) :
  ∃ (v : Option Value) (T' : State) (Lc : List Loc), Stand p l e R s m args bw meth c T' (locs ++ Lc) (cells + rm.cells) (slots + rm.slots) ∧ Q v T'.heap Lc ∧ oP p e bw G T' m (pc + 3) L (v.toList ++ S.drop as'.size) := by
 obtain ⟨hf, hl, hc, hs⟩ := hr
 obtain ⟨v, _, ⟨T1, L1, k1, n1⟩, -, X1, ⟨Lc, hQ, l1, y1, z1⟩, st⟩ := callSN X hx (y := y) hown (own_mvM hZ w1) (mvT hZ w2) (mvT hZ w3) (mvT hZ w4) hy (backOf (W := W) hM hZ w4 w3 hf hl) (g := mkF m pc L S) rfl (hz.trans hml.symm) hlen hS (by show 2 * 0 + _ ≤ _; omega) hd (fun _ _ => ⟨by simp, eT, hc, hs⟩)
 dsimp only [Pt.U, Pt.locs, Pt.cells, Pt.slots] at X1 l1 y1 z1 st hQ
 subst l1 y1 z1
 exact ⟨v, T1, Lc, X1, hQ, fun t k => pre t (st.trans k)⟩
theorem own_specialRef {p : Program} {l : Launch} {e : Env} {R : Room} {s : State} {m : MethodId} {args : Array Value} {bw : List Frame} {meth : Method} {c : Code} {T : State} {locs : List Loc} {cells slots : Nat} {Z : State} {a0 : Array Value}
  (X : Stand p l e R s m args bw meth c T locs cells slots) (hexec : p.tables.exec = Jvm.exec) (hZ : Z.Warmed39 s.vm) {own : String} {index : Nat} {y : MethodName} (hy1 : y.name = "<init>") (hown : s.vm.findClass own = some m.cls)
  (w : (Cond.methodRef own index y).before a0 Z = true) (wi : (Cond.instanceMethod y).before a0 Z = true) (hinst : (Cond.instanceMethod y).before args s = true) {bytes : ByteArray} {maxL : Nat} (hcode : (Cond.code y bytes maxL none).before args s = true)
  (hy : y.cls ≠ "java/lang/invoke/MethodHandle" ∧ y.cls ≠ "java/lang/invoke/VarHandle") {W : Nat} {Pre : Pt → Array Value → Prop} {Post : Pt → Array Value → Option Value → Pt → Prop} (hK : Back l R p e bw s args y 3 W Pre Post)
  {g : JFrame} (hg : g.method = m) (hsize : g.locals.size = c.maxLocals) {s₀ : State} (hcome : Steps p.tables e bw s₀ (T.setTop g)) {a : Addr} {argsL rest : List Value}
  (hlen : ∀ sig, parseMethodDescriptor y.desc = some sig → argsL.length = sig.parameters.length) (hstack : g.stack = argsL.reverse ++ .ref a :: rest) (hW : 2 * g.monitorRoom + (rest.map fun v => v.category).sum ≤ W)
  (hdg : decode c.code g.pc = .ok (.invokespecial index, 3)) (hpre : ∀ vm₁, s.WarmedH vm₁ → Pre ⟨T.setVm vm₁, locs, cells, slots⟩ (.ref a :: argsL).toArray) :
  ∃ (v : Option Value) (vm₁ : Vm) (B : Pt), s.WarmedH vm₁ ∧ Stand p l e R s m args bw meth c B.U B.locs B.cells B.slots ∧ Post ⟨T.setVm vm₁, locs, cells, slots⟩ (.ref a :: argsL).toArray v B ∧
   Steps p.tables e bw s₀ (B.U.setTop { g with pc := g.pc + 3, stack := v.toList ++ rest }) := by
 obtain ⟨mz, -, hnZ, -⟩ := Cond.instanceMethod_spec wi
 obtain ⟨mk, methM, hnamed, hmM, hst, hab⟩ := Cond.instanceMethod_spec hinst
 obtain ⟨methM', cM, hmM', -, -, -, -, -, -, hsig⟩ := Cond.code_spec hnamed hcode
 cases hmM.symm.trans hmM'
 obtain ⟨kO, hkO, -⟩ := className_of_methodNamed hnamed
 obtain ⟨hnm, hds⟩ := name_of_methodNamed hnamed hmM
 have hWT := X.warmed
 have X₁ := X.noted hWT
 have hT : (T.setVm T.vm).methodNamed? y = some mk := X₁.named hnamed
 have q := Cond.methodRef_warmed39 (wtrans hZ hWT) hnZ hy w
 have qT : (Cond.methodRef own index y).before args (T.setVm T.vm) = true := by
  simp only [Cond.before, Cond.holds, Cond.value] at q ⊢
  exact q
 have hcur : (T.setVm T.vm).vm.findClass own = some m.cls := by rw [State.vm_setVm, hWT.alike.findClass]; exact hown
 obtain ⟨m', c', hm', hready, hfind, hnr⟩ := Cond.methodRef_named e hcur qT
 have em : m' = mk := Option.some.inj (hm'.symm.trans (State.methodFound?_of_named hT hy))
 have ec : c' = mk.cls := Option.some.inj (hfind.symm.trans (findClass_of_methodNamed hT))
 subst em ec
 obtain ⟨k2, hk2, -⟩ := hWT.alike.2.2 _ _ hkO
 have hm2 : T.vm.method? m' = some methM := by rw [hWT.alike.method?]; exact hmM
 have hfound : lookupSpecial T.vm m'.cls "<init>" methM.desc = .method m' := by
  rw [hWT.alike.lookupSpecial, hds, ← hy1]; exact lookupSpecial_of_named hnamed hmM hst
 obtain ⟨v, B, X', hpost, hsteps⟩ := hK m meth c ⟨T.setVm T.vm, locs, cells, slots⟩ { g with stack := rest } (.invokespecial index) m' (.ref a :: argsL).toArray X₁ hg hsize hdg hW (X₁.named hnamed) (hpre T.vm hWT)
 refine ⟨v, T.vm, B, hWT, X', hpost, (hcome.trans ?_).trans hsteps⟩
 subst hg
 jvm_step X.here [hexec, hdg, invokespecial.wp_init (e := e) (s := T) (k := k2) (meth := methM) (m := m') (a := a) (args := argsL) (rest := rest) (f := g) X.here.top hnr hready hk2 hm2 (by rw [hnm]; exact hy1) hst hab hfound (hlen _ hsig) hstack]
 intro acts
 rw [doInvoke_state]
 exact Steps.refl _
theorem own_neEE {Z : State} {h : Heap} {a b : Addr} {K K' : String} (hK : K ≠ K') (E1 : Exa Z h a K) (E2 : Exa Z h b K') : a ≠ b := by
 rintro rfl
 obtain ⟨c1, -, h1, h2, -⟩ := E1
 obtain ⟨c2, -, g1, g2, -⟩ := E2
 cases h1.symm.trans g1
 obtain ⟨k1, e1, n1⟩ := Vm.findClass_spec h2
 obtain ⟨k2, e2, n2⟩ := Vm.findClass_spec g2
 cases e1.symm.trans e2
 exact hK (n1.symm.trans n2)
theorem own_exaB {Z S : State} {a0 : Array Value} {EL : List (String × Nat)} {vm : Vm} {h : Heap} {own text : String} {index : Nat} {mc : ClassId} {a b : Addr} (hW : Z.Warmed39 vm) (hf : vm.findClass own = some mc) (w : (Cond.stringLink own index text).before a0 Z = true) (hmem : (own, index) ∈ EL) (hC : CHv Z EL vm h) (hL : Lit (S.setVm vm) own index a)
  (Fv : Fld Z h a "java/lang/String" "value" "[B" (.ref b)) : Exa Z h b "[B" := by
 have hal := hW.alike
 obtain ⟨k0, cf, i, units, hk0, hcf, hp, hu, -⟩ := Cond.stringLink_spec (s := Wst Z vm h) hf (mvS (args := a0) (s := { Z with heap := h }) hW w)
 have hB0 : Booksv vm own index units a := by
  refine ⟨mc, k0, cf, i, hf, hk0, hcf, hp, hu, Or.inl ?_⟩
  have hk0' : vm.classes[mc]? = some k0 := hk0
  have q : (S.setVm vm).resolvedAt? own index = some (.string a) := hL
  simp only [State.resolvedAt?, State.vm_setVm, hf, hk0', Option.bind_eq_bind, Option.bind_some] at q
  cases hr : k0.resolved[index]? with
  | none => rw [hr] at q; cases q
  | some o =>
   rw [hr] at q
   cases o with
   | none => cases q
   | some r => simpa using q
 obtain ⟨q, hqa, F⟩ := SlB.of (hC _ hmem units a hB0)
 have hd := F.hd
 obtain ⟨cS, ⟨⟨s1, -, -, ⟨cv, kv, iv, s4, -⟩, -, -, -, s8, -, -, s11, -⟩, -⟩, -, hB, -⟩ := F
 subst hqa
 obtain ⟨kv', z4⟩ := ff_back (U := Wst Z vm h) hal s4
 obtain ⟨cell, cf', k', i', f', t1, t2, -, -, -, -, t7⟩ := Fv
 cases (show some cell = some q.sC from t1.symm.trans s1)
 have e2 := t2.symm.trans z4
 simp only [Option.some.injEq, Prod.mk.injEq] at e2
 rw [e2.2.2.2, s8] at t7
 have e3 : q.sd = b := by simpa using t7
 subst e3
 have hBZ : Z.vm.findClass "[B" = some q.SA.cls := by rw [← hal.findClass]; exact hB
 obtain ⟨kb, hkb, -⟩ := Vm.findClass_spec hBZ
 obtain ⟨kb', hkb', ekb⟩ := hal.2.2 _ _ hkb
 obtain ⟨hst, k9, hk9, comp, hkind9⟩ := s11
 have ek9 : k9 = kb' := Option.some.inj ((show vm.classes[q.SA.cls]? = some k9 from hk9).symm.trans hkb')
 refine ⟨q.SA, kb, hd, hBZ, hkb, ?_, fun ho => ?_⟩
 ·cases hq : q.SA.vm <;> first | rfl | exact absurd hq (hst _)
 ·rw [ek9, ekb] at hkind9
  rw [hkind9] at ho
  cases ho
theorem ef_rm_pb0 (m : MethodId) (ra : Addr) (rw : Addr) : entryFrame m #[(.ref ra), (.int (own_len lA)), (.ref rw)] 8 = mkF m 0 #[vR ra, vI (own_len lA), vR rw, vU, vU, vU, vU, vU] [] := by simp [entryFrame, mkF, argsToLocals, Value.category]
def Q_rm_pb0 (Z : State) (ra : Addr) (rw : Addr) (wc : Addr) (kc : ClassId) (xr0 : Int32) (xr1 : Int32) (ka : ClassId) (kw : ClassId) (xz : Int32) (l1 : List Int32) (lA : List Int32) (lR : List Int32) (h0 : Heap) (n0 : Nat) (v : Option Value) (h : Heap) (L : List Loc) : Prop := v = none ∧ Fr n0 L ∧ Keep h0 h ([] : List Addr) ∧ Arv Z h ra ka .byte xz ((lA ++ own_bulks []).map Value.int) (.int 0)
set_option maxRecDepth 65536 in
set_option maxHeartbeats 40000000 in
theorem rm_pb0 (l : Launch) (Z : State) (a0 : Array Value) (hw : ∀ d ∈ tables_1, d.before a0 Z = true) (ws : List Jvm.Cond) (ra : Addr) (rw : Addr) (wc : Addr) (kc : ClassId) (xr0 : Int32) (xr1 : Int32) (ka : ClassId) (kw : ClassId) (xz : Int32) (l1 : List Int32) (lA : List Int32) (lR : List Int32) (h0 : Heap) (n0 : Nat) (Z0 : n0 ≤ h0.size) (SR : Sta Z h0 oS1 "CRLF" "[B" (.ref wc)) (VR : Arv Z h0 wc kc .byte (2 : Int32) [(.int xr0), (.int xr1)] (.int 0)) (VA : Arv Z h0 ra ka .byte xz (l1.map Value.int) (.int 0)) (VW : Arv Z h0 rw kw (.array .byte) (0 : Int32) [] .null) (EA : Exa Z h0 ra "[B") (g_ra : n0 ≤ ra) (hform : l1 = lA ++ lR) (hz : xz = own_len (lA ++ lR)) (hbd : (lA ++ lR).length ≤ 1000) (hR : lR.length = (own_bulks []).length) (hne : wc ≠ ra) (hnw : rw ≠ ra) :
  oMet l oM8 prog_10_method_15_code 8 none ws (oR 0 0 0 0) #[(.ref ra), (.int (own_len lA)), (.ref rw)] Z h0 (Q_rm_pb0 Z ra rw wc kc xr0 xr1 ka kw xz l1 lA lR h0 n0) := by
 refine MetFree.of_bodySF (plainFor_of_name pn3) hisR ?_
 have W := own_W hw
 intro p e s m args bw meth c s₁ Bd hml0 hP hK
 obtain ⟨rfl, hZ, hh⟩ := hP
 have hx := Bd.exec
 have hby := Bd.bytes
 have hml : c.maxLocals = 8 := hml0
 have hown : s.vm.findClass oS1 = some m.cls := findClass_of_methodNamed Bd.named
 have hnm := (name_of_methodNamed Bd.named Bd.method).1
 have X0 : Stand p l e (oR 0 0 0 0) s m #[(.ref ra), (.int (own_len lA)), (.ref rw)] bw meth c s₁ [] 0 0 := Stand.of_body Bd
 have e0 : s₁.heap = h0 := by rw [← hh, Bd.state]; rfl
 have N0 := Fr.nil n0
 have D := own_D hby dB15
 obtain ⟨G, hG⟩ := own_ex fun t => Steps p.tables e bw (s₁.setTop (entryFrame m #[(.ref ra), (.int (own_len lA)), (.ref rw)] 8)) t
 have pre0 : oP p e bw G s₁ m 0 #[vR ra, vI (own_len lA), vR rw, vU, vU, vU, vU, vU] [] := by intro t k; subst hG; exact castTop (ef_rm_pb0 m ra rw) k
 have vc1 : Arv Z h0 ra ka .byte xz ((lA ++ lR).map Value.int) (.int 0) := own_cv (hform.symm) VA
 have pre2 : oP p e bw G s₁ m 7 #[vR ra, vI (own_len lA), vR rw, vI (own_len lA), vR rw, vU, vU, vU] [(.ref rw)] := by
  intro t k
  refine pre0 t ?_
  refine XS.iloadN X0.here hx rfl (D 0 rfl) rfl ?_
  refine XS.istoreN X0.here hx rfl (D 1 rfl) rfl (l' := #[vR ra, vI (own_len lA), vR rw, vI (own_len lA), vU, vU, vU, vU]) rfl ?_
  refine XS.aloadN X0.here hx rfl (D 2 rfl) rfl rfl ?_
  refine XS.astore X0.here hx rfl (D 3 rfl) rfl rfl (l' := #[vR ra, vI (own_len lA), vR rw, vI (own_len lA), vR rw, vU, vU, vU]) rfl ?_
  refine XS.aload X0.here hx rfl (D 4 rfl) rfl rfl ?_
  exact k
 have pre4 : oP p e bw G s₁ m 77 #[vR ra, vI (own_len lA), vR rw, vI (own_len lA), vR rw, vI 0, vI 0, vU] [] := by
  intro t k
  refine pre2 t ?_
  obtain ⟨c3, a3, q3, s3, m3, i3, u3⟩ := id VW
  refine X0.arraylength hx (by rw [e0]; exact a3.1) (State.isArrayOf_alike hZ.alike a3.2.1) (g := (own_g pre2)) rfl rfl (D 5 rfl) _ ?_
  rw [len_of s3 m3]
  refine XS.istore X0.here hx rfl (D 6 rfl) rfl (l' := #[vR ra, vI (own_len lA), vR rw, vI (own_len lA), vR rw, vI 0, vU, vU]) rfl ?_
  refine XS.iconst X0.here hx rfl (D 7 rfl) ?_
  refine XS.istore X0.here hx rfl (D 8 rfl) rfl (l' := #[vR ra, vI (own_len lA), vR rw, vI (own_len lA), vR rw, vI 0, vI 0, vU]) rfl ?_
  refine XS.iload X0.here hx rfl (D 9 rfl) rfl ?_
  refine XS.iload X0.here hx rfl (D 10 rfl) rfl ?_
  refine XS.icmpYes X0.here hx rfl (pc0 := 17) (pc' := 77) rfl (D 11 rfl) rfl (flt (show ¬ ((0 : Int32) < (0 : Int32)) from by decide)).2.1 (by decide) (by decide) ?_
  exact k
 obtain ⟨fs, hr, hrun, hended, hW, hsame⟩ := X0.leave (hlocks := Bd.notSynchronized) (v := none) (fun _ => rfl)
 subst hG
 refine ⟨_, _, pre4 _ ?_, hrun, hended, _, _, rfl, ?_, ⟨_, rfl⟩, hW, hsame.mono (by decide) (by decide)⟩
 ·exact X0.returnOut hx Bd.returns (D 12 rfl) hr
 ·show Q_rm_pb0 Z ra rw wc kc xr0 xr1 ka kw xz l1 lA lR h0 n0 _ s₁.heap _
  rw [e0]
  exact ⟨rfl, N0, (Keep.refl h0 ([] : List Addr)), (by rw [show lA ++ own_bulks [] = lA ++ lR from own_f0 hR]; exact vc1)⟩
theorem pd8 : parseMethodDescriptor "([BICI)I" = some ⟨[(.array .byte), .int, .char, .int], some .int⟩ := by decide +kernel
theorem ef_rm_pb1 (m : MethodId) (ra : Addr) (rw : Addr) : entryFrame m #[(.ref ra), (.int (own_len lA)), (.ref rw)] 8 = mkF m 0 #[vR ra, vI (own_len lA), vR rw, vU, vU, vU, vU, vU] [] := by simp [entryFrame, mkF, argsToLocals, Value.category]
def Q_rm_pb1 (Z : State) (ra : Addr) (rw : Addr) (wc : Addr) (kc : ClassId) (xr0 : Int32) (xr1 : Int32) (ka : ClassId) (kw : ClassId) (xz : Int32) (l1 : List Int32) (lA : List Int32) (lR : List Int32) (ro0 : Addr) (ko0 : ClassId) (lw0 : List Int32) (h0 : Heap) (n0 : Nat) (v : Option Value) (h : Heap) (L : List Loc) : Prop := v = none ∧ Fr n0 L ∧ Keep h0 h [ra] ∧ Arv Z h ra ka .byte xz ((lA ++ own_bulks [lw0]).map Value.int) (.int 0)
set_option maxRecDepth 65536 in
set_option maxHeartbeats 40000000 in
theorem rm_pb1 (l : Launch) (Z : State) (a0 : Array Value) (hw : ∀ d ∈ tables_1, d.before a0 Z = true) (ws : List Jvm.Cond) (ra : Addr) (rw : Addr) (wc : Addr) (kc : ClassId) (xr0 : Int32) (xr1 : Int32) (ka : ClassId) (kw : ClassId) (xz : Int32) (l1 : List Int32) (lA : List Int32) (lR : List Int32) (ro0 : Addr) (ko0 : ClassId) (lw0 : List Int32) (h0 : Heap) (n0 : Nat) (Z0 : n0 ≤ h0.size) (SR : Sta Z h0 oS1 "CRLF" "[B" (.ref wc)) (VR : Arv Z h0 wc kc .byte (2 : Int32) [(.int xr0), (.int xr1)] (.int 0)) (VA : Arv Z h0 ra ka .byte xz (l1.map Value.int) (.int 0)) (VW : Arv Z h0 rw kw (.array .byte) (1 : Int32) [(.ref ro0)] .null) (EA : Exa Z h0 ra "[B") (g_ra : n0 ≤ ra) (hform : l1 = lA ++ lR) (hz : xz = own_len (lA ++ lR)) (hbd : (lA ++ lR).length ≤ 1000) (hR : lR.length = (own_bulks [lw0]).length) (hne : wc ≠ ra) (hnw : rw ≠ ra) (VO0 : Arv Z h0 ro0 ko0 .byte (own_len lw0) (lw0.map Value.int) (.int 0)) (hw_0 : lw0.length ≤ 99) (hno0 : ro0 ≠ ra) :
  oMet l oM8 prog_10_method_15_code 8 none ws (oR 2 0 0 33) #[(.ref ra), (.int (own_len lA)), (.ref rw)] Z h0 (Q_rm_pb1 Z ra rw wc kc xr0 xr1 ka kw xz l1 lA lR ro0 ko0 lw0 h0 n0) := by
 refine MetFree.of_bodySF (plainFor_of_name pn3) hisR ?_
 have W := own_W hw
 intro p e s m args bw meth c s₁ Bd hml0 hP hK
 obtain ⟨rfl, hZ, hh⟩ := hP
 have hx := Bd.exec
 have hby := Bd.bytes
 have hml : c.maxLocals = 8 := hml0
 have hown : s.vm.findClass oS1 = some m.cls := findClass_of_methodNamed Bd.named
 have hnm := (name_of_methodNamed Bd.named Bd.method).1
 have X0 : Stand p l e (oR 2 0 0 33) s m #[(.ref ra), (.int (own_len lA)), (.ref rw)] bw meth c s₁ [] 0 0 := Stand.of_body Bd
 have e0 : s₁.heap = h0 := by rw [← hh, Bd.state]; rfl
 have N0 := Fr.nil n0
 have D := own_D hby dB15
 obtain ⟨G, hG⟩ := own_ex fun t => Steps p.tables e bw (s₁.setTop (entryFrame m #[(.ref ra), (.int (own_len lA)), (.ref rw)] 8)) t
 have pre0 : oP p e bw G s₁ m 0 #[vR ra, vI (own_len lA), vR rw, vU, vU, vU, vU, vU] [] := by intro t k; subst hG; exact castTop (ef_rm_pb1 m ra rw) k
 have vc1 : Arv Z h0 ra ka .byte xz ((lA ++ lR).map Value.int) (.int 0) := own_cv (hform.symm) VA
 have it0 : own_IT lA lR lw0 xz := ⟨hw_0, hz, hbd, own_g1 hR⟩
 have pre2 : oP p e bw G s₁ m 7 #[vR ra, vI (own_len lA), vR rw, vI (own_len lA), vR rw, vU, vU, vU] [(.ref rw)] := by
  intro t k
  refine pre0 t ?_
  refine XS.iloadN X0.here hx rfl (D 0 rfl) rfl ?_
  refine XS.istoreN X0.here hx rfl (D 1 rfl) rfl (l' := #[vR ra, vI (own_len lA), vR rw, vI (own_len lA), vU, vU, vU, vU]) rfl ?_
  refine XS.aloadN X0.here hx rfl (D 2 rfl) rfl rfl ?_
  refine XS.astore X0.here hx rfl (D 3 rfl) rfl rfl (l' := #[vR ra, vI (own_len lA), vR rw, vI (own_len lA), vR rw, vU, vU, vU]) rfl ?_
  refine XS.aload X0.here hx rfl (D 4 rfl) rfl rfl ?_
  exact k
 have pre4 : oP p e bw G s₁ m 24 #[vR ra, vI (own_len lA), vR rw, vI (own_len lA), vR rw, vI 1, vI 0, vU] [(.int 0), (.ref rw)] := by
  intro t k
  refine pre2 t ?_
  obtain ⟨c3, a3, q3, s3, m3, i3, u3⟩ := id VW
  refine X0.arraylength hx (by rw [e0]; exact a3.1) (State.isArrayOf_alike hZ.alike a3.2.1) (g := (own_g pre2)) rfl rfl (D 5 rfl) _ ?_
  rw [len_of s3 m3]
  refine XS.istore X0.here hx rfl (D 6 rfl) rfl (l' := #[vR ra, vI (own_len lA), vR rw, vI (own_len lA), vR rw, vI 1, vU, vU]) rfl ?_
  refine XS.iconst X0.here hx rfl (D 7 rfl) ?_
  refine XS.istore X0.here hx rfl (D 8 rfl) rfl (l' := #[vR ra, vI (own_len lA), vR rw, vI (own_len lA), vR rw, vI 1, vI 0, vU]) rfl ?_
  refine XS.iload X0.here hx rfl (D 9 rfl) rfl ?_
  refine XS.iload X0.here hx rfl (D 10 rfl) rfl ?_
  refine XS.icmpNo X0.here hx rfl (D 11 rfl) rfl (tlt (show (0 : Int32) < (1 : Int32) from by decide)).2.1 ?_
  refine XS.aload X0.here hx rfl (D 13 rfl) rfl rfl ?_
  refine XS.iload X0.here hx rfl (D 14 rfl) rfl ?_
  exact k
 have pre6 : oP p e bw G s₁ m 33 #[vR ra, vI (own_len lA), vR rw, vI (own_len lA), vR rw, vI 1, vI 0, vR ro0] [(.ref ro0), (.int 36), (.int (own_len lA)), (.ref ra)] := by
  intro t k
  refine pre4 t ?_
  obtain ⟨c5, a5, q5, s5, m5, i5, u5⟩ := id VW
  have hin5 := inb_of (j := (0 : Int32)) s5 ⟨by decide, by decide⟩
  refine X0.aaload hx (j := (0 : Int32)) (v := (.ref ro0)) (by rw [e0]; exact a5.1) (State.isArrayOf_alike hZ.alike a5.2.1) rfl a5.2.2 hin5 (i5.at hin5 rfl) (g := (own_g pre4)) rfl rfl (D 15 rfl) _ ?_
  refine XS.astore X0.here hx rfl (D 16 rfl) rfl rfl (l' := #[vR ra, vI (own_len lA), vR rw, vI (own_len lA), vR rw, vI 1, vI 0, vR ro0]) rfl ?_
  refine XS.aloadN X0.here hx rfl (D 17 rfl) rfl rfl ?_
  refine XS.iloadN X0.here hx rfl (D 18 rfl) rfl ?_
  refine XS.bipush X0.here hx rfl (D 19 rfl) ?_
  refine XS.aload X0.here hx rfl (D 20 rfl) rfl rfl ?_
  exact k
 have pre8 : oP p e bw G s₁ m 34 #[vR ra, vI (own_len lA), vR rw, vI (own_len lA), vR rw, vI 1, vI 0, vR ro0] [(.int (own_len lw0)), (.int 36), (.int (own_len lA)), (.ref ra)] := by
  intro t k
  refine pre6 t ?_
  obtain ⟨c7, a7, q7, s7, m7, i7, u7⟩ := id VO0
  refine X0.arraylength hx (by rw [e0]; exact a7.1) (State.isArrayOf_alike hZ.alike a7.2.1) (g := (own_g pre6)) rfl rfl (D 21 rfl) _ ?_
  rw [len_of s7 m7]
  exact k
 obtain ⟨_, T9, Lc9, X9, hQ9, pc9⟩ := own_call X0 hx hZ hown (W 162 rfl) (W 94 rfl) (W 49 rfl) (W 95 rfl) (by decide) (rm_ph l Z a0 hw [] ra (own_len lA) (36 : Int32) (own_len lw0) wc kc xr0 xr1 ka xz _ h0 n0 Z0 SR VR (own_99 hw_0) vc1 (g_ra) (own_it1 it0) (own_it2 it0) (hne)) e0 pre8 hml rfl (D 22 rfl) (lenOf pd8 rfl) rfl (W := 0) rfl (by decide)
 obtain ⟨rfl, M9, kp9, f9_0⟩ := hQ9
 have K9 : Keep h0 T9.heap [ra] := (Keep.refl h0 [ra]).trans kp9 (allS (P := fun x => x ∈ [ra] ∨ h0.size ≤ x) (Or.inl (by simp)) all0)
 have zz9 : n0 ≤ T9.heap.size := Nat.le_trans Z0 K9.1
 have N9 := Fr.app N0 M9
 have pre10 : oP p e bw G T9 m 38 #[vR ra, vI (own_len lA), vR rw, vI ((((own_len lA) + (1 : Int32)) + (F_rm_dig (own_len lw0))) + (2 : Int32)), vR rw, vI 1, vI 0, vR ro0] [] := by
  intro t k
  refine pc9 t ?_
  refine XS.istoreN X9.here hx rfl (D 23 rfl) rfl (l' := #[vR ra, vI (own_len lA), vR rw, vI ((((own_len lA) + (1 : Int32)) + (F_rm_dig (own_len lw0))) + (2 : Int32)), vR rw, vI 1, vI 0, vR ro0]) rfl ?_
  exact k
 rw [show ((((own_len lA) + (1 : Int32)) + (F_rm_dig (own_len lw0))) + (2 : Int32)) = (own_len (lA ++ own_hdr 36 (own_len lw0))) from own_it4 it0] at pre10
 have vc11 : Arv Z T9.heap ra ka .byte xz (((lA ++ own_hdr 36 (own_len lw0)) ++ lR.drop (own_hdr 36 (own_len lw0)).length).map Value.int) (.int 0) := own_cv ((own_it3 it0).symm) f9_0
 have jt0 := own_it5 it0
 have pre12 : oP p e bw G T9 m 45 #[vR ra, vI (own_len lA), vR rw, vI (own_len (lA ++ own_hdr 36 (own_len lw0))), vR rw, vI 1, vI 0, vR ro0] [(.ref ro0), (.int (own_len (lA ++ own_hdr 36 (own_len lw0)))), (.ref ra), (.int 0), (.ref ro0)] := by
  intro t k
  refine pre10 t ?_
  refine XS.aload X9.here hx rfl (D 24 rfl) rfl rfl ?_
  refine XS.iconst X9.here hx rfl (D 25 rfl) ?_
  refine XS.aloadN X9.here hx rfl (D 26 rfl) rfl rfl ?_
  refine XS.iloadN X9.here hx rfl (D 27 rfl) rfl ?_
  refine XS.aload X9.here hx rfl (D 28 rfl) rfl rfl ?_
  exact k
 have pre14 : oP p e bw G T9 m 46 #[vR ra, vI (own_len lA), vR rw, vI (own_len (lA ++ own_hdr 36 (own_len lw0))), vR rw, vI 1, vI 0, vR ro0] [(.int (own_len lw0)), (.int (own_len (lA ++ own_hdr 36 (own_len lw0)))), (.ref ra), (.int 0), (.ref ro0)] := by
  intro t k
  refine pre12 t ?_
  obtain ⟨c13, a13, q13, s13, m13, i13, u13⟩ := id (VO0.keep kp9 (ninS hno0 nin0))
  refine X9.arraylength hx (by exact a13.1) (State.isArrayOf_alike hZ.alike a13.2.1) (g := (own_g pre12)) rfl rfl (D 29 rfl) _ ?_
  rw [len_of s13 m13]
  exact k
 have f15 := (VO0.keep kp9 (ninS hno0 nin0))
 obtain ⟨T16, h16, L16, X16, e16, N16, kp16, V16, st16⟩ := cpA X9 hx hZ hown (W 163 rfl) (W 99 rfl) (W 97 rfl) (W 98 rfl) rfl f15 vc11 (us := (lw0.map Value.int)) (Or.inl ⟨rfl, rfl⟩) (by decide) (own_jt1 jt0) (own_jt2 jt0) (own_jt3 jt0) (own_jt4 jt0) (own_jt6 jt0) (own_jt5 jt0) N9 g_ra (g := (own_g pre14)) rfl (by rw [hml]; rfl) rfl (D 30 rfl) (by decide) (W := 0) (by show 2 * 0 + _ ≤ _; exact Nat.le_of_eq rfl) (by decide)
 have K16 : Keep h0 h16 [ra] := K9.trans kp16 (allS (P := fun x => x ∈ [ra] ∨ h0.size ≤ x) (Or.inl (by simp)) all0)
 have zz16 : n0 ≤ h16.size := Nat.le_trans Z0 K16.1
 have VV16 : Arv Z h16 ra ka .byte xz ((((lA ++ own_hdr 36 (own_len lw0)) ++ lw0) ++ (lR.drop (own_hdr 36 (own_len lw0)).length).drop lw0.length).map Value.int) (.int 0) := (by rw [← own_jt7 jt0]; exact V16)
 have pre17 : oP p e bw G T16 m 52 #[vR ra, vI (own_len lA), vR rw, vI (own_len (lA ++ own_hdr 36 (own_len lw0))), vR rw, vI 1, vI 0, vR ro0] [(.ref ro0), (.int (own_len (lA ++ own_hdr 36 (own_len lw0))))] := by
  intro t k
  refine pre14 t (st16 t ?_)
  refine XS.iloadN X16.here hx rfl (D 31 rfl) rfl ?_
  refine XS.aload X16.here hx rfl (D 32 rfl) rfl rfl ?_
  exact k
 have pre19 : oP p e bw G T16 m 55 #[vR ra, vI (own_len lA), vR rw, vI ((own_len (lA ++ own_hdr 36 (own_len lw0))) + (own_len lw0)), vR rw, vI 1, vI 0, vR ro0] [] := by
  intro t k
  refine pre17 t ?_
  obtain ⟨c18, a18, q18, s18, m18, i18, u18⟩ := id (f15.keep kp16 (ninS hno0 nin0))
  refine X16.arraylength hx (by rw [e16]; exact a18.1) (State.isArrayOf_alike hZ.alike a18.2.1) (g := (own_g pre17)) rfl rfl (D 33 rfl) _ ?_
  rw [len_of s18 m18]
  refine XS.iadd X16.here hx rfl (D 34 rfl) rfl ?_
  refine XS.istoreN X16.here hx rfl (D 35 rfl) rfl (l' := #[vR ra, vI (own_len lA), vR rw, vI ((own_len (lA ++ own_hdr 36 (own_len lw0))) + (own_len lw0)), vR rw, vI 1, vI 0, vR ro0]) rfl ?_
  exact k
 rw [show ((own_len (lA ++ own_hdr 36 (own_len lw0))) + (own_len lw0)) = (own_len ((lA ++ own_hdr 36 (own_len lw0)) ++ lw0)) from (own_lenA _ _).symm] at pre19
 have kt0 := own_jt8 jt0 (own_it6 it0)
 have pre20 : oP p e bw G T16 m 62 #[vR ra, vI (own_len lA), vR rw, vI ((own_len ((lA ++ own_hdr 36 (own_len lw0)) ++ lw0)) + (1 : Int32)), vR rw, vI 1, vI 0, vR ro0] [(.int 13), (.int (own_len ((lA ++ own_hdr 36 (own_len lw0)) ++ lw0))), (.ref ra)] := by
  intro t k
  refine pre19 t ?_
  refine XS.aloadN X16.here hx rfl (D 36 rfl) rfl rfl ?_
  refine XS.iloadN X16.here hx rfl (D 37 rfl) rfl ?_
  refine XS.iinc X16.here hx rfl (D 38 rfl) rfl (l' := #[vR ra, vI (own_len lA), vR rw, vI ((own_len ((lA ++ own_hdr 36 (own_len lw0)) ++ lw0)) + (1 : Int32)), vR rw, vI 1, vI 0, vR ro0]) rfl ?_
  refine XS.bipush X16.here hx rfl (D 39 rfl) ?_
  exact k
 obtain ⟨c21, a21, q21, s21, m21, i21, u21⟩ := id VV16
 obtain ⟨T22, h22, X22, e22, W22, st22⟩ := stB X16 hx hZ e16 a21 (j := (own_len ((lA ++ own_hdr 36 (own_len lw0)) ++ lw0))) (inb_of s21 (own_kt1 kt0).1) (g := (own_g pre20)) rfl rfl (D 40 rfl)
 have K22 : Keep h0 h22 [ra] := K16.wr W22 (Or.inl (by simp))
 have z22 : n0 ≤ h22.size := Nat.le_trans Z0 K22.1
 have N22 := Fr.snoc X22 N16 g_ra
 have V22 : Arv Z h22 ra ka .byte xz (((((lA ++ own_hdr 36 (own_len lw0)) ++ lw0) ++ (lR.drop (own_hdr 36 (own_len lw0)).length).drop lw0.length).set ((own_len ((lA ++ own_hdr 36 (own_len lw0)) ++ lw0))).toNatClampNeg (nar .byte (13 : Int32))).map Value.int) (.int 0) := own_setA (Arv.set a21 q21 s21 m21 i21 u21 (fits_nar_byte _) W22 _ rfl (own_in (own_kt2 kt0) (own_kt1 kt0).1))
 have pre23 : oP p e bw G T22 m 70 #[vR ra, vI (own_len lA), vR rw, vI (((own_len ((lA ++ own_hdr 36 (own_len lw0)) ++ lw0)) + (1 : Int32)) + (1 : Int32)), vR rw, vI 1, vI 0, vR ro0] [(.int 10), (.int ((own_len ((lA ++ own_hdr 36 (own_len lw0)) ++ lw0)) + (1 : Int32))), (.ref ra)] := by
  intro t k
  refine pre20 t (st22 t ?_)
  refine XS.aloadN X22.here hx rfl (D 41 rfl) rfl rfl ?_
  refine XS.iloadN X22.here hx rfl (D 42 rfl) rfl ?_
  refine XS.iinc X22.here hx rfl (D 43 rfl) rfl (l' := #[vR ra, vI (own_len lA), vR rw, vI (((own_len ((lA ++ own_hdr 36 (own_len lw0)) ++ lw0)) + (1 : Int32)) + (1 : Int32)), vR rw, vI 1, vI 0, vR ro0]) rfl ?_
  refine XS.bipush X22.here hx rfl (D 44 rfl) ?_
  exact k
 obtain ⟨c24, a24, q24, s24, m24, i24, u24⟩ := id V22
 obtain ⟨T25, h25, X25, e25, W25, st25⟩ := stB X22 hx hZ e22 a24 (j := ((own_len ((lA ++ own_hdr 36 (own_len lw0)) ++ lw0)) + (1 : Int32))) (inb_of s24 (own_kt1 kt0).2) (g := (own_g pre23)) rfl rfl (D 45 rfl)
 have K25 : Keep h0 h25 [ra] := K22.wr W25 (Or.inl (by simp))
 have z25 : n0 ≤ h25.size := Nat.le_trans Z0 K25.1
 have N25 := Fr.snoc X25 N22 g_ra
 have V25 : Arv Z h25 ra ka .byte xz ((((((lA ++ own_hdr 36 (own_len lw0)) ++ lw0) ++ (lR.drop (own_hdr 36 (own_len lw0)).length).drop lw0.length).set ((own_len ((lA ++ own_hdr 36 (own_len lw0)) ++ lw0))).toNatClampNeg (nar .byte (13 : Int32))).set (((own_len ((lA ++ own_hdr 36 (own_len lw0)) ++ lw0)) + (1 : Int32))).toNatClampNeg (nar .byte (10 : Int32))).map Value.int) (.int 0) := own_setA (Arv.set a24 q24 s24 m24 i24 u24 (fits_nar_byte _) W25 _ rfl (own_in (by rw [List.length_set]; exact own_kt2 kt0) (own_kt1 kt0).2))
 have pre26 : oP p e bw G T25 m 71 #[vR ra, vI (own_len lA), vR rw, vI (((own_len ((lA ++ own_hdr 36 (own_len lw0)) ++ lw0)) + (1 : Int32)) + (1 : Int32)), vR rw, vI 1, vI 0, vR ro0] [] := fun t k => pre23 t (st25 t k)
 rw [show (((own_len ((lA ++ own_hdr 36 (own_len lw0)) ++ lw0)) + (1 : Int32)) + (1 : Int32)) = (own_len (lA ++ own_bulk lw0)) from (own_kt4 _).trans (congrArg own_len (own_it8 _ _))] at pre26
 have vc27 : Arv Z h25 ra ka .byte xz (((lA ++ own_bulk lw0) ++ (lR.drop (own_bulk lw0).length)).map Value.int) (.int 0) := own_cv (((own_kt3 kt0).trans (own_it7 _ _ _)).symm) V25
 have pre28 : oP p e bw G T25 m 77 #[vR ra, vI (own_len lA), vR rw, vI (own_len (lA ++ own_bulk lw0)), vR rw, vI 1, vI 1, vR ro0] [] := by
  intro t k
  refine pre26 t ?_
  refine XS.iinc X25.here hx rfl (D 46 rfl) rfl (l' := #[vR ra, vI (own_len lA), vR rw, vI (own_len (lA ++ own_bulk lw0)), vR rw, vI 1, vI 1, vR ro0]) rfl ?_
  refine XS.goto X25.here hx rfl (pc0 := 74) (pc' := 13) rfl (D 47 rfl) (by decide) (by decide) ?_
  refine XS.iload X25.here hx rfl (D 9 rfl) rfl ?_
  refine XS.iload X25.here hx rfl (D 10 rfl) rfl ?_
  refine XS.icmpYes X25.here hx rfl (pc0 := 17) (pc' := 77) rfl (D 11 rfl) rfl (flt (show ¬ ((1 : Int32) < (1 : Int32)) from by decide)).2.1 (by decide) (by decide) ?_
  exact k
 obtain ⟨fs, hr, hrun, hended, hW, hsame⟩ := X25.leave (hlocks := Bd.notSynchronized) (v := none) (fun _ => rfl)
 subst hG
 refine ⟨_, _, pre28 _ ?_, hrun, hended, _, _, rfl, ?_, ⟨_, rfl⟩, hW, hsame.mono (by decide) (by decide)⟩
 ·exact X25.returnOut hx Bd.returns (D 12 rfl) hr
 ·show Q_rm_pb1 Z ra rw wc kc xr0 xr1 ka kw xz l1 lA lR ro0 ko0 lw0 h0 n0 _ T25.heap _
  rw [e25]
  exact ⟨rfl, N25, K25, (by rw [show lA ++ own_bulks [lw0] = (lA ++ own_bulk lw0) ++ (lR.drop (own_bulk lw0).length) from own_f1 hR]; exact vc27)⟩
theorem ef_rm_pb2 (m : MethodId) (ra : Addr) (rw : Addr) : entryFrame m #[(.ref ra), (.int (own_len lA)), (.ref rw)] 8 = mkF m 0 #[vR ra, vI (own_len lA), vR rw, vU, vU, vU, vU, vU] [] := by simp [entryFrame, mkF, argsToLocals, Value.category]
def Q_rm_pb2 (Z : State) (ra : Addr) (rw : Addr) (wc : Addr) (kc : ClassId) (xr0 : Int32) (xr1 : Int32) (ka : ClassId) (kw : ClassId) (xz : Int32) (l1 : List Int32) (lA : List Int32) (lR : List Int32) (ro0 : Addr) (ko0 : ClassId) (lw0 : List Int32) (ro1 : Addr) (ko1 : ClassId) (lw1 : List Int32) (h0 : Heap) (n0 : Nat) (v : Option Value) (h : Heap) (L : List Loc) : Prop := v = none ∧ Fr n0 L ∧ Keep h0 h [ra] ∧ Arv Z h ra ka .byte xz ((lA ++ own_bulks [lw0, lw1]).map Value.int) (.int 0)
set_option maxRecDepth 65536 in
set_option maxHeartbeats 40000000 in
theorem rm_pb2 (l : Launch) (Z : State) (a0 : Array Value) (hw : ∀ d ∈ tables_1, d.before a0 Z = true) (ws : List Jvm.Cond) (ra : Addr) (rw : Addr) (wc : Addr) (kc : ClassId) (xr0 : Int32) (xr1 : Int32) (ka : ClassId) (kw : ClassId) (xz : Int32) (l1 : List Int32) (lA : List Int32) (lR : List Int32) (ro0 : Addr) (ko0 : ClassId) (lw0 : List Int32) (ro1 : Addr) (ko1 : ClassId) (lw1 : List Int32) (h0 : Heap) (n0 : Nat) (Z0 : n0 ≤ h0.size) (SR : Sta Z h0 oS1 "CRLF" "[B" (.ref wc)) (VR : Arv Z h0 wc kc .byte (2 : Int32) [(.int xr0), (.int xr1)] (.int 0)) (VA : Arv Z h0 ra ka .byte xz (l1.map Value.int) (.int 0)) (VW : Arv Z h0 rw kw (.array .byte) (2 : Int32) [(.ref ro0), (.ref ro1)] .null) (EA : Exa Z h0 ra "[B") (g_ra : n0 ≤ ra) (hform : l1 = lA ++ lR) (hz : xz = own_len (lA ++ lR)) (hbd : (lA ++ lR).length ≤ 1000) (hR : lR.length = (own_bulks [lw0, lw1]).length) (hne : wc ≠ ra) (hnw : rw ≠ ra) (VO0 : Arv Z h0 ro0 ko0 .byte (own_len lw0) (lw0.map Value.int) (.int 0)) (hw_0 : lw0.length ≤ 99) (hno0 : ro0 ≠ ra) (VO1 : Arv Z h0 ro1 ko1 .byte (own_len lw1) (lw1.map Value.int) (.int 0)) (hw_1 : lw1.length ≤ 99) (hno1 : ro1 ≠ ra) :
  oMet l oM8 prog_10_method_15_code 8 none ws (oR 2 0 0 33) #[(.ref ra), (.int (own_len lA)), (.ref rw)] Z h0 (Q_rm_pb2 Z ra rw wc kc xr0 xr1 ka kw xz l1 lA lR ro0 ko0 lw0 ro1 ko1 lw1 h0 n0) := by
 refine MetFree.of_bodySF (plainFor_of_name pn3) hisR ?_
 have W := own_W hw
 intro p e s m args bw meth c s₁ Bd hml0 hP hK
 obtain ⟨rfl, hZ, hh⟩ := hP
 have hx := Bd.exec
 have hby := Bd.bytes
 have hml : c.maxLocals = 8 := hml0
 have hown : s.vm.findClass oS1 = some m.cls := findClass_of_methodNamed Bd.named
 have hnm := (name_of_methodNamed Bd.named Bd.method).1
 have X0 : Stand p l e (oR 2 0 0 33) s m #[(.ref ra), (.int (own_len lA)), (.ref rw)] bw meth c s₁ [] 0 0 := Stand.of_body Bd
 have e0 : s₁.heap = h0 := by rw [← hh, Bd.state]; rfl
 have N0 := Fr.nil n0
 have D := own_D hby dB15
 obtain ⟨G, hG⟩ := own_ex fun t => Steps p.tables e bw (s₁.setTop (entryFrame m #[(.ref ra), (.int (own_len lA)), (.ref rw)] 8)) t
 have pre0 : oP p e bw G s₁ m 0 #[vR ra, vI (own_len lA), vR rw, vU, vU, vU, vU, vU] [] := by intro t k; subst hG; exact castTop (ef_rm_pb2 m ra rw) k
 have vc1 : Arv Z h0 ra ka .byte xz ((lA ++ lR).map Value.int) (.int 0) := own_cv (hform.symm) VA
 have it0 : own_IT lA lR lw0 xz := ⟨hw_0, hz, hbd, (Nat.le_trans (Nat.le_add_right _ _) (own_g2 hR))⟩
 have pre2 : oP p e bw G s₁ m 7 #[vR ra, vI (own_len lA), vR rw, vI (own_len lA), vR rw, vU, vU, vU] [(.ref rw)] := by
  intro t k
  refine pre0 t ?_
  refine XS.iloadN X0.here hx rfl (D 0 rfl) rfl ?_
  refine XS.istoreN X0.here hx rfl (D 1 rfl) rfl (l' := #[vR ra, vI (own_len lA), vR rw, vI (own_len lA), vU, vU, vU, vU]) rfl ?_
  refine XS.aloadN X0.here hx rfl (D 2 rfl) rfl rfl ?_
  refine XS.astore X0.here hx rfl (D 3 rfl) rfl rfl (l' := #[vR ra, vI (own_len lA), vR rw, vI (own_len lA), vR rw, vU, vU, vU]) rfl ?_
  refine XS.aload X0.here hx rfl (D 4 rfl) rfl rfl ?_
  exact k
 have pre4 : oP p e bw G s₁ m 24 #[vR ra, vI (own_len lA), vR rw, vI (own_len lA), vR rw, vI 2, vI 0, vU] [(.int 0), (.ref rw)] := by
  intro t k
  refine pre2 t ?_
  obtain ⟨c3, a3, q3, s3, m3, i3, u3⟩ := id VW
  refine X0.arraylength hx (by rw [e0]; exact a3.1) (State.isArrayOf_alike hZ.alike a3.2.1) (g := (own_g pre2)) rfl rfl (D 5 rfl) _ ?_
  rw [len_of s3 m3]
  refine XS.istore X0.here hx rfl (D 6 rfl) rfl (l' := #[vR ra, vI (own_len lA), vR rw, vI (own_len lA), vR rw, vI 2, vU, vU]) rfl ?_
  refine XS.iconst X0.here hx rfl (D 7 rfl) ?_
  refine XS.istore X0.here hx rfl (D 8 rfl) rfl (l' := #[vR ra, vI (own_len lA), vR rw, vI (own_len lA), vR rw, vI 2, vI 0, vU]) rfl ?_
  refine XS.iload X0.here hx rfl (D 9 rfl) rfl ?_
  refine XS.iload X0.here hx rfl (D 10 rfl) rfl ?_
  refine XS.icmpNo X0.here hx rfl (D 11 rfl) rfl (tlt (show (0 : Int32) < (2 : Int32) from by decide)).2.1 ?_
  refine XS.aload X0.here hx rfl (D 13 rfl) rfl rfl ?_
  refine XS.iload X0.here hx rfl (D 14 rfl) rfl ?_
  exact k
 have pre6 : oP p e bw G s₁ m 33 #[vR ra, vI (own_len lA), vR rw, vI (own_len lA), vR rw, vI 2, vI 0, vR ro0] [(.ref ro0), (.int 36), (.int (own_len lA)), (.ref ra)] := by
  intro t k
  refine pre4 t ?_
  obtain ⟨c5, a5, q5, s5, m5, i5, u5⟩ := id VW
  have hin5 := inb_of (j := (0 : Int32)) s5 ⟨by decide, by decide⟩
  refine X0.aaload hx (j := (0 : Int32)) (v := (.ref ro0)) (by rw [e0]; exact a5.1) (State.isArrayOf_alike hZ.alike a5.2.1) rfl a5.2.2 hin5 (i5.at hin5 rfl) (g := (own_g pre4)) rfl rfl (D 15 rfl) _ ?_
  refine XS.astore X0.here hx rfl (D 16 rfl) rfl rfl (l' := #[vR ra, vI (own_len lA), vR rw, vI (own_len lA), vR rw, vI 2, vI 0, vR ro0]) rfl ?_
  refine XS.aloadN X0.here hx rfl (D 17 rfl) rfl rfl ?_
  refine XS.iloadN X0.here hx rfl (D 18 rfl) rfl ?_
  refine XS.bipush X0.here hx rfl (D 19 rfl) ?_
  refine XS.aload X0.here hx rfl (D 20 rfl) rfl rfl ?_
  exact k
 have pre8 : oP p e bw G s₁ m 34 #[vR ra, vI (own_len lA), vR rw, vI (own_len lA), vR rw, vI 2, vI 0, vR ro0] [(.int (own_len lw0)), (.int 36), (.int (own_len lA)), (.ref ra)] := by
  intro t k
  refine pre6 t ?_
  obtain ⟨c7, a7, q7, s7, m7, i7, u7⟩ := id VO0
  refine X0.arraylength hx (by rw [e0]; exact a7.1) (State.isArrayOf_alike hZ.alike a7.2.1) (g := (own_g pre6)) rfl rfl (D 21 rfl) _ ?_
  rw [len_of s7 m7]
  exact k
 obtain ⟨_, T9, Lc9, X9, hQ9, pc9⟩ := own_call X0 hx hZ hown (W 162 rfl) (W 94 rfl) (W 49 rfl) (W 95 rfl) (by decide) (rm_ph l Z a0 hw [] ra (own_len lA) (36 : Int32) (own_len lw0) wc kc xr0 xr1 ka xz _ h0 n0 Z0 SR VR (own_99 hw_0) vc1 (g_ra) (own_it1 it0) (own_it2 it0) (hne)) e0 pre8 hml rfl (D 22 rfl) (lenOf pd8 rfl) rfl (W := 0) rfl (by decide)
 obtain ⟨rfl, M9, kp9, f9_0⟩ := hQ9
 have K9 : Keep h0 T9.heap [ra] := (Keep.refl h0 [ra]).trans kp9 (allS (P := fun x => x ∈ [ra] ∨ h0.size ≤ x) (Or.inl (by simp)) all0)
 have zz9 : n0 ≤ T9.heap.size := Nat.le_trans Z0 K9.1
 have N9 := Fr.app N0 M9
 have pre10 : oP p e bw G T9 m 38 #[vR ra, vI (own_len lA), vR rw, vI ((((own_len lA) + (1 : Int32)) + (F_rm_dig (own_len lw0))) + (2 : Int32)), vR rw, vI 2, vI 0, vR ro0] [] := by
  intro t k
  refine pc9 t ?_
  refine XS.istoreN X9.here hx rfl (D 23 rfl) rfl (l' := #[vR ra, vI (own_len lA), vR rw, vI ((((own_len lA) + (1 : Int32)) + (F_rm_dig (own_len lw0))) + (2 : Int32)), vR rw, vI 2, vI 0, vR ro0]) rfl ?_
  exact k
 rw [show ((((own_len lA) + (1 : Int32)) + (F_rm_dig (own_len lw0))) + (2 : Int32)) = (own_len (lA ++ own_hdr 36 (own_len lw0))) from own_it4 it0] at pre10
 have vc11 : Arv Z T9.heap ra ka .byte xz (((lA ++ own_hdr 36 (own_len lw0)) ++ lR.drop (own_hdr 36 (own_len lw0)).length).map Value.int) (.int 0) := own_cv ((own_it3 it0).symm) f9_0
 have jt0 := own_it5 it0
 have pre12 : oP p e bw G T9 m 45 #[vR ra, vI (own_len lA), vR rw, vI (own_len (lA ++ own_hdr 36 (own_len lw0))), vR rw, vI 2, vI 0, vR ro0] [(.ref ro0), (.int (own_len (lA ++ own_hdr 36 (own_len lw0)))), (.ref ra), (.int 0), (.ref ro0)] := by
  intro t k
  refine pre10 t ?_
  refine XS.aload X9.here hx rfl (D 24 rfl) rfl rfl ?_
  refine XS.iconst X9.here hx rfl (D 25 rfl) ?_
  refine XS.aloadN X9.here hx rfl (D 26 rfl) rfl rfl ?_
  refine XS.iloadN X9.here hx rfl (D 27 rfl) rfl ?_
  refine XS.aload X9.here hx rfl (D 28 rfl) rfl rfl ?_
  exact k
 have pre14 : oP p e bw G T9 m 46 #[vR ra, vI (own_len lA), vR rw, vI (own_len (lA ++ own_hdr 36 (own_len lw0))), vR rw, vI 2, vI 0, vR ro0] [(.int (own_len lw0)), (.int (own_len (lA ++ own_hdr 36 (own_len lw0)))), (.ref ra), (.int 0), (.ref ro0)] := by
  intro t k
  refine pre12 t ?_
  obtain ⟨c13, a13, q13, s13, m13, i13, u13⟩ := id (VO0.keep kp9 (ninS hno0 nin0))
  refine X9.arraylength hx (by exact a13.1) (State.isArrayOf_alike hZ.alike a13.2.1) (g := (own_g pre12)) rfl rfl (D 29 rfl) _ ?_
  rw [len_of s13 m13]
  exact k
 have f15 := (VO0.keep kp9 (ninS hno0 nin0))
 obtain ⟨T16, h16, L16, X16, e16, N16, kp16, V16, st16⟩ := cpA X9 hx hZ hown (W 163 rfl) (W 99 rfl) (W 97 rfl) (W 98 rfl) rfl f15 vc11 (us := (lw0.map Value.int)) (Or.inl ⟨rfl, rfl⟩) (by decide) (own_jt1 jt0) (own_jt2 jt0) (own_jt3 jt0) (own_jt4 jt0) (own_jt6 jt0) (own_jt5 jt0) N9 g_ra (g := (own_g pre14)) rfl (by rw [hml]; rfl) rfl (D 30 rfl) (by decide) (W := 0) (by show 2 * 0 + _ ≤ _; exact Nat.le_of_eq rfl) (by decide)
 have K16 : Keep h0 h16 [ra] := K9.trans kp16 (allS (P := fun x => x ∈ [ra] ∨ h0.size ≤ x) (Or.inl (by simp)) all0)
 have zz16 : n0 ≤ h16.size := Nat.le_trans Z0 K16.1
 have VV16 : Arv Z h16 ra ka .byte xz ((((lA ++ own_hdr 36 (own_len lw0)) ++ lw0) ++ (lR.drop (own_hdr 36 (own_len lw0)).length).drop lw0.length).map Value.int) (.int 0) := (by rw [← own_jt7 jt0]; exact V16)
 have pre17 : oP p e bw G T16 m 52 #[vR ra, vI (own_len lA), vR rw, vI (own_len (lA ++ own_hdr 36 (own_len lw0))), vR rw, vI 2, vI 0, vR ro0] [(.ref ro0), (.int (own_len (lA ++ own_hdr 36 (own_len lw0))))] := by
  intro t k
  refine pre14 t (st16 t ?_)
  refine XS.iloadN X16.here hx rfl (D 31 rfl) rfl ?_
  refine XS.aload X16.here hx rfl (D 32 rfl) rfl rfl ?_
  exact k
 have pre19 : oP p e bw G T16 m 55 #[vR ra, vI (own_len lA), vR rw, vI ((own_len (lA ++ own_hdr 36 (own_len lw0))) + (own_len lw0)), vR rw, vI 2, vI 0, vR ro0] [] := by
  intro t k
  refine pre17 t ?_
  obtain ⟨c18, a18, q18, s18, m18, i18, u18⟩ := id (f15.keep kp16 (ninS hno0 nin0))
  refine X16.arraylength hx (by rw [e16]; exact a18.1) (State.isArrayOf_alike hZ.alike a18.2.1) (g := (own_g pre17)) rfl rfl (D 33 rfl) _ ?_
  rw [len_of s18 m18]
  refine XS.iadd X16.here hx rfl (D 34 rfl) rfl ?_
  refine XS.istoreN X16.here hx rfl (D 35 rfl) rfl (l' := #[vR ra, vI (own_len lA), vR rw, vI ((own_len (lA ++ own_hdr 36 (own_len lw0))) + (own_len lw0)), vR rw, vI 2, vI 0, vR ro0]) rfl ?_
  exact k
 rw [show ((own_len (lA ++ own_hdr 36 (own_len lw0))) + (own_len lw0)) = (own_len ((lA ++ own_hdr 36 (own_len lw0)) ++ lw0)) from (own_lenA _ _).symm] at pre19
 have kt0 := own_jt8 jt0 (own_it6 it0)
 have pre20 : oP p e bw G T16 m 62 #[vR ra, vI (own_len lA), vR rw, vI ((own_len ((lA ++ own_hdr 36 (own_len lw0)) ++ lw0)) + (1 : Int32)), vR rw, vI 2, vI 0, vR ro0] [(.int 13), (.int (own_len ((lA ++ own_hdr 36 (own_len lw0)) ++ lw0))), (.ref ra)] := by
  intro t k
  refine pre19 t ?_
  refine XS.aloadN X16.here hx rfl (D 36 rfl) rfl rfl ?_
  refine XS.iloadN X16.here hx rfl (D 37 rfl) rfl ?_
  refine XS.iinc X16.here hx rfl (D 38 rfl) rfl (l' := #[vR ra, vI (own_len lA), vR rw, vI ((own_len ((lA ++ own_hdr 36 (own_len lw0)) ++ lw0)) + (1 : Int32)), vR rw, vI 2, vI 0, vR ro0]) rfl ?_
  refine XS.bipush X16.here hx rfl (D 39 rfl) ?_
  exact k
 obtain ⟨c21, a21, q21, s21, m21, i21, u21⟩ := id VV16
 obtain ⟨T22, h22, X22, e22, W22, st22⟩ := stB X16 hx hZ e16 a21 (j := (own_len ((lA ++ own_hdr 36 (own_len lw0)) ++ lw0))) (inb_of s21 (own_kt1 kt0).1) (g := (own_g pre20)) rfl rfl (D 40 rfl)
 have K22 : Keep h0 h22 [ra] := K16.wr W22 (Or.inl (by simp))
 have z22 : n0 ≤ h22.size := Nat.le_trans Z0 K22.1
 have N22 := Fr.snoc X22 N16 g_ra
 have V22 : Arv Z h22 ra ka .byte xz (((((lA ++ own_hdr 36 (own_len lw0)) ++ lw0) ++ (lR.drop (own_hdr 36 (own_len lw0)).length).drop lw0.length).set ((own_len ((lA ++ own_hdr 36 (own_len lw0)) ++ lw0))).toNatClampNeg (nar .byte (13 : Int32))).map Value.int) (.int 0) := own_setA (Arv.set a21 q21 s21 m21 i21 u21 (fits_nar_byte _) W22 _ rfl (own_in (own_kt2 kt0) (own_kt1 kt0).1))
 have pre23 : oP p e bw G T22 m 70 #[vR ra, vI (own_len lA), vR rw, vI (((own_len ((lA ++ own_hdr 36 (own_len lw0)) ++ lw0)) + (1 : Int32)) + (1 : Int32)), vR rw, vI 2, vI 0, vR ro0] [(.int 10), (.int ((own_len ((lA ++ own_hdr 36 (own_len lw0)) ++ lw0)) + (1 : Int32))), (.ref ra)] := by
  intro t k
  refine pre20 t (st22 t ?_)
  refine XS.aloadN X22.here hx rfl (D 41 rfl) rfl rfl ?_
  refine XS.iloadN X22.here hx rfl (D 42 rfl) rfl ?_
  refine XS.iinc X22.here hx rfl (D 43 rfl) rfl (l' := #[vR ra, vI (own_len lA), vR rw, vI (((own_len ((lA ++ own_hdr 36 (own_len lw0)) ++ lw0)) + (1 : Int32)) + (1 : Int32)), vR rw, vI 2, vI 0, vR ro0]) rfl ?_
  refine XS.bipush X22.here hx rfl (D 44 rfl) ?_
  exact k
 obtain ⟨c24, a24, q24, s24, m24, i24, u24⟩ := id V22
 obtain ⟨T25, h25, X25, e25, W25, st25⟩ := stB X22 hx hZ e22 a24 (j := ((own_len ((lA ++ own_hdr 36 (own_len lw0)) ++ lw0)) + (1 : Int32))) (inb_of s24 (own_kt1 kt0).2) (g := (own_g pre23)) rfl rfl (D 45 rfl)
 have K25 : Keep h0 h25 [ra] := K22.wr W25 (Or.inl (by simp))
 have z25 : n0 ≤ h25.size := Nat.le_trans Z0 K25.1
 have N25 := Fr.snoc X25 N22 g_ra
 have V25 : Arv Z h25 ra ka .byte xz ((((((lA ++ own_hdr 36 (own_len lw0)) ++ lw0) ++ (lR.drop (own_hdr 36 (own_len lw0)).length).drop lw0.length).set ((own_len ((lA ++ own_hdr 36 (own_len lw0)) ++ lw0))).toNatClampNeg (nar .byte (13 : Int32))).set (((own_len ((lA ++ own_hdr 36 (own_len lw0)) ++ lw0)) + (1 : Int32))).toNatClampNeg (nar .byte (10 : Int32))).map Value.int) (.int 0) := own_setA (Arv.set a24 q24 s24 m24 i24 u24 (fits_nar_byte _) W25 _ rfl (own_in (by rw [List.length_set]; exact own_kt2 kt0) (own_kt1 kt0).2))
 have pre26 : oP p e bw G T25 m 71 #[vR ra, vI (own_len lA), vR rw, vI (((own_len ((lA ++ own_hdr 36 (own_len lw0)) ++ lw0)) + (1 : Int32)) + (1 : Int32)), vR rw, vI 2, vI 0, vR ro0] [] := fun t k => pre23 t (st25 t k)
 rw [show (((own_len ((lA ++ own_hdr 36 (own_len lw0)) ++ lw0)) + (1 : Int32)) + (1 : Int32)) = (own_len (lA ++ own_bulk lw0)) from (own_kt4 _).trans (congrArg own_len (own_it8 _ _))] at pre26
 have vc27 : Arv Z h25 ra ka .byte xz (((lA ++ own_bulk lw0) ++ (lR.drop (own_bulk lw0).length)).map Value.int) (.int 0) := own_cv (((own_kt3 kt0).trans (own_it7 _ _ _)).symm) V25
 have it1 := own_it9 it0 hw_1 (own_g2 hR)
 have pre28 : oP p e bw G T25 m 24 #[vR ra, vI (own_len lA), vR rw, vI (own_len (lA ++ own_bulk lw0)), vR rw, vI 2, vI 1, vR ro0] [(.int 1), (.ref rw)] := by
  intro t k
  refine pre26 t ?_
  refine XS.iinc X25.here hx rfl (D 46 rfl) rfl (l' := #[vR ra, vI (own_len lA), vR rw, vI (own_len (lA ++ own_bulk lw0)), vR rw, vI 2, vI 1, vR ro0]) rfl ?_
  refine XS.goto X25.here hx rfl (pc0 := 74) (pc' := 13) rfl (D 47 rfl) (by decide) (by decide) ?_
  refine XS.iload X25.here hx rfl (D 9 rfl) rfl ?_
  refine XS.iload X25.here hx rfl (D 10 rfl) rfl ?_
  refine XS.icmpNo X25.here hx rfl (D 11 rfl) rfl (tlt (show (1 : Int32) < (2 : Int32) from by decide)).2.1 ?_
  refine XS.aload X25.here hx rfl (D 13 rfl) rfl rfl ?_
  refine XS.iload X25.here hx rfl (D 14 rfl) rfl ?_
  exact k
 have pre30 : oP p e bw G T25 m 33 #[vR ra, vI (own_len lA), vR rw, vI (own_len (lA ++ own_bulk lw0)), vR rw, vI 2, vI 1, vR ro1] [(.ref ro1), (.int 36), (.int (own_len (lA ++ own_bulk lw0))), (.ref ra)] := by
  intro t k
  refine pre28 t ?_
  obtain ⟨c29, a29, q29, s29, m29, i29, u29⟩ := id ((((VW.keep kp9 (ninS hnw nin0)).keep kp16 (ninS hnw nin0)).other W22 hnw).other W25 hnw)
  have hin29 := inb_of (j := (1 : Int32)) s29 ⟨by decide, by decide⟩
  refine X25.aaload hx (j := (1 : Int32)) (v := (.ref ro1)) (by rw [e25]; exact a29.1) (State.isArrayOf_alike hZ.alike a29.2.1) rfl a29.2.2 hin29 (i29.at hin29 rfl) (g := (own_g pre28)) rfl rfl (D 15 rfl) _ ?_
  refine XS.astore X25.here hx rfl (D 16 rfl) rfl rfl (l' := #[vR ra, vI (own_len lA), vR rw, vI (own_len (lA ++ own_bulk lw0)), vR rw, vI 2, vI 1, vR ro1]) rfl ?_
  refine XS.aloadN X25.here hx rfl (D 17 rfl) rfl rfl ?_
  refine XS.iloadN X25.here hx rfl (D 18 rfl) rfl ?_
  refine XS.bipush X25.here hx rfl (D 19 rfl) ?_
  refine XS.aload X25.here hx rfl (D 20 rfl) rfl rfl ?_
  exact k
 have pre32 : oP p e bw G T25 m 34 #[vR ra, vI (own_len lA), vR rw, vI (own_len (lA ++ own_bulk lw0)), vR rw, vI 2, vI 1, vR ro1] [(.int (own_len lw1)), (.int 36), (.int (own_len (lA ++ own_bulk lw0))), (.ref ra)] := by
  intro t k
  refine pre30 t ?_
  obtain ⟨c31, a31, q31, s31, m31, i31, u31⟩ := id ((((VO1.keep kp9 (ninS hno1 nin0)).keep kp16 (ninS hno1 nin0)).other W22 hno1).other W25 hno1)
  refine X25.arraylength hx (by rw [e25]; exact a31.1) (State.isArrayOf_alike hZ.alike a31.2.1) (g := (own_g pre30)) rfl rfl (D 21 rfl) _ ?_
  rw [len_of s31 m31]
  exact k
 have f33 := (((own_sta_keep (own_sta_keep SR kp9 EA) kp16 (EA.keep kp9)).wr W22).wr W25)
 have f34 := ((((VR.keep kp9 (ninS hne nin0)).keep kp16 (ninS hne nin0)).other W22 hne).other W25 hne)
 obtain ⟨_, T35, Lc35, X35, hQ35, pc35⟩ := own_call X25 hx hZ hown (W 162 rfl) (W 94 rfl) (W 49 rfl) (W 95 rfl) (by decide) (rm_ph l Z a0 hw [] ra (own_len (lA ++ own_bulk lw0)) (36 : Int32) (own_len lw1) wc kc xr0 xr1 ka xz _ h25 n0 z25 f33 f34 (own_99 hw_1) vc27 (g_ra) (own_it1 it1) (own_it2 it1) (hne)) e25 pre32 hml rfl (D 22 rfl) (lenOf pd8 rfl) rfl (W := 0) rfl (by decide)
 obtain ⟨rfl, M35, kp35, f35_0⟩ := hQ35
 have K35 : Keep h0 T35.heap [ra] := K25.trans kp35 (allS (P := fun x => x ∈ [ra] ∨ h0.size ≤ x) (Or.inl (by simp)) all0)
 have zz35 : n0 ≤ T35.heap.size := Nat.le_trans Z0 K35.1
 have N35 := Fr.app N25 M35
 have pre36 : oP p e bw G T35 m 38 #[vR ra, vI (own_len lA), vR rw, vI ((((own_len (lA ++ own_bulk lw0)) + (1 : Int32)) + (F_rm_dig (own_len lw1))) + (2 : Int32)), vR rw, vI 2, vI 1, vR ro1] [] := by
  intro t k
  refine pc35 t ?_
  refine XS.istoreN X35.here hx rfl (D 23 rfl) rfl (l' := #[vR ra, vI (own_len lA), vR rw, vI ((((own_len (lA ++ own_bulk lw0)) + (1 : Int32)) + (F_rm_dig (own_len lw1))) + (2 : Int32)), vR rw, vI 2, vI 1, vR ro1]) rfl ?_
  exact k
 rw [show ((((own_len (lA ++ own_bulk lw0)) + (1 : Int32)) + (F_rm_dig (own_len lw1))) + (2 : Int32)) = (own_len ((lA ++ own_bulk lw0) ++ own_hdr 36 (own_len lw1))) from own_it4 it1] at pre36
 have vc37 : Arv Z T35.heap ra ka .byte xz ((((lA ++ own_bulk lw0) ++ own_hdr 36 (own_len lw1)) ++ (lR.drop (own_bulk lw0).length).drop (own_hdr 36 (own_len lw1)).length).map Value.int) (.int 0) := own_cv ((own_it3 it1).symm) f35_0
 have jt1 := own_it5 it1
 have pre38 : oP p e bw G T35 m 45 #[vR ra, vI (own_len lA), vR rw, vI (own_len ((lA ++ own_bulk lw0) ++ own_hdr 36 (own_len lw1))), vR rw, vI 2, vI 1, vR ro1] [(.ref ro1), (.int (own_len ((lA ++ own_bulk lw0) ++ own_hdr 36 (own_len lw1)))), (.ref ra), (.int 0), (.ref ro1)] := by
  intro t k
  refine pre36 t ?_
  refine XS.aload X35.here hx rfl (D 24 rfl) rfl rfl ?_
  refine XS.iconst X35.here hx rfl (D 25 rfl) ?_
  refine XS.aloadN X35.here hx rfl (D 26 rfl) rfl rfl ?_
  refine XS.iloadN X35.here hx rfl (D 27 rfl) rfl ?_
  refine XS.aload X35.here hx rfl (D 28 rfl) rfl rfl ?_
  exact k
 have pre40 : oP p e bw G T35 m 46 #[vR ra, vI (own_len lA), vR rw, vI (own_len ((lA ++ own_bulk lw0) ++ own_hdr 36 (own_len lw1))), vR rw, vI 2, vI 1, vR ro1] [(.int (own_len lw1)), (.int (own_len ((lA ++ own_bulk lw0) ++ own_hdr 36 (own_len lw1)))), (.ref ra), (.int 0), (.ref ro1)] := by
  intro t k
  refine pre38 t ?_
  obtain ⟨c39, a39, q39, s39, m39, i39, u39⟩ := id (((((VO1.keep kp9 (ninS hno1 nin0)).keep kp16 (ninS hno1 nin0)).other W22 hno1).other W25 hno1).keep kp35 (ninS hno1 nin0))
  refine X35.arraylength hx (by exact a39.1) (State.isArrayOf_alike hZ.alike a39.2.1) (g := (own_g pre38)) rfl rfl (D 29 rfl) _ ?_
  rw [len_of s39 m39]
  exact k
 have f41 := (((((VO1.keep kp9 (ninS hno1 nin0)).keep kp16 (ninS hno1 nin0)).other W22 hno1).other W25 hno1).keep kp35 (ninS hno1 nin0))
 obtain ⟨T42, h42, L42, X42, e42, N42, kp42, V42, st42⟩ := cpA X35 hx hZ hown (W 163 rfl) (W 99 rfl) (W 97 rfl) (W 98 rfl) rfl f41 vc37 (us := (lw1.map Value.int)) (Or.inl ⟨rfl, rfl⟩) (by decide) (own_jt1 jt1) (own_jt2 jt1) (own_jt3 jt1) (own_jt4 jt1) (own_jt6 jt1) (own_jt5 jt1) N35 g_ra (g := (own_g pre40)) rfl (by rw [hml]; rfl) rfl (D 30 rfl) (by decide) (W := 0) (by show 2 * 0 + _ ≤ _; exact Nat.le_of_eq rfl) (by decide)
 have K42 : Keep h0 h42 [ra] := K35.trans kp42 (allS (P := fun x => x ∈ [ra] ∨ h0.size ≤ x) (Or.inl (by simp)) all0)
 have zz42 : n0 ≤ h42.size := Nat.le_trans Z0 K42.1
 have VV42 : Arv Z h42 ra ka .byte xz (((((lA ++ own_bulk lw0) ++ own_hdr 36 (own_len lw1)) ++ lw1) ++ ((lR.drop (own_bulk lw0).length).drop (own_hdr 36 (own_len lw1)).length).drop lw1.length).map Value.int) (.int 0) := (by rw [← own_jt7 jt1]; exact V42)
 have pre43 : oP p e bw G T42 m 52 #[vR ra, vI (own_len lA), vR rw, vI (own_len ((lA ++ own_bulk lw0) ++ own_hdr 36 (own_len lw1))), vR rw, vI 2, vI 1, vR ro1] [(.ref ro1), (.int (own_len ((lA ++ own_bulk lw0) ++ own_hdr 36 (own_len lw1))))] := by
  intro t k
  refine pre40 t (st42 t ?_)
  refine XS.iloadN X42.here hx rfl (D 31 rfl) rfl ?_
  refine XS.aload X42.here hx rfl (D 32 rfl) rfl rfl ?_
  exact k
 have pre45 : oP p e bw G T42 m 55 #[vR ra, vI (own_len lA), vR rw, vI ((own_len ((lA ++ own_bulk lw0) ++ own_hdr 36 (own_len lw1))) + (own_len lw1)), vR rw, vI 2, vI 1, vR ro1] [] := by
  intro t k
  refine pre43 t ?_
  obtain ⟨c44, a44, q44, s44, m44, i44, u44⟩ := id (f41.keep kp42 (ninS hno1 nin0))
  refine X42.arraylength hx (by rw [e42]; exact a44.1) (State.isArrayOf_alike hZ.alike a44.2.1) (g := (own_g pre43)) rfl rfl (D 33 rfl) _ ?_
  rw [len_of s44 m44]
  refine XS.iadd X42.here hx rfl (D 34 rfl) rfl ?_
  refine XS.istoreN X42.here hx rfl (D 35 rfl) rfl (l' := #[vR ra, vI (own_len lA), vR rw, vI ((own_len ((lA ++ own_bulk lw0) ++ own_hdr 36 (own_len lw1))) + (own_len lw1)), vR rw, vI 2, vI 1, vR ro1]) rfl ?_
  exact k
 rw [show ((own_len ((lA ++ own_bulk lw0) ++ own_hdr 36 (own_len lw1))) + (own_len lw1)) = (own_len (((lA ++ own_bulk lw0) ++ own_hdr 36 (own_len lw1)) ++ lw1)) from (own_lenA _ _).symm] at pre45
 have kt1 := own_jt8 jt1 (own_it6 it1)
 have pre46 : oP p e bw G T42 m 62 #[vR ra, vI (own_len lA), vR rw, vI ((own_len (((lA ++ own_bulk lw0) ++ own_hdr 36 (own_len lw1)) ++ lw1)) + (1 : Int32)), vR rw, vI 2, vI 1, vR ro1] [(.int 13), (.int (own_len (((lA ++ own_bulk lw0) ++ own_hdr 36 (own_len lw1)) ++ lw1))), (.ref ra)] := by
  intro t k
  refine pre45 t ?_
  refine XS.aloadN X42.here hx rfl (D 36 rfl) rfl rfl ?_
  refine XS.iloadN X42.here hx rfl (D 37 rfl) rfl ?_
  refine XS.iinc X42.here hx rfl (D 38 rfl) rfl (l' := #[vR ra, vI (own_len lA), vR rw, vI ((own_len (((lA ++ own_bulk lw0) ++ own_hdr 36 (own_len lw1)) ++ lw1)) + (1 : Int32)), vR rw, vI 2, vI 1, vR ro1]) rfl ?_
  refine XS.bipush X42.here hx rfl (D 39 rfl) ?_
  exact k
 obtain ⟨c47, a47, q47, s47, m47, i47, u47⟩ := id VV42
 obtain ⟨T48, h48, X48, e48, W48, st48⟩ := stB X42 hx hZ e42 a47 (j := (own_len (((lA ++ own_bulk lw0) ++ own_hdr 36 (own_len lw1)) ++ lw1))) (inb_of s47 (own_kt1 kt1).1) (g := (own_g pre46)) rfl rfl (D 40 rfl)
 have K48 : Keep h0 h48 [ra] := K42.wr W48 (Or.inl (by simp))
 have z48 : n0 ≤ h48.size := Nat.le_trans Z0 K48.1
 have N48 := Fr.snoc X48 N42 g_ra
 have V48 : Arv Z h48 ra ka .byte xz ((((((lA ++ own_bulk lw0) ++ own_hdr 36 (own_len lw1)) ++ lw1) ++ ((lR.drop (own_bulk lw0).length).drop (own_hdr 36 (own_len lw1)).length).drop lw1.length).set ((own_len (((lA ++ own_bulk lw0) ++ own_hdr 36 (own_len lw1)) ++ lw1))).toNatClampNeg (nar .byte (13 : Int32))).map Value.int) (.int 0) := own_setA (Arv.set a47 q47 s47 m47 i47 u47 (fits_nar_byte _) W48 _ rfl (own_in (own_kt2 kt1) (own_kt1 kt1).1))
 have pre49 : oP p e bw G T48 m 70 #[vR ra, vI (own_len lA), vR rw, vI (((own_len (((lA ++ own_bulk lw0) ++ own_hdr 36 (own_len lw1)) ++ lw1)) + (1 : Int32)) + (1 : Int32)), vR rw, vI 2, vI 1, vR ro1] [(.int 10), (.int ((own_len (((lA ++ own_bulk lw0) ++ own_hdr 36 (own_len lw1)) ++ lw1)) + (1 : Int32))), (.ref ra)] := by
  intro t k
  refine pre46 t (st48 t ?_)
  refine XS.aloadN X48.here hx rfl (D 41 rfl) rfl rfl ?_
  refine XS.iloadN X48.here hx rfl (D 42 rfl) rfl ?_
  refine XS.iinc X48.here hx rfl (D 43 rfl) rfl (l' := #[vR ra, vI (own_len lA), vR rw, vI (((own_len (((lA ++ own_bulk lw0) ++ own_hdr 36 (own_len lw1)) ++ lw1)) + (1 : Int32)) + (1 : Int32)), vR rw, vI 2, vI 1, vR ro1]) rfl ?_
  refine XS.bipush X48.here hx rfl (D 44 rfl) ?_
  exact k
 obtain ⟨c50, a50, q50, s50, m50, i50, u50⟩ := id V48
 obtain ⟨T51, h51, X51, e51, W51, st51⟩ := stB X48 hx hZ e48 a50 (j := ((own_len (((lA ++ own_bulk lw0) ++ own_hdr 36 (own_len lw1)) ++ lw1)) + (1 : Int32))) (inb_of s50 (own_kt1 kt1).2) (g := (own_g pre49)) rfl rfl (D 45 rfl)
 have K51 : Keep h0 h51 [ra] := K48.wr W51 (Or.inl (by simp))
 have z51 : n0 ≤ h51.size := Nat.le_trans Z0 K51.1
 have N51 := Fr.snoc X51 N48 g_ra
 have V51 : Arv Z h51 ra ka .byte xz (((((((lA ++ own_bulk lw0) ++ own_hdr 36 (own_len lw1)) ++ lw1) ++ ((lR.drop (own_bulk lw0).length).drop (own_hdr 36 (own_len lw1)).length).drop lw1.length).set ((own_len (((lA ++ own_bulk lw0) ++ own_hdr 36 (own_len lw1)) ++ lw1))).toNatClampNeg (nar .byte (13 : Int32))).set (((own_len (((lA ++ own_bulk lw0) ++ own_hdr 36 (own_len lw1)) ++ lw1)) + (1 : Int32))).toNatClampNeg (nar .byte (10 : Int32))).map Value.int) (.int 0) := own_setA (Arv.set a50 q50 s50 m50 i50 u50 (fits_nar_byte _) W51 _ rfl (own_in (by rw [List.length_set]; exact own_kt2 kt1) (own_kt1 kt1).2))
 have pre52 : oP p e bw G T51 m 71 #[vR ra, vI (own_len lA), vR rw, vI (((own_len (((lA ++ own_bulk lw0) ++ own_hdr 36 (own_len lw1)) ++ lw1)) + (1 : Int32)) + (1 : Int32)), vR rw, vI 2, vI 1, vR ro1] [] := fun t k => pre49 t (st51 t k)
 rw [show (((own_len (((lA ++ own_bulk lw0) ++ own_hdr 36 (own_len lw1)) ++ lw1)) + (1 : Int32)) + (1 : Int32)) = (own_len ((lA ++ own_bulk lw0) ++ own_bulk lw1)) from (own_kt4 _).trans (congrArg own_len (own_it8 _ _))] at pre52
 have vc53 : Arv Z h51 ra ka .byte xz ((((lA ++ own_bulk lw0) ++ own_bulk lw1) ++ ((lR.drop (own_bulk lw0).length).drop (own_bulk lw1).length)).map Value.int) (.int 0) := own_cv (((own_kt3 kt1).trans (own_it7 _ _ _)).symm) V51
 have pre54 : oP p e bw G T51 m 77 #[vR ra, vI (own_len lA), vR rw, vI (own_len ((lA ++ own_bulk lw0) ++ own_bulk lw1)), vR rw, vI 2, vI 2, vR ro1] [] := by
  intro t k
  refine pre52 t ?_
  refine XS.iinc X51.here hx rfl (D 46 rfl) rfl (l' := #[vR ra, vI (own_len lA), vR rw, vI (own_len ((lA ++ own_bulk lw0) ++ own_bulk lw1)), vR rw, vI 2, vI 2, vR ro1]) rfl ?_
  refine XS.goto X51.here hx rfl (pc0 := 74) (pc' := 13) rfl (D 47 rfl) (by decide) (by decide) ?_
  refine XS.iload X51.here hx rfl (D 9 rfl) rfl ?_
  refine XS.iload X51.here hx rfl (D 10 rfl) rfl ?_
  refine XS.icmpYes X51.here hx rfl (pc0 := 17) (pc' := 77) rfl (D 11 rfl) rfl (flt (show ¬ ((2 : Int32) < (2 : Int32)) from by decide)).2.1 (by decide) (by decide) ?_
  exact k
 obtain ⟨fs, hr, hrun, hended, hW, hsame⟩ := X51.leave (hlocks := Bd.notSynchronized) (v := none) (fun _ => rfl)
 subst hG
 refine ⟨_, _, pre54 _ ?_, hrun, hended, _, _, rfl, ?_, ⟨_, rfl⟩, hW, hsame.mono (by decide) (by decide)⟩
 ·exact X51.returnOut hx Bd.returns (D 12 rfl) hr
 ·show Q_rm_pb2 Z ra rw wc kc xr0 xr1 ka kw xz l1 lA lR ro0 ko0 lw0 ro1 ko1 lw1 h0 n0 _ T51.heap _
  rw [e51]
  exact ⟨rfl, N51, K51, (by rw [show lA ++ own_bulks [lw0, lw1] = ((lA ++ own_bulk lw0) ++ own_bulk lw1) ++ ((lR.drop (own_bulk lw0).length).drop (own_bulk lw1).length) from own_f2 hR]; exact vc53)⟩
theorem rm_cp_t {p : Program} {l : Launch} {e : Env} {R : Room} {s : State} {m : MethodId} {args : Array Value} {bw : List Frame} {meth : Method} {c : Code} {locs : List Loc} {cells slots : Nat} {Z : State} {G : State → Prop} {s₁ : State} (hx : p.tables.exec = Jvm.exec) (hby : c.code = jdk_123_method_3_code) (hZ : Z.Warmed39 s.vm) (ra : Addr) (ka : ClassId) (l1 : List Int32) (q : List Int32) (r : List Int32) (xx : Int32) (h0 : Heap) (n0 : Nat) (Z0 : n0 ≤ h0.size) (VA : Arv Z h0 ra ka .byte (own_len l1) (l1.map Value.int) (.int 0)) (hq : l1 = q ++ xx :: r) (hl : l1.length ≤ 1000) (hcn : ¬ (xx < (0 : Int32))) (X0 : Stand p l e R s m args bw meth c s₁ locs cells slots) (e0 : s₁.heap = h0) (N0 : Fr n0 locs) (pre0 : oP p e bw G s₁ m 7 #[vR ra, vI 0, vI (own_len l1), vI (own_len l1), vI (own_len q)] []) :
  oP p e bw G s₁ m 7 #[vR ra, vI 0, vI (own_len l1), vI (own_len l1), vI (own_len (q ++ [xx]))] [] := by
 have D := own_D hby dB30
 have pre1 : oP p e bw G s₁ m 16 #[vR ra, vI 0, vI (own_len l1), vI (own_len l1), vI (own_len q)] [(.int (own_len q)), (.ref ra)] := by
  intro t k
  refine pre0 t ?_
  refine XS.iload X0.here hx rfl (D 0 rfl) rfl ?_
  refine XS.iloadN X0.here hx rfl (D 1 rfl) rfl ?_
  refine XS.icmpNo X0.here hx rfl (D 2 rfl) rfl (tlt (show (own_len q) < (own_len l1) from (own_lt_snoc hq hl).1.2)).2.1 ?_
  refine XS.aloadN X0.here hx rfl (D 3 rfl) rfl rfl ?_
  refine XS.iload X0.here hx rfl (D 4 rfl) rfl ?_
  exact k
 have pre3 : oP p e bw G s₁ m 28 #[vR ra, vI 0, vI (own_len l1), vI (own_len l1), vI ((own_len q) + (1 : Int32))] [] := by
  intro t k
  refine pre1 t ?_
  obtain ⟨c2, a2, q2, s2, m2, i2, u2⟩ := id VA
  have hin2 := inb_of (j := (own_len q)) s2 (own_lt_snoc hq hl).1
  refine X0.baloadBytes hx (j := (own_len q)) (v := (.int xx)) (by rw [e0]; exact a2.1) (State.isArrayOf_alike hZ.alike a2.2.1) a2.2.2 hin2 (i2.at hin2 (own_lt_snoc hq hl).2) (g := (own_g pre1)) rfl rfl (D 5 rfl) _ ?_
  refine XS.ifYes X0.here hx rfl (pc0 := 17) (pc' := 25) rfl (D 6 rfl) rfl ((if0 _ _).trans (flt (show ¬ (xx < (0 : Int32)) from hcn)).2.1) (by decide) (by decide) ?_
  refine XS.iinc X0.here hx rfl (D 7 rfl) rfl (l' := #[vR ra, vI 0, vI (own_len l1), vI (own_len l1), vI ((own_len q) + (1 : Int32))]) rfl ?_
  exact k
 rw [show ((own_len q) + (1 : Int32)) = (own_len (q ++ [xx])) from own_snoc _ _] at pre3
 have pre4 : oP p e bw G s₁ m 7 #[vR ra, vI 0, vI (own_len l1), vI (own_len l1), vI (own_len (q ++ [xx]))] [] := by
  intro t k
  refine pre3 t ?_
  refine XS.goto X0.here hx rfl (pc0 := 28) (pc' := 7) rfl (D 8 rfl) (by decide) (by decide) ?_
  exact k
 exact pre4
theorem rm_cp_n {p : Program} {l : Launch} {e : Env} {R : Room} {s : State} {m : MethodId} {args : Array Value} {bw : List Frame} {meth : Method} {c : Code} {locs : List Loc} {cells slots : Nat} {Z : State} {G : State → Prop} {s₁ : State} (hx : p.tables.exec = Jvm.exec) (hby : c.code = jdk_123_method_3_code) (hZ : Z.Warmed39 s.vm) (ra : Addr) (ka : ClassId) (l1 : List Int32) (q : List Int32) (r : List Int32) (xx : Int32) (h0 : Heap) (n0 : Nat) (Z0 : n0 ≤ h0.size) (VA : Arv Z h0 ra ka .byte (own_len l1) (l1.map Value.int) (.int 0)) (hq : l1 = q ++ xx :: r) (hl : l1.length ≤ 1000) (hcn : xx < (0 : Int32)) (X0 : Stand p l e R s m args bw meth c s₁ locs cells slots) (e0 : s₁.heap = h0) (N0 : Fr n0 locs) (pre0 : oP p e bw G s₁ m 7 #[vR ra, vI 0, vI (own_len l1), vI (own_len l1), vI (own_len q)] []) :
  oP p e bw G s₁ m 24 #[vR ra, vI 0, vI (own_len l1), vI (own_len l1), vI (own_len q)] [.int ((own_len q) - (0 : Int32))] := by
 have D := own_D hby dB30
 have pre1 : oP p e bw G s₁ m 16 #[vR ra, vI 0, vI (own_len l1), vI (own_len l1), vI (own_len q)] [(.int (own_len q)), (.ref ra)] := by
  intro t k
  refine pre0 t ?_
  refine XS.iload X0.here hx rfl (D 0 rfl) rfl ?_
  refine XS.iloadN X0.here hx rfl (D 1 rfl) rfl ?_
  refine XS.icmpNo X0.here hx rfl (D 2 rfl) rfl (tlt (show (own_len q) < (own_len l1) from (own_lt_snoc hq hl).1.2)).2.1 ?_
  refine XS.aloadN X0.here hx rfl (D 3 rfl) rfl rfl ?_
  refine XS.iload X0.here hx rfl (D 4 rfl) rfl ?_
  exact k
 have pre3 : oP p e bw G s₁ m 24 #[vR ra, vI 0, vI (own_len l1), vI (own_len l1), vI (own_len q)] [(.int ((own_len q) - (0 : Int32)))] := by
  intro t k
  refine pre1 t ?_
  obtain ⟨c2, a2, q2, s2, m2, i2, u2⟩ := id VA
  have hin2 := inb_of (j := (own_len q)) s2 (own_lt_snoc hq hl).1
  refine X0.baloadBytes hx (j := (own_len q)) (v := (.int xx)) (by rw [e0]; exact a2.1) (State.isArrayOf_alike hZ.alike a2.2.1) a2.2.2 hin2 (i2.at hin2 (own_lt_snoc hq hl).2) (g := (own_g pre1)) rfl rfl (D 5 rfl) _ ?_
  refine XS.ifNo X0.here hx rfl (D 6 rfl) rfl ((if0 _ _).trans (tlt (show xx < (0 : Int32) from hcn)).2.1) ?_
  refine XS.iload X0.here hx rfl (D 9 rfl) rfl ?_
  refine XS.iloadN X0.here hx rfl (D 10 rfl) rfl ?_
  refine XS.isub X0.here hx rfl (D 11 rfl) rfl ?_
  exact k
 exact pre3
theorem rm_cp_x {p : Program} {l : Launch} {e : Env} {R : Room} {s : State} {m : MethodId} {args : Array Value} {bw : List Frame} {meth : Method} {c : Code} {locs : List Loc} {cells slots : Nat} {Z : State} {G : State → Prop} {s₁ : State} (hx : p.tables.exec = Jvm.exec) (hby : c.code = jdk_123_method_3_code) (hZ : Z.Warmed39 s.vm) (ra : Addr) (ka : ClassId) (l1 : List Int32) (q : List Int32) (h0 : Heap) (n0 : Nat) (Z0 : n0 ≤ h0.size) (VA : Arv Z h0 ra ka .byte (own_len l1) (l1.map Value.int) (.int 0)) (hqn : ¬ (own_len q < own_len l1)) (X0 : Stand p l e R s m args bw meth c s₁ locs cells slots) (e0 : s₁.heap = h0) (N0 : Fr n0 locs) (pre0 : oP p e bw G s₁ m 7 #[vR ra, vI 0, vI (own_len l1), vI (own_len l1), vI (own_len q)] []) :
  oP p e bw G s₁ m 31 #[vR ra, vI 0, vI (own_len l1), vI (own_len l1), vI (own_len q)] [] := by
 have D := own_D hby dB30
 have pre1 : oP p e bw G s₁ m 31 #[vR ra, vI 0, vI (own_len l1), vI (own_len l1), vI (own_len q)] [] := by
  intro t k
  refine pre0 t ?_
  refine XS.iload X0.here hx rfl (D 0 rfl) rfl ?_
  refine XS.iloadN X0.here hx rfl (D 1 rfl) rfl ?_
  refine XS.icmpYes X0.here hx rfl (pc0 := 10) (pc' := 31) rfl (D 2 rfl) rfl (flt (show ¬ ((own_len q) < (own_len l1)) from hqn)).2.1 (by decide) (by decide) ?_
  exact k
 exact pre1
theorem rm_cp_loop {p : Program} {l : Launch} {e : Env} {R : Room} {s : State} {m : MethodId} {args : Array Value} {bw : List Frame} {meth : Method} {c : Code} {locs : List Loc} {cells slots : Nat} {Z : State} {G : State → Prop} {s₁ : State} (hx : p.tables.exec = Jvm.exec) (hby : c.code = jdk_123_method_3_code) (hZ : Z.Warmed39 s.vm) (ra : Addr) (ka : ClassId) (l1 : List Int32) (h0 : Heap) (n0 : Nat) (Z0 : n0 ≤ h0.size) (VA : Arv Z h0 ra ka .byte (own_len l1) (l1.map Value.int) (.int 0)) (hl : l1.length ≤ 1000) (X0 : Stand p l e R s m args bw meth c s₁ locs cells slots) (e0 : s₁.heap = h0) (N0 : Fr n0 locs) :
  ∀ (r q : List Int32), l1 = q ++ r → own_pos q = q → oP p e bw G s₁ m 7 #[vR ra, vI 0, vI (own_len l1), vI (own_len l1), vI (own_len q)] [] → (own_pos l1 = l1 ∧ oP p e bw G s₁ m 31 #[vR ra, vI 0, vI (own_len l1), vI (own_len l1), vI (own_len l1)] []) ∨ ∃ q', own_pos l1 = q' ∧ oP p e bw G s₁ m 24 #[vR ra, vI 0, vI (own_len l1), vI (own_len l1), vI (own_len q')] [.int ((own_len q') - (0 : Int32))]
 | [], q, hq, hp, pre => by
  rw [List.append_nil] at hq
  subst hq
  exact Or.inl ⟨hp, rm_cp_x hx hby hZ ra ka l1 l1 h0 n0 Z0 VA Int32.lt_irrefl X0 e0 N0 pre⟩
 | xx :: r, q, hq, hp, pre => by
  by_cases c : xx < (0 : Int32)
  ·exact Or.inr ⟨q, by rw [hq, own_posA hp, own_posN c, List.append_nil], rm_cp_n hx hby hZ ra ka l1 q r xx h0 n0 Z0 VA hq hl c X0 e0 N0 pre⟩
  ·exact rm_cp_loop hx hby hZ ra ka l1 h0 n0 Z0 VA hl X0 e0 N0 r (q ++ [xx]) (by rw [hq, List.append_assoc]; rfl) (by rw [own_posA hp, own_posP c]; rfl) (rm_cp_t hx hby hZ ra ka l1 q r xx h0 n0 Z0 VA hq hl c X0 e0 N0 pre)
theorem pn5 : plainName oS11 = true := by first | (simp [plainName, overriddenIn]; done) | decide +kernel
theorem ef_rm_cp (m : MethodId) (ra : Addr) : entryFrame m #[(.ref ra), (.int 0), (.int (own_len l1))] 5 = mkF m 0 #[vR ra, vI 0, vI (own_len l1), vU, vU] [] := by simp [entryFrame, mkF, argsToLocals, Value.category]
def Q_rm_cp (Z : State) (ra : Addr) (ka : ClassId) (l1 : List Int32) (h0 : Heap) (n0 : Nat) (v : Option Value) (h : Heap) (L : List Loc) : Prop := v = some (.int (own_len (own_pos l1))) ∧ Fr n0 L ∧ h = h0
set_option maxRecDepth 65536 in
set_option maxHeartbeats 40000000 in
theorem rm_cp (l : Launch) (Z : State) (a0 : Array Value) (hw : ∀ d ∈ tables_1, d.before a0 Z = true) (ws : List Jvm.Cond) (ra : Addr) (ka : ClassId) (l1 : List Int32) (h0 : Heap) (n0 : Nat) (Z0 : n0 ≤ h0.size) (VA : Arv Z h0 ra ka .byte (own_len l1) (l1.map Value.int) (.int 0)) (hl : l1.length ≤ 1000) :
  oMet l (⟨oS11, "countPositives", "([BII)I"⟩ : MethodName) jdk_123_method_3_code 5 (some .int) ws (oR 0 0 0 0) #[(.ref ra), (.int 0), (.int (own_len l1))] Z h0 (Q_rm_cp Z ra ka l1 h0 n0) := by
 refine MetFree.of_bodySF (plainFor_of_name pn5) hisR ?_
 have W := own_W hw
 intro p e s m args bw meth c s₁ Bd hml0 hP hK
 obtain ⟨rfl, hZ, hh⟩ := hP
 have hx := Bd.exec
 have hby := Bd.bytes
 have hml : c.maxLocals = 5 := hml0
 have hown : s.vm.findClass oS11 = some m.cls := findClass_of_methodNamed Bd.named
 have hnm := (name_of_methodNamed Bd.named Bd.method).1
 have X0 : Stand p l e (oR 0 0 0 0) s m #[(.ref ra), (.int 0), (.int (own_len l1))] bw meth c s₁ [] 0 0 := Stand.of_body Bd
 have e0 : s₁.heap = h0 := by rw [← hh, Bd.state]; rfl
 have N0 := Fr.nil n0
 have D := own_D hby dB30
 obtain ⟨G, hG⟩ := own_ex fun t => Steps p.tables e bw (s₁.setTop (entryFrame m #[(.ref ra), (.int 0), (.int (own_len l1))] 5)) t
 have pre0 : oP p e bw G s₁ m 0 #[vR ra, vI 0, vI (own_len l1), vU, vU] [] := by intro t k; subst hG; exact castTop (ef_rm_cp m ra) k
 have pre1 : oP p e bw G s₁ m 7 #[vR ra, vI 0, vI (own_len l1), vI ((0 : Int32) + (own_len l1)), vI 0] [] := by
  intro t k
  refine pre0 t ?_
  refine XS.iloadN X0.here hx rfl (D 12 rfl) rfl ?_
  refine XS.iloadN X0.here hx rfl (D 13 rfl) rfl ?_
  refine XS.iadd X0.here hx rfl (D 14 rfl) rfl ?_
  refine XS.istoreN X0.here hx rfl (D 15 rfl) rfl (l' := #[vR ra, vI 0, vI (own_len l1), vI ((0 : Int32) + (own_len l1)), vU]) rfl ?_
  refine XS.iloadN X0.here hx rfl (D 16 rfl) rfl ?_
  refine XS.istore X0.here hx rfl (D 17 rfl) rfl (l' := #[vR ra, vI 0, vI (own_len l1), vI ((0 : Int32) + (own_len l1)), vI 0]) rfl ?_
  exact k
 rw [show ((0 : Int32) + (own_len l1)) = (own_len l1) from Int32.zero_add _] at pre1
 rcases rm_cp_loop hx hby hZ ra ka l1 h0 n0 Z0 VA hl X0 e0 N0 l1 [] rfl rfl pre1 with ⟨hp, pa⟩ | ⟨q, hp, pa⟩
 ·have pre2 : oP p e bw G s₁ m 32 #[vR ra, vI 0, vI (own_len l1), vI (own_len l1), vI (own_len l1)] [(.int (own_len l1))] := by
   intro t k
   refine pa t ?_
   refine XS.iloadN X0.here hx rfl (D 18 rfl) rfl ?_
   exact k
  obtain ⟨fs, hr, hrun, hended, hW, hsame⟩ := X0.leave (hlocks := Bd.notSynchronized) (v := some (.int (own_len l1))) (fun h => by rw [Bd.returns] at h; cases h)
  subst hG
  refine ⟨_, _, pre2 _ ?_, hrun, hended, _, _, rfl, ?_, ⟨_, rfl⟩, hW, hsame.mono (by decide) (by decide)⟩
  ·exact retI X0 hx Bd.returns (D 19 rfl) hr
  ·show Q_rm_cp Z ra ka l1 h0 n0 _ s₁.heap _
   rw [e0]
   exact ⟨congrArg (fun z => some (Value.int z)) (by rw [hp]), N0, rfl⟩
 ·obtain ⟨fs, hr, hrun, hended, hW, hsame⟩ := X0.leave (hlocks := Bd.notSynchronized) (v := some (.int ((own_len q) - (0 : Int32)))) (fun h => by rw [Bd.returns] at h; cases h)
  subst hG
  refine ⟨_, _, pa _ ?_, hrun, hended, _, _, rfl, ?_, ⟨_, rfl⟩, hW, hsame.mono (by decide) (by decide)⟩
  ·exact retI X0 hx Bd.returns (D 20 rfl) hr
  ·show Q_rm_cp Z ra ka l1 h0 n0 _ s₁.heap _
   rw [e0]
   exact ⟨congrArg (fun z => some (Value.int z)) (by rw [hp, Int32.sub_zero]), N0, rfl⟩
theorem pd9 : parseMethodDescriptor "([BII)I" = some ⟨[(.array .byte), .int, .int], some .int⟩ := by decide +kernel
def F_rm_hn (l1 : List Int32) : Int32 := (if (own_len (own_pos l1)) = (own_len l1) then (0 : Int32) else (1 : Int32))
theorem ef_rm_hn (m : MethodId) (ra : Addr) : entryFrame m #[(.ref ra), (.int 0), (.int (own_len l1))] 3 = mkF m 0 #[vR ra, vI 0, vI (own_len l1)] [] := by simp [entryFrame, mkF, argsToLocals, Value.category]
def Q_rm_hn (Z : State) (ra : Addr) (ka : ClassId) (l1 : List Int32) (h0 : Heap) (n0 : Nat) (v : Option Value) (h : Heap) (L : List Loc) : Prop := v = some (.int (F_rm_hn l1)) ∧ Fr n0 L ∧ h = h0
set_option maxRecDepth 65536 in
set_option maxHeartbeats 40000000 in
theorem rm_hn (l : Launch) (Z : State) (a0 : Array Value) (hw : ∀ d ∈ tables_1, d.before a0 Z = true) (ws : List Jvm.Cond) (ra : Addr) (ka : ClassId) (l1 : List Int32) (h0 : Heap) (n0 : Nat) (Z0 : n0 ≤ h0.size) (VA : Arv Z h0 ra ka .byte (own_len l1) (l1.map Value.int) (.int 0)) (hl : l1.length ≤ 1000) :
  oMet l (⟨oS11, "hasNegatives", "([BII)Z"⟩ : MethodName) jdk_123_method_2_code 3 (some .boolean) ws (oR 1 0 0 16) #[(.ref ra), (.int 0), (.int (own_len l1))] Z h0 (Q_rm_hn Z ra ka l1 h0 n0) := by
 refine MetFree.of_bodySF (plainFor_of_name pn5) hisR ?_
 have W := own_W hw
 intro p e s m args bw meth c s₁ Bd hml0 hP hK
 obtain ⟨rfl, hZ, hh⟩ := hP
 have hx := Bd.exec
 have hby := Bd.bytes
 have hml : c.maxLocals = 3 := hml0
 have hown : s.vm.findClass oS11 = some m.cls := findClass_of_methodNamed Bd.named
 have hnm := (name_of_methodNamed Bd.named Bd.method).1
 have X0 : Stand p l e (oR 1 0 0 16) s m #[(.ref ra), (.int 0), (.int (own_len l1))] bw meth c s₁ [] 0 0 := Stand.of_body Bd
 have e0 : s₁.heap = h0 := by rw [← hh, Bd.state]; rfl
 have N0 := Fr.nil n0
 have D := own_D hby dB29
 obtain ⟨G, hG⟩ := own_ex fun t => Steps p.tables e bw (s₁.setTop (entryFrame m #[(.ref ra), (.int 0), (.int (own_len l1))] 3)) t
 have pre0 : oP p e bw G s₁ m 0 #[vR ra, vI 0, vI (own_len l1)] [] := by intro t k; subst hG; exact castTop (ef_rm_hn m ra) k
 have pre1 : oP p e bw G s₁ m 3 #[vR ra, vI 0, vI (own_len l1)] [(.int (own_len l1)), (.int 0), (.ref ra)] := by
  intro t k
  refine pre0 t ?_
  refine XS.aloadN X0.here hx rfl (D 0 rfl) rfl rfl ?_
  refine XS.iloadN X0.here hx rfl (D 1 rfl) rfl ?_
  refine XS.iloadN X0.here hx rfl (D 2 rfl) rfl ?_
  exact k
 obtain ⟨_, T2, Lc2, X2, hQ2, pc2⟩ := own_call X0 hx hZ hown (W 149 rfl) (W 150 rfl) (W 147 rfl) (W 151 rfl) (by decide) (rm_cp l Z a0 hw [] ra ka l1 h0 n0 Z0 VA (hl)) e0 pre1 hml rfl (D 3 rfl) (lenOf pd9 rfl) rfl (W := 0) rfl (by decide)
 obtain ⟨rfl, M2, e2⟩ := hQ2
 have N2 := Fr.app N0 M2
 have pre3 : oP p e bw G T2 m 7 #[vR ra, vI 0, vI (own_len l1)] [(.int (own_len l1)), (.int (own_len (own_pos l1)))] := by
  intro t k
  refine pc2 t ?_
  refine XS.iloadN X2.here hx rfl (D 4 rfl) rfl ?_
  exact k
 by_cases hc7 : (own_len (own_pos l1)) = (own_len l1)
 ·have pre4 : oP p e bw G T2 m 15 #[vR ra, vI 0, vI (own_len l1)] [(.int 0)] := by
   intro t k
   refine pre3 t ?_
   refine XS.icmpYes X2.here hx rfl (pc0 := 7) (pc' := 14) rfl (D 5 rfl) rfl (teq hc7).1 (by decide) (by decide) ?_
   refine XS.iconst X2.here hx rfl (D 6 rfl) ?_
   exact k
  obtain ⟨fs, hr, hrun, hended, hW, hsame⟩ := X2.leave (hlocks := Bd.notSynchronized) (v := some (.int 0)) (fun h => by rw [Bd.returns] at h; cases h)
  subst hG
  refine ⟨_, _, pre4 _ ?_, hrun, hended, _, _, rfl, ?_, ⟨_, rfl⟩, hW, hsame.mono (by decide) (by decide)⟩
  ·exact retN X2 hx (t := .boolean) Bd.returns (by simp) (D 7 rfl) hr
  ·show Q_rm_hn Z ra ka l1 h0 n0 _ T2.heap _
   rw [e2]
   exact ⟨congrArg (fun z => some (Value.int z)) (show (0 : Int32) = (F_rm_hn l1) from by rw [F_rm_hn, if_pos hc7]), N2, rfl⟩
 ·have pre5 : oP p e bw G T2 m 15 #[vR ra, vI 0, vI (own_len l1)] [(.int 1)] := by
   intro t k
   refine pre3 t ?_
   refine XS.icmpNo X2.here hx rfl (D 5 rfl) rfl (feq hc7).1 ?_
   refine XS.iconst X2.here hx rfl (D 8 rfl) ?_
   refine XS.goto X2.here hx rfl (pc0 := 11) (pc' := 15) rfl (D 9 rfl) (by decide) (by decide) ?_
   exact k
  obtain ⟨fs, hr, hrun, hended, hW, hsame⟩ := X2.leave (hlocks := Bd.notSynchronized) (v := some (.int 1)) (fun h => by rw [Bd.returns] at h; cases h)
  subst hG
  refine ⟨_, _, pre5 _ ?_, hrun, hended, _, _, rfl, ?_, ⟨_, rfl⟩, hW, hsame.mono (by decide) (by decide)⟩
  ·exact retN X2 hx (t := .boolean) Bd.returns (by simp) (D 7 rfl) hr
  ·show Q_rm_hn Z ra ka l1 h0 n0 _ T2.heap _
   rw [e2]
   exact ⟨congrArg (fun z => some (Value.int z)) (show (1 : Int32) = (F_rm_hn l1) from by rw [F_rm_hn, if_neg hc7]), N2, rfl⟩
theorem own_hn0 {l : List Int32} (hl : l.length ≤ 5) (h : F_rm_hn l = (0 : Int32)) : own_enc l = l := by
 by_cases c : own_len (own_pos l) = own_len l
 ·exact own_posE (own_linj (by have := own_posL l; omega) (by omega) c)
 ·rw [F_rm_hn, if_neg c] at h; cases h
theorem own_shl {l : List Int32} (h : l.length ≤ 5) : (own_len l <<< ((1 : Int32) &&& 31)) = own_len (l ++ l) := by
 rw [own_lenA]
 exact own_c99 (P := fun n => (n <<< ((1 : Int32) &&& 31)) = n + n) (by decide +kernel) (own_99 (by omega))
def own_ET (A R r : List Int32) (xz : Int32) : Prop := xz = own_len (A ++ R) ∧ (A ++ R).length ≤ 1000 ∧ 2 * r.length ≤ R.length
theorem own_et1 {A R r : List Int32} {x : Int32} {xz : Int32} (H : own_ET A R (x :: r) xz) : (¬ own_len A < 0 ∧ own_len A < xz) ∧ (¬ (own_len A + (1 : Int32)) < 0 ∧ (own_len A + (1 : Int32)) < xz) ∧ (A ++ R).length = xz.toNatClampNeg := by
 obtain ⟨h1, h2, h3⟩ := H
 have e := List.length_append (as := A) (bs := R)
 rw [List.length_cons] at h3
 have a1 := own_lenI (l := A) (by omega)
 have a2 := own_a1 a1 (by omega)
 rw [h1, own_lenN h2]
 refine ⟨⟨own_nn (by omega), ?_⟩, ⟨?_, ?_⟩, rfl⟩
 ·rw [Int32.lt_iff_toInt_lt, own_lenI h2, a1]; omega
 ·rw [Int32.lt_iff_toInt_lt, a2, show (0 : Int32).toInt = 0 from rfl]; omega
 ·rw [Int32.lt_iff_toInt_lt, own_lenI h2, a2]; omega
theorem own_et2 {A R r : List Int32} {x : Int32} {xz : Int32} (H : own_ET A R (x :: r) xz) : own_ET (A ++ own_enc [x]) (R.drop (own_enc [x]).length) r xz := by
 obtain ⟨h1, h2, h3⟩ := H
 have h4 := own_encL [x]
 simp only [List.length_cons, List.length_nil] at h3 h4
 have e : ((A ++ own_enc [x]) ++ (R.drop (own_enc [x]).length)).length = (A ++ R).length := by
  simp only [List.length_append, List.length_drop]; omega
 exact ⟨by rw [own_lz e]; exact h1, by rw [e]; exact h2, by rw [List.length_drop]; omega⟩
theorem own_et3 {A R r : List Int32} {x xz v w : Int32} (H : own_ET A R (x :: r) xz) (e : own_enc [x] = [v, w]) : ((A ++ R).set (own_len A).toNatClampNeg v).set ((own_len A + (1 : Int32))).toNatClampNeg w = (A ++ own_enc [x]) ++ R.drop (own_enc [x]).length := by
 obtain ⟨h1, h2, h3⟩ := H
 have e0 := List.length_append (as := A) (bs := R)
 rw [List.length_cons] at h3
 have a1 := own_lenI (l := A) (by omega)
 have p1 := own_nat (own_a1 a1 (by omega))
 rw [e, own_lenN (by omega), p1, show (A.length : Nat) = A.length + 0 from rfl]
 match R, h3 with
 | r0 :: r1 :: R, _ =>
 simp only [own_setN]
 simp
theorem own_et4 {A R r : List Int32} {x xz v : Int32} (H : own_ET A R (x :: r) xz) (e : own_enc [x] = [v]) : (A ++ R).set (own_len A).toNatClampNeg v = (A ++ own_enc [x]) ++ R.drop (own_enc [x]).length := by
 obtain ⟨h1, h2, h3⟩ := H
 have e0 := List.length_append (as := A) (bs := R)
 rw [List.length_cons] at h3
 rw [e, own_lenN (by omega), show (A.length : Nat) = A.length + 0 from rfl]
 match R, h3 with
 | r0 :: r1 :: R, _ =>
 simp only [own_setN]
 simp
theorem own_e1N {x : Int32} (q : x < (0 : Int32)) : own_enc [x] = [nar .byte ((192 : Int32) ||| ((x &&& (255 : Int32)) >>> ((6 : Int32) &&& 31))).toInt8.toInt32, nar .byte ((128 : Int32) ||| (x &&& (63 : Int32))).toInt8.toInt32] := by
 rw [own_enc, if_pos q]; rfl
theorem own_e1P {x : Int32} (q : ¬ (x < (0 : Int32))) (h : nar .byte x = x) : own_enc [x] = [nar .byte x] := by
 rw [own_enc, if_neg q, h]; rfl
theorem own_us2 {l w R : List Int32} (h : l = w ++ R) (q : w.length ≤ 1000) : w.map Value.int = (List.range (own_len w).toNatClampNeg).map fun i => (l.map Value.int).getD ((0 : Int32).toNatClampNeg + i) (.int 0) := by
 rw [own_lenN q]
 apply List.ext_getElem
 ·simp
 ·intro i h1 h2
  have e : (0 : Int32).toNatClampNeg + i = i := by rw [show (0 : Int32).toNatClampNeg = 0 from rfl]; omega
  simp only [List.length_map] at h1
  simp only [List.getElem_map, List.getElem_range, e, own_getD, h]
  simp [List.getD_eq_getElem?_getD, List.getElem?_append_left h1, h1]
theorem own_cp2 {w : List Int32} (q : w.length ≤ 1000) : (((own_zs w).map Value.int).take (0 : Int32).toNatClampNeg ++ w.map Value.int ++ ((own_zs w).map Value.int).drop ((0 : Int32).toNatClampNeg + (own_len w).toNatClampNeg)) = w.map Value.int := by
 rw [show (0 : Int32).toNatClampNeg = 0 from rfl, List.take_zero, List.nil_append, Nat.zero_add, List.drop_of_length_le (by rw [List.length_map, own_zL q, own_lenN q]; exact Nat.le_refl _), List.append_nil]
theorem own_co1 {l w R : List Int32} {xd xz : Int32} (h : l = w ++ R) (hb : l.length ≤ 1000) (hd : xd = own_len w) (hz : xz = own_len l) : F_rm_min xz xd = own_len w ∧ (own_len w).toNatClampNeg ≤ xz.toNatClampNeg := by
 have e : l.length = w.length + R.length := by rw [h, List.length_append]
 rw [hz, own_lenN hb, own_lenN (by omega)]
 refine ⟨?_, by omega⟩
 rw [F_rm_min, hd]
 split
 ·rfl
 ·rename_i c
  rw [Int32.lt_iff_toInt_lt, own_lenI hb, own_lenI (by omega)] at c
  exact own_lz (by omega)

theorem own_nb1 {l : List Int32} (h : l.length ≤ 5) : own_len l < (1073741823 : Int32) := by
 rw [Int32.lt_iff_toInt_lt, own_lenI (by omega), show (1073741823 : Int32).toInt = 1073741823 from rfl]; omega
theorem ef_rm_nbl (m : MethodId)  : entryFrame m #[(.int (own_len l1))] 1 = mkF m 0 #[vI (own_len l1)] [] := by simp [entryFrame, mkF, argsToLocals, Value.category]
def Q_rm_nbl (Z : State) (l1 : List Int32) (h0 : Heap) (n0 : Nat) (v : Option Value) (h : Heap) (L : List Loc) : Prop := v = some (.int (own_len (l1 ++ l1))) ∧ Fr n0 L ∧ h = h0
set_option maxRecDepth 65536 in
set_option maxHeartbeats 40000000 in
theorem rm_nbl (l : Launch) (Z : State) (a0 : Array Value) (hw : ∀ d ∈ tables_1, d.before a0 Z = true) (ws : List Jvm.Cond) (l1 : List Int32) (h0 : Heap) (n0 : Nat) (Z0 : n0 ≤ h0.size) (hl : l1.length ≤ 5) :
  oMet l (⟨oS8, "newBytesLength", "(I)I"⟩ : MethodName) jdk_52_method_3_code 1 (some .int) ws (oR 0 0 0 0) #[(.int (own_len l1))] Z h0 (Q_rm_nbl Z l1 h0 n0) := by
 refine MetFree.of_bodySF (plainFor_of_name pn2) hisR ?_
 have W := own_W hw
 intro p e s m args bw meth c s₁ Bd hml0 hP hK
 obtain ⟨rfl, hZ, hh⟩ := hP
 have hx := Bd.exec
 have hby := Bd.bytes
 have hml : c.maxLocals = 1 := hml0
 have hown : s.vm.findClass oS8 = some m.cls := findClass_of_methodNamed Bd.named
 have hnm := (name_of_methodNamed Bd.named Bd.method).1
 have X0 : Stand p l e (oR 0 0 0 0) s m #[(.int (own_len l1))] bw meth c s₁ [] 0 0 := Stand.of_body Bd
 have e0 : s₁.heap = h0 := by rw [← hh, Bd.state]; rfl
 have N0 := Fr.nil n0
 have D := own_D hby dB36
 obtain ⟨G, hG⟩ := own_ex fun t => Steps p.tables e bw (s₁.setTop (entryFrame m #[(.int (own_len l1))] 1)) t
 have pre0 : oP p e bw G s₁ m 0 #[vI (own_len l1)] [] := by intro t k; subst hG; exact castTop (ef_rm_nbl m ) k
 have pre1 : oP p e bw G s₁ m 13 #[vI (own_len l1)] [(.int (own_len l1))] := by
  intro t k
  refine pre0 t ?_
  refine XS.iloadN X0.here hx rfl (D 0 rfl) rfl ?_
  refine XS.ifYes X0.here hx rfl (pc0 := 1) (pc' := 12) rfl (D 1 rfl) rfl ((if0 _ _).trans (flt (show ¬ ((own_len l1) < (0 : Int32)) from own_nn (Nat.le_trans hl (by decide)))).2.1) (by decide) (by decide) ?_
  refine XS.iloadN X0.here hx rfl (D 2 rfl) rfl ?_
  exact k
 have pre2 : oP p e bw G s₁ m 58 #[vI (own_len l1)] [(.int ((own_len l1) <<< ((1 : Int32) &&& 31)))] := by
  intro t k
  refine pre1 t ?_
  refine X0.ldcInt hx hown (mvT hZ (W 182 rfl)) (g := (own_g pre1)) rfl (D 3 rfl) _ ?_
  refine XS.icmpYes X0.here hx rfl (pc0 := 15) (pc' := 55) rfl (D 4 rfl) rfl (tlt (show (own_len l1) < (1073741823 : Int32) from own_nb1 hl)).1 (by decide) (by decide) ?_
  refine XS.iloadN X0.here hx rfl (D 5 rfl) rfl ?_
  refine XS.iconst X0.here hx rfl (D 6 rfl) ?_
  refine XS.ishl X0.here hx rfl (D 7 rfl) rfl ?_
  exact k
 obtain ⟨fs, hr, hrun, hended, hW, hsame⟩ := X0.leave (hlocks := Bd.notSynchronized) (v := some (.int ((own_len l1) <<< ((1 : Int32) &&& 31)))) (fun h => by rw [Bd.returns] at h; cases h)
 subst hG
 refine ⟨_, _, pre2 _ ?_, hrun, hended, _, _, rfl, ?_, ⟨_, rfl⟩, hW, hsame.mono (by decide) (by decide)⟩
 ·exact retI X0 hx Bd.returns (D 8 rfl) hr
 ·show Q_rm_nbl Z l1 h0 n0 _ s₁.heap _
  rw [e0]
  exact ⟨congrArg (fun z => some (Value.int z)) (own_shl hl), N0, rfl⟩
theorem ef_rm_nbf (m : MethodId)  : entryFrame m #[(.int (own_len l1))] 1 = mkF m 0 #[vI (own_len l1)] [] := by simp [entryFrame, mkF, argsToLocals, Value.category]
def Q_rm_nbf (Z : State) (l1 : List Int32) (h0 : Heap) (n0 : Nat) (v : Option Value) (h : Heap) (L : List Loc) : Prop := ∃ kb : ClassId, ∃ bo : Addr, v = some (.ref bo) ∧ Fr n0 L ∧ n0 ≤ bo ∧ h0.size ≤ bo ∧ Keep h0 h ([] : List Addr) ∧ Arv Z h bo kb .byte (own_len (l1 ++ l1)) ((own_zs (l1 ++ l1)).map Value.int) (.int 0) ∧ Exa Z h bo "[B"
set_option maxRecDepth 65536 in
set_option maxHeartbeats 40000000 in
theorem rm_nbf (l : Launch) (Z : State) (a0 : Array Value) (hw : ∀ d ∈ tables_1, d.before a0 Z = true) (ws : List Jvm.Cond) (l1 : List Int32) (h0 : Heap) (n0 : Nat) (Z0 : n0 ≤ h0.size) (hl : l1.length ≤ 5) :
  oMet l (⟨oS8, "newBytesFor", "(I)[B"⟩ : MethodName) jdk_52_method_2_code 1 (some (.array .byte)) ws (oR 1 1 10 12) #[(.int (own_len l1))] Z h0 (Q_rm_nbf Z l1 h0 n0) := by
 refine MetFree.of_bodySF (plainFor_of_name pn2) hisR ?_
 have W := own_W hw
 intro p e s m args bw meth c s₁ Bd hml0 hP hK
 obtain ⟨rfl, hZ, hh⟩ := hP
 have hx := Bd.exec
 have hby := Bd.bytes
 have hml : c.maxLocals = 1 := hml0
 have hown : s.vm.findClass oS8 = some m.cls := findClass_of_methodNamed Bd.named
 have hnm := (name_of_methodNamed Bd.named Bd.method).1
 have X0 : Stand p l e (oR 1 1 10 12) s m #[(.int (own_len l1))] bw meth c s₁ [] 0 0 := Stand.of_body Bd
 have e0 : s₁.heap = h0 := by rw [← hh, Bd.state]; rfl
 have N0 := Fr.nil n0
 have D := own_D hby dB35
 obtain ⟨G, hG⟩ := own_ex fun t => Steps p.tables e bw (s₁.setTop (entryFrame m #[(.int (own_len l1))] 1)) t
 have pre0 : oP p e bw G s₁ m 0 #[vI (own_len l1)] [] := by intro t k; subst hG; exact castTop (ef_rm_nbf m ) k
 have pre1 : oP p e bw G s₁ m 1 #[vI (own_len l1)] [(.int (own_len l1))] := by
  intro t k
  refine pre0 t ?_
  refine XS.iloadN X0.here hx rfl (D 0 rfl) rfl ?_
  exact k
 obtain ⟨_, T2, Lc2, X2, hQ2, pc2⟩ := own_call X0 hx hZ hown (W 179 rfl) (W 180 rfl) (W 19 rfl) (W 181 rfl) (by decide) (rm_nbl l Z a0 hw [] l1 h0 n0 Z0 (hl)) e0 pre1 hml rfl (D 1 rfl) (lenOf pd7 rfl) rfl (W := 0) rfl (by decide)
 obtain ⟨rfl, M2, e2⟩ := hQ2
 have N2 := Fr.app N0 M2
 have pre3 : oP p e bw G T2 m 4 #[vI (own_len l1)] [(.int (own_len (l1 ++ l1)))] := pc2
 obtain ⟨T4, h4, k4, X4, e4, E4, A4, x4, st4⟩ := newPE X2 hx hZ (W 21 rfl) e2 (g := (own_g pre3)) rfl (D 2 rfl) rfl (own_nn (Nat.le_trans (by rw [List.length_append]; omega : (l1 ++ l1).length ≤ 10) (by decide))) (cap := 10) (own_cap (by rw [List.length_append]; omega : (l1 ++ l1).length ≤ 10) (by decide)) (by decide) (by decide) (by decide) (ad := "[B") rfl
 obtain ⟨b4, g4⟩ := own_ex h0.size
 rw [← g4] at A4 st4 x4
 have g_b4 : n0 ≤ b4 := Nat.le_trans Z0 (Nat.le_of_eq g4.symm)
 have sz_b4 : h0.size ≤ b4 := Nat.le_trans (Keep.refl h0 ([] : List Addr)).1 (Nat.le_of_eq g4.symm)
 have K4 : Keep h0 h4 ([] : List Addr) := (Keep.refl h0 ([] : List Addr)).ext E4
 have z4 : n0 ≤ h4.size := Nat.le_trans Z0 K4.1
 have V_b4 : Arv Z h4 b4 k4 .byte (own_len (l1 ++ l1)) ((List.replicate ((own_len (l1 ++ l1))).toNatClampNeg (0 : Int32)).map Value.int) (.int 0) := (Arv.new A4 (own_nn (Nat.le_trans (by rw [List.length_append]; omega : (l1 ++ l1).length ≤ 10) (by decide)))).pad (own_rep _)
 have pre5 : oP p e bw G T4 m 6 #[vI (own_len l1)] [(.ref b4)] := fun t k => pre3 t (st4 t k)
 have vc6 : Arv Z h4 b4 k4 .byte (own_len (l1 ++ l1)) ((own_zs (l1 ++ l1)).map Value.int) (.int 0) := own_cv (rfl) V_b4
 obtain ⟨fs, hr, hrun, hended, hW, hsame⟩ := X4.leave (hlocks := Bd.notSynchronized) (v := some (.ref b4)) (fun h => by rw [Bd.returns] at h; cases h)
 subst hG
 refine ⟨_, _, pre5 _ ?_, hrun, hended, _, _, rfl, ?_, ⟨_, rfl⟩, hW, hsame.mono (by decide) (by decide)⟩
 ·exact retOut X4 hx Bd.returns rfl (Or.inr (Or.inr (Or.inr (Or.inr ⟨rfl, rfl, rfl⟩)))) (D 3 rfl) hr
 ·show Q_rm_nbf Z l1 h0 n0 _ T4.heap _
  rw [e4]
  exact ⟨k4, b4, rfl, N2, g_b4, sz_b4, K4, vc6, x4⟩
theorem pd10 : parseMethodDescriptor "(II)I" = some ⟨[.int, .int], some .int⟩ := by decide +kernel
theorem pn6 : plainName "java/util/Arrays" = true := by first | (simp [plainName, overriddenIn]; done) | decide +kernel
theorem ef_rm_co (m : MethodId) (ra : Addr) (xd : Int32) : entryFrame m #[(.ref ra), (.int xd)] 3 = mkF m 0 #[vR ra, vI xd, vU] [] := by simp [entryFrame, mkF, argsToLocals, Value.category]
def Q_rm_co (Z : State) (ra : Addr) (xd : Int32) (ka : ClassId) (xz : Int32) (l1 : List Int32) (lw : List Int32) (lR : List Int32) (h0 : Heap) (n0 : Nat) (v : Option Value) (h : Heap) (L : List Loc) : Prop := ∃ kb : ClassId, ∃ bo : Addr, v = some (.ref bo) ∧ Fr n0 L ∧ n0 ≤ bo ∧ h0.size ≤ bo ∧ Keep h0 h ([] : List Addr) ∧ Arv Z h bo kb .byte (own_len lw) (lw.map Value.int) (.int 0) ∧ Exa Z h bo "[B"
set_option maxRecDepth 65536 in
set_option maxHeartbeats 40000000 in
theorem rm_co (l : Launch) (Z : State) (a0 : Array Value) (hw : ∀ d ∈ tables_1, d.before a0 Z = true) (ws : List Jvm.Cond) (ra : Addr) (xd : Int32) (ka : ClassId) (xz : Int32) (l1 : List Int32) (lw : List Int32) (lR : List Int32) (h0 : Heap) (n0 : Nat) (Z0 : n0 ≤ h0.size) (VA : Arv Z h0 ra ka .byte xz (l1.map Value.int) (.int 0)) (hform : l1 = lw ++ lR) (hxd : xd = own_len lw) (hz : xz = own_len l1) (hbd : l1.length ≤ 1000) (hnx : ¬ (xd = xz)) (hcap : lw.length ≤ 10) :
  oMet l (⟨"java/util/Arrays", "copyOf", "([BI)[B"⟩ : MethodName) jdk_65_method_121_code 3 (some (.array .byte)) ws (oR 1 1 10 18) #[(.ref ra), (.int xd)] Z h0 (Q_rm_co Z ra xd ka xz l1 lw lR h0 n0) := by
 refine MetFree.of_bodySF (plainFor_of_name pn6) hisR ?_
 have W := own_W hw
 intro p e s m args bw meth c s₁ Bd hml0 hP hK
 obtain ⟨rfl, hZ, hh⟩ := hP
 have hx := Bd.exec
 have hby := Bd.bytes
 have hml : c.maxLocals = 3 := hml0
 have hown : s.vm.findClass "java/util/Arrays" = some m.cls := findClass_of_methodNamed Bd.named
 have hnm := (name_of_methodNamed Bd.named Bd.method).1
 have X0 : Stand p l e (oR 1 1 10 18) s m #[(.ref ra), (.int xd)] bw meth c s₁ [] 0 0 := Stand.of_body Bd
 have e0 : s₁.heap = h0 := by rw [← hh, Bd.state]; rfl
 have N0 := Fr.nil n0
 have D := own_D hby dB37
 obtain ⟨G, hG⟩ := own_ex fun t => Steps p.tables e bw (s₁.setTop (entryFrame m #[(.ref ra), (.int xd)] 3)) t
 have pre0 : oP p e bw G s₁ m 0 #[vR ra, vI xd, vU] [] := by intro t k; subst hG; exact castTop (ef_rm_co m ra xd) k
 have pre1 : oP p e bw G s₁ m 2 #[vR ra, vI xd, vU] [(.ref ra), (.int xd)] := by
  intro t k
  refine pre0 t ?_
  refine XS.iloadN X0.here hx rfl (D 0 rfl) rfl ?_
  refine XS.aloadN X0.here hx rfl (D 1 rfl) rfl rfl ?_
  exact k
 have pre3 : oP p e bw G s₁ m 14 #[vR ra, vI xd, vU] [] := by
  intro t k
  refine pre1 t ?_
  obtain ⟨c2, a2, q2, s2, m2, i2, u2⟩ := id VA
  refine X0.arraylength hx (by rw [e0]; exact a2.1) (State.isArrayOf_alike hZ.alike a2.2.1) (g := (own_g pre1)) rfl rfl (D 2 rfl) _ ?_
  rw [len_of s2 m2]
  refine XS.icmpYes X0.here hx rfl (pc0 := 3) (pc' := 14) rfl (D 3 rfl) rfl (feq (show ¬ (xd = xz) from hnx)).2 (by decide) (by decide) ?_
  exact k
 rw [show xd = (own_len lw) from hxd] at pre3
 have pre4 : oP p e bw G s₁ m 15 #[vR ra, vI (own_len lw), vU] [(.int (own_len lw))] := by
  intro t k
  refine pre3 t ?_
  refine XS.iloadN X0.here hx rfl (D 4 rfl) rfl ?_
  exact k
 obtain ⟨T5, h5, k5, X5, e5, E5, A5, x5, st5⟩ := newPE X0 hx hZ (W 21 rfl) e0 (g := (own_g pre4)) rfl (D 5 rfl) rfl (own_nn (Nat.le_trans hcap (by decide))) (cap := 10) (own_cap hcap (by decide)) (by decide) (by decide) (by decide) (ad := "[B") rfl
 obtain ⟨b5, g5⟩ := own_ex h0.size
 rw [← g5] at A5 st5 x5
 have g_b5 : n0 ≤ b5 := Nat.le_trans Z0 (Nat.le_of_eq g5.symm)
 have sz_b5 : h0.size ≤ b5 := Nat.le_trans (Keep.refl h0 ([] : List Addr)).1 (Nat.le_of_eq g5.symm)
 have K5 : Keep h0 h5 ([] : List Addr) := (Keep.refl h0 ([] : List Addr)).ext E5
 have z5 : n0 ≤ h5.size := Nat.le_trans Z0 K5.1
 have V_b5 : Arv Z h5 b5 k5 .byte (own_len lw) ((List.replicate ((own_len lw)).toNatClampNeg (0 : Int32)).map Value.int) (.int 0) := (Arv.new A5 (own_nn (Nat.le_trans hcap (by decide)))).pad (own_rep _)
 have pre6 : oP p e bw G T5 m 17 #[vR ra, vI (own_len lw), vU] [(.ref b5)] := fun t k => pre4 t (st5 t k)
 have vc7 : Arv Z h5 b5 k5 .byte (own_len lw) ((own_zs lw).map Value.int) (.int 0) := own_cv (rfl) V_b5
 have pre8 : oP p e bw G T5 m 23 #[vR ra, vI (own_len lw), vR b5] [(.ref ra), (.int 0), (.ref b5), (.int 0), (.ref ra)] := by
  intro t k
  refine pre6 t ?_
  refine XS.astoreN X5.here hx rfl (D 6 rfl) rfl rfl (l' := #[vR ra, vI (own_len lw), vR b5]) rfl ?_
  refine XS.aloadN X5.here hx rfl (D 7 rfl) rfl rfl ?_
  refine XS.iconst X5.here hx rfl (D 8 rfl) ?_
  refine XS.aloadN X5.here hx rfl (D 9 rfl) rfl rfl ?_
  refine XS.iconst X5.here hx rfl (D 10 rfl) ?_
  refine XS.aloadN X5.here hx rfl (D 11 rfl) rfl rfl ?_
  exact k
 have pre10 : oP p e bw G T5 m 25 #[vR ra, vI (own_len lw), vR b5] [(.int (own_len lw)), (.int xz), (.int 0), (.ref b5), (.int 0), (.ref ra)] := by
  intro t k
  refine pre8 t ?_
  obtain ⟨c9, a9, q9, s9, m9, i9, u9⟩ := id (VA.ext E5)
  refine X5.arraylength hx (by rw [e5]; exact a9.1) (State.isArrayOf_alike hZ.alike a9.2.1) (g := (own_g pre8)) rfl rfl (D 12 rfl) _ ?_
  rw [len_of s9 m9]
  refine XS.iloadN X5.here hx rfl (D 13 rfl) rfl ?_
  exact k
 obtain ⟨_, T11, Lc11, X11, hQ11, pc11⟩ := own_call X5 hx hZ hown (W 186 rfl) (W 187 rfl) (W 188 rfl) (W 189 rfl) (by decide) (rm_min l Z a0 hw [] xz (own_len lw) h5 n0 z5 ) e5 pre10 hml rfl (D 14 rfl) (lenOf pd10 rfl) rfl (W := 4) rfl (by decide)
 obtain ⟨rfl, M11, e11⟩ := hQ11
 have N11 := Fr.app N0 M11
 have pre12 : oP p e bw G T11 m 28 #[vR ra, vI (own_len lw), vR b5] [(.int (F_rm_min xz (own_len lw))), (.int 0), (.ref b5), (.int 0), (.ref ra)] := pc11
 rw [show (F_rm_min xz (own_len lw)) = (own_len lw) from (own_co1 hform hbd rfl hz).1] at pre12
 have f13 := (VA.ext E5)
 obtain ⟨T14, h14, L14, X14, e14, N14, kp14, V14, st14⟩ := cpA X11 hx hZ hown (W 190 rfl) (W 99 rfl) (W 97 rfl) (W 98 rfl) e11 f13 vc7 (us := (lw.map Value.int)) (Or.inl ⟨rfl, rfl⟩) (by decide) (by decide) (own_nn (Nat.le_trans hcap (by decide))) (by rw [show (0 : Int32).toNatClampNeg = 0 from rfl, Nat.zero_add]; exact (own_co1 hform hbd rfl hz).2) (by rw [show (0 : Int32).toNatClampNeg = 0 from rfl, Nat.zero_add]; exact Nat.le_refl _) (own_us2 hform (Nat.le_trans hcap (by decide))) (by rw [show (0 : Int32).toNatClampNeg = 0 from rfl, Nat.zero_add, List.length_map, own_zL (Nat.le_trans hcap (by decide)), own_lenN (Nat.le_trans hcap (by decide))]; exact Nat.le_refl _) N11 g_b5 (g := (own_g pre12)) rfl (by rw [hml]; rfl) rfl (D 15 rfl) (by decide) (W := 0) (by show 2 * 0 + _ ≤ _; exact Nat.le_of_eq rfl) (by decide)
 have K14 : Keep h0 h14 ([] : List Addr) := K5.trans kp14 (allS (P := fun x => x ∈ ([] : List Addr) ∨ h0.size ≤ x) (Or.inr sz_b5) all0)
 have zz14 : n0 ≤ h14.size := Nat.le_trans Z0 K14.1
 have VV14 : Arv Z h14 b5 k5 .byte (own_len lw) (lw.map Value.int) (.int 0) := (by rw [← own_cp2 (w := lw) (Nat.le_trans hcap (by decide))]; exact V14)
 have pre15 : oP p e bw G T14 m 32 #[vR ra, vI (own_len lw), vR b5] [(.ref b5)] := by
  intro t k
  refine pre12 t (st14 t ?_)
  refine XS.aloadN X14.here hx rfl (D 16 rfl) rfl rfl ?_
  exact k
 obtain ⟨fs, hr, hrun, hended, hW, hsame⟩ := X14.leave (hlocks := Bd.notSynchronized) (v := some (.ref b5)) (fun h => by rw [Bd.returns] at h; cases h)
 subst hG
 refine ⟨_, _, pre15 _ ?_, hrun, hended, _, _, rfl, ?_, ⟨_, rfl⟩, hW, hsame.mono (by decide) (by decide)⟩
 ·exact retOut X14 hx Bd.returns rfl (Or.inr (Or.inr (Or.inr (Or.inr ⟨rfl, rfl, rfl⟩)))) (D 17 rfl) hr
 ·show Q_rm_co Z ra xd ka xz l1 lw lR h0 n0 _ T14.heap _
  rw [e14]
  exact ⟨k5, b5, rfl, N14, g_b5, sz_b5, K14, VV14, (x5.keep kp14)⟩
theorem rm_e8_t {p : Program} {l : Launch} {e : Env} {R : Room} {s : State} {m : MethodId} {args : Array Value} {bw : List Frame} {meth : Method} {c : Code} {locs : List Loc} {cells slots : Nat} {Z : State} {G : State → Prop} {s₁ : State} (hx : p.tables.exec = Jvm.exec) (hby : c.code = jdk_42_method_46_code) (hZ : Z.Warmed39 s.vm) (ra : Addr) (rd : Addr) (ka : ClassId) (kd : ClassId) (xz : Int32) (l1 : List Int32) (q : List Int32) (lA : List Int32) (lR : List Int32) (r : List Int32) (xx : Int32) (sl : Slot) (h0 : Heap) (n0 : Nat) (Z0 : n0 ≤ h0.size) (VA : Arv Z h0 ra ka .byte (own_len l1) (l1.map Value.int) (.int 0)) (VD : Arv Z h0 rd kd .byte xz ((lA ++ lR).map Value.int) (.int 0)) (g_rd : n0 ≤ rd) (hne : ra ≠ rd) (hq : l1 = q ++ xx :: r) (hl : l1.length ≤ 1000) (hE : own_ET lA lR (xx :: r) xz) (hbx : nar .byte xx = xx) (hsl : sl = .unset ∨ ∃ y, sl = vI y) (X0 : Stand p l e R s m args bw meth c s₁ locs cells slots) (e0 : s₁.heap = h0) (N0 : Fr n0 locs) (pre0 : oP p e bw G s₁ m 49 #[vI 0, vR ra, vI 1, vI (own_len lA), vR rd, vR ra, vI (own_len l1), vI (own_len q), sl] []) :
  ∃ T' h' L', Stand p l e R s m args bw meth c T' L' cells slots ∧ T'.heap = h' ∧ Fr n0 L' ∧ Keep h0 h' [rd] ∧ Arv Z h' rd kd .byte xz (((lA ++ own_enc [xx]) ++ lR.drop (own_enc [xx]).length).map Value.int) (.int 0) ∧ oP p e bw G T' m 49 #[vI 0, vR ra, vI 1, vI (own_len (lA ++ own_enc [xx])), vR rd, vR ra, vI (own_len l1), vI (own_len (q ++ [xx])), vI xx] [] := by
 have D := own_D hby dB28
 have pre1 : oP p e bw G s₁ m 60 #[vI 0, vR ra, vI 1, vI (own_len lA), vR rd, vR ra, vI (own_len l1), vI (own_len q), sl] [(.int (own_len q)), (.ref ra)] := by
  intro t k
  refine pre0 t ?_
  refine XS.iload X0.here hx rfl (D 0 rfl) rfl ?_
  refine XS.iload X0.here hx rfl (D 1 rfl) rfl ?_
  refine XS.icmpNo X0.here hx rfl (D 2 rfl) rfl (tlt (show (own_len q) < (own_len l1) from (own_lt_snoc hq hl).1.2)).2.1 ?_
  refine XS.aload X0.here hx rfl (D 3 rfl) rfl rfl ?_
  refine XS.iload X0.here hx rfl (D 4 rfl) rfl ?_
  exact k
 have pre3 : oP p e bw G s₁ m 65 #[vI 0, vR ra, vI 1, vI (own_len lA), vR rd, vR ra, vI (own_len l1), vI (own_len q), vI xx] [(.int xx)] := by
  intro t k
  refine pre1 t ?_
  obtain ⟨c2, a2, q2, s2, m2, i2, u2⟩ := id VA
  have hin2 := inb_of (j := (own_len q)) s2 (own_lt_snoc hq hl).1
  refine X0.baloadBytes hx (j := (own_len q)) (v := (.int xx)) (by rw [e0]; exact a2.1) (State.isArrayOf_alike hZ.alike a2.2.1) a2.2.2 hin2 (i2.at hin2 (own_lt_snoc hq hl).2) (g := (own_g pre1)) rfl rfl (D 5 rfl) _ ?_
  refine XS.istore X0.here hx rfl (D 6 rfl) rfl (l' := #[vI 0, vR ra, vI 1, vI (own_len lA), vR rd, vR ra, vI (own_len l1), vI (own_len q), vI xx]) (by rcases hsl with rfl | ⟨y, rfl⟩ <;> rfl) ?_
  refine XS.iload X0.here hx rfl (D 7 rfl) rfl ?_
  exact k
 by_cases hc65 : xx < (0 : Int32)
 ·have pre4 : oP p e bw G s₁ m 88 #[vI 0, vR ra, vI 1, vI ((own_len lA) + (1 : Int32)), vR rd, vR ra, vI (own_len l1), vI (own_len q), vI xx] [(.int (((192 : Int32) ||| ((xx &&& (255 : Int32)) >>> ((6 : Int32) &&& 31))).toInt8.toInt32)), (.int (own_len lA)), (.ref rd)] := by
   intro t k
   refine pre3 t ?_
   refine XS.ifNo X0.here hx rfl (D 8 rfl) rfl ((if0 _ _).trans (tlt hc65).2.1) ?_
   refine XS.aload X0.here hx rfl (D 9 rfl) rfl rfl ?_
   refine XS.iloadN X0.here hx rfl (D 10 rfl) rfl ?_
   refine XS.iinc X0.here hx rfl (D 11 rfl) rfl (l' := #[vI 0, vR ra, vI 1, vI ((own_len lA) + (1 : Int32)), vR rd, vR ra, vI (own_len l1), vI (own_len q), vI xx]) rfl ?_
   refine XS.sipush X0.here hx rfl (D 12 rfl) ?_
   refine XS.iload X0.here hx rfl (D 13 rfl) rfl ?_
   refine XS.sipush X0.here hx rfl (D 14 rfl) ?_
   refine XS.iand X0.here hx rfl (D 15 rfl) rfl ?_
   refine XS.bipush X0.here hx rfl (D 16 rfl) ?_
   refine XS.ishr X0.here hx rfl (D 17 rfl) rfl ?_
   refine XS.ior X0.here hx rfl (D 18 rfl) rfl ?_
   refine XS.i2b X0.here hx rfl (D 19 rfl) rfl ?_
   exact k
  obtain ⟨c5, a5, q5, s5, m5, i5, u5⟩ := id VD
  obtain ⟨T6, h6, X6, e6, W6, st6⟩ := stB X0 hx hZ e0 a5 (j := (own_len lA)) (inb_of s5 (own_et1 hE).1) (g := (own_g pre4)) rfl rfl (D 20 rfl)
  have K6 : Keep h0 h6 [rd] := (Keep.refl h0 [rd]).wr W6 (Or.inl (by simp))
  have z6 : n0 ≤ h6.size := Nat.le_trans Z0 K6.1
  have N6 := Fr.snoc X6 N0 g_rd
  have V6 : Arv Z h6 rd kd .byte xz (((lA ++ lR).set ((own_len lA)).toNatClampNeg (nar .byte (((192 : Int32) ||| ((xx &&& (255 : Int32)) >>> ((6 : Int32) &&& 31))).toInt8.toInt32))).map Value.int) (.int 0) := own_setA (Arv.set a5 q5 s5 m5 i5 u5 (fits_nar_byte _) W6 _ rfl (own_in (own_et1 hE).2.2 (own_et1 hE).1))
  have pre7 : oP p e bw G T6 m 105 #[vI 0, vR ra, vI 1, vI (((own_len lA) + (1 : Int32)) + (1 : Int32)), vR rd, vR ra, vI (own_len l1), vI (own_len q), vI xx] [(.int (((128 : Int32) ||| (xx &&& (63 : Int32))).toInt8.toInt32)), (.int ((own_len lA) + (1 : Int32))), (.ref rd)] := by
   intro t k
   refine pre4 t (st6 t ?_)
   refine XS.aload X6.here hx rfl (D 21 rfl) rfl rfl ?_
   refine XS.iloadN X6.here hx rfl (D 22 rfl) rfl ?_
   refine XS.iinc X6.here hx rfl (D 23 rfl) rfl (l' := #[vI 0, vR ra, vI 1, vI (((own_len lA) + (1 : Int32)) + (1 : Int32)), vR rd, vR ra, vI (own_len l1), vI (own_len q), vI xx]) rfl ?_
   refine XS.sipush X6.here hx rfl (D 24 rfl) ?_
   refine XS.iload X6.here hx rfl (D 25 rfl) rfl ?_
   refine XS.bipush X6.here hx rfl (D 26 rfl) ?_
   refine XS.iand X6.here hx rfl (D 27 rfl) rfl ?_
   refine XS.ior X6.here hx rfl (D 28 rfl) rfl ?_
   refine XS.i2b X6.here hx rfl (D 29 rfl) rfl ?_
   exact k
  obtain ⟨c8, a8, q8, s8, m8, i8, u8⟩ := id V6
  obtain ⟨T9, h9, X9, e9, W9, st9⟩ := stB X6 hx hZ e6 a8 (j := ((own_len lA) + (1 : Int32))) (inb_of s8 (own_et1 hE).2.1) (g := (own_g pre7)) rfl rfl (D 30 rfl)
  have K9 : Keep h0 h9 [rd] := K6.wr W9 (Or.inl (by simp))
  have z9 : n0 ≤ h9.size := Nat.le_trans Z0 K9.1
  have N9 := Fr.snoc X9 N6 g_rd
  have V9 : Arv Z h9 rd kd .byte xz ((((lA ++ lR).set ((own_len lA)).toNatClampNeg (nar .byte (((192 : Int32) ||| ((xx &&& (255 : Int32)) >>> ((6 : Int32) &&& 31))).toInt8.toInt32))).set (((own_len lA) + (1 : Int32))).toNatClampNeg (nar .byte (((128 : Int32) ||| (xx &&& (63 : Int32))).toInt8.toInt32))).map Value.int) (.int 0) := own_setA (Arv.set a8 q8 s8 m8 i8 u8 (fits_nar_byte _) W9 _ rfl (own_in (by rw [List.length_set]; exact (own_et1 hE).2.2) (own_et1 hE).2.1))
  have pre10 : oP p e bw G T9 m 118 #[vI 0, vR ra, vI 1, vI (((own_len lA) + (1 : Int32)) + (1 : Int32)), vR rd, vR ra, vI (own_len l1), vI (own_len q), vI xx] [] := by
   intro t k
   refine pre7 t (st9 t ?_)
   refine XS.goto X9.here hx rfl (pc0 := 106) (pc' := 118) rfl (D 31 rfl) (by decide) (by decide) ?_
   exact k
  rw [show (((own_len lA) + (1 : Int32)) + (1 : Int32)) = (own_len (lA ++ own_enc [xx])) from by rw [own_e1N hc65, own_lenA, Int32.add_assoc]; rfl] at pre10
  have vc11 : Arv Z h9 rd kd .byte xz (((lA ++ own_enc [xx]) ++ lR.drop (own_enc [xx]).length).map Value.int) (.int 0) := own_cv ((own_et3 hE (own_e1N hc65)).symm) V9
  have pre12 : oP p e bw G T9 m 121 #[vI 0, vR ra, vI 1, vI (own_len (lA ++ own_enc [xx])), vR rd, vR ra, vI (own_len l1), vI ((own_len q) + (1 : Int32)), vI xx] [] := by
   intro t k
   refine pre10 t ?_
   refine XS.iinc X9.here hx rfl (D 32 rfl) rfl (l' := #[vI 0, vR ra, vI 1, vI (own_len (lA ++ own_enc [xx])), vR rd, vR ra, vI (own_len l1), vI ((own_len q) + (1 : Int32)), vI xx]) rfl ?_
   exact k
  rw [show ((own_len q) + (1 : Int32)) = (own_len (q ++ [xx])) from own_snoc _ _] at pre12
  have pre13 : oP p e bw G T9 m 49 #[vI 0, vR ra, vI 1, vI (own_len (lA ++ own_enc [xx])), vR rd, vR ra, vI (own_len l1), vI (own_len (q ++ [xx])), vI xx] [] := by
   intro t k
   refine pre12 t ?_
   refine XS.goto X9.here hx rfl (pc0 := 121) (pc' := 49) rfl (D 33 rfl) (by decide) (by decide) ?_
   exact k
  exact ⟨_, _, _, X9, e9, N9, K9, vc11, pre13⟩
 ·have pre14 : oP p e bw G s₁ m 117 #[vI 0, vR ra, vI 1, vI ((own_len lA) + (1 : Int32)), vR rd, vR ra, vI (own_len l1), vI (own_len q), vI xx] [(.int xx), (.int (own_len lA)), (.ref rd)] := by
   intro t k
   refine pre3 t ?_
   refine XS.ifYes X0.here hx rfl (pc0 := 65) (pc' := 109) rfl (D 8 rfl) rfl ((if0 _ _).trans (flt hc65).2.1) (by decide) (by decide) ?_
   refine XS.aload X0.here hx rfl (D 34 rfl) rfl rfl ?_
   refine XS.iloadN X0.here hx rfl (D 35 rfl) rfl ?_
   refine XS.iinc X0.here hx rfl (D 36 rfl) rfl (l' := #[vI 0, vR ra, vI 1, vI ((own_len lA) + (1 : Int32)), vR rd, vR ra, vI (own_len l1), vI (own_len q), vI xx]) rfl ?_
   refine XS.iload X0.here hx rfl (D 37 rfl) rfl ?_
   exact k
  obtain ⟨c15, a15, q15, s15, m15, i15, u15⟩ := id VD
  obtain ⟨T16, h16, X16, e16, W16, st16⟩ := stB X0 hx hZ e0 a15 (j := (own_len lA)) (inb_of s15 (own_et1 hE).1) (g := (own_g pre14)) rfl rfl (D 38 rfl)
  have K16 : Keep h0 h16 [rd] := (Keep.refl h0 [rd]).wr W16 (Or.inl (by simp))
  have z16 : n0 ≤ h16.size := Nat.le_trans Z0 K16.1
  have N16 := Fr.snoc X16 N0 g_rd
  have V16 : Arv Z h16 rd kd .byte xz (((lA ++ lR).set ((own_len lA)).toNatClampNeg (nar .byte xx)).map Value.int) (.int 0) := own_setA (Arv.set a15 q15 s15 m15 i15 u15 (fits_nar_byte _) W16 _ rfl (own_in (own_et1 hE).2.2 (own_et1 hE).1))
  have pre17 : oP p e bw G T16 m 118 #[vI 0, vR ra, vI 1, vI ((own_len lA) + (1 : Int32)), vR rd, vR ra, vI (own_len l1), vI (own_len q), vI xx] [] := fun t k => pre14 t (st16 t k)
  rw [show ((own_len lA) + (1 : Int32)) = (own_len (lA ++ own_enc [xx])) from by rw [own_e1P hc65 hbx, own_lenA]; rfl] at pre17
  have vc18 : Arv Z h16 rd kd .byte xz (((lA ++ own_enc [xx]) ++ lR.drop (own_enc [xx]).length).map Value.int) (.int 0) := own_cv ((own_et4 hE (own_e1P hc65 hbx)).symm) V16
  have pre19 : oP p e bw G T16 m 121 #[vI 0, vR ra, vI 1, vI (own_len (lA ++ own_enc [xx])), vR rd, vR ra, vI (own_len l1), vI ((own_len q) + (1 : Int32)), vI xx] [] := by
   intro t k
   refine pre17 t ?_
   refine XS.iinc X16.here hx rfl (D 32 rfl) rfl (l' := #[vI 0, vR ra, vI 1, vI (own_len (lA ++ own_enc [xx])), vR rd, vR ra, vI (own_len l1), vI ((own_len q) + (1 : Int32)), vI xx]) rfl ?_
   exact k
  rw [show ((own_len q) + (1 : Int32)) = (own_len (q ++ [xx])) from own_snoc _ _] at pre19
  have pre20 : oP p e bw G T16 m 49 #[vI 0, vR ra, vI 1, vI (own_len (lA ++ own_enc [xx])), vR rd, vR ra, vI (own_len l1), vI (own_len (q ++ [xx])), vI xx] [] := by
   intro t k
   refine pre19 t ?_
   refine XS.goto X16.here hx rfl (pc0 := 121) (pc' := 49) rfl (D 33 rfl) (by decide) (by decide) ?_
   exact k
  exact ⟨_, _, _, X16, e16, N16, K16, vc18, pre20⟩
theorem rm_e8_x {p : Program} {l : Launch} {e : Env} {R : Room} {s : State} {m : MethodId} {args : Array Value} {bw : List Frame} {meth : Method} {c : Code} {locs : List Loc} {cells slots : Nat} {Z : State} {G : State → Prop} {s₁ : State} (hx : p.tables.exec = Jvm.exec) (hby : c.code = jdk_42_method_46_code) (hZ : Z.Warmed39 s.vm) (ra : Addr) (rd : Addr) (ka : ClassId) (kd : ClassId) (xz : Int32) (l1 : List Int32) (q : List Int32) (lA : List Int32) (sl : Slot) (h0 : Heap) (n0 : Nat) (Z0 : n0 ≤ h0.size) (hqn : ¬ (own_len q < own_len l1)) (X0 : Stand p l e R s m args bw meth c s₁ locs cells slots) (e0 : s₁.heap = h0) (N0 : Fr n0 locs) (pre0 : oP p e bw G s₁ m 49 #[vI 0, vR ra, vI 1, vI (own_len lA), vR rd, vR ra, vI (own_len l1), vI (own_len q), sl] []) :
  oP p e bw G s₁ m 124 #[vI 0, vR ra, vI 1, vI (own_len lA), vR rd, vR ra, vI (own_len l1), vI (own_len q), sl] [] := by
 have D := own_D hby dB28
 have pre1 : oP p e bw G s₁ m 124 #[vI 0, vR ra, vI 1, vI (own_len lA), vR rd, vR ra, vI (own_len l1), vI (own_len q), sl] [] := by
  intro t k
  refine pre0 t ?_
  refine XS.iload X0.here hx rfl (D 0 rfl) rfl ?_
  refine XS.iload X0.here hx rfl (D 1 rfl) rfl ?_
  refine XS.icmpYes X0.here hx rfl (pc0 := 53) (pc' := 124) rfl (D 2 rfl) rfl (flt (show ¬ ((own_len q) < (own_len l1)) from hqn)).2.1 (by decide) (by decide) ?_
  exact k
 exact pre1
theorem rm_e8_loop {p : Program} {l : Launch} {e : Env} {R : Room} {s : State} {m : MethodId} {args : Array Value} {bw : List Frame} {meth : Method} {c : Code} {cells slots : Nat} {Z : State} {G : State → Prop} (hx : p.tables.exec = Jvm.exec) (hby : c.code = jdk_42_method_46_code) (hZ : Z.Warmed39 s.vm) (ra rd : Addr) (ka kd : ClassId) (xz : Int32) (l1 : List Int32) (hl : l1.length ≤ 1000) (hbs : ∀ x ∈ l1, nar .byte x = x) (h0 : Heap) (n0 : Nat) (Z0 : n0 ≤ h0.size) (VA : Arv Z h0 ra ka .byte (own_len l1) (l1.map Value.int) (.int 0)) (g_rd : n0 ≤ rd) (hne : ra ≠ rd) :
  ∀ (r q lA lR : List Int32) (sl : Slot) (s₁ : State) (locs : List Loc) (h : Heap), l1 = q ++ r → own_ET lA lR r xz → Keep h0 h [rd] → Arv Z h rd kd .byte xz ((lA ++ lR).map Value.int) (.int 0) → Stand p l e R s m args bw meth c s₁ locs cells slots → s₁.heap = h → Fr n0 locs → (sl = .unset ∨ ∃ y, sl = vI y) → oP p e bw G s₁ m 49 #[vI 0, vR ra, vI 1, vI (own_len lA), vR rd, vR ra, vI (own_len l1), vI (own_len q), sl] [] →
   ∃ T' h' L' lR' sl', Stand p l e R s m args bw meth c T' L' cells slots ∧ T'.heap = h' ∧ Fr n0 L' ∧ Keep h0 h' [rd] ∧ Arv Z h' rd kd .byte xz (((lA ++ own_enc r) ++ lR').map Value.int) (.int 0) ∧ own_ET (lA ++ own_enc r) lR' [] xz ∧ oP p e bw G T' m 124 #[vI 0, vR ra, vI 1, vI (own_len (lA ++ own_enc r)), vR rd, vR ra, vI (own_len l1), vI (own_len l1), sl'] []
 | [], q, lA, lR, sl, s₁, locs, h, hq, hE, K, Vd, X, eh, N, hsl, pre => by
  rw [List.append_nil] at hq
  subst hq
  have pre' := rm_e8_x hx hby hZ ra rd ka kd xz l1 l1 lA sl h n0 (Nat.le_trans Z0 K.1) Int32.lt_irrefl X eh N pre
  refine ⟨s₁, h, locs, lR, sl, X, eh, N, K, ?_⟩
  rw [own_enc, List.append_nil]
  exact ⟨Vd, hE, pre'⟩
 | xx :: r, q, lA, lR, sl, s₁, locs, h, hq, hE, K, Vd, X, eh, N, hsl, pre => by
  obtain ⟨T', h', L', X', e', N', K', V', pre'⟩ := rm_e8_t hx hby hZ ra rd ka kd xz l1 q lA lR r xx sl h n0 (Nat.le_trans Z0 K.1) (VA.keep K (ninS hne nin0)) Vd g_rd hne hq hl hE (hbs xx (by rw [hq]; simp)) hsl X eh N pre
  have e2 : lA ++ own_enc (xx :: r) = (lA ++ own_enc [xx]) ++ own_enc r := by rw [List.append_assoc, ← own_encA]; rfl
  rw [e2]
  exact rm_e8_loop hx hby hZ ra rd ka kd xz l1 hl hbs h0 n0 Z0 VA g_rd hne r (q ++ [xx]) (lA ++ own_enc [xx]) (lR.drop (own_enc [xx]).length) (vI xx) T' L' h' (by rw [hq, List.append_assoc]; rfl) (own_et2 hE) (K.trans K' (allS (P := fun x => x ∈ [rd] ∨ h0.size ≤ x) (Or.inl (by simp)) all0)) V' X' e' N' (Or.inr ⟨xx, rfl⟩) pre'
theorem own_e8c {Z : State} {h : Heap} {a : Addr} {k : ClassId} {d : Value} {lw R2 : List Int32} (hl : lw.length ≤ 5) (hc : own_len (own_enc lw) = own_len (lw ++ lw)) (ET : own_ET (own_enc lw) R2 [] (own_len (lw ++ lw))) (Vd : Arv Z h a k .byte (own_len (lw ++ lw)) ((own_enc lw ++ R2).map Value.int) d) : Arv Z h a k .byte (own_len (own_enc lw)) ((own_enc lw).map Value.int) d := by
 obtain ⟨t1, t2, -⟩ := ET
 have t3 := own_linj (by have := own_encL lw; omega) t2 (hc.trans t1)
 rw [List.length_append] at t3
 have t4 : R2 = [] := List.length_eq_zero_iff.mp (by omega)
 rw [hc]
 rw [t4, List.append_nil] at Vd
 exact Vd
theorem own_et0 {lw : List Int32} (hl : lw.length ≤ 5) : own_ET [] (own_zs (lw ++ lw)) lw (own_len (lw ++ lw)) := by
 have e := own_zL (L := lw ++ lw) (by rw [List.length_append]; omega)
 rw [List.length_append] at e
 exact ⟨own_lz (by rw [List.nil_append, e, List.length_append]), by rw [List.nil_append, e]; omega, by rw [e]; omega⟩
theorem pd11 : parseMethodDescriptor "([BII)Z" = some ⟨[(.array .byte), .int, .int], some .boolean⟩ := by decide +kernel
theorem pd12 : parseMethodDescriptor "(I)[B" = some ⟨[.int], some (.array .byte)⟩ := by decide +kernel
theorem pd13 : parseMethodDescriptor "([BI)[B" = some ⟨[(.array .byte), .int], some (.array .byte)⟩ := by decide +kernel
theorem ef_rm_e8 (m : MethodId) (ra : Addr) : entryFrame m #[(.int 0), (.ref ra), (.int 1)] 9 = mkF m 0 #[vI 0, vR ra, vI 1, vU, vU, vU, vU, vU, vU] [] := by simp [entryFrame, mkF, argsToLocals, Value.category]
def Q_rm_e8 (Z : State) (ra : Addr) (ka : ClassId) (l1 : List Int32) (h0 : Heap) (n0 : Nat) (v : Option Value) (h : Heap) (L : List Loc) : Prop := ∃ kb : ClassId, ∃ bo : Addr, v = some (.ref bo) ∧ Fr n0 L ∧ n0 ≤ bo ∧ h0.size ≤ bo ∧ Keep h0 h ([] : List Addr) ∧ Arv Z h bo kb .byte (own_len (own_enc l1)) ((own_enc l1).map Value.int) (.int 0) ∧ Exa Z h bo "[B"
set_option maxRecDepth 65536 in
set_option maxHeartbeats 40000000 in
theorem rm_e8 (l : Launch) (Z : State) (a0 : Array Value) (hw : ∀ d ∈ tables_1, d.before a0 Z = true) (ws : List Jvm.Cond) (ra : Addr) (ka : ClassId) (l1 : List Int32) (h0 : Heap) (n0 : Nat) (Z0 : n0 ≤ h0.size) (VA : Arv Z h0 ra ka .byte (own_len l1) (l1.map Value.int) (.int 0)) (EB : Exa Z h0 ra "[B") (hl : l1.length ≤ 5) (hbs : ∀ x ∈ l1, nar .byte x = x) :
  oMet l (⟨"java/lang/String", "encodeUTF8", "(B[BZ)[B"⟩ : MethodName) jdk_42_method_46_code 9 (some (.array .byte)) ws (oR 2 2 20 32) #[(.int 0), (.ref ra), (.int 1)] Z h0 (Q_rm_e8 Z ra ka l1 h0 n0) := by
 refine MetFree.of_bodySF (plainFor_of_name pn1) hisR ?_
 have W := own_W hw
 intro p e s m args bw meth c s₁ Bd hml0 hP hK
 obtain ⟨rfl, hZ, hh⟩ := hP
 have hx := Bd.exec
 have hby := Bd.bytes
 have hml : c.maxLocals = 9 := hml0
 have hown : s.vm.findClass "java/lang/String" = some m.cls := findClass_of_methodNamed Bd.named
 have hnm := (name_of_methodNamed Bd.named Bd.method).1
 have X0 : Stand p l e (oR 2 2 20 32) s m #[(.int 0), (.ref ra), (.int 1)] bw meth c s₁ [] 0 0 := Stand.of_body Bd
 have e0 : s₁.heap = h0 := by rw [← hh, Bd.state]; rfl
 have N0 := Fr.nil n0
 have D := own_D hby dB28
 obtain ⟨G, hG⟩ := own_ex fun t => Steps p.tables e bw (s₁.setTop (entryFrame m #[(.int 0), (.ref ra), (.int 1)] 9)) t
 have pre0 : oP p e bw G s₁ m 0 #[vI 0, vR ra, vI 1, vU, vU, vU, vU, vU, vU] [] := by intro t k; subst hG; exact castTop (ef_rm_e8 m ra) k
 have pre1 : oP p e bw G s₁ m 14 #[vI 0, vR ra, vI 1, vU, vU, vU, vU, vU, vU] [(.ref ra), (.int 0), (.ref ra)] := by
  intro t k
  refine pre0 t ?_
  refine XS.iloadN X0.here hx rfl (D 39 rfl) rfl ?_
  refine XS.iconst X0.here hx rfl (D 40 rfl) ?_
  refine XS.icmpYes X0.here hx rfl (pc0 := 2) (pc' := 11) rfl (D 41 rfl) rfl (feq (show ¬ ((0 : Int32) = (1 : Int32)) from by decide)).2 (by decide) (by decide) ?_
  refine XS.aloadN X0.here hx rfl (D 42 rfl) rfl rfl ?_
  refine XS.iconst X0.here hx rfl (D 43 rfl) ?_
  refine XS.aloadN X0.here hx rfl (D 44 rfl) rfl rfl ?_
  exact k
 have pre3 : oP p e bw G s₁ m 15 #[vI 0, vR ra, vI 1, vU, vU, vU, vU, vU, vU] [(.int (own_len l1)), (.int 0), (.ref ra)] := by
  intro t k
  refine pre1 t ?_
  obtain ⟨c2, a2, q2, s2, m2, i2, u2⟩ := id VA
  refine X0.arraylength hx (by rw [e0]; exact a2.1) (State.isArrayOf_alike hZ.alike a2.2.1) (g := (own_g pre1)) rfl rfl (D 45 rfl) _ ?_
  rw [len_of s2 m2]
  exact k
 obtain ⟨_, T4, Lc4, X4, hQ4, pc4⟩ := own_call X0 hx hZ hown (W 145 rfl) (W 146 rfl) (W 147 rfl) (W 148 rfl) (by decide) (rm_hn l Z a0 hw [] ra ka l1 h0 n0 Z0 VA ((Nat.le_trans hl (by decide)))) e0 pre3 hml rfl (D 46 rfl) (lenOf pd11 rfl) rfl (W := 0) rfl (by decide)
 obtain ⟨rfl, M4, e4⟩ := hQ4
 have N4 := Fr.app N0 M4
 have pre5 : oP p e bw G T4 m 18 #[vI 0, vR ra, vI 1, vU, vU, vU, vU, vU, vU] [(.int (F_rm_hn l1))] := pc4
 by_cases hc18 : (F_rm_hn l1) = (0 : Int32)
 ·have pre6 : oP p e bw G T4 m 22 #[vI 0, vR ra, vI 1, vU, vU, vU, vU, vU, vU] [(.ref ra)] := by
   intro t k
   refine pre5 t ?_
   refine XS.ifNo X4.here hx rfl (D 47 rfl) rfl ((if0 _ _).trans (teq hc18).2) ?_
   refine XS.aloadN X4.here hx rfl (D 48 rfl) rfl rfl ?_
   exact k
  obtain ⟨T7, h7, X7, e7, E7, V7, x7, st7⟩ := cloneH X4 hx hZ hown (W 152 rfl) (W 153 rfl) (W 157 rfl) (W 155 rfl) (W 156 rfl) (W 158 rfl) e4 (Arv.arh VA) EB (g := (own_g pre6)) rfl (by rw [hml]; rfl) rfl (D 49 rfl) (by decide) (W := 0) (by show 2 * 0 + _ ≤ _; exact Nat.le_of_eq rfl) (by decide) (cap := 5) (own_cap hl (by decide)) (by decide) (by decide)
  obtain ⟨b7, g7⟩ := own_ex h0.size
  rw [← g7] at V7 st7 x7
  have g_b7 : n0 ≤ b7 := Nat.le_trans Z0 (Nat.le_of_eq g7.symm)
  have sz_b7 : h0.size ≤ b7 := Nat.le_trans (Keep.refl h0 ([] : List Addr)).1 (Nat.le_of_eq g7.symm)
  have K7 : Keep h0 h7 ([] : List Addr) := (Keep.refl h0 ([] : List Addr)).ext E7
  have z7 : n0 ≤ h7.size := Nat.le_trans Z0 K7.1
  have V_b7 : Arv Z h7 b7 ka .byte (own_len l1) (l1.map Value.int) (.int 0) := V7
  have pre8 : oP p e bw G T7 m 25 #[vI 0, vR ra, vI 1, vU, vU, vU, vU, vU, vU] [(.ref b7)] := fun t k => pre6 t (st7 t k)
  obtain ⟨T9, X9, e9, st9⟩ := castY X7 hx hZ hown (W 159 rfl) e7 (Ins.self x7) (g := (own_g pre8)) rfl rfl (D 50 rfl)
  have pre10 : oP p e bw G T9 m 28 #[vI 0, vR ra, vI 1, vU, vU, vU, vU, vU, vU] [(.ref b7)] := fun t k => pre8 t (st9 t k)
  obtain ⟨fs, hr, hrun, hended, hW, hsame⟩ := X9.leave (hlocks := Bd.notSynchronized) (v := some (.ref b7)) (fun h => by rw [Bd.returns] at h; cases h)
  subst hG
  refine ⟨_, _, pre10 _ ?_, hrun, hended, _, _, rfl, ?_, ⟨_, rfl⟩, hW, hsame.mono (by decide) (by decide)⟩
  ·exact retOut X9 hx Bd.returns rfl (Or.inr (Or.inr (Or.inr (Or.inr ⟨rfl, rfl, rfl⟩)))) (D 51 rfl) hr
  ·show Q_rm_e8 Z ra ka l1 h0 n0 _ T9.heap _
   rw [e9]
   exact ⟨ka, b7, rfl, N4, g_b7, sz_b7, K7, (by rw [own_hn0 hl hc18]; exact V_b7), x7⟩
 ·have pre11 : oP p e bw G T4 m 32 #[vI 0, vR ra, vI 1, vI 0, vU, vU, vU, vU, vU] [(.ref ra)] := by
   intro t k
   refine pre5 t ?_
   refine XS.ifYes X4.here hx rfl (pc0 := 18) (pc' := 29) rfl (D 47 rfl) rfl ((if0 _ _).trans (feq hc18).2) (by decide) (by decide) ?_
   refine XS.iconst X4.here hx rfl (D 52 rfl) ?_
   refine XS.istoreN X4.here hx rfl (D 53 rfl) rfl (l' := #[vI 0, vR ra, vI 1, vI 0, vU, vU, vU, vU, vU]) rfl ?_
   refine XS.aloadN X4.here hx rfl (D 54 rfl) rfl rfl ?_
   exact k
  have pre13 : oP p e bw G T4 m 33 #[vI 0, vR ra, vI 1, vI 0, vU, vU, vU, vU, vU] [(.int (own_len l1))] := by
   intro t k
   refine pre11 t ?_
   obtain ⟨c12, a12, q12, s12, m12, i12, u12⟩ := id VA
   refine X4.arraylength hx (by rw [e4]; exact a12.1) (State.isArrayOf_alike hZ.alike a12.2.1) (g := (own_g pre11)) rfl rfl (D 55 rfl) _ ?_
   rw [len_of s12 m12]
   exact k
  obtain ⟨_, T14, Lc14, X14, hQ14, pc14⟩ := own_call X4 hx hZ hown (W 176 rfl) (W 177 rfl) (W 19 rfl) (W 178 rfl) (by decide) (rm_nbf l Z a0 hw [] l1 h0 n0 Z0 (hl)) e4 pre13 hml rfl (D 56 rfl) (lenOf pd12 rfl) rfl (W := 0) rfl (by decide)
  obtain ⟨kb_14, b14, rfl, M14, g_b14, zs14, kp14, f14_0, f14_1⟩ := hQ14
  have sz_b14 : h0.size ≤ b14 := Nat.le_trans (Keep.refl h0 ([] : List Addr)).1 zs14
  have K14 : Keep h0 T14.heap ([] : List Addr) := (Keep.refl h0 ([] : List Addr)).trans kp14 all0
  have zz14 : n0 ≤ T14.heap.size := Nat.le_trans Z0 K14.1
  have N14 := Fr.app N4 M14
  have pre15 : oP p e bw G T14 m 43 #[vI 0, vR ra, vI 1, vI 0, vR b14, vR ra, vU, vU, vU] [(.ref ra)] := by
   intro t k
   refine pc14 t ?_
   refine XS.astore X14.here hx rfl (D 57 rfl) rfl rfl (l' := #[vI 0, vR ra, vI 1, vI 0, vR b14, vU, vU, vU, vU]) rfl ?_
   refine XS.aloadN X14.here hx rfl (D 58 rfl) rfl rfl ?_
   refine XS.astore X14.here hx rfl (D 59 rfl) rfl rfl (l' := #[vI 0, vR ra, vI 1, vI 0, vR b14, vR ra, vU, vU, vU]) rfl ?_
   refine XS.aload X14.here hx rfl (D 60 rfl) rfl rfl ?_
   exact k
  have pre17 : oP p e bw G T14 m 49 #[vI 0, vR ra, vI 1, vI 0, vR b14, vR ra, vI (own_len l1), vI 0, vU] [] := by
   intro t k
   refine pre15 t ?_
   obtain ⟨c16, a16, q16, s16, m16, i16, u16⟩ := id (VA.keep kp14 nin0)
   refine X14.arraylength hx (by exact a16.1) (State.isArrayOf_alike hZ.alike a16.2.1) (g := (own_g pre15)) rfl rfl (D 61 rfl) _ ?_
   rw [len_of s16 m16]
   refine XS.istore X14.here hx rfl (D 62 rfl) rfl (l' := #[vI 0, vR ra, vI 1, vI 0, vR b14, vR ra, vI (own_len l1), vU, vU]) rfl ?_
   refine XS.iconst X14.here hx rfl (D 63 rfl) ?_
   refine XS.istore X14.here hx rfl (D 64 rfl) rfl (l' := #[vI 0, vR ra, vI 1, vI 0, vR b14, vR ra, vI (own_len l1), vI 0, vU]) rfl ?_
   exact k
  have f19 := (VA.keep kp14 nin0)
  have ne20 := (Nat.ne_of_lt (Nat.lt_of_lt_of_le VA.lt zs14))
  obtain ⟨T18, h18, L18, R18, sl18, X18, e18, N18, kp18, V18, et18, pb18⟩ := rm_e8_loop hx hby hZ ra b14 ka kb_14 (own_len (l1 ++ l1)) l1 (Nat.le_trans hl (by decide)) hbs T14.heap n0 zz14 f19 g_b14 ne20 l1 [] [] (own_zs (l1 ++ l1)) .unset T14 _ T14.heap rfl (own_et0 hl) (Keep.refl _ _) f14_0 X14 rfl N14 (Or.inl rfl) pre17
  have K18 : Keep h0 h18 ([] : List Addr) := K14.trans kp18 (allS (P := fun x => x ∈ ([] : List Addr) ∨ h0.size ≤ x) (Or.inr sz_b14) all0)
  have zz18 : n0 ≤ h18.size := Nat.le_trans Z0 K18.1
  have vc21 : Arv Z h18 b14 kb_14 .byte (own_len (l1 ++ l1)) ((own_enc l1 ++ R18).map Value.int) (.int 0) := own_cv (rfl) V18
  rw [show (own_len (([] : List Int32) ++ own_enc l1)) = (own_len (own_enc l1)) from rfl] at pb18
  have pre22 : oP p e bw G T18 m 127 #[vI 0, vR ra, vI 1, vI (own_len (own_enc l1)), vR b14, vR ra, vI (own_len l1), vI (own_len l1), sl18] [(.ref b14), (.int (own_len (own_enc l1)))] := by
   intro t k
   refine pb18 t ?_
   refine XS.iloadN X18.here hx rfl (D 65 rfl) rfl ?_
   refine XS.aload X18.here hx rfl (D 66 rfl) rfl rfl ?_
   exact k
  have pre24 : oP p e bw G T18 m 128 #[vI 0, vR ra, vI 1, vI (own_len (own_enc l1)), vR b14, vR ra, vI (own_len l1), vI (own_len l1), sl18] [(.int (own_len (l1 ++ l1))), (.int (own_len (own_enc l1)))] := by
   intro t k
   refine pre22 t ?_
   obtain ⟨c23, a23, q23, s23, m23, i23, u23⟩ := id vc21
   refine X18.arraylength hx (by rw [e18]; exact a23.1) (State.isArrayOf_alike hZ.alike a23.2.1) (g := (own_g pre22)) rfl rfl (D 67 rfl) _ ?_
   rw [len_of s23 m23]
   exact k
  by_cases hc128 : (own_len (own_enc l1)) = (own_len (l1 ++ l1))
  ·have pre25 : oP p e bw G T18 m 133 #[vI 0, vR ra, vI 1, vI (own_len (own_enc l1)), vR b14, vR ra, vI (own_len l1), vI (own_len l1), sl18] [(.ref b14)] := by
    intro t k
    refine pre24 t ?_
    refine XS.icmpNo X18.here hx rfl (D 68 rfl) rfl (teq hc128).2 ?_
    refine XS.aload X18.here hx rfl (D 69 rfl) rfl rfl ?_
    exact k
   obtain ⟨fs, hr, hrun, hended, hW, hsame⟩ := X18.leave (hlocks := Bd.notSynchronized) (v := some (.ref b14)) (fun h => by rw [Bd.returns] at h; cases h)
   subst hG
   refine ⟨_, _, pre25 _ ?_, hrun, hended, _, _, rfl, ?_, ⟨_, rfl⟩, hW, hsame.mono (by decide) (by decide)⟩
   ·exact retOut X18 hx Bd.returns rfl (Or.inr (Or.inr (Or.inr (Or.inr ⟨rfl, rfl, rfl⟩)))) (D 70 rfl) hr
   ·show Q_rm_e8 Z ra ka l1 h0 n0 _ T18.heap _
    rw [e18]
    exact ⟨kb_14, b14, rfl, N18, g_b14, sz_b14, K18, (own_e8c hl hc128 et18 vc21), (f14_1.keep kp18)⟩
  ·have pre26 : oP p e bw G T18 m 137 #[vI 0, vR ra, vI 1, vI (own_len (own_enc l1)), vR b14, vR ra, vI (own_len l1), vI (own_len l1), sl18] [(.int (own_len (own_enc l1))), (.ref b14)] := by
    intro t k
    refine pre24 t ?_
    refine XS.icmpYes X18.here hx rfl (pc0 := 128) (pc' := 134) rfl (D 68 rfl) rfl (feq hc128).2 (by decide) (by decide) ?_
    refine XS.aload X18.here hx rfl (D 71 rfl) rfl rfl ?_
    refine XS.iloadN X18.here hx rfl (D 72 rfl) rfl ?_
    exact k
   obtain ⟨_, T27, Lc27, X27, hQ27, pc27⟩ := own_call X18 hx hZ hown (W 183 rfl) (W 184 rfl) (W 115 rfl) (W 185 rfl) (by decide) (rm_co l Z a0 hw [] b14 (own_len (own_enc l1)) _ _ _ (own_enc l1) R18 h18 n0 zz18 vc21 (rfl) (rfl) (et18.1) (et18.2.1) (hc128) ((by have := own_encL l1; omega))) e18 pre26 hml rfl (D 73 rfl) (lenOf pd13 rfl) rfl (W := 0) rfl (by decide)
   obtain ⟨kb_27, b27, rfl, M27, g_b27, zs27, kp27, f27_0, f27_1⟩ := hQ27
   have sz_b27 : h0.size ≤ b27 := Nat.le_trans K18.1 zs27
   have K27 : Keep h0 T27.heap ([] : List Addr) := K18.trans kp27 all0
   have zz27 : n0 ≤ T27.heap.size := Nat.le_trans Z0 K27.1
   have N27 := Fr.app N18 M27
   have pre28 : oP p e bw G T27 m 140 #[vI 0, vR ra, vI 1, vI (own_len (own_enc l1)), vR b14, vR ra, vI (own_len l1), vI (own_len l1), sl18] [(.ref b27)] := pc27
   obtain ⟨fs, hr, hrun, hended, hW, hsame⟩ := X27.leave (hlocks := Bd.notSynchronized) (v := some (.ref b27)) (fun h => by rw [Bd.returns] at h; cases h)
   subst hG
   refine ⟨_, _, pre28 _ ?_, hrun, hended, _, _, rfl, ?_, ⟨_, rfl⟩, hW, hsame.mono (by decide) (by decide)⟩
   ·exact retOut X27 hx Bd.returns rfl (Or.inr (Or.inr (Or.inr (Or.inr ⟨rfl, rfl, rfl⟩)))) (D 74 rfl) hr
   ·show Q_rm_e8 Z ra ka l1 h0 n0 _ T27.heap _
    exact ⟨kb_27, b27, rfl, N27, g_b27, sz_b27, K27, f27_0, f27_1⟩
theorem ef_rm_cod (m : MethodId) (ra : Addr) : entryFrame m #[(.ref ra)] 1 = mkF m 0 #[vR ra] [] := by simp [entryFrame, mkF, argsToLocals, Value.category]
def Q_rm_cod (Z : State) (ra : Addr) (xcs : Int32) (h0 : Heap) (n0 : Nat) (v : Option Value) (h : Heap) (L : List Loc) : Prop := v = some (.int 0) ∧ Fr n0 L ∧ h = h0
set_option maxRecDepth 65536 in
set_option maxHeartbeats 40000000 in
theorem rm_cod (l : Launch) (Z : State) (a0 : Array Value) (hw : ∀ d ∈ tables_1, d.before a0 Z = true) (ws : List Jvm.Cond) (ra : Addr) (xcs : Int32) (h0 : Heap) (n0 : Nat) (Z0 : n0 ≤ h0.size) (SC : Sta Z h0 "java/lang/String" "COMPACT_STRINGS" "Z" (.int xcs)) (hcs : ¬ (xcs = (0 : Int32))) (FCa : Fld Z h0 ra "java/lang/String" "coder" "B" (.int 0)) :
  oMet l oM9 jdk_42_method_152_code 1 (some .byte) ws (oR 0 0 0 0) #[(.ref ra)] Z h0 (Q_rm_cod Z ra xcs h0 n0) := by
 refine MetFree.of_bodySF (plainFor_of_name pn1) hisR ?_
 have W := own_W hw
 intro p e s m args bw meth c s₁ Bd hml0 hP hK
 obtain ⟨rfl, hZ, hh⟩ := hP
 have hx := Bd.exec
 have hby := Bd.bytes
 have hml : c.maxLocals = 1 := hml0
 have hown : s.vm.findClass "java/lang/String" = some m.cls := findClass_of_methodNamed Bd.named
 have hnm := (name_of_methodNamed Bd.named Bd.method).1
 have X0 : Stand p l e (oR 0 0 0 0) s m #[(.ref ra)] bw meth c s₁ [] 0 0 := Stand.of_body Bd
 have e0 : s₁.heap = h0 := by rw [← hh, Bd.state]; rfl
 have N0 := Fr.nil n0
 have D := own_D hby dB26
 obtain ⟨G, hG⟩ := own_ex fun t => Steps p.tables e bw (s₁.setTop (entryFrame m #[(.ref ra)] 1)) t
 have pre0 : oP p e bw G s₁ m 0 #[vR ra] [] := by intro t k; subst hG; exact castTop (ef_rm_cod m ra) k
 obtain ⟨T1, X1, e1, st1⟩ := getS2 X0 hx hZ hown (host := "") (Or.inl (W 16 rfl)) Via.refl e0 SC (g := (own_g pre0)) rfl (D 0 rfl)
 have pre2 : oP p e bw G T1 m 7 #[vR ra] [(.ref ra)] := by
  intro t k
  refine pre0 t (st1 t ?_)
  refine XS.ifNo X1.here hx rfl (D 1 rfl) rfl ((if0 _ _).trans (feq (show ¬ (xcs = (0 : Int32)) from hcs)).1) ?_
  refine XS.aloadN X1.here hx rfl (D 2 rfl) rfl rfl ?_
  exact k
 obtain ⟨T3, X3, e3, st3⟩ := getF X1 hx hZ hown (host := "") (Or.inl (W 28 rfl)) Via.refl e1 FCa (g := (own_g pre2)) rfl rfl (D 3 rfl)
 have pre4 : oP p e bw G T3 m 14 #[vR ra] [(.int 0)] := by
  intro t k
  refine pre2 t (st3 t ?_)
  refine XS.goto X3.here hx rfl (pc0 := 10) (pc' := 14) rfl (D 4 rfl) (by decide) (by decide) ?_
  exact k
 obtain ⟨fs, hr, hrun, hended, hW, hsame⟩ := X3.leave (hlocks := Bd.notSynchronized) (v := some (.int 0)) (fun h => by rw [Bd.returns] at h; cases h)
 subst hG
 refine ⟨_, _, pre4 _ ?_, hrun, hended, _, _, rfl, ?_, ⟨_, rfl⟩, hW, hsame.mono (by decide) (by decide)⟩
 ·exact retN X3 hx (t := .byte) Bd.returns (by simp) (D 5 rfl) hr
 ·show Q_rm_cod Z ra xcs h0 n0 _ T3.heap _
  rw [e3]
  exact ⟨congrArg (fun z => some (Value.int z)) (by decide), N0, rfl⟩
theorem pd14 : parseMethodDescriptor "(B[BZ)[B" = some ⟨[.byte, (.array .byte), .boolean], some (.array .byte)⟩ := by decide +kernel
theorem ef_rm_en (m : MethodId) (wu : Addr) (rb : Addr) : entryFrame m #[(.ref wu), (.int 0), (.ref rb)] 3 = mkF m 0 #[vR wu, vI 0, vR rb] [] := by simp [entryFrame, mkF, argsToLocals, Value.category]
def Q_rm_en (Z : State) (wu : Addr) (rb : Addr) (ka : ClassId) (l1 : List Int32) (h0 : Heap) (n0 : Nat) (v : Option Value) (h : Heap) (L : List Loc) : Prop := ∃ kb : ClassId, ∃ bo : Addr, v = some (.ref bo) ∧ Fr n0 L ∧ n0 ≤ bo ∧ h0.size ≤ bo ∧ Keep h0 h ([] : List Addr) ∧ Arv Z h bo kb .byte (own_len (own_enc l1)) ((own_enc l1).map Value.int) (.int 0) ∧ Exa Z h bo "[B"
set_option maxRecDepth 65536 in
set_option maxHeartbeats 40000000 in
theorem rm_en (l : Launch) (Z : State) (a0 : Array Value) (hw : ∀ d ∈ tables_1, d.before a0 Z = true) (ws : List Jvm.Cond) (wu : Addr) (rb : Addr) (ka : ClassId) (l1 : List Int32) (h0 : Heap) (n0 : Nat) (Z0 : n0 ≤ h0.size) (SI : Sta Z h0 "sun/nio/cs/UTF_8" "INSTANCE" oS7 (.ref wu)) (VA : Arv Z h0 rb ka .byte (own_len l1) (l1.map Value.int) (.int 0)) (EB : Exa Z h0 rb "[B") (hl : l1.length ≤ 5) (hbs : ∀ x ∈ l1, nar .byte x = x) :
  oMet l (⟨"java/lang/String", "encode", "(Ljava/nio/charset/Charset;B[B)[B"⟩ : MethodName) jdk_42_method_18_code 3 (some (.array .byte)) ws (oR 3 2 20 52) #[(.ref wu), (.int 0), (.ref rb)] Z h0 (Q_rm_en Z wu rb ka l1 h0 n0) := by
 refine MetFree.of_bodySF (plainFor_of_name pn1) hisR ?_
 have W := own_W hw
 intro p e s m args bw meth c s₁ Bd hml0 hP hK
 obtain ⟨rfl, hZ, hh⟩ := hP
 have hx := Bd.exec
 have hby := Bd.bytes
 have hml : c.maxLocals = 3 := hml0
 have hown : s.vm.findClass "java/lang/String" = some m.cls := findClass_of_methodNamed Bd.named
 have hnm := (name_of_methodNamed Bd.named Bd.method).1
 have X0 : Stand p l e (oR 3 2 20 52) s m #[(.ref wu), (.int 0), (.ref rb)] bw meth c s₁ [] 0 0 := Stand.of_body Bd
 have e0 : s₁.heap = h0 := by rw [← hh, Bd.state]; rfl
 have N0 := Fr.nil n0
 have D := own_D hby dB27
 obtain ⟨G, hG⟩ := own_ex fun t => Steps p.tables e bw (s₁.setTop (entryFrame m #[(.ref wu), (.int 0), (.ref rb)] 3)) t
 have pre0 : oP p e bw G s₁ m 0 #[vR wu, vI 0, vR rb] [] := by intro t k; subst hG; exact castTop (ef_rm_en m wu rb) k
 have pre1 : oP p e bw G s₁ m 1 #[vR wu, vI 0, vR rb] [(.ref wu)] := by
  intro t k
  refine pre0 t ?_
  refine XS.aloadN X0.here hx rfl (D 0 rfl) rfl rfl ?_
  exact k
 obtain ⟨T2, X2, e2, st2⟩ := getS2 X0 hx hZ hown (host := "") (Or.inl (W 140 rfl)) Via.refl e0 SI (g := (own_g pre1)) rfl (D 1 rfl)
 have pre3 : oP p e bw G T2 m 4 #[vR wu, vI 0, vR rb] [(.ref wu), (.ref wu)] := fun t k => pre1 t (st2 t k)
 have pre4 : oP p e bw G T2 m 10 #[vR wu, vI 0, vR rb] [(.int 1), (.ref rb), (.int 0)] := by
  intro t k
  refine pre3 t ?_
  refine Jvm.RoadKit.acmp (g := (own_g pre3)) X2 hx rfl rfl rfl (pc0 := 4) (pc' := 7) (same := true) rfl (D 2 rfl) rfl (decide_eq_true rfl) (by decide) (by decide) ?_
  refine XS.iloadN X2.here hx rfl (D 3 rfl) rfl ?_
  refine XS.aloadN X2.here hx rfl (D 4 rfl) rfl rfl ?_
  refine XS.iconst X2.here hx rfl (D 5 rfl) ?_
  exact k
 obtain ⟨_, T5, Lc5, X5, hQ5, pc5⟩ := own_call X2 hx hZ hown (W 142 rfl) (W 143 rfl) (W 5 rfl) (W 144 rfl) (by decide) (rm_e8 l Z a0 hw [] rb ka l1 h0 n0 Z0 VA EB (hl) (hbs)) e2 pre4 hml rfl (D 6 rfl) (lenOf pd14 rfl) rfl (W := 0) rfl (by decide)
 obtain ⟨kb_5, b5, rfl, M5, g_b5, zs5, kp5, f5_0, f5_1⟩ := hQ5
 have sz_b5 : h0.size ≤ b5 := Nat.le_trans (Keep.refl h0 ([] : List Addr)).1 zs5
 have K5 : Keep h0 T5.heap ([] : List Addr) := (Keep.refl h0 ([] : List Addr)).trans kp5 all0
 have zz5 : n0 ≤ T5.heap.size := Nat.le_trans Z0 K5.1
 have N5 := Fr.app N0 M5
 have pre6 : oP p e bw G T5 m 13 #[vR wu, vI 0, vR rb] [(.ref b5)] := pc5
 obtain ⟨fs, hr, hrun, hended, hW, hsame⟩ := X5.leave (hlocks := Bd.notSynchronized) (v := some (.ref b5)) (fun h => by rw [Bd.returns] at h; cases h)
 subst hG
 refine ⟨_, _, pre6 _ ?_, hrun, hended, _, _, rfl, ?_, ⟨_, rfl⟩, hW, hsame.mono (by decide) (by decide)⟩
 ·exact retOut X5 hx Bd.returns rfl (Or.inr (Or.inr (Or.inr (Or.inr ⟨rfl, rfl, rfl⟩)))) (D 7 rfl) hr
 ·show Q_rm_en Z wu rb ka l1 h0 n0 _ T5.heap _
  exact ⟨kb_5, b5, rfl, N5, g_b5, sz_b5, K5, f5_0, f5_1⟩
theorem pd15 : parseMethodDescriptor "()B" = some ⟨[], some .byte⟩ := by decide +kernel
theorem pd16 : parseMethodDescriptor "(Ljava/nio/charset/Charset;B[B)[B" = some ⟨[(.object "java/nio/charset/Charset"), .byte, (.array .byte)], some (.array .byte)⟩ := by decide +kernel
theorem ef_rm_gb (m : MethodId) (ra : Addr) (wu : Addr) : entryFrame m #[(.ref ra), (.ref wu)] 2 = mkF m 0 #[vR ra, vR wu] [] := by simp [entryFrame, mkF, argsToLocals, Value.category]
def Q_rm_gb (Z : State) (ra : Addr) (wu : Addr) (xcs : Int32) (rb : Addr) (ka : ClassId) (l1 : List Int32) (h0 : Heap) (n0 : Nat) (v : Option Value) (h : Heap) (L : List Loc) : Prop := ∃ kb : ClassId, ∃ bo : Addr, v = some (.ref bo) ∧ Fr n0 L ∧ n0 ≤ bo ∧ h0.size ≤ bo ∧ Keep h0 h ([] : List Addr) ∧ Arv Z h bo kb .byte (own_len (own_enc l1)) ((own_enc l1).map Value.int) (.int 0) ∧ Exa Z h bo "[B"
set_option maxRecDepth 65536 in
set_option maxHeartbeats 40000000 in
theorem rm_gb (l : Launch) (Z : State) (a0 : Array Value) (hw : ∀ d ∈ tables_1, d.before a0 Z = true) (ws : List Jvm.Cond) (ra : Addr) (wu : Addr) (xcs : Int32) (rb : Addr) (ka : ClassId) (l1 : List Int32) (h0 : Heap) (n0 : Nat) (Z0 : n0 ≤ h0.size) (SC : Sta Z h0 "java/lang/String" "COMPACT_STRINGS" "Z" (.int xcs)) (hcs : ¬ (xcs = (0 : Int32))) (SI : Sta Z h0 "sun/nio/cs/UTF_8" "INSTANCE" oS7 (.ref wu)) (FVa : Fld Z h0 ra "java/lang/String" "value" "[B" (.ref rb)) (FCa : Fld Z h0 ra "java/lang/String" "coder" "B" (.int 0)) (VA : Arv Z h0 rb ka .byte (own_len l1) (l1.map Value.int) (.int 0)) (EB : Exa Z h0 rb "[B") (hl : l1.length ≤ 5) (hbs : ∀ x ∈ l1, nar .byte x = x) (Ea : Exa Z h0 ra "java/lang/String") :
  oMet l oM4 jdk_42_method_64_code 2 (some (.array .byte)) ws (oR 4 2 20 66) #[(.ref ra), (.ref wu)] Z h0 (Q_rm_gb Z ra wu xcs rb ka l1 h0 n0) := by
 refine MetFree.of_bodySF (plainFor_of_name pn1) hisR ?_
 have W := own_W hw
 intro p e s m args bw meth c s₁ Bd hml0 hP hK
 obtain ⟨rfl, hZ, hh⟩ := hP
 have hx := Bd.exec
 have hby := Bd.bytes
 have hml : c.maxLocals = 2 := hml0
 have hown : s.vm.findClass "java/lang/String" = some m.cls := findClass_of_methodNamed Bd.named
 have hnm := (name_of_methodNamed Bd.named Bd.method).1
 have X0 : Stand p l e (oR 4 2 20 66) s m #[(.ref ra), (.ref wu)] bw meth c s₁ [] 0 0 := Stand.of_body Bd
 have e0 : s₁.heap = h0 := by rw [← hh, Bd.state]; rfl
 have N0 := Fr.nil n0
 have D := own_D hby dB25
 obtain ⟨G, hG⟩ := own_ex fun t => Steps p.tables e bw (s₁.setTop (entryFrame m #[(.ref ra), (.ref wu)] 2)) t
 have pre0 : oP p e bw G s₁ m 0 #[vR ra, vR wu] [] := by intro t k; subst hG; exact castTop (ef_rm_gb m ra wu) k
 have pre1 : oP p e bw G s₁ m 14 #[vR ra, vR wu] [(.ref ra), (.ref wu)] := by
  intro t k
  refine pre0 t ?_
  refine XS.aloadN X0.here hx rfl (D 0 rfl) rfl rfl ?_
  refine XS.ifnonnullYes X0.here hx rfl (pc0 := 1) (pc' := 12) rfl (D 1 rfl) rfl (by decide) (by decide) ?_
  refine XS.aloadN X0.here hx rfl (D 2 rfl) rfl rfl ?_
  refine XS.aloadN X0.here hx rfl (D 3 rfl) rfl rfl ?_
  exact k
 obtain ⟨cq2, kq2, q2a, q2b, q2c⟩ := isOf hZ e0 Ea
 obtain ⟨_, _, ⟨T2, L2, k2, n2⟩, -, X2, ⟨Lc2, hQ2, l2, y2, z2⟩, st2⟩ := X0.virtualBack hx (y := oM9) (z := oM9) hown (mvT hZ (W 132 rfl)) (mvT hZ (W 133 rfl)) (notFace_of_selects (args := #[]) (mvT hZ (W 135 rfl))) (mvT hZ (W 135 rfl)) (mvT hZ (W 134 rfl)) (by decide) (backOf (W := 1) (rm_cod l Z a0 hw [] ra xcs h0 n0 Z0 SC (hcs) FCa) hZ (W 136 rfl) (W 5 rfl) (by decide) (by decide)) q2a q2c (g := (own_g pre1)) rfl (by rw [hml]; rfl) (Steps.refl _) (argsL := []) (rest := [(.ref wu)]) (lenOf pd15 rfl) rfl (by show 2 * 0 + _ ≤ _; exact Nat.le_of_eq rfl) (D 4 rfl) (fun _ _ => ⟨rfl, e0, (by decide : 0 + 0 ≤ _), (by decide : 0 + 0 ≤ _)⟩)
 dsimp only [Pt.U, Pt.locs, Pt.cells, Pt.slots] at X2 l2 y2 z2 st2 hQ2
 subst y2 z2
 obtain ⟨rfl, M2, e2⟩ := hQ2
 have N2 : Fr n0 L2 := by rw [l2]; exact Fr.app N0 M2
 clear l2
 have pre3 : oP p e bw G T2 m 18 #[vR ra, vR wu] [(.ref ra), (.int 0), (.ref wu)] := by
  intro t k
  refine pre1 t (st2.trans ?_)
  refine XS.aloadN X2.here hx rfl (D 5 rfl) rfl rfl ?_
  exact k
 obtain ⟨T4, X4, e4, st4⟩ := getF X2 hx hZ hown (host := "") (Or.inl (W 30 rfl)) Via.refl e2 FVa (g := (own_g pre3)) rfl rfl (D 6 rfl)
 have pre5 : oP p e bw G T4 m 21 #[vR ra, vR wu] [(.ref rb), (.int 0), (.ref wu)] := fun t k => pre3 t (st4 t k)
 obtain ⟨_, T6, Lc6, X6, hQ6, pc6⟩ := own_call X4 hx hZ hown (W 137 rfl) (W 138 rfl) (W 5 rfl) (W 139 rfl) (by decide) (rm_en l Z a0 hw [] wu rb ka l1 h0 n0 Z0 SI VA EB (hl) (hbs)) e4 pre5 hml rfl (D 7 rfl) (lenOf pd16 rfl) rfl (W := 0) rfl (by decide)
 obtain ⟨kb_6, b6, rfl, M6, g_b6, zs6, kp6, f6_0, f6_1⟩ := hQ6
 have sz_b6 : h0.size ≤ b6 := Nat.le_trans (Keep.refl h0 ([] : List Addr)).1 zs6
 have K6 : Keep h0 T6.heap ([] : List Addr) := (Keep.refl h0 ([] : List Addr)).trans kp6 all0
 have zz6 : n0 ≤ T6.heap.size := Nat.le_trans Z0 K6.1
 have N6 := Fr.app N2 M6
 have pre7 : oP p e bw G T6 m 24 #[vR ra, vR wu] [(.ref b6)] := pc6
 obtain ⟨fs, hr, hrun, hended, hW, hsame⟩ := X6.leave (hlocks := Bd.notSynchronized) (v := some (.ref b6)) (fun h => by rw [Bd.returns] at h; cases h)
 subst hG
 refine ⟨_, _, pre7 _ ?_, hrun, hended, _, _, rfl, ?_, ⟨_, rfl⟩, hW, hsame.mono (by decide) (by decide)⟩
 ·exact retOut X6 hx Bd.returns rfl (Or.inr (Or.inr (Or.inr (Or.inr ⟨rfl, rfl, rfl⟩)))) (D 8 rfl) hr
 ·show Q_rm_gb Z ra wu xcs rb ka l1 h0 n0 _ T6.heap _
  exact ⟨kb_6, b6, rfl, N6, g_b6, sz_b6, K6, f6_0, f6_1⟩
theorem pn7 : plainName oS0 = true := by first | (simp [plainName, overriddenIn]; done) | decide +kernel
theorem ef_rm_hi (m : MethodId) (ra : Addr) (xk : Int32) (re : Addr) : entryFrame m #[(.ref ra), (.int xk), (.ref re)] 3 = mkF m 0 #[vR ra, vI xk, vR re] [] := by simp [entryFrame, mkF, argsToLocals, Value.category]
def Q_rm_hi (Z : State) (ra : Addr) (xk : Int32) (re : Addr) (h0 : Heap) (n0 : Nat) (v : Option Value) (h : Heap) (L : List Loc) : Prop := v = none ∧ Fr n0 L ∧ Keep h0 h [ra] ∧ Exa Z h ra oS0 ∧ Fld Z h ra oS0 "count" "I" (.int xk) ∧ Fld Z h ra oS0 "encoded" "[B" (.ref re) ∧ Fld Z h ra oS0 "last" oS4 .null
set_option maxRecDepth 65536 in
set_option maxHeartbeats 40000000 in
theorem rm_hi (l : Launch) (Z : State) (a0 : Array Value) (hw : ∀ d ∈ tables_1, d.before a0 Z = true) (ws : List Jvm.Cond) (ra : Addr) (xk : Int32) (re : Addr) (h0 : Heap) (n0 : Nat) (Z0 : n0 ≤ h0.size) (E_ra : Exa Z h0 ra oS0) (g_ra : n0 ≤ ra) (F_count_ra : Fld Z h0 ra oS0 "count" "I" (.int 0)) (F_encoded_ra : Fld Z h0 ra oS0 "encoded" "[B" .null) (F_last_ra : Fld Z h0 ra oS0 "last" oS4 .null) :
  oMet l oM5 prog_12_method_1_code 3 none ws (oR 1 0 0 12) #[(.ref ra), (.int xk), (.ref re)] Z h0 (Q_rm_hi Z ra xk re h0 n0) := by
 refine MetFree.of_bodySF (plainFor_of_name pn7) hisR ?_
 have W := own_W hw
 intro p e s m args bw meth c s₁ Bd hml0 hP hK
 obtain ⟨rfl, hZ, hh⟩ := hP
 have hx := Bd.exec
 have hby := Bd.bytes
 have hml : c.maxLocals = 3 := hml0
 have hown : s.vm.findClass oS0 = some m.cls := findClass_of_methodNamed Bd.named
 have hnm := (name_of_methodNamed Bd.named Bd.method).1
 have X0 : Stand p l e (oR 1 0 0 12) s m #[(.ref ra), (.int xk), (.ref re)] bw meth c s₁ [] 0 0 := Stand.of_body Bd
 have e0 : s₁.heap = h0 := by rw [← hh, Bd.state]; rfl
 have N0 := Fr.nil n0
 have D := own_D hby dB16
 obtain ⟨G, hG⟩ := own_ex fun t => Steps p.tables e bw (s₁.setTop (entryFrame m #[(.ref ra), (.int xk), (.ref re)] 3)) t
 have pre0 : oP p e bw G s₁ m 0 #[vR ra, vI xk, vR re] [] := by intro t k; subst hG; exact castTop (ef_rm_hi m ra xk re) k
 have pre1 : oP p e bw G s₁ m 1 #[vR ra, vI xk, vR re] [(.ref ra)] := by
  intro t k
  refine pre0 t ?_
  refine XS.aloadN X0.here hx rfl (D 0 rfl) rfl rfl ?_
  exact k
 obtain ⟨T2, X2, e2, st2⟩ := initO X0 hx hZ hown (W 71 rfl) (W 14 rfl) (W 15 rfl) e0 (g := (own_g pre1)) rfl (by rw [hml]; rfl) rfl (D 1 rfl) (by decide) (W := 0) (by show 2 * 0 + _ ≤ _; exact Nat.le_of_eq rfl) (by decide)
 have pre3 : oP p e bw G T2 m 6 #[vR ra, vI xk, vR re] [(.int xk), (.ref ra)] := by
  intro t k
  refine pre1 t (st2 t ?_)
  refine XS.aloadN X2.here hx rfl (D 2 rfl) rfl rfl ?_
  refine XS.iloadN X2.here hx rfl (D 3 rfl) rfl ?_
  exact k
 obtain ⟨T4, h4, X4, e4, W4, st4⟩ := putF X2 hx hZ hown (host := "") (Or.inl (W 72 rfl)) Via.refl e2 F_count_ra E_ra (Or.inr ⟨(W 73 rfl), rfl, hnm⟩) (W 52 rfl) (ty := .int) (by decide) rfl rfl (g := (own_g pre3)) rfl rfl (D 4 rfl)
 have K4 : Keep h0 h4 [ra] := (Keep.refl h0 [ra]).wr W4 (Or.inl (by simp))
 have z4 : n0 ≤ h4.size := Nat.le_trans Z0 K4.1
 have N4 := Fr.snoc X4 N0 g_ra
 have Fw4 := F_count_ra.same W4
 have pre5 : oP p e bw G T4 m 11 #[vR ra, vI xk, vR re] [(.ref re), (.ref ra)] := by
  intro t k
  refine pre3 t (st4 t ?_)
  refine XS.aloadN X4.here hx rfl (D 5 rfl) rfl rfl ?_
  refine XS.aloadN X4.here hx rfl (D 6 rfl) rfl rfl ?_
  exact k
 have f6 := (E_ra.wr W4)
 have f7 := (F_encoded_ra.other W4 (Or.inr (slot_ne (Or.inr (W 75 rfl)) (Or.inr (W 73 rfl)) (by decide) (t := (.array .byte)) (t' := .int) (by decide) (by decide))))
 obtain ⟨T8, h8, X8, e8, W8, st8⟩ := putF X4 hx hZ hown (host := "") (Or.inl (W 74 rfl)) Via.refl e4 f7 f6 (Or.inr ⟨(W 75 rfl), rfl, hnm⟩) (W 52 rfl) (ty := (.array .byte)) (by decide) rfl rfl (g := (own_g pre5)) rfl rfl (D 7 rfl)
 have K8 : Keep h0 h8 [ra] := K4.wr W8 (Or.inl (by simp))
 have z8 : n0 ≤ h8.size := Nat.le_trans Z0 K8.1
 have N8 := Fr.snoc X8 N4 g_ra
 have Fw8 := f7.same W8
 have pre9 : oP p e bw G T8 m 14 #[vR ra, vI xk, vR re] [] := fun t k => pre5 t (st8 t k)
 obtain ⟨fs, hr, hrun, hended, hW, hsame⟩ := X8.leave (hlocks := Bd.notSynchronized) (v := none) (fun _ => rfl)
 subst hG
 refine ⟨_, _, pre9 _ ?_, hrun, hended, _, _, rfl, ?_, ⟨_, rfl⟩, hW, hsame.mono (by decide) (by decide)⟩
 ·exact X8.returnOut hx Bd.returns (D 8 rfl) hr
 ·show Q_rm_hi Z ra xk re h0 n0 _ T8.heap _
  rw [e8]
  exact ⟨rfl, N8, K8, (f6.wr W8), (Fw4.other W8 (Or.inr (slot_ne (Or.inr (W 73 rfl)) (Or.inr (W 75 rfl)) (by decide) (t := .int) (t' := (.array .byte)) (by decide) (by decide)))), Fw8, ((F_last_ra.other W4 (Or.inr (slot_ne (Or.inl (W 82 rfl)) (Or.inr (W 73 rfl)) (by decide) (t := (.object oS2)) (t' := .int) (by decide) (by decide)))).other W8 (Or.inr (slot_ne (Or.inl (W 82 rfl)) (Or.inr (W 75 rfl)) (by decide) (t := (.object oS2)) (t' := (.array .byte)) (by decide) (by decide))))⟩
theorem pn8 : plainName oS2 = true := by first | (simp [plainName, overriddenIn]; done) | decide +kernel
theorem ef_rm_bi (m : MethodId) (ra : Addr) (rr : Addr) (rq : Addr) : entryFrame m #[(.ref ra), (.ref rr), (.ref rq)] 3 = mkF m 0 #[vR ra, vR rr, vR rq] [] := by simp [entryFrame, mkF, argsToLocals, Value.category]
def Q_rm_bi (Z : State) (ra : Addr) (rr : Addr) (rq : Addr) (h0 : Heap) (n0 : Nat) (v : Option Value) (h : Heap) (L : List Loc) : Prop := v = none ∧ Fr n0 L ∧ Keep h0 h [ra] ∧ Exa Z h ra oS2 ∧ Fld Z h ra oS2 "rest" oS9 (.ref rr) ∧ Fld Z h ra oS2 "request" "[B" (.ref rq)
set_option maxRecDepth 65536 in
set_option maxHeartbeats 40000000 in
theorem rm_bi (l : Launch) (Z : State) (a0 : Array Value) (hw : ∀ d ∈ tables_1, d.before a0 Z = true) (ws : List Jvm.Cond) (ra : Addr) (rr : Addr) (rq : Addr) (h0 : Heap) (n0 : Nat) (Z0 : n0 ≤ h0.size) (E_ra : Exa Z h0 ra oS2) (g_ra : n0 ≤ ra) (F_rest_ra : Fld Z h0 ra oS2 "rest" oS9 .null) (F_request_ra : Fld Z h0 ra oS2 "request" "[B" .null) :
  oMet l oM6 prog_11_method_1_code 3 none ws (oR 1 0 0 12) #[(.ref ra), (.ref rr), (.ref rq)] Z h0 (Q_rm_bi Z ra rr rq h0 n0) := by
 refine MetFree.of_bodySF (plainFor_of_name pn8) hisR ?_
 have W := own_W hw
 intro p e s m args bw meth c s₁ Bd hml0 hP hK
 obtain ⟨rfl, hZ, hh⟩ := hP
 have hx := Bd.exec
 have hby := Bd.bytes
 have hml : c.maxLocals = 3 := hml0
 have hown : s.vm.findClass oS2 = some m.cls := findClass_of_methodNamed Bd.named
 have hnm := (name_of_methodNamed Bd.named Bd.method).1
 have X0 : Stand p l e (oR 1 0 0 12) s m #[(.ref ra), (.ref rr), (.ref rq)] bw meth c s₁ [] 0 0 := Stand.of_body Bd
 have e0 : s₁.heap = h0 := by rw [← hh, Bd.state]; rfl
 have N0 := Fr.nil n0
 have D := own_D hby dB21
 obtain ⟨G, hG⟩ := own_ex fun t => Steps p.tables e bw (s₁.setTop (entryFrame m #[(.ref ra), (.ref rr), (.ref rq)] 3)) t
 have pre0 : oP p e bw G s₁ m 0 #[vR ra, vR rr, vR rq] [] := by intro t k; subst hG; exact castTop (ef_rm_bi m ra rr rq) k
 have pre1 : oP p e bw G s₁ m 1 #[vR ra, vR rr, vR rq] [(.ref ra)] := by
  intro t k
  refine pre0 t ?_
  refine XS.aloadN X0.here hx rfl (D 0 rfl) rfl rfl ?_
  exact k
 obtain ⟨T2, X2, e2, st2⟩ := initO X0 hx hZ hown (W 107 rfl) (W 14 rfl) (W 15 rfl) e0 (g := (own_g pre1)) rfl (by rw [hml]; rfl) rfl (D 1 rfl) (by decide) (W := 0) (by show 2 * 0 + _ ≤ _; exact Nat.le_of_eq rfl) (by decide)
 have pre3 : oP p e bw G T2 m 6 #[vR ra, vR rr, vR rq] [(.ref rr), (.ref ra)] := by
  intro t k
  refine pre1 t (st2 t ?_)
  refine XS.aloadN X2.here hx rfl (D 2 rfl) rfl rfl ?_
  refine XS.aloadN X2.here hx rfl (D 3 rfl) rfl rfl ?_
  exact k
 obtain ⟨T4, h4, X4, e4, W4, st4⟩ := putF X2 hx hZ hown (host := "") (Or.inl (W 108 rfl)) Via.refl e2 F_rest_ra E_ra (Or.inr ⟨(W 109 rfl), rfl, hnm⟩) (W 102 rfl) (ty := (.array (.object "java/lang/String"))) (by decide) rfl rfl (g := (own_g pre3)) rfl rfl (D 4 rfl)
 have K4 : Keep h0 h4 [ra] := (Keep.refl h0 [ra]).wr W4 (Or.inl (by simp))
 have z4 : n0 ≤ h4.size := Nat.le_trans Z0 K4.1
 have N4 := Fr.snoc X4 N0 g_ra
 have Fw4 := F_rest_ra.same W4
 have pre5 : oP p e bw G T4 m 11 #[vR ra, vR rr, vR rq] [(.ref rq), (.ref ra)] := by
  intro t k
  refine pre3 t (st4 t ?_)
  refine XS.aloadN X4.here hx rfl (D 5 rfl) rfl rfl ?_
  refine XS.aloadN X4.here hx rfl (D 6 rfl) rfl rfl ?_
  exact k
 have f6 := (E_ra.wr W4)
 have f7 := (F_request_ra.other W4 (Or.inr (slot_ne (Or.inr (W 111 rfl)) (Or.inr (W 109 rfl)) (by decide) (t := (.array .byte)) (t' := (.array (.object "java/lang/String"))) (by decide) (by decide))))
 obtain ⟨T8, h8, X8, e8, W8, st8⟩ := putF X4 hx hZ hown (host := "") (Or.inl (W 110 rfl)) Via.refl e4 f7 f6 (Or.inr ⟨(W 111 rfl), rfl, hnm⟩) (W 102 rfl) (ty := (.array .byte)) (by decide) rfl rfl (g := (own_g pre5)) rfl rfl (D 7 rfl)
 have K8 : Keep h0 h8 [ra] := K4.wr W8 (Or.inl (by simp))
 have z8 : n0 ≤ h8.size := Nat.le_trans Z0 K8.1
 have N8 := Fr.snoc X8 N4 g_ra
 have Fw8 := f7.same W8
 have pre9 : oP p e bw G T8 m 14 #[vR ra, vR rr, vR rq] [] := fun t k => pre5 t (st8 t k)
 obtain ⟨fs, hr, hrun, hended, hW, hsame⟩ := X8.leave (hlocks := Bd.notSynchronized) (v := none) (fun _ => rfl)
 subst hG
 refine ⟨_, _, pre9 _ ?_, hrun, hended, _, _, rfl, ?_, ⟨_, rfl⟩, hW, hsame.mono (by decide) (by decide)⟩
 ·exact X8.returnOut hx Bd.returns (D 8 rfl) hr
 ·show Q_rm_bi Z ra rr rq h0 n0 _ T8.heap _
  rw [e8]
  exact ⟨rfl, N8, K8, (f6.wr W8), (Fw4.other W8 (Or.inr (slot_ne (Or.inr (W 109 rfl)) (Or.inr (W 111 rfl)) (by decide) (t := (.array (.object "java/lang/String"))) (t' := (.array .byte)) (by decide) (by decide)))), Fw8⟩
theorem ef_rm_u0 (m : MethodId) (rb : Addr) : entryFrame m #[(.ref rb)] 3 = mkF m 0 #[vR rb, vU, vU] [] := by simp [entryFrame, mkF, argsToLocals, Value.category]
def Q_rm_u0 (Z : State) (rb : Addr) (xcs : Int32) (wu : Addr) (ka : ClassId) (h0 : Heap) (n0 : Nat) (v : Option Value) (h : Heap) (L : List Loc) : Prop := ∃ ko : ClassId, ∃ bo : Addr, v = some (.ref bo) ∧ Fr n0 L ∧ n0 ≤ bo ∧ h0.size ≤ bo ∧ Keep h0 h ([] : List Addr) ∧ Arv Z h bo ko (.array .byte) (0 : Int32) [] .null
set_option maxRecDepth 65536 in
set_option maxHeartbeats 40000000 in
theorem rm_u0 (l : Launch) (Z : State) (a0 : Array Value) (hw : ∀ d ∈ tables_1, d.before a0 Z = true) (ws : List Jvm.Cond) (rb : Addr) (xcs : Int32) (wu : Addr) (ka : ClassId) (h0 : Heap) (n0 : Nat) (Z0 : n0 ≤ h0.size) (SC : Sta Z h0 "java/lang/String" "COMPACT_STRINGS" "Z" (.int xcs)) (hcs : ¬ (xcs = (0 : Int32))) (SI : Sta Z h0 "sun/nio/cs/UTF_8" "INSTANCE" oS7 (.ref wu)) (SU : Sta Z h0 oS5 "UTF_8" oS6 (.ref wu)) (VA : Arv Z h0 rb ka (.object "java/lang/String") (0 : Int32) [] .null) :
  oMet l oM10 prog_10_method_13_code 3 (some (.array (.array .byte))) ws (oR 0 1 0 0) #[(.ref rb)] Z h0 (Q_rm_u0 Z rb xcs wu ka h0 n0) := by
 refine MetFree.of_bodySF (plainFor_of_name pn3) hisR ?_
 have W := own_W hw
 intro p e s m args bw meth c s₁ Bd hml0 hP hK
 obtain ⟨rfl, hZ, hh⟩ := hP
 have hx := Bd.exec
 have hby := Bd.bytes
 have hml : c.maxLocals = 3 := hml0
 have hown : s.vm.findClass oS1 = some m.cls := findClass_of_methodNamed Bd.named
 have hnm := (name_of_methodNamed Bd.named Bd.method).1
 have X0 : Stand p l e (oR 0 1 0 0) s m #[(.ref rb)] bw meth c s₁ [] 0 0 := Stand.of_body Bd
 have e0 : s₁.heap = h0 := by rw [← hh, Bd.state]; rfl
 have N0 := Fr.nil n0
 have D := own_D hby dB13
 obtain ⟨G, hG⟩ := own_ex fun t => Steps p.tables e bw (s₁.setTop (entryFrame m #[(.ref rb)] 3)) t
 have pre0 : oP p e bw G s₁ m 0 #[vR rb, vU, vU] [] := by intro t k; subst hG; exact castTop (ef_rm_u0 m rb) k
 have pre1 : oP p e bw G s₁ m 1 #[vR rb, vU, vU] [(.ref rb)] := by
  intro t k
  refine pre0 t ?_
  refine XS.aloadN X0.here hx rfl (D 0 rfl) rfl rfl ?_
  exact k
 have pre3 : oP p e bw G s₁ m 2 #[vR rb, vU, vU] [(.int 0)] := by
  intro t k
  refine pre1 t ?_
  obtain ⟨c2, a2, q2, s2, m2, i2, u2⟩ := id VA
  refine X0.arraylength hx (by rw [e0]; exact a2.1) (State.isArrayOf_alike hZ.alike a2.2.1) (g := (own_g pre1)) rfl rfl (D 1 rfl) _ ?_
  rw [len_of s2 m2]
  exact k
 obtain ⟨T4, h4, k4, X4, e4, E4, A4, x4, O4, st4⟩ := newRA X0 hx hZ (C := "[B") (ty := .byte) hown rfl (W 60 rfl) (W 61 rfl) e0 (g := (own_g pre3)) rfl (D 2 rfl) rfl (by decide) (cap := 0) (by decide) (by decide) (by decide) (by decide) (ad := "[[B") rfl
 obtain ⟨b4, g4⟩ := own_ex h0.size
 rw [← g4] at A4 st4 x4
 have g_b4 : n0 ≤ b4 := Nat.le_trans Z0 (Nat.le_of_eq g4.symm)
 have sz_b4 : h0.size ≤ b4 := Nat.le_trans (Keep.refl h0 ([] : List Addr)).1 (Nat.le_of_eq g4.symm)
 have K4 : Keep h0 h4 ([] : List Addr) := (Keep.refl h0 ([] : List Addr)).ext E4
 have z4 : n0 ≤ h4.size := Nat.le_trans Z0 K4.1
 have V_b4 : Arv Z h4 b4 k4 (.array .byte) (0 : Int32) [] .null := (Arv.new A4 (by decide)).pad (pad_rep [] .null 0)
 have pre5 : oP p e bw G T4 m 10 #[vR rb, vR b4, vI 0] [(.ref rb), (.int 0)] := by
  intro t k
  refine pre3 t (st4 t ?_)
  refine XS.astoreN X4.here hx rfl (D 3 rfl) rfl rfl (l' := #[vR rb, vR b4, vU]) rfl ?_
  refine XS.iconst X4.here hx rfl (D 4 rfl) ?_
  refine XS.istoreN X4.here hx rfl (D 5 rfl) rfl (l' := #[vR rb, vR b4, vI 0]) rfl ?_
  refine XS.iloadN X4.here hx rfl (D 6 rfl) rfl ?_
  refine XS.aloadN X4.here hx rfl (D 7 rfl) rfl rfl ?_
  exact k
 have pre7 : oP p e bw G T4 m 33 #[vR rb, vR b4, vI 0] [(.ref b4)] := by
  intro t k
  refine pre5 t ?_
  obtain ⟨c6, a6, q6, s6, m6, i6, u6⟩ := id (VA.ext E4)
  refine X4.arraylength hx (by rw [e4]; exact a6.1) (State.isArrayOf_alike hZ.alike a6.2.1) (g := (own_g pre5)) rfl rfl (D 8 rfl) _ ?_
  rw [len_of s6 m6]
  refine XS.icmpYes X4.here hx rfl (pc0 := 11) (pc' := 32) rfl (D 9 rfl) rfl (flt (show ¬ ((0 : Int32) < (0 : Int32)) from by decide)).2.1 (by decide) (by decide) ?_
  refine XS.aloadN X4.here hx rfl (D 10 rfl) rfl rfl ?_
  exact k
 obtain ⟨fs, hr, hrun, hended, hW, hsame⟩ := X4.leave (hlocks := Bd.notSynchronized) (v := some (.ref b4)) (fun h => by rw [Bd.returns] at h; cases h)
 subst hG
 refine ⟨_, _, pre7 _ ?_, hrun, hended, _, _, rfl, ?_, ⟨_, rfl⟩, hW, hsame.mono (by decide) (by decide)⟩
 ·exact retOut X4 hx Bd.returns rfl (Or.inr (Or.inr (Or.inr (Or.inr ⟨rfl, rfl, rfl⟩)))) (D 11 rfl) hr
 ·show Q_rm_u0 Z rb xcs wu ka h0 n0 _ T4.heap _
  rw [e4]
  exact ⟨k4, b4, rfl, N0, g_b4, sz_b4, K4, V_b4⟩
theorem pd17 : parseMethodDescriptor "([Ljava/lang/String;)[[B" = some ⟨[(.array (.object "java/lang/String"))], some (.array (.array .byte))⟩ := by decide +kernel
theorem pd18 : parseMethodDescriptor "([[B)I" = some ⟨[(.array (.array .byte))], some .int⟩ := by decide +kernel
theorem pd19 : parseMethodDescriptor "([BI[[B)V" = some ⟨[(.array .byte), .int, (.array (.array .byte))], none⟩ := by decide +kernel
theorem ef_rm_bs0 (m : MethodId) (rb : Addr) : entryFrame m #[(.ref rb)] 3 = mkF m 0 #[vR rb, vU, vU] [] := by simp [entryFrame, mkF, argsToLocals, Value.category]
def Q_rm_bs0 (Z : State) (rb : Addr) (xcs : Int32) (wu : Addr) (wc : Addr) (kc : ClassId) (xr0 : Int32) (xr1 : Int32) (ka : ClassId) (h0 : Heap) (n0 : Nat) (v : Option Value) (h : Heap) (L : List Loc) : Prop := ∃ ke : ClassId, ∃ bo : Addr, v = some (.ref bo) ∧ Fr n0 L ∧ n0 ≤ bo ∧ h0.size ≤ bo ∧ Keep h0 h ([] : List Addr) ∧ Arv Z h bo ke .byte (own_len (own_bulks [])) ((own_bulks []).map Value.int) (.int 0) ∧ Exa Z h bo "[B"
set_option maxRecDepth 65536 in
set_option maxHeartbeats 40000000 in
theorem rm_bs0 (l : Launch) (Z : State) (a0 : Array Value) (hw : ∀ d ∈ tables_1, d.before a0 Z = true) (ws : List Jvm.Cond) (rb : Addr) (xcs : Int32) (wu : Addr) (wc : Addr) (kc : ClassId) (xr0 : Int32) (xr1 : Int32) (ka : ClassId) (h0 : Heap) (n0 : Nat) (Z0 : n0 ≤ h0.size) (SC : Sta Z h0 "java/lang/String" "COMPACT_STRINGS" "Z" (.int xcs)) (hcs : ¬ (xcs = (0 : Int32))) (SI : Sta Z h0 "sun/nio/cs/UTF_8" "INSTANCE" oS7 (.ref wu)) (SU : Sta Z h0 oS5 "UTF_8" oS6 (.ref wu)) (SR : Sta Z h0 oS1 "CRLF" "[B" (.ref wc)) (VR : Arv Z h0 wc kc .byte (2 : Int32) [(.int xr0), (.int xr1)] (.int 0)) (VA : Arv Z h0 rb ka (.object "java/lang/String") (0 : Int32) [] .null) :
  oMet l oM11 prog_10_method_12_code 3 (some (.array .byte)) ws (oR 1 2 40 19) #[(.ref rb)] Z h0 (Q_rm_bs0 Z rb xcs wu wc kc xr0 xr1 ka h0 n0) := by
 refine MetFree.of_bodySF (plainFor_of_name pn3) hisR ?_
 have W := own_W hw
 intro p e s m args bw meth c s₁ Bd hml0 hP hK
 obtain ⟨rfl, hZ, hh⟩ := hP
 have hx := Bd.exec
 have hby := Bd.bytes
 have hml : c.maxLocals = 3 := hml0
 have hown : s.vm.findClass oS1 = some m.cls := findClass_of_methodNamed Bd.named
 have hnm := (name_of_methodNamed Bd.named Bd.method).1
 have X0 : Stand p l e (oR 1 2 40 19) s m #[(.ref rb)] bw meth c s₁ [] 0 0 := Stand.of_body Bd
 have e0 : s₁.heap = h0 := by rw [← hh, Bd.state]; rfl
 have N0 := Fr.nil n0
 have D := own_D hby dB12
 obtain ⟨G, hG⟩ := own_ex fun t => Steps p.tables e bw (s₁.setTop (entryFrame m #[(.ref rb)] 3)) t
 have pre0 : oP p e bw G s₁ m 0 #[vR rb, vU, vU] [] := by intro t k; subst hG; exact castTop (ef_rm_bs0 m rb) k
 have pre1 : oP p e bw G s₁ m 1 #[vR rb, vU, vU] [(.ref rb)] := by
  intro t k
  refine pre0 t ?_
  refine XS.aloadN X0.here hx rfl (D 0 rfl) rfl rfl ?_
  exact k
 obtain ⟨_, T2, Lc2, X2, hQ2, pc2⟩ := own_call X0 hx hZ hown (W 57 rfl) (W 58 rfl) (W 49 rfl) (W 59 rfl) (by decide) (rm_u0 l Z a0 hw [] rb xcs wu ka h0 n0 Z0 SC (hcs) SI SU VA) e0 pre1 hml rfl (D 1 rfl) (lenOf pd17 rfl) rfl (W := 0) rfl (by decide)
 obtain ⟨ko_2, b2, rfl, M2, g_b2, zs2, kp2, f2_0⟩ := hQ2
 have sz_b2 : h0.size ≤ b2 := Nat.le_trans (Keep.refl h0 ([] : List Addr)).1 zs2
 have K2 : Keep h0 T2.heap ([] : List Addr) := (Keep.refl h0 ([] : List Addr)).trans kp2 all0
 have zz2 : n0 ≤ T2.heap.size := Nat.le_trans Z0 K2.1
 have N2 := Fr.app N0 M2
 have pre3 : oP p e bw G T2 m 6 #[vR rb, vR b2, vU] [(.ref b2)] := by
  intro t k
  refine pc2 t ?_
  refine XS.astoreN X2.here hx rfl (D 2 rfl) rfl rfl (l' := #[vR rb, vR b2, vU]) rfl ?_
  refine XS.aloadN X2.here hx rfl (D 3 rfl) rfl rfl ?_
  exact k
 have f4 := (SR.ext (own_keep_ext kp2))
 have f5 := (VR.keep kp2 nin0)
 obtain ⟨_, T6, Lc6, X6, hQ6, pc6⟩ := own_call X2 hx hZ hown (W 62 rfl) (W 63 rfl) (W 49 rfl) (W 64 rfl) (by decide) (rm_bl0 l Z a0 hw [] b2 wc kc xr0 xr1 _ T2.heap n0 zz2 f4 f5 f2_0) rfl pre3 hml rfl (D 4 rfl) (lenOf pd18 rfl) rfl (W := 0) rfl (by decide)
 obtain ⟨rfl, M6, e6⟩ := hQ6
 have N6 := Fr.app N2 M6
 have pre7 : oP p e bw G T6 m 9 #[vR rb, vR b2, vU] [(.int (F_rm_bl0 xr0 xr1))] := pc6
 rw [show (F_rm_bl0 xr0 xr1) = (own_len (own_bulks [])) from own_bl0  _ _] at pre7
 have hbl : (own_bulks []).length ≤ 40 := Nat.zero_le _
 have hbk : (own_bulks []).length ≤ 1000 := Nat.le_trans hbl (by decide)
 obtain ⟨T8, h8, k8, X8, e8, E8, A8, x8, st8⟩ := newPE X6 hx hZ (W 21 rfl) e6 (g := (own_g pre7)) rfl (D 5 rfl) rfl (own_nn hbk) (cap := 40) (own_cap hbl (by decide)) (by decide) (by decide) (by decide) (ad := "[B") rfl
 obtain ⟨b8, g8⟩ := own_ex T2.heap.size
 rw [← g8] at A8 st8 x8
 have g_b8 : n0 ≤ b8 := Nat.le_trans zz2 (Nat.le_of_eq g8.symm)
 have sz_b8 : h0.size ≤ b8 := Nat.le_trans K2.1 (Nat.le_of_eq g8.symm)
 have K8 : Keep h0 h8 ([] : List Addr) := K2.ext E8
 have z8 : n0 ≤ h8.size := Nat.le_trans Z0 K8.1
 have V_b8 : Arv Z h8 b8 k8 .byte (own_len (own_bulks [])) ((List.replicate ((own_len (own_bulks []))).toNatClampNeg (0 : Int32)).map Value.int) (.int 0) := (Arv.new A8 (own_nn hbk)).pad (own_rep _)
 have pre9 : oP p e bw G T8 m 12 #[vR rb, vR b2, vR b8] [] := by
  intro t k
  refine pre7 t (st8 t ?_)
  refine XS.astoreN X8.here hx rfl (D 6 rfl) rfl rfl (l' := #[vR rb, vR b2, vR b8]) rfl ?_
  exact k
 have vc10 : Arv Z h8 b8 k8 .byte (own_len (own_bulks [])) ((own_zs (own_bulks [])).map Value.int) (.int 0) := own_cv (rfl) V_b8
 have pre11 : oP p e bw G T8 m 15 #[vR rb, vR b2, vR b8] [(.ref b2), (.int 0), (.ref b8)] := by
  intro t k
  refine pre9 t ?_
  refine XS.aloadN X8.here hx rfl (D 7 rfl) rfl rfl ?_
  refine XS.iconst X8.here hx rfl (D 8 rfl) ?_
  refine XS.aloadN X8.here hx rfl (D 9 rfl) rfl rfl ?_
  exact k
 have f12 := (f4.ext E8)
 have f13 := (f5.ext E8)
 have f14 := (f2_0.ext E8)
 have ne15 := (Nat.ne_of_lt (Nat.lt_of_lt_of_le f5.lt (Nat.le_of_eq g8.symm)))
 have ne16 := (Nat.ne_of_lt (Nat.lt_of_lt_of_le f2_0.lt (Nat.le_of_eq g8.symm)))
 obtain ⟨_, T17, Lc17, X17, hQ17, pc17⟩ := own_call X8 hx hZ hown (W 65 rfl) (W 66 rfl) (W 49 rfl) (W 67 rfl) (by decide) (rm_pb0 l Z a0 hw [] b8 b2 wc kc xr0 xr1 k8 _ _ _ ([] : List Int32) (own_zs (own_bulks [])) h8 n0 z8 f12 f13 vc10 f14 x8 (g_b8) (rfl) (own_lz (own_zL hbk).symm) (by rw [List.nil_append, own_zL hbk]; exact hbk) (own_zL hbk) (ne15) (ne16)) e8 pre11 hml rfl (D 10 rfl) (lenOf pd19 rfl) rfl (W := 0) rfl (by decide)
 obtain ⟨rfl, M17, kp17, f17_0⟩ := hQ17
 have K17 : Keep h0 T17.heap ([] : List Addr) := K8.trans kp17 all0
 have zz17 : n0 ≤ T17.heap.size := Nat.le_trans Z0 K17.1
 have N17 := Fr.app N6 M17
 have pre18 : oP p e bw G T17 m 18 #[vR rb, vR b2, vR b8] [] := pc17
 have vc19 : Arv Z T17.heap b8 k8 .byte (own_len (own_bulks [])) ((own_bulks []).map Value.int) (.int 0) := own_cv ((List.nil_append _).symm) f17_0
 have pre20 : oP p e bw G T17 m 19 #[vR rb, vR b2, vR b8] [(.ref b8)] := by
  intro t k
  refine pre18 t ?_
  refine XS.aloadN X17.here hx rfl (D 11 rfl) rfl rfl ?_
  exact k
 obtain ⟨fs, hr, hrun, hended, hW, hsame⟩ := X17.leave (hlocks := Bd.notSynchronized) (v := some (.ref b8)) (fun h => by rw [Bd.returns] at h; cases h)
 subst hG
 refine ⟨_, _, pre20 _ ?_, hrun, hended, _, _, rfl, ?_, ⟨_, rfl⟩, hW, hsame.mono (by decide) (by decide)⟩
 ·exact retOut X17 hx Bd.returns rfl (Or.inr (Or.inr (Or.inr (Or.inr ⟨rfl, rfl, rfl⟩)))) (D 12 rfl) hr
 ·show Q_rm_bs0 Z rb xcs wu wc kc xr0 xr1 ka h0 n0 _ T17.heap _
  exact ⟨k8, b8, rfl, N17, g_b8, sz_b8, K17, vc19, (x8.keep kp17)⟩
theorem pd20 : parseMethodDescriptor "([Ljava/lang/String;)[B" = some ⟨[(.array (.object "java/lang/String"))], some (.array .byte)⟩ := by decide +kernel
theorem pd21 : parseMethodDescriptor "(I[B)V" = some ⟨[.int, (.array .byte)], none⟩ := by decide +kernel
theorem ef_rm_hd0 (m : MethodId) (rb : Addr) : entryFrame m #[(.ref rb)] 1 = mkF m 0 #[vR rb] [] := by simp [entryFrame, mkF, argsToLocals, Value.category]
def Q_rm_hd0 (Z : State) (rb : Addr) (xcs : Int32) (wu : Addr) (wc : Addr) (kc : ClassId) (xr0 : Int32) (xr1 : Int32) (ka : ClassId) (h0 : Heap) (n0 : Nat) (v : Option Value) (h : Heap) (L : List Loc) : Prop := ∃ re : Addr, ∃ ke : ClassId, ∃ bo : Addr, v = some (.ref bo) ∧ Fr n0 L ∧ n0 ≤ bo ∧ h0.size ≤ bo ∧ Keep h0 h ([] : List Addr) ∧ Exa Z h bo oS0 ∧ Fld Z h bo oS0 "count" "I" (.int 0) ∧ Fld Z h bo oS0 "encoded" "[B" (.ref re) ∧ Fld Z h bo oS0 "last" oS4 .null ∧ Arv Z h re ke .byte (own_len (own_bulks [])) ((own_bulks []).map Value.int) (.int 0) ∧ Exa Z h re "[B"
set_option maxRecDepth 65536 in
set_option maxHeartbeats 40000000 in
theorem rm_hd0 (l : Launch) (Z : State) (a0 : Array Value) (hw : ∀ d ∈ tables_1, d.before a0 Z = true) (ws : List Jvm.Cond) (rb : Addr) (xcs : Int32) (wu : Addr) (wc : Addr) (kc : ClassId) (xr0 : Int32) (xr1 : Int32) (ka : ClassId) (h0 : Heap) (n0 : Nat) (Z0 : n0 ≤ h0.size) (SC : Sta Z h0 "java/lang/String" "COMPACT_STRINGS" "Z" (.int xcs)) (hcs : ¬ (xcs = (0 : Int32))) (SI : Sta Z h0 "sun/nio/cs/UTF_8" "INSTANCE" oS7 (.ref wu)) (SU : Sta Z h0 oS5 "UTF_8" oS6 (.ref wu)) (SR : Sta Z h0 oS1 "CRLF" "[B" (.ref wc)) (VR : Arv Z h0 wc kc .byte (2 : Int32) [(.int xr0), (.int xr1)] (.int 0)) (VA : Arv Z h0 rb ka (.object "java/lang/String") (0 : Int32) [] .null) :
  oMet l oM12 prog_10_method_3_code 1 (some (.object oS0)) ws (oR 2 3 43 36) #[(.ref rb)] Z h0 (Q_rm_hd0 Z rb xcs wu wc kc xr0 xr1 ka h0 n0) := by
 refine MetFree.of_bodySF (plainFor_of_name pn3) hisR ?_
 have W := own_W hw
 intro p e s m args bw meth c s₁ Bd hml0 hP hK
 obtain ⟨rfl, hZ, hh⟩ := hP
 have hx := Bd.exec
 have hby := Bd.bytes
 have hml : c.maxLocals = 1 := hml0
 have hown : s.vm.findClass oS1 = some m.cls := findClass_of_methodNamed Bd.named
 have hnm := (name_of_methodNamed Bd.named Bd.method).1
 have X0 : Stand p l e (oR 2 3 43 36) s m #[(.ref rb)] bw meth c s₁ [] 0 0 := Stand.of_body Bd
 have e0 : s₁.heap = h0 := by rw [← hh, Bd.state]; rfl
 have N0 := Fr.nil n0
 have D := own_D hby dB11
 obtain ⟨G, hG⟩ := own_ex fun t => Steps p.tables e bw (s₁.setTop (entryFrame m #[(.ref rb)] 1)) t
 have pre0 : oP p e bw G s₁ m 0 #[vR rb] [] := by intro t k; subst hG; exact castTop (ef_rm_hd0 m rb) k
 obtain ⟨T1, h1, X1, e1, E1, A1, D1, -, st1⟩ := newO X0 hx hZ hown (W 51 rfl) (W 52 rfl) (W 53 rfl) e0 (g := (own_g pre0)) rfl (D 0 rfl) (by decide) (by decide)
 obtain ⟨b1, g1⟩ := own_ex h0.size
 rw [← g1] at A1 D1 st1
 have g_b1 : n0 ≤ b1 := Nat.le_trans Z0 (Nat.le_of_eq g1.symm)
 have sz_b1 : h0.size ≤ b1 := Nat.le_trans (Keep.refl h0 ([] : List Addr)).1 (Nat.le_of_eq g1.symm)
 have K1 : Keep h0 h1 ([] : List Addr) := (Keep.refl h0 ([] : List Addr)).ext E1
 have z1 : n0 ≤ h1.size := Nat.le_trans Z0 K1.1
 have F_count_b1 : Fld Z h1 b1 oS0 "count" "I" (.int 0) := D1 (Or.inr (W 73 rfl)) (ty := .int) (by decide)
 have F_encoded_b1 : Fld Z h1 b1 oS0 "encoded" "[B" .null := D1 (Or.inr (W 75 rfl)) (ty := (.array .byte)) (by decide)
 have F_last_b1 : Fld Z h1 b1 oS0 "last" oS4 .null := D1 (Or.inl (W 82 rfl)) (ty := (.object oS2)) (by decide)
 have pre2 : oP p e bw G T1 m 5 #[vR rb] [(.ref rb), (.ref b1), (.ref b1)] := by
  intro t k
  refine pre0 t (st1 t ?_)
  refine XS.dup X1.here hx rfl (D 1 rfl) rfl rfl ?_
  refine XS.aloadN X1.here hx rfl (D 2 rfl) rfl rfl ?_
  exact k
 have pre4 : oP p e bw G T1 m 7 #[vR rb] [(.ref rb), (.int 0), (.ref b1), (.ref b1)] := by
  intro t k
  refine pre2 t ?_
  obtain ⟨c3, a3, q3, s3, m3, i3, u3⟩ := id (VA.ext E1)
  refine X1.arraylength hx (by rw [e1]; exact a3.1) (State.isArrayOf_alike hZ.alike a3.2.1) (g := (own_g pre2)) rfl rfl (D 3 rfl) _ ?_
  rw [len_of s3 m3]
  refine XS.aloadN X1.here hx rfl (D 4 rfl) rfl rfl ?_
  exact k
 have f5 := (SC.ext E1)
 have f6 := (SI.ext E1)
 have f7 := (SU.ext E1)
 have f8 := (SR.ext E1)
 have f9 := (VR.ext E1)
 have f10 := (VA.ext E1)
 obtain ⟨_, T11, Lc11, X11, hQ11, pc11⟩ := own_call X1 hx hZ hown (W 54 rfl) (W 55 rfl) (W 49 rfl) (W 56 rfl) (by decide) (rm_bs0 l Z a0 hw [] rb xcs wu wc kc xr0 xr1 ka h1 n0 z1 f5 (hcs) f6 f7 f8 f9 f10) e1 pre4 hml rfl (D 5 rfl) (lenOf pd20 rfl) rfl (W := 3) rfl (by decide)
 obtain ⟨ke_11, b11, rfl, M11, g_b11, zs11, kp11, f11_0, f11_1⟩ := hQ11
 have sz_b11 : h0.size ≤ b11 := Nat.le_trans K1.1 zs11
 have K11 : Keep h0 T11.heap ([] : List Addr) := K1.trans kp11 all0
 have zz11 : n0 ≤ T11.heap.size := Nat.le_trans Z0 K11.1
 have N11 := Fr.app N0 M11
 have pre12 : oP p e bw G T11 m 10 #[vR rb] [(.ref b11), (.int 0), (.ref b1), (.ref b1)] := pc11
 have f13 := (A1.keep kp11)
 have f14 := (F_count_b1.keep kp11 nin0)
 have f15 := (F_encoded_b1.keep kp11 nin0)
 have f16 := (F_last_b1.keep kp11 nin0)
 obtain ⟨_, _, ⟨T17, L17, k17, n17⟩, -, X17, ⟨Lc17, hQ17, l17, y17, z17⟩, st17⟩ := own_specialRef X11 hx hZ (y := oM5) rfl hown (W 68 rfl) (W 69 rfl) (mvT hZ (W 69 rfl)) (mvT hZ (W 70 rfl)) (by decide) (backOf (W := 1) (rm_hi l Z a0 hw [] b1 (0 : Int32) b11 T11.heap n0 zz11 f13 (g_b1) f14 f15 f16) hZ (W 70 rfl) (W 53 rfl) (by decide) (by decide)) (g := (own_g pre12)) rfl (by rw [hml]; rfl) (Steps.refl _) (a := b1) (argsL := [(.int 0), (.ref b11)]) (rest := [(.ref b1)]) (lenOf pd21 rfl) rfl (by show 2 * 0 + _ ≤ _; exact Nat.le_of_eq rfl) (D 6 rfl) (fun _ _ => ⟨rfl, rfl, (by decide : 3 + 0 ≤ _), (by decide : 43 + 0 ≤ _)⟩)
 dsimp only [Pt.U, Pt.locs, Pt.cells, Pt.slots] at X17 l17 y17 z17 st17 hQ17
 subst y17 z17
 obtain ⟨rfl, M17, kp17, f17_0, f17_1, f17_2, f17_3⟩ := hQ17
 have K17 : Keep h0 T17.heap ([] : List Addr) := K11.trans kp17 (allS (P := fun x => x ∈ ([] : List Addr) ∨ h0.size ≤ x) (Or.inr sz_b1) all0)
 have zz17 : n0 ≤ T17.heap.size := Nat.le_trans Z0 K17.1
 have N17 : Fr n0 L17 := by rw [l17]; exact Fr.app N11 M17
 clear l17
 have pre18 : oP p e bw G T17 m 13 #[vR rb] [(.ref b1)] := fun t k => pre12 t (st17.trans k)
 obtain ⟨fs, hr, hrun, hended, hW, hsame⟩ := X17.leave (hlocks := Bd.notSynchronized) (v := some (.ref b1)) (fun h => by rw [Bd.returns] at h; cases h)
 subst hG
 refine ⟨_, _, pre18 _ ?_, hrun, hended, _, _, rfl, ?_, ⟨_, rfl⟩, hW, hsame.mono (by decide) (by decide)⟩
 ·exact retOut X17 hx Bd.returns rfl (Or.inr (Or.inr (Or.inr (Or.inr ⟨rfl, rfl, rfl⟩)))) (D 7 rfl) hr
 ·show Q_rm_hd0 Z rb xcs wu wc kc xr0 xr1 ka h0 n0 _ T17.heap _
  have ne19 := (Ne.symm (Nat.ne_of_lt (Nat.lt_of_lt_of_le A1.lt zs11)))
  exact ⟨b11, ke_11, b1, rfl, N17, g_b1, sz_b1, K17, f17_0, f17_1, f17_2, f17_3, (f11_0.keep kp17 (ninS ne19 nin0)), (f11_1.keep kp17)⟩
theorem pd22 : parseMethodDescriptor "(Ljava/nio/charset/Charset;)[B" = some ⟨[(.object "java/nio/charset/Charset")], some (.array .byte)⟩ := by decide +kernel
theorem ef_rm_u1 (m : MethodId) (rb : Addr) : entryFrame m #[(.ref rb)] 3 = mkF m 0 #[vR rb, vU, vU] [] := by simp [entryFrame, mkF, argsToLocals, Value.category]
def Q_rm_u1 (Z : State) (rb : Addr) (xcs : Int32) (wu : Addr) (ka : ClassId) (rw0 : Addr) (ry0 : Addr) (ky0 : ClassId) (lw0 : List Int32) (h0 : Heap) (n0 : Nat) (v : Option Value) (h : Heap) (L : List Loc) : Prop := ∃ ko : ClassId, ∃ ro0 : Addr, ∃ ko0 : ClassId, ∃ bo : Addr, v = some (.ref bo) ∧ Fr n0 L ∧ n0 ≤ bo ∧ h0.size ≤ bo ∧ Keep h0 h ([] : List Addr) ∧ Arv Z h bo ko (.array .byte) (1 : Int32) [(.ref ro0)] .null ∧ Arv Z h ro0 ko0 .byte (own_len (own_enc lw0)) ((own_enc lw0).map Value.int) (.int 0) ∧ Exa Z h ro0 "[B"
set_option maxRecDepth 65536 in
set_option maxHeartbeats 40000000 in
theorem rm_u1 (l : Launch) (Z : State) (a0 : Array Value) (hw : ∀ d ∈ tables_1, d.before a0 Z = true) (ws : List Jvm.Cond) (rb : Addr) (xcs : Int32) (wu : Addr) (ka : ClassId) (rw0 : Addr) (ry0 : Addr) (ky0 : ClassId) (lw0 : List Int32) (h0 : Heap) (n0 : Nat) (Z0 : n0 ≤ h0.size) (SC : Sta Z h0 "java/lang/String" "COMPACT_STRINGS" "Z" (.int xcs)) (hcs : ¬ (xcs = (0 : Int32))) (SI : Sta Z h0 "sun/nio/cs/UTF_8" "INSTANCE" oS7 (.ref wu)) (SU : Sta Z h0 oS5 "UTF_8" oS6 (.ref wu)) (VA : Arv Z h0 rb ka (.object "java/lang/String") (1 : Int32) [(.ref rw0)] .null) (EW0 : Exa Z h0 rw0 "java/lang/String") (FW0 : Fld Z h0 rw0 "java/lang/String" "value" "[B" (.ref ry0)) (CW0 : Fld Z h0 rw0 "java/lang/String" "coder" "B" (.int 0)) (VW0 : Arv Z h0 ry0 ky0 .byte (own_len lw0) (lw0.map Value.int) (.int 0)) (EY0 : Exa Z h0 ry0 "[B") (hl_0 : lw0.length ≤ 5) (hbs0 : ∀ x ∈ lw0, nar .byte x = x) :
  oMet l oM10 prog_10_method_13_code 3 (some (.array (.array .byte))) ws (oR 5 3 21 81) #[(.ref rb)] Z h0 (Q_rm_u1 Z rb xcs wu ka rw0 ry0 ky0 lw0 h0 n0) := by
 refine MetFree.of_bodySF (plainFor_of_name pn3) hisR ?_
 have W := own_W hw
 intro p e s m args bw meth c s₁ Bd hml0 hP hK
 obtain ⟨rfl, hZ, hh⟩ := hP
 have hx := Bd.exec
 have hby := Bd.bytes
 have hml : c.maxLocals = 3 := hml0
 have hown : s.vm.findClass oS1 = some m.cls := findClass_of_methodNamed Bd.named
 have hnm := (name_of_methodNamed Bd.named Bd.method).1
 have X0 : Stand p l e (oR 5 3 21 81) s m #[(.ref rb)] bw meth c s₁ [] 0 0 := Stand.of_body Bd
 have e0 : s₁.heap = h0 := by rw [← hh, Bd.state]; rfl
 have N0 := Fr.nil n0
 have D := own_D hby dB13
 obtain ⟨G, hG⟩ := own_ex fun t => Steps p.tables e bw (s₁.setTop (entryFrame m #[(.ref rb)] 3)) t
 have pre0 : oP p e bw G s₁ m 0 #[vR rb, vU, vU] [] := by intro t k; subst hG; exact castTop (ef_rm_u1 m rb) k
 have pre1 : oP p e bw G s₁ m 1 #[vR rb, vU, vU] [(.ref rb)] := by
  intro t k
  refine pre0 t ?_
  refine XS.aloadN X0.here hx rfl (D 0 rfl) rfl rfl ?_
  exact k
 have pre3 : oP p e bw G s₁ m 2 #[vR rb, vU, vU] [(.int 1)] := by
  intro t k
  refine pre1 t ?_
  obtain ⟨c2, a2, q2, s2, m2, i2, u2⟩ := id VA
  refine X0.arraylength hx (by rw [e0]; exact a2.1) (State.isArrayOf_alike hZ.alike a2.2.1) (g := (own_g pre1)) rfl rfl (D 1 rfl) _ ?_
  rw [len_of s2 m2]
  exact k
 obtain ⟨T4, h4, k4, X4, e4, E4, A4, x4, O4, st4⟩ := newRA X0 hx hZ (C := "[B") (ty := .byte) hown rfl (W 60 rfl) (W 61 rfl) e0 (g := (own_g pre3)) rfl (D 2 rfl) rfl (by decide) (cap := 1) (by decide) (by decide) (by decide) (by decide) (ad := "[[B") rfl
 obtain ⟨b4, g4⟩ := own_ex h0.size
 rw [← g4] at A4 st4 x4
 have g_b4 : n0 ≤ b4 := Nat.le_trans Z0 (Nat.le_of_eq g4.symm)
 have sz_b4 : h0.size ≤ b4 := Nat.le_trans (Keep.refl h0 ([] : List Addr)).1 (Nat.le_of_eq g4.symm)
 have K4 : Keep h0 h4 ([] : List Addr) := (Keep.refl h0 ([] : List Addr)).ext E4
 have z4 : n0 ≤ h4.size := Nat.le_trans Z0 K4.1
 have V_b4 : Arv Z h4 b4 k4 (.array .byte) (1 : Int32) [.null] .null := (Arv.new A4 (by decide)).pad (pad_rep [] .null 1)
 have pre5 : oP p e bw G T4 m 10 #[vR rb, vR b4, vI 0] [(.ref rb), (.int 0)] := by
  intro t k
  refine pre3 t (st4 t ?_)
  refine XS.astoreN X4.here hx rfl (D 3 rfl) rfl rfl (l' := #[vR rb, vR b4, vU]) rfl ?_
  refine XS.iconst X4.here hx rfl (D 4 rfl) ?_
  refine XS.istoreN X4.here hx rfl (D 5 rfl) rfl (l' := #[vR rb, vR b4, vI 0]) rfl ?_
  refine XS.iloadN X4.here hx rfl (D 6 rfl) rfl ?_
  refine XS.aloadN X4.here hx rfl (D 7 rfl) rfl rfl ?_
  exact k
 have pre7 : oP p e bw G T4 m 18 #[vR rb, vR b4, vI 0] [(.int 0), (.ref rb), (.int 0), (.ref b4)] := by
  intro t k
  refine pre5 t ?_
  obtain ⟨c6, a6, q6, s6, m6, i6, u6⟩ := id (VA.ext E4)
  refine X4.arraylength hx (by rw [e4]; exact a6.1) (State.isArrayOf_alike hZ.alike a6.2.1) (g := (own_g pre5)) rfl rfl (D 8 rfl) _ ?_
  rw [len_of s6 m6]
  refine XS.icmpNo X4.here hx rfl (D 9 rfl) rfl (tlt (show (0 : Int32) < (1 : Int32) from by decide)).2.1 ?_
  refine XS.aloadN X4.here hx rfl (D 12 rfl) rfl rfl ?_
  refine XS.iloadN X4.here hx rfl (D 13 rfl) rfl ?_
  refine XS.aloadN X4.here hx rfl (D 14 rfl) rfl rfl ?_
  refine XS.iloadN X4.here hx rfl (D 15 rfl) rfl ?_
  exact k
 have pre9 : oP p e bw G T4 m 19 #[vR rb, vR b4, vI 0] [(.ref rw0), (.int 0), (.ref b4)] := by
  intro t k
  refine pre7 t ?_
  obtain ⟨c8, a8, q8, s8, m8, i8, u8⟩ := id (VA.ext E4)
  have hin8 := inb_of (j := (0 : Int32)) s8 ⟨by decide, by decide⟩
  refine X4.aaload hx (j := (0 : Int32)) (v := (.ref rw0)) (by rw [e4]; exact a8.1) (State.isArrayOf_alike hZ.alike a8.2.1) rfl a8.2.2 hin8 (i8.at hin8 rfl) (g := (own_g pre7)) rfl rfl (D 16 rfl) _ ?_
  exact k
 have f10 := (SU.ext E4)
 obtain ⟨T11, X11, e11, st11⟩ := getS2 X4 hx hZ hown (host := "") (Or.inl (W 125 rfl)) Via.refl e4 f10 (g := (own_g pre9)) rfl (D 17 rfl)
 have pre12 : oP p e bw G T11 m 22 #[vR rb, vR b4, vI 0] [(.ref wu), (.ref rw0), (.int 0), (.ref b4)] := fun t k => pre9 t (st11 t k)
 have f13 := (SC.ext E4)
 have f14 := (SI.ext E4)
 have f15 := (FW0.ext E4)
 have f16 := (CW0.ext E4)
 have f17 := (VW0.ext E4)
 have f18 := (EY0.ext E4)
 have f19 := (EW0.ext E4)
 obtain ⟨cq20, kq20, q20a, q20b, q20c⟩ := isOf hZ e11 f19
 obtain ⟨_, _, ⟨T20, L20, k20, n20⟩, -, X20, ⟨Lc20, hQ20, l20, y20, z20⟩, st20⟩ := X11.virtualBack hx (y := oM4) (z := oM4) hown (mvT hZ (W 127 rfl)) (mvT hZ (W 128 rfl)) (notFace_of_selects (args := #[]) (mvT hZ (W 130 rfl))) (mvT hZ (W 130 rfl)) (mvT hZ (W 129 rfl)) (by decide) (backOf (W := 2) (rm_gb l Z a0 hw [] rw0 wu xcs ry0 ky0 lw0 h4 n0 z4 f13 (hcs) f14 f15 f16 f17 f18 (hl_0) (hbs0) f19) hZ (W 131 rfl) (W 5 rfl) (by decide) (by decide)) q20a q20c (g := (own_g pre12)) rfl (by rw [hml]; rfl) (Steps.refl _) (argsL := [(.ref wu)]) (rest := [(.int 0), (.ref b4)]) (lenOf pd22 rfl) rfl (by show 2 * 0 + _ ≤ _; exact Nat.le_of_eq rfl) (D 18 rfl) (fun _ _ => ⟨rfl, e11, (by decide : 1 + 2 ≤ _), (by decide : 1 + 20 ≤ _)⟩)
 dsimp only [Pt.U, Pt.locs, Pt.cells, Pt.slots] at X20 l20 y20 z20 st20 hQ20
 subst y20 z20
 obtain ⟨kb_20, b20, rfl, M20, g_b20, zs20, kp20, f20_0, f20_1⟩ := hQ20
 have sz_b20 : h0.size ≤ b20 := Nat.le_trans K4.1 zs20
 have K20 : Keep h0 T20.heap ([] : List Addr) := K4.trans kp20 all0
 have zz20 : n0 ≤ T20.heap.size := Nat.le_trans Z0 K20.1
 have N20 : Fr n0 L20 := by rw [l20]; exact Fr.app N0 M20
 clear l20
 have pre21 : oP p e bw G T20 m 25 #[vR rb, vR b4, vI 0] [(.ref b20), (.int 0), (.ref b4)] := fun t k => pre12 t (st20.trans k)
 have f23 := (V_b4.keep kp20 nin0)
 obtain ⟨c22, a22, q22, s22, m22, i22, u22⟩ := id f23
 obtain ⟨T24, h24, X24, e24, W24, st24⟩ := stR X20 hx hZ rfl a22 (j := (0 : Int32)) (inb_of s22 ⟨by decide, by decide⟩) rfl (Sto.ofVA a22 q22 O4 (Ins.self f20_1)) (g := (own_g pre21)) rfl rfl (D 19 rfl)
 have K24 : Keep h0 h24 ([] : List Addr) := K20.wr W24 (Or.inr sz_b4)
 have z24 : n0 ≤ h24.size := Nat.le_trans Z0 K24.1
 have N24 := Fr.snoc X24 N20 g_b4
 have V24 : Arv Z h24 b4 k4 (.array .byte) (1 : Int32) [(.ref b20)] .null := Arv.set a22 q22 s22 m22 i22 u22 rfl W24 0 rfl (Nat.le_of_ble_eq_true rfl)
 have pre25 : oP p e bw G T24 m 10 #[vR rb, vR b4, vI 1] [(.ref rb), (.int 1)] := by
  intro t k
  refine pre21 t (st24 t ?_)
  refine XS.iinc X24.here hx rfl (D 20 rfl) rfl (l' := #[vR rb, vR b4, vI 1]) rfl ?_
  refine XS.goto X24.here hx rfl (pc0 := 29) (pc' := 8) rfl (D 21 rfl) (by decide) (by decide) ?_
  refine XS.iloadN X24.here hx rfl (D 6 rfl) rfl ?_
  refine XS.aloadN X24.here hx rfl (D 7 rfl) rfl rfl ?_
  exact k
 have ne26 := (Nat.ne_of_lt (Nat.lt_of_lt_of_le VA.lt (Nat.le_of_eq g4.symm)))
 have pre28 : oP p e bw G T24 m 33 #[vR rb, vR b4, vI 1] [(.ref b4)] := by
  intro t k
  refine pre25 t ?_
  obtain ⟨c27, a27, q27, s27, m27, i27, u27⟩ := id (((VA.ext E4).keep kp20 nin0).other W24 ne26)
  refine X24.arraylength hx (by rw [e24]; exact a27.1) (State.isArrayOf_alike hZ.alike a27.2.1) (g := (own_g pre25)) rfl rfl (D 8 rfl) _ ?_
  rw [len_of s27 m27]
  refine XS.icmpYes X24.here hx rfl (pc0 := 11) (pc' := 32) rfl (D 9 rfl) rfl (flt (show ¬ ((1 : Int32) < (1 : Int32)) from by decide)).2.1 (by decide) (by decide) ?_
  refine XS.aloadN X24.here hx rfl (D 10 rfl) rfl rfl ?_
  exact k
 obtain ⟨fs, hr, hrun, hended, hW, hsame⟩ := X24.leave (hlocks := Bd.notSynchronized) (v := some (.ref b4)) (fun h => by rw [Bd.returns] at h; cases h)
 subst hG
 refine ⟨_, _, pre28 _ ?_, hrun, hended, _, _, rfl, ?_, ⟨_, rfl⟩, hW, hsame.mono (by decide) (by decide)⟩
 ·exact retOut X24 hx Bd.returns rfl (Or.inr (Or.inr (Or.inr (Or.inr ⟨rfl, rfl, rfl⟩)))) (D 11 rfl) hr
 ·show Q_rm_u1 Z rb xcs wu ka rw0 ry0 ky0 lw0 h0 n0 _ T24.heap _
  rw [e24]
  have ne29 := (Ne.symm (Nat.ne_of_lt (Nat.lt_of_lt_of_le x4.lt zs20)))
  exact ⟨k4, b20, kb_20, b4, rfl, N24, g_b4, sz_b4, K24, V24, (f20_0.other W24 ne29), (f20_1.wr W24)⟩
theorem ef_rm_bs1 (m : MethodId) (rb : Addr) : entryFrame m #[(.ref rb)] 3 = mkF m 0 #[vR rb, vU, vU] [] := by simp [entryFrame, mkF, argsToLocals, Value.category]
def Q_rm_bs1 (Z : State) (rb : Addr) (xcs : Int32) (wu : Addr) (wc : Addr) (kc : ClassId) (xr0 : Int32) (xr1 : Int32) (ka : ClassId) (rw0 : Addr) (ry0 : Addr) (ky0 : ClassId) (lw0 : List Int32) (h0 : Heap) (n0 : Nat) (v : Option Value) (h : Heap) (L : List Loc) : Prop := ∃ ke : ClassId, ∃ bo : Addr, v = some (.ref bo) ∧ Fr n0 L ∧ n0 ≤ bo ∧ h0.size ≤ bo ∧ Keep h0 h ([] : List Addr) ∧ Arv Z h bo ke .byte (own_len (own_bulks [(own_enc lw0)])) ((own_bulks [(own_enc lw0)]).map Value.int) (.int 0) ∧ Exa Z h bo "[B"
set_option maxRecDepth 65536 in
set_option maxHeartbeats 40000000 in
theorem rm_bs1 (l : Launch) (Z : State) (a0 : Array Value) (hw : ∀ d ∈ tables_1, d.before a0 Z = true) (ws : List Jvm.Cond) (rb : Addr) (xcs : Int32) (wu : Addr) (wc : Addr) (kc : ClassId) (xr0 : Int32) (xr1 : Int32) (ka : ClassId) (rw0 : Addr) (ry0 : Addr) (ky0 : ClassId) (lw0 : List Int32) (h0 : Heap) (n0 : Nat) (Z0 : n0 ≤ h0.size) (SC : Sta Z h0 "java/lang/String" "COMPACT_STRINGS" "Z" (.int xcs)) (hcs : ¬ (xcs = (0 : Int32))) (SI : Sta Z h0 "sun/nio/cs/UTF_8" "INSTANCE" oS7 (.ref wu)) (SU : Sta Z h0 oS5 "UTF_8" oS6 (.ref wu)) (SR : Sta Z h0 oS1 "CRLF" "[B" (.ref wc)) (VR : Arv Z h0 wc kc .byte (2 : Int32) [(.int xr0), (.int xr1)] (.int 0)) (VA : Arv Z h0 rb ka (.object "java/lang/String") (1 : Int32) [(.ref rw0)] .null) (EW0 : Exa Z h0 rw0 "java/lang/String") (FW0 : Fld Z h0 rw0 "java/lang/String" "value" "[B" (.ref ry0)) (CW0 : Fld Z h0 rw0 "java/lang/String" "coder" "B" (.int 0)) (VW0 : Arv Z h0 ry0 ky0 .byte (own_len lw0) (lw0.map Value.int) (.int 0)) (EY0 : Exa Z h0 ry0 "[B") (hl_0 : lw0.length ≤ 5) (hbs0 : ∀ x ∈ lw0, nar .byte x = x) :
  oMet l oM11 prog_10_method_12_code 3 (some (.array .byte)) ws (oR 6 4 61 95) #[(.ref rb)] Z h0 (Q_rm_bs1 Z rb xcs wu wc kc xr0 xr1 ka rw0 ry0 ky0 lw0 h0 n0) := by
 refine MetFree.of_bodySF (plainFor_of_name pn3) hisR ?_
 have W := own_W hw
 intro p e s m args bw meth c s₁ Bd hml0 hP hK
 obtain ⟨rfl, hZ, hh⟩ := hP
 have hx := Bd.exec
 have hby := Bd.bytes
 have hml : c.maxLocals = 3 := hml0
 have hown : s.vm.findClass oS1 = some m.cls := findClass_of_methodNamed Bd.named
 have hnm := (name_of_methodNamed Bd.named Bd.method).1
 have X0 : Stand p l e (oR 6 4 61 95) s m #[(.ref rb)] bw meth c s₁ [] 0 0 := Stand.of_body Bd
 have e0 : s₁.heap = h0 := by rw [← hh, Bd.state]; rfl
 have N0 := Fr.nil n0
 have D := own_D hby dB12
 obtain ⟨G, hG⟩ := own_ex fun t => Steps p.tables e bw (s₁.setTop (entryFrame m #[(.ref rb)] 3)) t
 have pre0 : oP p e bw G s₁ m 0 #[vR rb, vU, vU] [] := by intro t k; subst hG; exact castTop (ef_rm_bs1 m rb) k
 have pre1 : oP p e bw G s₁ m 1 #[vR rb, vU, vU] [(.ref rb)] := by
  intro t k
  refine pre0 t ?_
  refine XS.aloadN X0.here hx rfl (D 0 rfl) rfl rfl ?_
  exact k
 obtain ⟨_, T2, Lc2, X2, hQ2, pc2⟩ := own_call X0 hx hZ hown (W 57 rfl) (W 58 rfl) (W 49 rfl) (W 59 rfl) (by decide) (rm_u1 l Z a0 hw [] rb xcs wu ka rw0 ry0 ky0 lw0 h0 n0 Z0 SC (hcs) SI SU VA EW0 FW0 CW0 VW0 EY0 (hl_0) (hbs0)) e0 pre1 hml rfl (D 1 rfl) (lenOf pd17 rfl) rfl (W := 0) rfl (by decide)
 obtain ⟨ko_2, ro0_2, ko0_2, b2, rfl, M2, g_b2, zs2, kp2, f2_0, f2_1, f2_2⟩ := hQ2
 have sz_b2 : h0.size ≤ b2 := Nat.le_trans (Keep.refl h0 ([] : List Addr)).1 zs2
 have K2 : Keep h0 T2.heap ([] : List Addr) := (Keep.refl h0 ([] : List Addr)).trans kp2 all0
 have zz2 : n0 ≤ T2.heap.size := Nat.le_trans Z0 K2.1
 have N2 := Fr.app N0 M2
 have pre3 : oP p e bw G T2 m 6 #[vR rb, vR b2, vU] [(.ref b2)] := by
  intro t k
  refine pc2 t ?_
  refine XS.astoreN X2.here hx rfl (D 2 rfl) rfl rfl (l' := #[vR rb, vR b2, vU]) rfl ?_
  refine XS.aloadN X2.here hx rfl (D 3 rfl) rfl rfl ?_
  exact k
 have f4 := (SR.ext (own_keep_ext kp2))
 have f5 := (VR.keep kp2 nin0)
 obtain ⟨_, T6, Lc6, X6, hQ6, pc6⟩ := own_call X2 hx hZ hown (W 62 rfl) (W 63 rfl) (W 49 rfl) (W 64 rfl) (by decide) (rm_bl1 l Z a0 hw [] b2 wc kc xr0 xr1 _ _ _ _ _ T2.heap n0 zz2 f4 f5 f2_0 f2_1 (own_99 (own_w99 hl_0))) rfl pre3 hml rfl (D 4 rfl) (lenOf pd18 rfl) rfl (W := 0) rfl (by decide)
 obtain ⟨rfl, M6, e6⟩ := hQ6
 have N6 := Fr.app N2 M6
 have pre7 : oP p e bw G T6 m 9 #[vR rb, vR b2, vU] [(.int (F_rm_bl1 xr0 xr1 (own_len (own_enc lw0)) (own_enc lw0)))] := pc6
 rw [show (F_rm_bl1 xr0 xr1 (own_len (own_enc lw0)) (own_enc lw0)) = (own_len (own_bulks [(own_enc lw0)])) from own_bl1 (own_w99 hl_0) _ _] at pre7
 have hbl : (own_bulks [(own_enc lw0)]).length ≤ 40 := by have := own_bs1 (own_w99 hl_0); have := own_encL lw0; omega
 have hbk : (own_bulks [(own_enc lw0)]).length ≤ 1000 := Nat.le_trans hbl (by decide)
 obtain ⟨T8, h8, k8, X8, e8, E8, A8, x8, st8⟩ := newPE X6 hx hZ (W 21 rfl) e6 (g := (own_g pre7)) rfl (D 5 rfl) rfl (own_nn hbk) (cap := 40) (own_cap hbl (by decide)) (by decide) (by decide) (by decide) (ad := "[B") rfl
 obtain ⟨b8, g8⟩ := own_ex T2.heap.size
 rw [← g8] at A8 st8 x8
 have g_b8 : n0 ≤ b8 := Nat.le_trans zz2 (Nat.le_of_eq g8.symm)
 have sz_b8 : h0.size ≤ b8 := Nat.le_trans K2.1 (Nat.le_of_eq g8.symm)
 have K8 : Keep h0 h8 ([] : List Addr) := K2.ext E8
 have z8 : n0 ≤ h8.size := Nat.le_trans Z0 K8.1
 have V_b8 : Arv Z h8 b8 k8 .byte (own_len (own_bulks [(own_enc lw0)])) ((List.replicate ((own_len (own_bulks [(own_enc lw0)]))).toNatClampNeg (0 : Int32)).map Value.int) (.int 0) := (Arv.new A8 (own_nn hbk)).pad (own_rep _)
 have pre9 : oP p e bw G T8 m 12 #[vR rb, vR b2, vR b8] [] := by
  intro t k
  refine pre7 t (st8 t ?_)
  refine XS.astoreN X8.here hx rfl (D 6 rfl) rfl rfl (l' := #[vR rb, vR b2, vR b8]) rfl ?_
  exact k
 have vc10 : Arv Z h8 b8 k8 .byte (own_len (own_bulks [(own_enc lw0)])) ((own_zs (own_bulks [(own_enc lw0)])).map Value.int) (.int 0) := own_cv (rfl) V_b8
 have pre11 : oP p e bw G T8 m 15 #[vR rb, vR b2, vR b8] [(.ref b2), (.int 0), (.ref b8)] := by
  intro t k
  refine pre9 t ?_
  refine XS.aloadN X8.here hx rfl (D 7 rfl) rfl rfl ?_
  refine XS.iconst X8.here hx rfl (D 8 rfl) ?_
  refine XS.aloadN X8.here hx rfl (D 9 rfl) rfl rfl ?_
  exact k
 have f12 := (f4.ext E8)
 have f13 := (f5.ext E8)
 have f14 := (f2_0.ext E8)
 have ne15 := (Nat.ne_of_lt (Nat.lt_of_lt_of_le f5.lt (Nat.le_of_eq g8.symm)))
 have ne16 := (Nat.ne_of_lt (Nat.lt_of_lt_of_le f2_0.lt (Nat.le_of_eq g8.symm)))
 have f17 := (f2_1.ext E8)
 have ne18 := (Nat.ne_of_lt (Nat.lt_of_lt_of_le f2_1.lt (Nat.le_of_eq g8.symm)))
 obtain ⟨_, T19, Lc19, X19, hQ19, pc19⟩ := own_call X8 hx hZ hown (W 65 rfl) (W 66 rfl) (W 49 rfl) (W 67 rfl) (by decide) (rm_pb1 l Z a0 hw [] b8 b2 wc kc xr0 xr1 k8 _ _ _ ([] : List Int32) (own_zs (own_bulks [(own_enc lw0)])) _ _ _ h8 n0 z8 f12 f13 vc10 f14 x8 (g_b8) (rfl) (own_lz (own_zL hbk).symm) (by rw [List.nil_append, own_zL hbk]; exact hbk) (own_zL hbk) (ne15) (ne16) f17 ((own_w99 hl_0)) (ne18)) e8 pre11 hml rfl (D 10 rfl) (lenOf pd19 rfl) rfl (W := 0) rfl (by decide)
 obtain ⟨rfl, M19, kp19, f19_0⟩ := hQ19
 have K19 : Keep h0 T19.heap ([] : List Addr) := K8.trans kp19 (allS (P := fun x => x ∈ ([] : List Addr) ∨ h0.size ≤ x) (Or.inr sz_b8) all0)
 have zz19 : n0 ≤ T19.heap.size := Nat.le_trans Z0 K19.1
 have N19 := Fr.app N6 M19
 have pre20 : oP p e bw G T19 m 18 #[vR rb, vR b2, vR b8] [] := pc19
 have vc21 : Arv Z T19.heap b8 k8 .byte (own_len (own_bulks [(own_enc lw0)])) ((own_bulks [(own_enc lw0)]).map Value.int) (.int 0) := own_cv ((List.nil_append _).symm) f19_0
 have pre22 : oP p e bw G T19 m 19 #[vR rb, vR b2, vR b8] [(.ref b8)] := by
  intro t k
  refine pre20 t ?_
  refine XS.aloadN X19.here hx rfl (D 11 rfl) rfl rfl ?_
  exact k
 obtain ⟨fs, hr, hrun, hended, hW, hsame⟩ := X19.leave (hlocks := Bd.notSynchronized) (v := some (.ref b8)) (fun h => by rw [Bd.returns] at h; cases h)
 subst hG
 refine ⟨_, _, pre22 _ ?_, hrun, hended, _, _, rfl, ?_, ⟨_, rfl⟩, hW, hsame.mono (by decide) (by decide)⟩
 ·exact retOut X19 hx Bd.returns rfl (Or.inr (Or.inr (Or.inr (Or.inr ⟨rfl, rfl, rfl⟩)))) (D 12 rfl) hr
 ·show Q_rm_bs1 Z rb xcs wu wc kc xr0 xr1 ka rw0 ry0 ky0 lw0 h0 n0 _ T19.heap _
  exact ⟨k8, b8, rfl, N19, g_b8, sz_b8, K19, vc21, (x8.keep kp19)⟩
theorem ef_rm_hd1 (m : MethodId) (rb : Addr) : entryFrame m #[(.ref rb)] 1 = mkF m 0 #[vR rb] [] := by simp [entryFrame, mkF, argsToLocals, Value.category]
def Q_rm_hd1 (Z : State) (rb : Addr) (xcs : Int32) (wu : Addr) (wc : Addr) (kc : ClassId) (xr0 : Int32) (xr1 : Int32) (ka : ClassId) (rw0 : Addr) (ry0 : Addr) (ky0 : ClassId) (lw0 : List Int32) (h0 : Heap) (n0 : Nat) (v : Option Value) (h : Heap) (L : List Loc) : Prop := ∃ re : Addr, ∃ ke : ClassId, ∃ bo : Addr, v = some (.ref bo) ∧ Fr n0 L ∧ n0 ≤ bo ∧ h0.size ≤ bo ∧ Keep h0 h ([] : List Addr) ∧ Exa Z h bo oS0 ∧ Fld Z h bo oS0 "count" "I" (.int 1) ∧ Fld Z h bo oS0 "encoded" "[B" (.ref re) ∧ Fld Z h bo oS0 "last" oS4 .null ∧ Arv Z h re ke .byte (own_len (own_bulks [(own_enc lw0)])) ((own_bulks [(own_enc lw0)]).map Value.int) (.int 0) ∧ Exa Z h re "[B"
set_option maxRecDepth 65536 in
set_option maxHeartbeats 40000000 in
theorem rm_hd1 (l : Launch) (Z : State) (a0 : Array Value) (hw : ∀ d ∈ tables_1, d.before a0 Z = true) (ws : List Jvm.Cond) (rb : Addr) (xcs : Int32) (wu : Addr) (wc : Addr) (kc : ClassId) (xr0 : Int32) (xr1 : Int32) (ka : ClassId) (rw0 : Addr) (ry0 : Addr) (ky0 : ClassId) (lw0 : List Int32) (h0 : Heap) (n0 : Nat) (Z0 : n0 ≤ h0.size) (SC : Sta Z h0 "java/lang/String" "COMPACT_STRINGS" "Z" (.int xcs)) (hcs : ¬ (xcs = (0 : Int32))) (SI : Sta Z h0 "sun/nio/cs/UTF_8" "INSTANCE" oS7 (.ref wu)) (SU : Sta Z h0 oS5 "UTF_8" oS6 (.ref wu)) (SR : Sta Z h0 oS1 "CRLF" "[B" (.ref wc)) (VR : Arv Z h0 wc kc .byte (2 : Int32) [(.int xr0), (.int xr1)] (.int 0)) (VA : Arv Z h0 rb ka (.object "java/lang/String") (1 : Int32) [(.ref rw0)] .null) (EW0 : Exa Z h0 rw0 "java/lang/String") (FW0 : Fld Z h0 rw0 "java/lang/String" "value" "[B" (.ref ry0)) (CW0 : Fld Z h0 rw0 "java/lang/String" "coder" "B" (.int 0)) (VW0 : Arv Z h0 ry0 ky0 .byte (own_len lw0) (lw0.map Value.int) (.int 0)) (EY0 : Exa Z h0 ry0 "[B") (hl_0 : lw0.length ≤ 5) (hbs0 : ∀ x ∈ lw0, nar .byte x = x) :
  oMet l oM12 prog_10_method_3_code 1 (some (.object oS0)) ws (oR 7 5 64 112) #[(.ref rb)] Z h0 (Q_rm_hd1 Z rb xcs wu wc kc xr0 xr1 ka rw0 ry0 ky0 lw0 h0 n0) := by
 refine MetFree.of_bodySF (plainFor_of_name pn3) hisR ?_
 have W := own_W hw
 intro p e s m args bw meth c s₁ Bd hml0 hP hK
 obtain ⟨rfl, hZ, hh⟩ := hP
 have hx := Bd.exec
 have hby := Bd.bytes
 have hml : c.maxLocals = 1 := hml0
 have hown : s.vm.findClass oS1 = some m.cls := findClass_of_methodNamed Bd.named
 have hnm := (name_of_methodNamed Bd.named Bd.method).1
 have X0 : Stand p l e (oR 7 5 64 112) s m #[(.ref rb)] bw meth c s₁ [] 0 0 := Stand.of_body Bd
 have e0 : s₁.heap = h0 := by rw [← hh, Bd.state]; rfl
 have N0 := Fr.nil n0
 have D := own_D hby dB11
 obtain ⟨G, hG⟩ := own_ex fun t => Steps p.tables e bw (s₁.setTop (entryFrame m #[(.ref rb)] 1)) t
 have pre0 : oP p e bw G s₁ m 0 #[vR rb] [] := by intro t k; subst hG; exact castTop (ef_rm_hd1 m rb) k
 obtain ⟨T1, h1, X1, e1, E1, A1, D1, -, st1⟩ := newO X0 hx hZ hown (W 51 rfl) (W 52 rfl) (W 53 rfl) e0 (g := (own_g pre0)) rfl (D 0 rfl) (by decide) (by decide)
 obtain ⟨b1, g1⟩ := own_ex h0.size
 rw [← g1] at A1 D1 st1
 have g_b1 : n0 ≤ b1 := Nat.le_trans Z0 (Nat.le_of_eq g1.symm)
 have sz_b1 : h0.size ≤ b1 := Nat.le_trans (Keep.refl h0 ([] : List Addr)).1 (Nat.le_of_eq g1.symm)
 have K1 : Keep h0 h1 ([] : List Addr) := (Keep.refl h0 ([] : List Addr)).ext E1
 have z1 : n0 ≤ h1.size := Nat.le_trans Z0 K1.1
 have F_count_b1 : Fld Z h1 b1 oS0 "count" "I" (.int 0) := D1 (Or.inr (W 73 rfl)) (ty := .int) (by decide)
 have F_encoded_b1 : Fld Z h1 b1 oS0 "encoded" "[B" .null := D1 (Or.inr (W 75 rfl)) (ty := (.array .byte)) (by decide)
 have F_last_b1 : Fld Z h1 b1 oS0 "last" oS4 .null := D1 (Or.inl (W 82 rfl)) (ty := (.object oS2)) (by decide)
 have pre2 : oP p e bw G T1 m 5 #[vR rb] [(.ref rb), (.ref b1), (.ref b1)] := by
  intro t k
  refine pre0 t (st1 t ?_)
  refine XS.dup X1.here hx rfl (D 1 rfl) rfl rfl ?_
  refine XS.aloadN X1.here hx rfl (D 2 rfl) rfl rfl ?_
  exact k
 have pre4 : oP p e bw G T1 m 7 #[vR rb] [(.ref rb), (.int 1), (.ref b1), (.ref b1)] := by
  intro t k
  refine pre2 t ?_
  obtain ⟨c3, a3, q3, s3, m3, i3, u3⟩ := id (VA.ext E1)
  refine X1.arraylength hx (by rw [e1]; exact a3.1) (State.isArrayOf_alike hZ.alike a3.2.1) (g := (own_g pre2)) rfl rfl (D 3 rfl) _ ?_
  rw [len_of s3 m3]
  refine XS.aloadN X1.here hx rfl (D 4 rfl) rfl rfl ?_
  exact k
 have f5 := (SC.ext E1)
 have f6 := (SI.ext E1)
 have f7 := (SU.ext E1)
 have f8 := (SR.ext E1)
 have f9 := (VR.ext E1)
 have f10 := (VA.ext E1)
 have f11 := (EW0.ext E1)
 have f12 := (FW0.ext E1)
 have f13 := (CW0.ext E1)
 have f14 := (VW0.ext E1)
 have f15 := (EY0.ext E1)
 obtain ⟨_, T16, Lc16, X16, hQ16, pc16⟩ := own_call X1 hx hZ hown (W 54 rfl) (W 55 rfl) (W 49 rfl) (W 56 rfl) (by decide) (rm_bs1 l Z a0 hw [] rb xcs wu wc kc xr0 xr1 ka rw0 ry0 ky0 lw0 h1 n0 z1 f5 (hcs) f6 f7 f8 f9 f10 f11 f12 f13 f14 f15 (hl_0) (hbs0)) e1 pre4 hml rfl (D 5 rfl) (lenOf pd20 rfl) rfl (W := 3) rfl (by decide)
 obtain ⟨ke_16, b16, rfl, M16, g_b16, zs16, kp16, f16_0, f16_1⟩ := hQ16
 have sz_b16 : h0.size ≤ b16 := Nat.le_trans K1.1 zs16
 have K16 : Keep h0 T16.heap ([] : List Addr) := K1.trans kp16 all0
 have zz16 : n0 ≤ T16.heap.size := Nat.le_trans Z0 K16.1
 have N16 := Fr.app N0 M16
 have pre17 : oP p e bw G T16 m 10 #[vR rb] [(.ref b16), (.int 1), (.ref b1), (.ref b1)] := pc16
 have f18 := (A1.keep kp16)
 have f19 := (F_count_b1.keep kp16 nin0)
 have f20 := (F_encoded_b1.keep kp16 nin0)
 have f21 := (F_last_b1.keep kp16 nin0)
 obtain ⟨_, _, ⟨T22, L22, k22, n22⟩, -, X22, ⟨Lc22, hQ22, l22, y22, z22⟩, st22⟩ := own_specialRef X16 hx hZ (y := oM5) rfl hown (W 68 rfl) (W 69 rfl) (mvT hZ (W 69 rfl)) (mvT hZ (W 70 rfl)) (by decide) (backOf (W := 1) (rm_hi l Z a0 hw [] b1 (1 : Int32) b16 T16.heap n0 zz16 f18 (g_b1) f19 f20 f21) hZ (W 70 rfl) (W 53 rfl) (by decide) (by decide)) (g := (own_g pre17)) rfl (by rw [hml]; rfl) (Steps.refl _) (a := b1) (argsL := [(.int 1), (.ref b16)]) (rest := [(.ref b1)]) (lenOf pd21 rfl) rfl (by show 2 * 0 + _ ≤ _; exact Nat.le_of_eq rfl) (D 6 rfl) (fun _ _ => ⟨rfl, rfl, (by decide : 5 + 0 ≤ _), (by decide : 64 + 0 ≤ _)⟩)
 dsimp only [Pt.U, Pt.locs, Pt.cells, Pt.slots] at X22 l22 y22 z22 st22 hQ22
 subst y22 z22
 obtain ⟨rfl, M22, kp22, f22_0, f22_1, f22_2, f22_3⟩ := hQ22
 have K22 : Keep h0 T22.heap ([] : List Addr) := K16.trans kp22 (allS (P := fun x => x ∈ ([] : List Addr) ∨ h0.size ≤ x) (Or.inr sz_b1) all0)
 have zz22 : n0 ≤ T22.heap.size := Nat.le_trans Z0 K22.1
 have N22 : Fr n0 L22 := by rw [l22]; exact Fr.app N16 M22
 clear l22
 have pre23 : oP p e bw G T22 m 13 #[vR rb] [(.ref b1)] := fun t k => pre17 t (st22.trans k)
 obtain ⟨fs, hr, hrun, hended, hW, hsame⟩ := X22.leave (hlocks := Bd.notSynchronized) (v := some (.ref b1)) (fun h => by rw [Bd.returns] at h; cases h)
 subst hG
 refine ⟨_, _, pre23 _ ?_, hrun, hended, _, _, rfl, ?_, ⟨_, rfl⟩, hW, hsame.mono (by decide) (by decide)⟩
 ·exact retOut X22 hx Bd.returns rfl (Or.inr (Or.inr (Or.inr (Or.inr ⟨rfl, rfl, rfl⟩)))) (D 7 rfl) hr
 ·show Q_rm_hd1 Z rb xcs wu wc kc xr0 xr1 ka rw0 ry0 ky0 lw0 h0 n0 _ T22.heap _
  have ne24 := (Ne.symm (Nat.ne_of_lt (Nat.lt_of_lt_of_le A1.lt zs16)))
  exact ⟨b16, ke_16, b1, rfl, N22, g_b1, sz_b1, K22, f22_0, f22_1, f22_2, f22_3, (f16_0.keep kp22 (ninS ne24 nin0)), (f16_1.keep kp22)⟩
theorem ef_rm_u2 (m : MethodId) (rb : Addr) : entryFrame m #[(.ref rb)] 3 = mkF m 0 #[vR rb, vU, vU] [] := by simp [entryFrame, mkF, argsToLocals, Value.category]
def Q_rm_u2 (Z : State) (rb : Addr) (xcs : Int32) (wu : Addr) (ka : ClassId) (rw0 : Addr) (ry0 : Addr) (ky0 : ClassId) (lw0 : List Int32) (rw1 : Addr) (ry1 : Addr) (ky1 : ClassId) (lw1 : List Int32) (h0 : Heap) (n0 : Nat) (v : Option Value) (h : Heap) (L : List Loc) : Prop := ∃ ko : ClassId, ∃ ro0 : Addr, ∃ ko0 : ClassId, ∃ ro1 : Addr, ∃ ko1 : ClassId, ∃ bo : Addr, v = some (.ref bo) ∧ Fr n0 L ∧ n0 ≤ bo ∧ h0.size ≤ bo ∧ Keep h0 h ([] : List Addr) ∧ Arv Z h bo ko (.array .byte) (2 : Int32) [(.ref ro0), (.ref ro1)] .null ∧ Arv Z h ro0 ko0 .byte (own_len (own_enc lw0)) ((own_enc lw0).map Value.int) (.int 0) ∧ Exa Z h ro0 "[B" ∧ Arv Z h ro1 ko1 .byte (own_len (own_enc lw1)) ((own_enc lw1).map Value.int) (.int 0) ∧ Exa Z h ro1 "[B"
set_option maxRecDepth 65536 in
set_option maxHeartbeats 40000000 in
theorem rm_u2 (l : Launch) (Z : State) (a0 : Array Value) (hw : ∀ d ∈ tables_1, d.before a0 Z = true) (ws : List Jvm.Cond) (rb : Addr) (xcs : Int32) (wu : Addr) (ka : ClassId) (rw0 : Addr) (ry0 : Addr) (ky0 : ClassId) (lw0 : List Int32) (rw1 : Addr) (ry1 : Addr) (ky1 : ClassId) (lw1 : List Int32) (h0 : Heap) (n0 : Nat) (Z0 : n0 ≤ h0.size) (SC : Sta Z h0 "java/lang/String" "COMPACT_STRINGS" "Z" (.int xcs)) (hcs : ¬ (xcs = (0 : Int32))) (SI : Sta Z h0 "sun/nio/cs/UTF_8" "INSTANCE" oS7 (.ref wu)) (SU : Sta Z h0 oS5 "UTF_8" oS6 (.ref wu)) (VA : Arv Z h0 rb ka (.object "java/lang/String") (2 : Int32) [(.ref rw0), (.ref rw1)] .null) (EW0 : Exa Z h0 rw0 "java/lang/String") (FW0 : Fld Z h0 rw0 "java/lang/String" "value" "[B" (.ref ry0)) (CW0 : Fld Z h0 rw0 "java/lang/String" "coder" "B" (.int 0)) (VW0 : Arv Z h0 ry0 ky0 .byte (own_len lw0) (lw0.map Value.int) (.int 0)) (EY0 : Exa Z h0 ry0 "[B") (hl_0 : lw0.length ≤ 5) (hbs0 : ∀ x ∈ lw0, nar .byte x = x) (EW1 : Exa Z h0 rw1 "java/lang/String") (FW1 : Fld Z h0 rw1 "java/lang/String" "value" "[B" (.ref ry1)) (CW1 : Fld Z h0 rw1 "java/lang/String" "coder" "B" (.int 0)) (VW1 : Arv Z h0 ry1 ky1 .byte (own_len lw1) (lw1.map Value.int) (.int 0)) (EY1 : Exa Z h0 ry1 "[B") (hl_1 : lw1.length ≤ 5) (hbs1 : ∀ x ∈ lw1, nar .byte x = x) :
  oMet l oM10 prog_10_method_13_code 3 (some (.array (.array .byte))) ws (oR 5 5 42 81) #[(.ref rb)] Z h0 (Q_rm_u2 Z rb xcs wu ka rw0 ry0 ky0 lw0 rw1 ry1 ky1 lw1 h0 n0) := by
 refine MetFree.of_bodySF (plainFor_of_name pn3) hisR ?_
 have W := own_W hw
 intro p e s m args bw meth c s₁ Bd hml0 hP hK
 obtain ⟨rfl, hZ, hh⟩ := hP
 have hx := Bd.exec
 have hby := Bd.bytes
 have hml : c.maxLocals = 3 := hml0
 have hown : s.vm.findClass oS1 = some m.cls := findClass_of_methodNamed Bd.named
 have hnm := (name_of_methodNamed Bd.named Bd.method).1
 have X0 : Stand p l e (oR 5 5 42 81) s m #[(.ref rb)] bw meth c s₁ [] 0 0 := Stand.of_body Bd
 have e0 : s₁.heap = h0 := by rw [← hh, Bd.state]; rfl
 have N0 := Fr.nil n0
 have D := own_D hby dB13
 obtain ⟨G, hG⟩ := own_ex fun t => Steps p.tables e bw (s₁.setTop (entryFrame m #[(.ref rb)] 3)) t
 have pre0 : oP p e bw G s₁ m 0 #[vR rb, vU, vU] [] := by intro t k; subst hG; exact castTop (ef_rm_u2 m rb) k
 have pre1 : oP p e bw G s₁ m 1 #[vR rb, vU, vU] [(.ref rb)] := by
  intro t k
  refine pre0 t ?_
  refine XS.aloadN X0.here hx rfl (D 0 rfl) rfl rfl ?_
  exact k
 have pre3 : oP p e bw G s₁ m 2 #[vR rb, vU, vU] [(.int 2)] := by
  intro t k
  refine pre1 t ?_
  obtain ⟨c2, a2, q2, s2, m2, i2, u2⟩ := id VA
  refine X0.arraylength hx (by rw [e0]; exact a2.1) (State.isArrayOf_alike hZ.alike a2.2.1) (g := (own_g pre1)) rfl rfl (D 1 rfl) _ ?_
  rw [len_of s2 m2]
  exact k
 obtain ⟨T4, h4, k4, X4, e4, E4, A4, x4, O4, st4⟩ := newRA X0 hx hZ (C := "[B") (ty := .byte) hown rfl (W 60 rfl) (W 61 rfl) e0 (g := (own_g pre3)) rfl (D 2 rfl) rfl (by decide) (cap := 2) (by decide) (by decide) (by decide) (by decide) (ad := "[[B") rfl
 obtain ⟨b4, g4⟩ := own_ex h0.size
 rw [← g4] at A4 st4 x4
 have g_b4 : n0 ≤ b4 := Nat.le_trans Z0 (Nat.le_of_eq g4.symm)
 have sz_b4 : h0.size ≤ b4 := Nat.le_trans (Keep.refl h0 ([] : List Addr)).1 (Nat.le_of_eq g4.symm)
 have K4 : Keep h0 h4 ([] : List Addr) := (Keep.refl h0 ([] : List Addr)).ext E4
 have z4 : n0 ≤ h4.size := Nat.le_trans Z0 K4.1
 have V_b4 : Arv Z h4 b4 k4 (.array .byte) (2 : Int32) [.null, .null] .null := (Arv.new A4 (by decide)).pad (pad_rep [] .null 2)
 have pre5 : oP p e bw G T4 m 10 #[vR rb, vR b4, vI 0] [(.ref rb), (.int 0)] := by
  intro t k
  refine pre3 t (st4 t ?_)
  refine XS.astoreN X4.here hx rfl (D 3 rfl) rfl rfl (l' := #[vR rb, vR b4, vU]) rfl ?_
  refine XS.iconst X4.here hx rfl (D 4 rfl) ?_
  refine XS.istoreN X4.here hx rfl (D 5 rfl) rfl (l' := #[vR rb, vR b4, vI 0]) rfl ?_
  refine XS.iloadN X4.here hx rfl (D 6 rfl) rfl ?_
  refine XS.aloadN X4.here hx rfl (D 7 rfl) rfl rfl ?_
  exact k
 have pre7 : oP p e bw G T4 m 18 #[vR rb, vR b4, vI 0] [(.int 0), (.ref rb), (.int 0), (.ref b4)] := by
  intro t k
  refine pre5 t ?_
  obtain ⟨c6, a6, q6, s6, m6, i6, u6⟩ := id (VA.ext E4)
  refine X4.arraylength hx (by rw [e4]; exact a6.1) (State.isArrayOf_alike hZ.alike a6.2.1) (g := (own_g pre5)) rfl rfl (D 8 rfl) _ ?_
  rw [len_of s6 m6]
  refine XS.icmpNo X4.here hx rfl (D 9 rfl) rfl (tlt (show (0 : Int32) < (2 : Int32) from by decide)).2.1 ?_
  refine XS.aloadN X4.here hx rfl (D 12 rfl) rfl rfl ?_
  refine XS.iloadN X4.here hx rfl (D 13 rfl) rfl ?_
  refine XS.aloadN X4.here hx rfl (D 14 rfl) rfl rfl ?_
  refine XS.iloadN X4.here hx rfl (D 15 rfl) rfl ?_
  exact k
 have pre9 : oP p e bw G T4 m 19 #[vR rb, vR b4, vI 0] [(.ref rw0), (.int 0), (.ref b4)] := by
  intro t k
  refine pre7 t ?_
  obtain ⟨c8, a8, q8, s8, m8, i8, u8⟩ := id (VA.ext E4)
  have hin8 := inb_of (j := (0 : Int32)) s8 ⟨by decide, by decide⟩
  refine X4.aaload hx (j := (0 : Int32)) (v := (.ref rw0)) (by rw [e4]; exact a8.1) (State.isArrayOf_alike hZ.alike a8.2.1) rfl a8.2.2 hin8 (i8.at hin8 rfl) (g := (own_g pre7)) rfl rfl (D 16 rfl) _ ?_
  exact k
 have f10 := (SU.ext E4)
 obtain ⟨T11, X11, e11, st11⟩ := getS2 X4 hx hZ hown (host := "") (Or.inl (W 125 rfl)) Via.refl e4 f10 (g := (own_g pre9)) rfl (D 17 rfl)
 have pre12 : oP p e bw G T11 m 22 #[vR rb, vR b4, vI 0] [(.ref wu), (.ref rw0), (.int 0), (.ref b4)] := fun t k => pre9 t (st11 t k)
 have f13 := (SC.ext E4)
 have f14 := (SI.ext E4)
 have f15 := (FW0.ext E4)
 have f16 := (CW0.ext E4)
 have f17 := (VW0.ext E4)
 have f18 := (EY0.ext E4)
 have f19 := (EW0.ext E4)
 obtain ⟨cq20, kq20, q20a, q20b, q20c⟩ := isOf hZ e11 f19
 obtain ⟨_, _, ⟨T20, L20, k20, n20⟩, -, X20, ⟨Lc20, hQ20, l20, y20, z20⟩, st20⟩ := X11.virtualBack hx (y := oM4) (z := oM4) hown (mvT hZ (W 127 rfl)) (mvT hZ (W 128 rfl)) (notFace_of_selects (args := #[]) (mvT hZ (W 130 rfl))) (mvT hZ (W 130 rfl)) (mvT hZ (W 129 rfl)) (by decide) (backOf (W := 2) (rm_gb l Z a0 hw [] rw0 wu xcs ry0 ky0 lw0 h4 n0 z4 f13 (hcs) f14 f15 f16 f17 f18 (hl_0) (hbs0) f19) hZ (W 131 rfl) (W 5 rfl) (by decide) (by decide)) q20a q20c (g := (own_g pre12)) rfl (by rw [hml]; rfl) (Steps.refl _) (argsL := [(.ref wu)]) (rest := [(.int 0), (.ref b4)]) (lenOf pd22 rfl) rfl (by show 2 * 0 + _ ≤ _; exact Nat.le_of_eq rfl) (D 18 rfl) (fun _ _ => ⟨rfl, e11, (by decide : 1 + 2 ≤ _), (by decide : 2 + 20 ≤ _)⟩)
 dsimp only [Pt.U, Pt.locs, Pt.cells, Pt.slots] at X20 l20 y20 z20 st20 hQ20
 subst y20 z20
 obtain ⟨kb_20, b20, rfl, M20, g_b20, zs20, kp20, f20_0, f20_1⟩ := hQ20
 have sz_b20 : h0.size ≤ b20 := Nat.le_trans K4.1 zs20
 have K20 : Keep h0 T20.heap ([] : List Addr) := K4.trans kp20 all0
 have zz20 : n0 ≤ T20.heap.size := Nat.le_trans Z0 K20.1
 have N20 : Fr n0 L20 := by rw [l20]; exact Fr.app N0 M20
 clear l20
 have pre21 : oP p e bw G T20 m 25 #[vR rb, vR b4, vI 0] [(.ref b20), (.int 0), (.ref b4)] := fun t k => pre12 t (st20.trans k)
 have f23 := (V_b4.keep kp20 nin0)
 obtain ⟨c22, a22, q22, s22, m22, i22, u22⟩ := id f23
 obtain ⟨T24, h24, X24, e24, W24, st24⟩ := stR X20 hx hZ rfl a22 (j := (0 : Int32)) (inb_of s22 ⟨by decide, by decide⟩) rfl (Sto.ofVA a22 q22 O4 (Ins.self f20_1)) (g := (own_g pre21)) rfl rfl (D 19 rfl)
 have K24 : Keep h0 h24 ([] : List Addr) := K20.wr W24 (Or.inr sz_b4)
 have z24 : n0 ≤ h24.size := Nat.le_trans Z0 K24.1
 have N24 := Fr.snoc X24 N20 g_b4
 have V24 : Arv Z h24 b4 k4 (.array .byte) (2 : Int32) [(.ref b20), .null] .null := Arv.set a22 q22 s22 m22 i22 u22 rfl W24 0 rfl (Nat.le_of_ble_eq_true rfl)
 have pre25 : oP p e bw G T24 m 10 #[vR rb, vR b4, vI 1] [(.ref rb), (.int 1)] := by
  intro t k
  refine pre21 t (st24 t ?_)
  refine XS.iinc X24.here hx rfl (D 20 rfl) rfl (l' := #[vR rb, vR b4, vI 1]) rfl ?_
  refine XS.goto X24.here hx rfl (pc0 := 29) (pc' := 8) rfl (D 21 rfl) (by decide) (by decide) ?_
  refine XS.iloadN X24.here hx rfl (D 6 rfl) rfl ?_
  refine XS.aloadN X24.here hx rfl (D 7 rfl) rfl rfl ?_
  exact k
 have ne26 := (Nat.ne_of_lt (Nat.lt_of_lt_of_le VA.lt (Nat.le_of_eq g4.symm)))
 have pre28 : oP p e bw G T24 m 18 #[vR rb, vR b4, vI 1] [(.int 1), (.ref rb), (.int 1), (.ref b4)] := by
  intro t k
  refine pre25 t ?_
  obtain ⟨c27, a27, q27, s27, m27, i27, u27⟩ := id (((VA.ext E4).keep kp20 nin0).other W24 ne26)
  refine X24.arraylength hx (by rw [e24]; exact a27.1) (State.isArrayOf_alike hZ.alike a27.2.1) (g := (own_g pre25)) rfl rfl (D 8 rfl) _ ?_
  rw [len_of s27 m27]
  refine XS.icmpNo X24.here hx rfl (D 9 rfl) rfl (tlt (show (1 : Int32) < (2 : Int32) from by decide)).2.1 ?_
  refine XS.aloadN X24.here hx rfl (D 12 rfl) rfl rfl ?_
  refine XS.iloadN X24.here hx rfl (D 13 rfl) rfl ?_
  refine XS.aloadN X24.here hx rfl (D 14 rfl) rfl rfl ?_
  refine XS.iloadN X24.here hx rfl (D 15 rfl) rfl ?_
  exact k
 have pre30 : oP p e bw G T24 m 19 #[vR rb, vR b4, vI 1] [(.ref rw1), (.int 1), (.ref b4)] := by
  intro t k
  refine pre28 t ?_
  obtain ⟨c29, a29, q29, s29, m29, i29, u29⟩ := id (((VA.ext E4).keep kp20 nin0).other W24 ne26)
  have hin29 := inb_of (j := (1 : Int32)) s29 ⟨by decide, by decide⟩
  refine X24.aaload hx (j := (1 : Int32)) (v := (.ref rw1)) (by rw [e24]; exact a29.1) (State.isArrayOf_alike hZ.alike a29.2.1) rfl a29.2.2 hin29 (i29.at hin29 rfl) (g := (own_g pre28)) rfl rfl (D 16 rfl) _ ?_
  exact k
 have f31 := ((f10.ext (own_keep_ext kp20)).wr W24)
 obtain ⟨T32, X32, e32, st32⟩ := getS2 X24 hx hZ hown (host := "") (Or.inl (W 125 rfl)) Via.refl e24 f31 (g := (own_g pre30)) rfl (D 17 rfl)
 have pre33 : oP p e bw G T32 m 22 #[vR rb, vR b4, vI 1] [(.ref wu), (.ref rw1), (.int 1), (.ref b4)] := fun t k => pre30 t (st32 t k)
 have f34 := ((f13.ext (own_keep_ext kp20)).wr W24)
 have f35 := ((f14.ext (own_keep_ext kp20)).wr W24)
 have ne36 := (Nat.ne_of_lt (Nat.lt_of_lt_of_le EW1.lt (Nat.le_of_eq g4.symm)))
 have f37 := (((FW1.ext E4).keep kp20 nin0).other W24 (Or.inl ne36))
 have f38 := (((CW1.ext E4).keep kp20 nin0).other W24 (Or.inl ne36))
 have ne39 := (Nat.ne_of_lt (Nat.lt_of_lt_of_le VW1.lt (Nat.le_of_eq g4.symm)))
 have f40 := (((VW1.ext E4).keep kp20 nin0).other W24 ne39)
 have f41 := (((EY1.ext E4).keep kp20).wr W24)
 have f42 := (((EW1.ext E4).keep kp20).wr W24)
 obtain ⟨cq43, kq43, q43a, q43b, q43c⟩ := isOf hZ e32 f42
 obtain ⟨_, _, ⟨T43, L43, k43, n43⟩, -, X43, ⟨Lc43, hQ43, l43, y43, z43⟩, st43⟩ := X32.virtualBack hx (y := oM4) (z := oM4) hown (mvT hZ (W 127 rfl)) (mvT hZ (W 128 rfl)) (notFace_of_selects (args := #[]) (mvT hZ (W 130 rfl))) (mvT hZ (W 130 rfl)) (mvT hZ (W 129 rfl)) (by decide) (backOf (W := 2) (rm_gb l Z a0 hw [] rw1 wu xcs ry1 ky1 lw1 h24 n0 z24 f34 (hcs) f35 f37 f38 f40 f41 (hl_1) (hbs1) f42) hZ (W 131 rfl) (W 5 rfl) (by decide) (by decide)) q43a q43c (g := (own_g pre33)) rfl (by rw [hml]; rfl) (Steps.refl _) (argsL := [(.ref wu)]) (rest := [(.int 1), (.ref b4)]) (lenOf pd22 rfl) rfl (by show 2 * 0 + _ ≤ _; exact Nat.le_of_eq rfl) (D 18 rfl) (fun _ _ => ⟨rfl, e32, (by decide : 3 + 2 ≤ _), (by decide : 22 + 20 ≤ _)⟩)
 dsimp only [Pt.U, Pt.locs, Pt.cells, Pt.slots] at X43 l43 y43 z43 st43 hQ43
 subst y43 z43
 obtain ⟨kb_43, b43, rfl, M43, g_b43, zs43, kp43, f43_0, f43_1⟩ := hQ43
 have sz_b43 : h0.size ≤ b43 := Nat.le_trans K24.1 zs43
 have K43 : Keep h0 T43.heap ([] : List Addr) := K24.trans kp43 all0
 have zz43 : n0 ≤ T43.heap.size := Nat.le_trans Z0 K43.1
 have N43 : Fr n0 L43 := by rw [l43]; exact Fr.app N24 M43
 clear l43
 have pre44 : oP p e bw G T43 m 25 #[vR rb, vR b4, vI 1] [(.ref b43), (.int 1), (.ref b4)] := fun t k => pre33 t (st43.trans k)
 have f46 := (V24.keep kp43 nin0)
 obtain ⟨c45, a45, q45, s45, m45, i45, u45⟩ := id f46
 obtain ⟨T47, h47, X47, e47, W47, st47⟩ := stR X43 hx hZ rfl a45 (j := (1 : Int32)) (inb_of s45 ⟨by decide, by decide⟩) rfl (Sto.ofVA a45 q45 O4 (Ins.self f43_1)) (g := (own_g pre44)) rfl rfl (D 19 rfl)
 have K47 : Keep h0 h47 ([] : List Addr) := K43.wr W47 (Or.inr sz_b4)
 have z47 : n0 ≤ h47.size := Nat.le_trans Z0 K47.1
 have N47 := Fr.snoc X47 N43 g_b4
 have V47 : Arv Z h47 b4 k4 (.array .byte) (2 : Int32) [(.ref b20), (.ref b43)] .null := Arv.set a45 q45 s45 m45 i45 u45 rfl W47 1 rfl (Nat.le_of_ble_eq_true rfl)
 have pre48 : oP p e bw G T47 m 10 #[vR rb, vR b4, vI 2] [(.ref rb), (.int 2)] := by
  intro t k
  refine pre44 t (st47 t ?_)
  refine XS.iinc X47.here hx rfl (D 20 rfl) rfl (l' := #[vR rb, vR b4, vI 2]) rfl ?_
  refine XS.goto X47.here hx rfl (pc0 := 29) (pc' := 8) rfl (D 21 rfl) (by decide) (by decide) ?_
  refine XS.iloadN X47.here hx rfl (D 6 rfl) rfl ?_
  refine XS.aloadN X47.here hx rfl (D 7 rfl) rfl rfl ?_
  exact k
 have pre50 : oP p e bw G T47 m 33 #[vR rb, vR b4, vI 2] [(.ref b4)] := by
  intro t k
  refine pre48 t ?_
  obtain ⟨c49, a49, q49, s49, m49, i49, u49⟩ := id (((((VA.ext E4).keep kp20 nin0).other W24 ne26).keep kp43 nin0).other W47 ne26)
  refine X47.arraylength hx (by rw [e47]; exact a49.1) (State.isArrayOf_alike hZ.alike a49.2.1) (g := (own_g pre48)) rfl rfl (D 8 rfl) _ ?_
  rw [len_of s49 m49]
  refine XS.icmpYes X47.here hx rfl (pc0 := 11) (pc' := 32) rfl (D 9 rfl) rfl (flt (show ¬ ((2 : Int32) < (2 : Int32)) from by decide)).2.1 (by decide) (by decide) ?_
  refine XS.aloadN X47.here hx rfl (D 10 rfl) rfl rfl ?_
  exact k
 obtain ⟨fs, hr, hrun, hended, hW, hsame⟩ := X47.leave (hlocks := Bd.notSynchronized) (v := some (.ref b4)) (fun h => by rw [Bd.returns] at h; cases h)
 subst hG
 refine ⟨_, _, pre50 _ ?_, hrun, hended, _, _, rfl, ?_, ⟨_, rfl⟩, hW, hsame.mono (by decide) (by decide)⟩
 ·exact retOut X47 hx Bd.returns rfl (Or.inr (Or.inr (Or.inr (Or.inr ⟨rfl, rfl, rfl⟩)))) (D 11 rfl) hr
 ·show Q_rm_u2 Z rb xcs wu ka rw0 ry0 ky0 lw0 rw1 ry1 ky1 lw1 h0 n0 _ T47.heap _
  rw [e47]
  have ne51 := (Ne.symm (Nat.ne_of_lt (Nat.lt_of_lt_of_le x4.lt zs20)))
  have ne52 := (Ne.symm (Nat.ne_of_lt (Nat.lt_of_lt_of_le V24.lt zs43)))
  exact ⟨k4, b20, kb_20, b43, kb_43, b4, rfl, N47, g_b4, sz_b4, K47, V47, (((f20_0.other W24 ne51).keep kp43 nin0).other W47 ne51), (((f20_1.wr W24).keep kp43).wr W47), (f43_0.other W47 ne52), (f43_1.wr W47)⟩
theorem ef_rm_bs2 (m : MethodId) (rb : Addr) : entryFrame m #[(.ref rb)] 3 = mkF m 0 #[vR rb, vU, vU] [] := by simp [entryFrame, mkF, argsToLocals, Value.category]
def Q_rm_bs2 (Z : State) (rb : Addr) (xcs : Int32) (wu : Addr) (wc : Addr) (kc : ClassId) (xr0 : Int32) (xr1 : Int32) (ka : ClassId) (rw0 : Addr) (ry0 : Addr) (ky0 : ClassId) (lw0 : List Int32) (rw1 : Addr) (ry1 : Addr) (ky1 : ClassId) (lw1 : List Int32) (h0 : Heap) (n0 : Nat) (v : Option Value) (h : Heap) (L : List Loc) : Prop := ∃ ke : ClassId, ∃ bo : Addr, v = some (.ref bo) ∧ Fr n0 L ∧ n0 ≤ bo ∧ h0.size ≤ bo ∧ Keep h0 h ([] : List Addr) ∧ Arv Z h bo ke .byte (own_len (own_bulks [(own_enc lw0), (own_enc lw1)])) ((own_bulks [(own_enc lw0), (own_enc lw1)]).map Value.int) (.int 0) ∧ Exa Z h bo "[B"
set_option maxRecDepth 65536 in
set_option maxHeartbeats 40000000 in
theorem rm_bs2 (l : Launch) (Z : State) (a0 : Array Value) (hw : ∀ d ∈ tables_1, d.before a0 Z = true) (ws : List Jvm.Cond) (rb : Addr) (xcs : Int32) (wu : Addr) (wc : Addr) (kc : ClassId) (xr0 : Int32) (xr1 : Int32) (ka : ClassId) (rw0 : Addr) (ry0 : Addr) (ky0 : ClassId) (lw0 : List Int32) (rw1 : Addr) (ry1 : Addr) (ky1 : ClassId) (lw1 : List Int32) (h0 : Heap) (n0 : Nat) (Z0 : n0 ≤ h0.size) (SC : Sta Z h0 "java/lang/String" "COMPACT_STRINGS" "Z" (.int xcs)) (hcs : ¬ (xcs = (0 : Int32))) (SI : Sta Z h0 "sun/nio/cs/UTF_8" "INSTANCE" oS7 (.ref wu)) (SU : Sta Z h0 oS5 "UTF_8" oS6 (.ref wu)) (SR : Sta Z h0 oS1 "CRLF" "[B" (.ref wc)) (VR : Arv Z h0 wc kc .byte (2 : Int32) [(.int xr0), (.int xr1)] (.int 0)) (VA : Arv Z h0 rb ka (.object "java/lang/String") (2 : Int32) [(.ref rw0), (.ref rw1)] .null) (EW0 : Exa Z h0 rw0 "java/lang/String") (FW0 : Fld Z h0 rw0 "java/lang/String" "value" "[B" (.ref ry0)) (CW0 : Fld Z h0 rw0 "java/lang/String" "coder" "B" (.int 0)) (VW0 : Arv Z h0 ry0 ky0 .byte (own_len lw0) (lw0.map Value.int) (.int 0)) (EY0 : Exa Z h0 ry0 "[B") (hl_0 : lw0.length ≤ 5) (hbs0 : ∀ x ∈ lw0, nar .byte x = x) (EW1 : Exa Z h0 rw1 "java/lang/String") (FW1 : Fld Z h0 rw1 "java/lang/String" "value" "[B" (.ref ry1)) (CW1 : Fld Z h0 rw1 "java/lang/String" "coder" "B" (.int 0)) (VW1 : Arv Z h0 ry1 ky1 .byte (own_len lw1) (lw1.map Value.int) (.int 0)) (EY1 : Exa Z h0 ry1 "[B") (hl_1 : lw1.length ≤ 5) (hbs1 : ∀ x ∈ lw1, nar .byte x = x) :
  oMet l oM11 prog_10_method_12_code 3 (some (.array .byte)) ws (oR 6 6 82 95) #[(.ref rb)] Z h0 (Q_rm_bs2 Z rb xcs wu wc kc xr0 xr1 ka rw0 ry0 ky0 lw0 rw1 ry1 ky1 lw1 h0 n0) := by
 refine MetFree.of_bodySF (plainFor_of_name pn3) hisR ?_
 have W := own_W hw
 intro p e s m args bw meth c s₁ Bd hml0 hP hK
 obtain ⟨rfl, hZ, hh⟩ := hP
 have hx := Bd.exec
 have hby := Bd.bytes
 have hml : c.maxLocals = 3 := hml0
 have hown : s.vm.findClass oS1 = some m.cls := findClass_of_methodNamed Bd.named
 have hnm := (name_of_methodNamed Bd.named Bd.method).1
 have X0 : Stand p l e (oR 6 6 82 95) s m #[(.ref rb)] bw meth c s₁ [] 0 0 := Stand.of_body Bd
 have e0 : s₁.heap = h0 := by rw [← hh, Bd.state]; rfl
 have N0 := Fr.nil n0
 have D := own_D hby dB12
 obtain ⟨G, hG⟩ := own_ex fun t => Steps p.tables e bw (s₁.setTop (entryFrame m #[(.ref rb)] 3)) t
 have pre0 : oP p e bw G s₁ m 0 #[vR rb, vU, vU] [] := by intro t k; subst hG; exact castTop (ef_rm_bs2 m rb) k
 have pre1 : oP p e bw G s₁ m 1 #[vR rb, vU, vU] [(.ref rb)] := by
  intro t k
  refine pre0 t ?_
  refine XS.aloadN X0.here hx rfl (D 0 rfl) rfl rfl ?_
  exact k
 obtain ⟨_, T2, Lc2, X2, hQ2, pc2⟩ := own_call X0 hx hZ hown (W 57 rfl) (W 58 rfl) (W 49 rfl) (W 59 rfl) (by decide) (rm_u2 l Z a0 hw [] rb xcs wu ka rw0 ry0 ky0 lw0 rw1 ry1 ky1 lw1 h0 n0 Z0 SC (hcs) SI SU VA EW0 FW0 CW0 VW0 EY0 (hl_0) (hbs0) EW1 FW1 CW1 VW1 EY1 (hl_1) (hbs1)) e0 pre1 hml rfl (D 1 rfl) (lenOf pd17 rfl) rfl (W := 0) rfl (by decide)
 obtain ⟨ko_2, ro0_2, ko0_2, ro1_2, ko1_2, b2, rfl, M2, g_b2, zs2, kp2, f2_0, f2_1, f2_2, f2_3, f2_4⟩ := hQ2
 have sz_b2 : h0.size ≤ b2 := Nat.le_trans (Keep.refl h0 ([] : List Addr)).1 zs2
 have K2 : Keep h0 T2.heap ([] : List Addr) := (Keep.refl h0 ([] : List Addr)).trans kp2 all0
 have zz2 : n0 ≤ T2.heap.size := Nat.le_trans Z0 K2.1
 have N2 := Fr.app N0 M2
 have pre3 : oP p e bw G T2 m 6 #[vR rb, vR b2, vU] [(.ref b2)] := by
  intro t k
  refine pc2 t ?_
  refine XS.astoreN X2.here hx rfl (D 2 rfl) rfl rfl (l' := #[vR rb, vR b2, vU]) rfl ?_
  refine XS.aloadN X2.here hx rfl (D 3 rfl) rfl rfl ?_
  exact k
 have f4 := (SR.ext (own_keep_ext kp2))
 have f5 := (VR.keep kp2 nin0)
 obtain ⟨_, T6, Lc6, X6, hQ6, pc6⟩ := own_call X2 hx hZ hown (W 62 rfl) (W 63 rfl) (W 49 rfl) (W 64 rfl) (by decide) (rm_bl2 l Z a0 hw [] b2 wc kc xr0 xr1 _ _ _ _ _ _ _ _ _ T2.heap n0 zz2 f4 f5 f2_0 f2_1 (own_99 (own_w99 hl_0)) f2_3 (own_99 (own_w99 hl_1))) rfl pre3 hml rfl (D 4 rfl) (lenOf pd18 rfl) rfl (W := 0) rfl (by decide)
 obtain ⟨rfl, M6, e6⟩ := hQ6
 have N6 := Fr.app N2 M6
 have pre7 : oP p e bw G T6 m 9 #[vR rb, vR b2, vU] [(.int (F_rm_bl2 xr0 xr1 (own_len (own_enc lw0)) (own_enc lw0) (own_len (own_enc lw1)) (own_enc lw1)))] := pc6
 rw [show (F_rm_bl2 xr0 xr1 (own_len (own_enc lw0)) (own_enc lw0) (own_len (own_enc lw1)) (own_enc lw1)) = (own_len (own_bulks [(own_enc lw0), (own_enc lw1)])) from own_bl2 (own_w99 hl_0) (own_w99 hl_1) _ _] at pre7
 have hbl : (own_bulks [(own_enc lw0), (own_enc lw1)]).length ≤ 40 := by have := own_bs2 (own_w99 hl_0) (own_w99 hl_1); have := own_encL lw0; have := own_encL lw1; omega
 have hbk : (own_bulks [(own_enc lw0), (own_enc lw1)]).length ≤ 1000 := Nat.le_trans hbl (by decide)
 obtain ⟨T8, h8, k8, X8, e8, E8, A8, x8, st8⟩ := newPE X6 hx hZ (W 21 rfl) e6 (g := (own_g pre7)) rfl (D 5 rfl) rfl (own_nn hbk) (cap := 40) (own_cap hbl (by decide)) (by decide) (by decide) (by decide) (ad := "[B") rfl
 obtain ⟨b8, g8⟩ := own_ex T2.heap.size
 rw [← g8] at A8 st8 x8
 have g_b8 : n0 ≤ b8 := Nat.le_trans zz2 (Nat.le_of_eq g8.symm)
 have sz_b8 : h0.size ≤ b8 := Nat.le_trans K2.1 (Nat.le_of_eq g8.symm)
 have K8 : Keep h0 h8 ([] : List Addr) := K2.ext E8
 have z8 : n0 ≤ h8.size := Nat.le_trans Z0 K8.1
 have V_b8 : Arv Z h8 b8 k8 .byte (own_len (own_bulks [(own_enc lw0), (own_enc lw1)])) ((List.replicate ((own_len (own_bulks [(own_enc lw0), (own_enc lw1)]))).toNatClampNeg (0 : Int32)).map Value.int) (.int 0) := (Arv.new A8 (own_nn hbk)).pad (own_rep _)
 have pre9 : oP p e bw G T8 m 12 #[vR rb, vR b2, vR b8] [] := by
  intro t k
  refine pre7 t (st8 t ?_)
  refine XS.astoreN X8.here hx rfl (D 6 rfl) rfl rfl (l' := #[vR rb, vR b2, vR b8]) rfl ?_
  exact k
 have vc10 : Arv Z h8 b8 k8 .byte (own_len (own_bulks [(own_enc lw0), (own_enc lw1)])) ((own_zs (own_bulks [(own_enc lw0), (own_enc lw1)])).map Value.int) (.int 0) := own_cv (rfl) V_b8
 have pre11 : oP p e bw G T8 m 15 #[vR rb, vR b2, vR b8] [(.ref b2), (.int 0), (.ref b8)] := by
  intro t k
  refine pre9 t ?_
  refine XS.aloadN X8.here hx rfl (D 7 rfl) rfl rfl ?_
  refine XS.iconst X8.here hx rfl (D 8 rfl) ?_
  refine XS.aloadN X8.here hx rfl (D 9 rfl) rfl rfl ?_
  exact k
 have f12 := (f4.ext E8)
 have f13 := (f5.ext E8)
 have f14 := (f2_0.ext E8)
 have ne15 := (Nat.ne_of_lt (Nat.lt_of_lt_of_le f5.lt (Nat.le_of_eq g8.symm)))
 have ne16 := (Nat.ne_of_lt (Nat.lt_of_lt_of_le f2_0.lt (Nat.le_of_eq g8.symm)))
 have f17 := (f2_1.ext E8)
 have ne18 := (Nat.ne_of_lt (Nat.lt_of_lt_of_le f2_1.lt (Nat.le_of_eq g8.symm)))
 have f19 := (f2_3.ext E8)
 have ne20 := (Nat.ne_of_lt (Nat.lt_of_lt_of_le f2_3.lt (Nat.le_of_eq g8.symm)))
 obtain ⟨_, T21, Lc21, X21, hQ21, pc21⟩ := own_call X8 hx hZ hown (W 65 rfl) (W 66 rfl) (W 49 rfl) (W 67 rfl) (by decide) (rm_pb2 l Z a0 hw [] b8 b2 wc kc xr0 xr1 k8 _ _ _ ([] : List Int32) (own_zs (own_bulks [(own_enc lw0), (own_enc lw1)])) _ _ _ _ _ _ h8 n0 z8 f12 f13 vc10 f14 x8 (g_b8) (rfl) (own_lz (own_zL hbk).symm) (by rw [List.nil_append, own_zL hbk]; exact hbk) (own_zL hbk) (ne15) (ne16) f17 ((own_w99 hl_0)) (ne18) f19 ((own_w99 hl_1)) (ne20)) e8 pre11 hml rfl (D 10 rfl) (lenOf pd19 rfl) rfl (W := 0) rfl (by decide)
 obtain ⟨rfl, M21, kp21, f21_0⟩ := hQ21
 have K21 : Keep h0 T21.heap ([] : List Addr) := K8.trans kp21 (allS (P := fun x => x ∈ ([] : List Addr) ∨ h0.size ≤ x) (Or.inr sz_b8) all0)
 have zz21 : n0 ≤ T21.heap.size := Nat.le_trans Z0 K21.1
 have N21 := Fr.app N6 M21
 have pre22 : oP p e bw G T21 m 18 #[vR rb, vR b2, vR b8] [] := pc21
 have vc23 : Arv Z T21.heap b8 k8 .byte (own_len (own_bulks [(own_enc lw0), (own_enc lw1)])) ((own_bulks [(own_enc lw0), (own_enc lw1)]).map Value.int) (.int 0) := own_cv ((List.nil_append _).symm) f21_0
 have pre24 : oP p e bw G T21 m 19 #[vR rb, vR b2, vR b8] [(.ref b8)] := by
  intro t k
  refine pre22 t ?_
  refine XS.aloadN X21.here hx rfl (D 11 rfl) rfl rfl ?_
  exact k
 obtain ⟨fs, hr, hrun, hended, hW, hsame⟩ := X21.leave (hlocks := Bd.notSynchronized) (v := some (.ref b8)) (fun h => by rw [Bd.returns] at h; cases h)
 subst hG
 refine ⟨_, _, pre24 _ ?_, hrun, hended, _, _, rfl, ?_, ⟨_, rfl⟩, hW, hsame.mono (by decide) (by decide)⟩
 ·exact retOut X21 hx Bd.returns rfl (Or.inr (Or.inr (Or.inr (Or.inr ⟨rfl, rfl, rfl⟩)))) (D 12 rfl) hr
 ·show Q_rm_bs2 Z rb xcs wu wc kc xr0 xr1 ka rw0 ry0 ky0 lw0 rw1 ry1 ky1 lw1 h0 n0 _ T21.heap _
  exact ⟨k8, b8, rfl, N21, g_b8, sz_b8, K21, vc23, (x8.keep kp21)⟩
theorem ef_rm_hd2 (m : MethodId) (rb : Addr) : entryFrame m #[(.ref rb)] 1 = mkF m 0 #[vR rb] [] := by simp [entryFrame, mkF, argsToLocals, Value.category]
def Q_rm_hd2 (Z : State) (rb : Addr) (xcs : Int32) (wu : Addr) (wc : Addr) (kc : ClassId) (xr0 : Int32) (xr1 : Int32) (ka : ClassId) (rw0 : Addr) (ry0 : Addr) (ky0 : ClassId) (lw0 : List Int32) (rw1 : Addr) (ry1 : Addr) (ky1 : ClassId) (lw1 : List Int32) (h0 : Heap) (n0 : Nat) (v : Option Value) (h : Heap) (L : List Loc) : Prop := ∃ re : Addr, ∃ ke : ClassId, ∃ bo : Addr, v = some (.ref bo) ∧ Fr n0 L ∧ n0 ≤ bo ∧ h0.size ≤ bo ∧ Keep h0 h ([] : List Addr) ∧ Exa Z h bo oS0 ∧ Fld Z h bo oS0 "count" "I" (.int 2) ∧ Fld Z h bo oS0 "encoded" "[B" (.ref re) ∧ Fld Z h bo oS0 "last" oS4 .null ∧ Arv Z h re ke .byte (own_len (own_bulks [(own_enc lw0), (own_enc lw1)])) ((own_bulks [(own_enc lw0), (own_enc lw1)]).map Value.int) (.int 0) ∧ Exa Z h re "[B"
set_option maxRecDepth 65536 in
set_option maxHeartbeats 40000000 in
theorem rm_hd2 (l : Launch) (Z : State) (a0 : Array Value) (hw : ∀ d ∈ tables_1, d.before a0 Z = true) (ws : List Jvm.Cond) (rb : Addr) (xcs : Int32) (wu : Addr) (wc : Addr) (kc : ClassId) (xr0 : Int32) (xr1 : Int32) (ka : ClassId) (rw0 : Addr) (ry0 : Addr) (ky0 : ClassId) (lw0 : List Int32) (rw1 : Addr) (ry1 : Addr) (ky1 : ClassId) (lw1 : List Int32) (h0 : Heap) (n0 : Nat) (Z0 : n0 ≤ h0.size) (SC : Sta Z h0 "java/lang/String" "COMPACT_STRINGS" "Z" (.int xcs)) (hcs : ¬ (xcs = (0 : Int32))) (SI : Sta Z h0 "sun/nio/cs/UTF_8" "INSTANCE" oS7 (.ref wu)) (SU : Sta Z h0 oS5 "UTF_8" oS6 (.ref wu)) (SR : Sta Z h0 oS1 "CRLF" "[B" (.ref wc)) (VR : Arv Z h0 wc kc .byte (2 : Int32) [(.int xr0), (.int xr1)] (.int 0)) (VA : Arv Z h0 rb ka (.object "java/lang/String") (2 : Int32) [(.ref rw0), (.ref rw1)] .null) (EW0 : Exa Z h0 rw0 "java/lang/String") (FW0 : Fld Z h0 rw0 "java/lang/String" "value" "[B" (.ref ry0)) (CW0 : Fld Z h0 rw0 "java/lang/String" "coder" "B" (.int 0)) (VW0 : Arv Z h0 ry0 ky0 .byte (own_len lw0) (lw0.map Value.int) (.int 0)) (EY0 : Exa Z h0 ry0 "[B") (hl_0 : lw0.length ≤ 5) (hbs0 : ∀ x ∈ lw0, nar .byte x = x) (EW1 : Exa Z h0 rw1 "java/lang/String") (FW1 : Fld Z h0 rw1 "java/lang/String" "value" "[B" (.ref ry1)) (CW1 : Fld Z h0 rw1 "java/lang/String" "coder" "B" (.int 0)) (VW1 : Arv Z h0 ry1 ky1 .byte (own_len lw1) (lw1.map Value.int) (.int 0)) (EY1 : Exa Z h0 ry1 "[B") (hl_1 : lw1.length ≤ 5) (hbs1 : ∀ x ∈ lw1, nar .byte x = x) :
  oMet l oM12 prog_10_method_3_code 1 (some (.object oS0)) ws (oR 7 7 85 112) #[(.ref rb)] Z h0 (Q_rm_hd2 Z rb xcs wu wc kc xr0 xr1 ka rw0 ry0 ky0 lw0 rw1 ry1 ky1 lw1 h0 n0) := by
 refine MetFree.of_bodySF (plainFor_of_name pn3) hisR ?_
 have W := own_W hw
 intro p e s m args bw meth c s₁ Bd hml0 hP hK
 obtain ⟨rfl, hZ, hh⟩ := hP
 have hx := Bd.exec
 have hby := Bd.bytes
 have hml : c.maxLocals = 1 := hml0
 have hown : s.vm.findClass oS1 = some m.cls := findClass_of_methodNamed Bd.named
 have hnm := (name_of_methodNamed Bd.named Bd.method).1
 have X0 : Stand p l e (oR 7 7 85 112) s m #[(.ref rb)] bw meth c s₁ [] 0 0 := Stand.of_body Bd
 have e0 : s₁.heap = h0 := by rw [← hh, Bd.state]; rfl
 have N0 := Fr.nil n0
 have D := own_D hby dB11
 obtain ⟨G, hG⟩ := own_ex fun t => Steps p.tables e bw (s₁.setTop (entryFrame m #[(.ref rb)] 1)) t
 have pre0 : oP p e bw G s₁ m 0 #[vR rb] [] := by intro t k; subst hG; exact castTop (ef_rm_hd2 m rb) k
 obtain ⟨T1, h1, X1, e1, E1, A1, D1, -, st1⟩ := newO X0 hx hZ hown (W 51 rfl) (W 52 rfl) (W 53 rfl) e0 (g := (own_g pre0)) rfl (D 0 rfl) (by decide) (by decide)
 obtain ⟨b1, g1⟩ := own_ex h0.size
 rw [← g1] at A1 D1 st1
 have g_b1 : n0 ≤ b1 := Nat.le_trans Z0 (Nat.le_of_eq g1.symm)
 have sz_b1 : h0.size ≤ b1 := Nat.le_trans (Keep.refl h0 ([] : List Addr)).1 (Nat.le_of_eq g1.symm)
 have K1 : Keep h0 h1 ([] : List Addr) := (Keep.refl h0 ([] : List Addr)).ext E1
 have z1 : n0 ≤ h1.size := Nat.le_trans Z0 K1.1
 have F_count_b1 : Fld Z h1 b1 oS0 "count" "I" (.int 0) := D1 (Or.inr (W 73 rfl)) (ty := .int) (by decide)
 have F_encoded_b1 : Fld Z h1 b1 oS0 "encoded" "[B" .null := D1 (Or.inr (W 75 rfl)) (ty := (.array .byte)) (by decide)
 have F_last_b1 : Fld Z h1 b1 oS0 "last" oS4 .null := D1 (Or.inl (W 82 rfl)) (ty := (.object oS2)) (by decide)
 have pre2 : oP p e bw G T1 m 5 #[vR rb] [(.ref rb), (.ref b1), (.ref b1)] := by
  intro t k
  refine pre0 t (st1 t ?_)
  refine XS.dup X1.here hx rfl (D 1 rfl) rfl rfl ?_
  refine XS.aloadN X1.here hx rfl (D 2 rfl) rfl rfl ?_
  exact k
 have pre4 : oP p e bw G T1 m 7 #[vR rb] [(.ref rb), (.int 2), (.ref b1), (.ref b1)] := by
  intro t k
  refine pre2 t ?_
  obtain ⟨c3, a3, q3, s3, m3, i3, u3⟩ := id (VA.ext E1)
  refine X1.arraylength hx (by rw [e1]; exact a3.1) (State.isArrayOf_alike hZ.alike a3.2.1) (g := (own_g pre2)) rfl rfl (D 3 rfl) _ ?_
  rw [len_of s3 m3]
  refine XS.aloadN X1.here hx rfl (D 4 rfl) rfl rfl ?_
  exact k
 have f5 := (SC.ext E1)
 have f6 := (SI.ext E1)
 have f7 := (SU.ext E1)
 have f8 := (SR.ext E1)
 have f9 := (VR.ext E1)
 have f10 := (VA.ext E1)
 have f11 := (EW0.ext E1)
 have f12 := (FW0.ext E1)
 have f13 := (CW0.ext E1)
 have f14 := (VW0.ext E1)
 have f15 := (EY0.ext E1)
 have f16 := (EW1.ext E1)
 have f17 := (FW1.ext E1)
 have f18 := (CW1.ext E1)
 have f19 := (VW1.ext E1)
 have f20 := (EY1.ext E1)
 obtain ⟨_, T21, Lc21, X21, hQ21, pc21⟩ := own_call X1 hx hZ hown (W 54 rfl) (W 55 rfl) (W 49 rfl) (W 56 rfl) (by decide) (rm_bs2 l Z a0 hw [] rb xcs wu wc kc xr0 xr1 ka rw0 ry0 ky0 lw0 rw1 ry1 ky1 lw1 h1 n0 z1 f5 (hcs) f6 f7 f8 f9 f10 f11 f12 f13 f14 f15 (hl_0) (hbs0) f16 f17 f18 f19 f20 (hl_1) (hbs1)) e1 pre4 hml rfl (D 5 rfl) (lenOf pd20 rfl) rfl (W := 3) rfl (by decide)
 obtain ⟨ke_21, b21, rfl, M21, g_b21, zs21, kp21, f21_0, f21_1⟩ := hQ21
 have sz_b21 : h0.size ≤ b21 := Nat.le_trans K1.1 zs21
 have K21 : Keep h0 T21.heap ([] : List Addr) := K1.trans kp21 all0
 have zz21 : n0 ≤ T21.heap.size := Nat.le_trans Z0 K21.1
 have N21 := Fr.app N0 M21
 have pre22 : oP p e bw G T21 m 10 #[vR rb] [(.ref b21), (.int 2), (.ref b1), (.ref b1)] := pc21
 have f23 := (A1.keep kp21)
 have f24 := (F_count_b1.keep kp21 nin0)
 have f25 := (F_encoded_b1.keep kp21 nin0)
 have f26 := (F_last_b1.keep kp21 nin0)
 obtain ⟨_, _, ⟨T27, L27, k27, n27⟩, -, X27, ⟨Lc27, hQ27, l27, y27, z27⟩, st27⟩ := own_specialRef X21 hx hZ (y := oM5) rfl hown (W 68 rfl) (W 69 rfl) (mvT hZ (W 69 rfl)) (mvT hZ (W 70 rfl)) (by decide) (backOf (W := 1) (rm_hi l Z a0 hw [] b1 (2 : Int32) b21 T21.heap n0 zz21 f23 (g_b1) f24 f25 f26) hZ (W 70 rfl) (W 53 rfl) (by decide) (by decide)) (g := (own_g pre22)) rfl (by rw [hml]; rfl) (Steps.refl _) (a := b1) (argsL := [(.int 2), (.ref b21)]) (rest := [(.ref b1)]) (lenOf pd21 rfl) rfl (by show 2 * 0 + _ ≤ _; exact Nat.le_of_eq rfl) (D 6 rfl) (fun _ _ => ⟨rfl, rfl, (by decide : 7 + 0 ≤ _), (by decide : 85 + 0 ≤ _)⟩)
 dsimp only [Pt.U, Pt.locs, Pt.cells, Pt.slots] at X27 l27 y27 z27 st27 hQ27
 subst y27 z27
 obtain ⟨rfl, M27, kp27, f27_0, f27_1, f27_2, f27_3⟩ := hQ27
 have K27 : Keep h0 T27.heap ([] : List Addr) := K21.trans kp27 (allS (P := fun x => x ∈ ([] : List Addr) ∨ h0.size ≤ x) (Or.inr sz_b1) all0)
 have zz27 : n0 ≤ T27.heap.size := Nat.le_trans Z0 K27.1
 have N27 : Fr n0 L27 := by rw [l27]; exact Fr.app N21 M27
 clear l27
 have pre28 : oP p e bw G T27 m 13 #[vR rb] [(.ref b1)] := fun t k => pre22 t (st27.trans k)
 obtain ⟨fs, hr, hrun, hended, hW, hsame⟩ := X27.leave (hlocks := Bd.notSynchronized) (v := some (.ref b1)) (fun h => by rw [Bd.returns] at h; cases h)
 subst hG
 refine ⟨_, _, pre28 _ ?_, hrun, hended, _, _, rfl, ?_, ⟨_, rfl⟩, hW, hsame.mono (by decide) (by decide)⟩
 ·exact retOut X27 hx Bd.returns rfl (Or.inr (Or.inr (Or.inr (Or.inr ⟨rfl, rfl, rfl⟩)))) (D 7 rfl) hr
 ·show Q_rm_hd2 Z rb xcs wu wc kc xr0 xr1 ka rw0 ry0 ky0 lw0 rw1 ry1 ky1 lw1 h0 n0 _ T27.heap _
  have ne29 := (Ne.symm (Nat.ne_of_lt (Nat.lt_of_lt_of_le A1.lt zs21)))
  exact ⟨b21, ke_21, b1, rfl, N27, g_b1, sz_b1, K27, f27_0, f27_1, f27_2, f27_3, (f21_0.keep kp27 (ninS ne29 nin0)), (f21_1.keep kp27)⟩
theorem ef_rm_eq0 (m : MethodId) (ra : Addr) (rb : Addr) : entryFrame m #[(.ref ra), (.ref rb)] 4 = mkF m 0 #[vR ra, vR rb, vU, vU] [] := by simp [entryFrame, mkF, argsToLocals, Value.category]
def Q_rm_eq0 (Z : State) (ra : Addr) (rb : Addr) (ka : ClassId) (kb : ClassId) (h0 : Heap) (n0 : Nat) (v : Option Value) (h : Heap) (L : List Loc) : Prop := v = some (.int 1) ∧ Fr n0 L ∧ h = h0
set_option maxRecDepth 65536 in
set_option maxHeartbeats 40000000 in
theorem rm_eq0 (l : Launch) (Z : State) (a0 : Array Value) (hw : ∀ d ∈ tables_1, d.before a0 Z = true) (ws : List Jvm.Cond) (ra : Addr) (rb : Addr) (ka : ClassId) (kb : ClassId) (h0 : Heap) (n0 : Nat) (Z0 : n0 ≤ h0.size) (VA : Arv Z h0 ra ka (.object "java/lang/String") (0 : Int32) [] .null) (VB0 : Arv Z h0 rb kb (.object "java/lang/String") (0 : Int32) [] .null) (hne : ra ≠ rb) :
  oMet l oM17 jdk_65_method_97_code 4 (some .boolean) ws (oR 0 0 0 0) #[(.ref ra), (.ref rb)] Z h0 (Q_rm_eq0 Z ra rb ka kb h0 n0) := by
 refine MetFree.of_bodySF (plainFor_of_name pn6) hisR ?_
 have W := own_W hw
 intro p e s m args bw meth c s₁ Bd hml0 hP hK
 obtain ⟨rfl, hZ, hh⟩ := hP
 have hx := Bd.exec
 have hby := Bd.bytes
 have hml : c.maxLocals = 4 := hml0
 have hown : s.vm.findClass "java/util/Arrays" = some m.cls := findClass_of_methodNamed Bd.named
 have hnm := (name_of_methodNamed Bd.named Bd.method).1
 have X0 : Stand p l e (oR 0 0 0 0) s m #[(.ref ra), (.ref rb)] bw meth c s₁ [] 0 0 := Stand.of_body Bd
 have e0 : s₁.heap = h0 := by rw [← hh, Bd.state]; rfl
 have N0 := Fr.nil n0
 have D := own_D hby dB22
 obtain ⟨G, hG⟩ := own_ex fun t => Steps p.tables e bw (s₁.setTop (entryFrame m #[(.ref ra), (.ref rb)] 4)) t
 have pre0 : oP p e bw G s₁ m 0 #[vR ra, vR rb, vU, vU] [] := by intro t k; subst hG; exact castTop (ef_rm_eq0 m ra rb) k
 have pre1 : oP p e bw G s₁ m 2 #[vR ra, vR rb, vU, vU] [(.ref rb), (.ref ra)] := by
  intro t k
  refine pre0 t ?_
  refine XS.aloadN X0.here hx rfl (D 0 rfl) rfl rfl ?_
  refine XS.aloadN X0.here hx rfl (D 1 rfl) rfl rfl ?_
  exact k
 have pre2 : oP p e bw G s₁ m 18 #[vR ra, vR rb, vU, vU] [(.ref ra)] := by
  intro t k
  refine pre1 t ?_
  refine Jvm.RoadKit.acmp (g := (own_g pre1)) X0 hx rfl rfl rfl (pc0 := 2) (pc' := 7) (same := false) rfl (D 2 rfl) rfl (decide_eq_false fun q => hne (Value.ref.inj q)) (by decide) (by decide) ?_
  refine XS.aloadN X0.here hx rfl (D 3 rfl) rfl rfl ?_
  refine XS.ifnullNo X0.here hx rfl (D 4 rfl) rfl ?_
  refine XS.aloadN X0.here hx rfl (D 5 rfl) rfl rfl ?_
  refine XS.ifnonnullYes X0.here hx rfl (pc0 := 12) (pc' := 17) rfl (D 6 rfl) rfl (by decide) (by decide) ?_
  refine XS.aloadN X0.here hx rfl (D 7 rfl) rfl rfl ?_
  exact k
 have pre4 : oP p e bw G s₁ m 21 #[vR ra, vR rb, vI 0, vU] [(.ref rb)] := by
  intro t k
  refine pre2 t ?_
  obtain ⟨c3, a3, q3, s3, m3, i3, u3⟩ := id VA
  refine X0.arraylength hx (by rw [e0]; exact a3.1) (State.isArrayOf_alike hZ.alike a3.2.1) (g := (own_g pre2)) rfl rfl (D 8 rfl) _ ?_
  rw [len_of s3 m3]
  refine XS.istoreN X0.here hx rfl (D 9 rfl) rfl (l' := #[vR ra, vR rb, vI 0, vU]) rfl ?_
  refine XS.aloadN X0.here hx rfl (D 10 rfl) rfl rfl ?_
  exact k
 have pre6 : oP p e bw G s₁ m 56 #[vR ra, vR rb, vI 0, vI 0] [(.int 1)] := by
  intro t k
  refine pre4 t ?_
  obtain ⟨c5, a5, q5, s5, m5, i5, u5⟩ := id VB0
  refine X0.arraylength hx (by rw [e0]; exact a5.1) (State.isArrayOf_alike hZ.alike a5.2.1) (g := (own_g pre4)) rfl rfl (D 11 rfl) _ ?_
  rw [len_of s5 m5]
  refine XS.iloadN X0.here hx rfl (D 12 rfl) rfl ?_
  refine XS.icmpYes X0.here hx rfl (pc0 := 23) (pc' := 28) rfl (D 13 rfl) rfl (teq (show (0 : Int32) = (0 : Int32) from by decide)).1 (by decide) (by decide) ?_
  refine XS.iconst X0.here hx rfl (D 14 rfl) ?_
  refine XS.istoreN X0.here hx rfl (D 15 rfl) rfl (l' := #[vR ra, vR rb, vI 0, vI 0]) rfl ?_
  refine XS.iloadN X0.here hx rfl (D 16 rfl) rfl ?_
  refine XS.iloadN X0.here hx rfl (D 17 rfl) rfl ?_
  refine XS.icmpYes X0.here hx rfl (pc0 := 32) (pc' := 55) rfl (D 18 rfl) rfl (flt (show ¬ ((0 : Int32) < (0 : Int32)) from by decide)).2.1 (by decide) (by decide) ?_
  refine XS.iconst X0.here hx rfl (D 19 rfl) ?_
  exact k
 obtain ⟨fs, hr, hrun, hended, hW, hsame⟩ := X0.leave (hlocks := Bd.notSynchronized) (v := some (.int 1)) (fun h => by rw [Bd.returns] at h; cases h)
 subst hG
 refine ⟨_, _, pre6 _ ?_, hrun, hended, _, _, rfl, ?_, ⟨_, rfl⟩, hW, hsame.mono (by decide) (by decide)⟩
 ·exact retN X0 hx (t := .boolean) Bd.returns (by simp) (D 20 rfl) hr
 ·show Q_rm_eq0 Z ra rb ka kb h0 n0 _ s₁.heap _
  rw [e0]
  exact ⟨rfl, N0, rfl⟩
theorem ef_rm_eq1 (m : MethodId) (ra : Addr) (rb : Addr) : entryFrame m #[(.ref ra), (.ref rb)] 4 = mkF m 0 #[vR ra, vR rb, vU, vU] [] := by simp [entryFrame, mkF, argsToLocals, Value.category]
def Q_rm_eq1 (Z : State) (ra : Addr) (rb : Addr) (ka : ClassId) (kb : ClassId) (rw : Addr) (h0 : Heap) (n0 : Nat) (v : Option Value) (h : Heap) (L : List Loc) : Prop := v = some (.int 0) ∧ Fr n0 L ∧ h = h0
set_option maxRecDepth 65536 in
set_option maxHeartbeats 40000000 in
theorem rm_eq1 (l : Launch) (Z : State) (a0 : Array Value) (hw : ∀ d ∈ tables_1, d.before a0 Z = true) (ws : List Jvm.Cond) (ra : Addr) (rb : Addr) (ka : ClassId) (kb : ClassId) (rw : Addr) (h0 : Heap) (n0 : Nat) (Z0 : n0 ≤ h0.size) (VA : Arv Z h0 ra ka (.object "java/lang/String") (1 : Int32) [(.ref rw)] .null) (VB0 : Arv Z h0 rb kb (.object "java/lang/String") (0 : Int32) [] .null) (hne : ra ≠ rb) :
  oMet l oM17 jdk_65_method_97_code 4 (some .boolean) ws (oR 0 0 0 0) #[(.ref ra), (.ref rb)] Z h0 (Q_rm_eq1 Z ra rb ka kb rw h0 n0) := by
 refine MetFree.of_bodySF (plainFor_of_name pn6) hisR ?_
 have W := own_W hw
 intro p e s m args bw meth c s₁ Bd hml0 hP hK
 obtain ⟨rfl, hZ, hh⟩ := hP
 have hx := Bd.exec
 have hby := Bd.bytes
 have hml : c.maxLocals = 4 := hml0
 have hown : s.vm.findClass "java/util/Arrays" = some m.cls := findClass_of_methodNamed Bd.named
 have hnm := (name_of_methodNamed Bd.named Bd.method).1
 have X0 : Stand p l e (oR 0 0 0 0) s m #[(.ref ra), (.ref rb)] bw meth c s₁ [] 0 0 := Stand.of_body Bd
 have e0 : s₁.heap = h0 := by rw [← hh, Bd.state]; rfl
 have N0 := Fr.nil n0
 have D := own_D hby dB22
 obtain ⟨G, hG⟩ := own_ex fun t => Steps p.tables e bw (s₁.setTop (entryFrame m #[(.ref ra), (.ref rb)] 4)) t
 have pre0 : oP p e bw G s₁ m 0 #[vR ra, vR rb, vU, vU] [] := by intro t k; subst hG; exact castTop (ef_rm_eq1 m ra rb) k
 have pre1 : oP p e bw G s₁ m 2 #[vR ra, vR rb, vU, vU] [(.ref rb), (.ref ra)] := by
  intro t k
  refine pre0 t ?_
  refine XS.aloadN X0.here hx rfl (D 0 rfl) rfl rfl ?_
  refine XS.aloadN X0.here hx rfl (D 1 rfl) rfl rfl ?_
  exact k
 have pre2 : oP p e bw G s₁ m 18 #[vR ra, vR rb, vU, vU] [(.ref ra)] := by
  intro t k
  refine pre1 t ?_
  refine Jvm.RoadKit.acmp (g := (own_g pre1)) X0 hx rfl rfl rfl (pc0 := 2) (pc' := 7) (same := false) rfl (D 2 rfl) rfl (decide_eq_false fun q => hne (Value.ref.inj q)) (by decide) (by decide) ?_
  refine XS.aloadN X0.here hx rfl (D 3 rfl) rfl rfl ?_
  refine XS.ifnullNo X0.here hx rfl (D 4 rfl) rfl ?_
  refine XS.aloadN X0.here hx rfl (D 5 rfl) rfl rfl ?_
  refine XS.ifnonnullYes X0.here hx rfl (pc0 := 12) (pc' := 17) rfl (D 6 rfl) rfl (by decide) (by decide) ?_
  refine XS.aloadN X0.here hx rfl (D 7 rfl) rfl rfl ?_
  exact k
 have pre4 : oP p e bw G s₁ m 21 #[vR ra, vR rb, vI 1, vU] [(.ref rb)] := by
  intro t k
  refine pre2 t ?_
  obtain ⟨c3, a3, q3, s3, m3, i3, u3⟩ := id VA
  refine X0.arraylength hx (by rw [e0]; exact a3.1) (State.isArrayOf_alike hZ.alike a3.2.1) (g := (own_g pre2)) rfl rfl (D 8 rfl) _ ?_
  rw [len_of s3 m3]
  refine XS.istoreN X0.here hx rfl (D 9 rfl) rfl (l' := #[vR ra, vR rb, vI 1, vU]) rfl ?_
  refine XS.aloadN X0.here hx rfl (D 10 rfl) rfl rfl ?_
  exact k
 have pre6 : oP p e bw G s₁ m 27 #[vR ra, vR rb, vI 1, vU] [(.int 0)] := by
  intro t k
  refine pre4 t ?_
  obtain ⟨c5, a5, q5, s5, m5, i5, u5⟩ := id VB0
  refine X0.arraylength hx (by rw [e0]; exact a5.1) (State.isArrayOf_alike hZ.alike a5.2.1) (g := (own_g pre4)) rfl rfl (D 11 rfl) _ ?_
  rw [len_of s5 m5]
  refine XS.iloadN X0.here hx rfl (D 12 rfl) rfl ?_
  refine XS.icmpNo X0.here hx rfl (D 13 rfl) rfl (feq (show ¬ ((0 : Int32) = (1 : Int32)) from by decide)).1 ?_
  refine XS.iconst X0.here hx rfl (D 21 rfl) ?_
  exact k
 obtain ⟨fs, hr, hrun, hended, hW, hsame⟩ := X0.leave (hlocks := Bd.notSynchronized) (v := some (.int 0)) (fun h => by rw [Bd.returns] at h; cases h)
 subst hG
 refine ⟨_, _, pre6 _ ?_, hrun, hended, _, _, rfl, ?_, ⟨_, rfl⟩, hW, hsame.mono (by decide) (by decide)⟩
 ·exact retN X0 hx (t := .boolean) Bd.returns (by simp) (D 22 rfl) hr
 ·show Q_rm_eq1 Z ra rb ka kb rw h0 n0 _ s₁.heap _
  rw [e0]
  exact ⟨rfl, N0, rfl⟩
theorem pd23 : parseMethodDescriptor "([Ljava/lang/String;[B)V" = some ⟨[(.array (.object "java/lang/String")), (.array .byte)], none⟩ := by decide +kernel
theorem ef_rm_rqa0 (m : MethodId) (ra : Addr) (rb : Addr) : entryFrame m #[(.ref ra), (.ref rb)] 7 = mkF m 0 #[vR ra, vR rb, vU, vU, vU, vU, vU] [] := by simp [entryFrame, mkF, argsToLocals, Value.category]
def Q_rm_rqa0 (Z : State) (ra : Addr) (rb : Addr) (xcs : Int32) (wu : Addr) (wc : Addr) (kc : ClassId) (xr0 : Int32) (xr1 : Int32) (xk : Int32) (re : Addr) (ke : ClassId) (le : List Int32) (ka : ClassId) (h0 : Heap) (n0 : Nat) (v : Option Value) (h : Heap) (L : List Loc) : Prop := ∃ rt : Addr, ∃ kb : ClassId, ∃ bo : Addr, v = some (.ref bo) ∧ Fr n0 L ∧ n0 ≤ bo ∧ h0.size ≤ bo ∧ Keep h0 h [ra] ∧ Arv Z h bo kb .byte (own_len (own_hdr 42 (xk + (0 : Int32)) ++ (le ++ (own_bulks [])))) ((own_hdr 42 (xk + (0 : Int32)) ++ (le ++ (own_bulks []))).map Value.int) (.int 0) ∧ Exa Z h ra oS0 ∧ Fld Z h ra oS0 "count" "I" (.int xk) ∧ Fld Z h ra oS0 "encoded" "[B" (.ref re) ∧ Fld Z h ra oS0 "last" oS4 (.ref rt) ∧ Arv Z h re ke .byte (own_len le) (le.map Value.int) (.int 0) ∧ Exa Z h rt oS2 ∧ Fld Z h rt oS2 "rest" oS9 (.ref rb) ∧ Fld Z h rt oS2 "request" "[B" (.ref bo)
set_option maxRecDepth 65536 in
set_option maxHeartbeats 40000000 in
theorem rm_rqa0 (l : Launch) (Z : State) (a0 : Array Value) (hw : ∀ d ∈ tables_1, d.before a0 Z = true) (ws : List Jvm.Cond) (ra : Addr) (rb : Addr) (xcs : Int32) (wu : Addr) (wc : Addr) (kc : ClassId) (xr0 : Int32) (xr1 : Int32) (xk : Int32) (re : Addr) (ke : ClassId) (le : List Int32) (ka : ClassId) (h0 : Heap) (n0 : Nat) (Z0 : n0 ≤ h0.size) (SC : Sta Z h0 "java/lang/String" "COMPACT_STRINGS" "Z" (.int xcs)) (hcs : ¬ (xcs = (0 : Int32))) (SI : Sta Z h0 "sun/nio/cs/UTF_8" "INSTANCE" oS7 (.ref wu)) (SU : Sta Z h0 oS5 "UTF_8" oS6 (.ref wu)) (SR : Sta Z h0 oS1 "CRLF" "[B" (.ref wc)) (VR : Arv Z h0 wc kc .byte (2 : Int32) [(.int xr0), (.int xr1)] (.int 0)) (Ea : Exa Z h0 ra oS0) (g_ra : n0 ≤ ra) (Fk : Fld Z h0 ra oS0 "count" "I" (.int xk)) (Fe : Fld Z h0 ra oS0 "encoded" "[B" (.ref re)) (VE : Arv Z h0 re ke .byte (own_len le) (le.map Value.int) (.int 0)) (EE : Exa Z h0 re "[B") (VA : Arv Z h0 rb ka (.object "java/lang/String") (0 : Int32) [] .null) (hQ : own_QT (xk + (0 : Int32)) le (own_bulks [])) (hcap : (own_hdr 42 (xk + (0 : Int32)) ++ (le ++ (own_bulks []))).length ≤ 64) (Fl : Fld Z h0 ra oS0 "last" oS4 .null) :
  oMet l oM0 prog_12_method_2_code 7 (some (.array .byte)) ws (oR 2 3 66 33) #[(.ref ra), (.ref rb)] Z h0 (Q_rm_rqa0 Z ra rb xcs wu wc kc xr0 xr1 xk re ke le ka h0 n0) := by
 refine MetFree.of_bodySF (plainFor_of_name pn7) hisR ?_
 have W := own_W hw
 intro p e s m args bw meth c s₁ Bd hml0 hP hK
 obtain ⟨rfl, hZ, hh⟩ := hP
 have hx := Bd.exec
 have hby := Bd.bytes
 have hml : c.maxLocals = 7 := hml0
 have hown : s.vm.findClass oS0 = some m.cls := findClass_of_methodNamed Bd.named
 have hnm := (name_of_methodNamed Bd.named Bd.method).1
 have X0 : Stand p l e (oR 2 3 66 33) s m #[(.ref ra), (.ref rb)] bw meth c s₁ [] 0 0 := Stand.of_body Bd
 have e0 : s₁.heap = h0 := by rw [← hh, Bd.state]; rfl
 have N0 := Fr.nil n0
 have D := own_D hby dB17
 obtain ⟨G, hG⟩ := own_ex fun t => Steps p.tables e bw (s₁.setTop (entryFrame m #[(.ref ra), (.ref rb)] 7)) t
 have pre0 : oP p e bw G s₁ m 0 #[vR ra, vR rb, vU, vU, vU, vU, vU] [] := by intro t k; subst hG; exact castTop (ef_rm_rqa0 m ra rb) k
 have hre := own_neEE (by decide) EE Ea
 have pre1 : oP p e bw G s₁ m 1 #[vR ra, vR rb, vU, vU, vU, vU, vU] [(.ref ra)] := by
  intro t k
  refine pre0 t ?_
  refine XS.aloadN X0.here hx rfl (D 0 rfl) rfl rfl ?_
  exact k
 obtain ⟨T2, X2, e2, st2⟩ := getF X0 hx hZ hown (host := "") (Or.inl (W 81 rfl)) Via.refl e0 Fl (g := (own_g pre1)) rfl rfl (D 1 rfl)
 have pre3 : oP p e bw G T2 m 29 #[vR ra, vR rb, .val .null, vU, vU, vU, vU] [(.ref rb)] := by
  intro t k
  refine pre1 t (st2 t ?_)
  refine XS.astoreN X2.here hx rfl (D 2 rfl) rfl rfl (l' := #[vR ra, vR rb, .val .null, vU, vU, vU, vU]) rfl ?_
  refine XS.aloadN X2.here hx rfl (D 3 rfl) rfl rfl ?_
  refine XS.ifnullYes X2.here hx rfl (pc0 := 6) (pc' := 28) rfl (D 4 rfl) rfl (by decide) (by decide) ?_
  refine XS.aloadN X2.here hx rfl (D 5 rfl) rfl rfl ?_
  exact k
 obtain ⟨_, T4, Lc4, X4, hQ4, pc4⟩ := own_callN X2 hx hZ hown (W 83 rfl) (W 58 rfl) (W 49 rfl) (W 59 rfl) (by decide) (rm_u0 l Z a0 hw [] rb xcs wu ka h0 n0 Z0 SC (hcs) SI SU VA) e2 pre3 hml rfl (D 6 rfl) (lenOf pd17 rfl) rfl (W := 0) rfl (by decide)
 obtain ⟨ko_4, b4, rfl, M4, g_b4, zs4, kp4, f4_0⟩ := hQ4
 have sz_b4 : h0.size ≤ b4 := Nat.le_trans (Keep.refl h0 [ra]).1 zs4
 have K4 : Keep h0 T4.heap [ra] := (Keep.refl h0 [ra]).trans kp4 all0
 have zz4 : n0 ≤ T4.heap.size := Nat.le_trans Z0 K4.1
 have N4 := Fr.app N0 M4
 have pre5 : oP p e bw G T4 m 35 #[vR ra, vR rb, .val .null, vU, vR b4, vU, vU] [(.ref ra)] := by
  intro t k
  refine pc4 t ?_
  refine XS.astore X4.here hx rfl (D 7 rfl) rfl rfl (l' := #[vR ra, vR rb, .val .null, vU, vR b4, vU, vU]) rfl ?_
  refine XS.aloadN X4.here hx rfl (D 8 rfl) rfl rfl ?_
  exact k
 have f6 := (Fk.keep kp4 nin0)
 obtain ⟨T7, X7, e7, st7⟩ := getF X4 hx hZ hown (host := "") (Or.inl (W 72 rfl)) Via.refl rfl f6 (g := (own_g pre5)) rfl rfl (D 9 rfl)
 have pre8 : oP p e bw G T7 m 39 #[vR ra, vR rb, .val .null, vU, vR b4, vU, vU] [(.ref rb), (.int xk)] := by
  intro t k
  refine pre5 t (st7 t ?_)
  refine XS.aloadN X7.here hx rfl (D 10 rfl) rfl rfl ?_
  exact k
 have pre10 : oP p e bw G T7 m 45 #[vR ra, vR rb, .val .null, vU, vR b4, vI (xk + (0 : Int32)), vU] [(.int (xk + (0 : Int32)))] := by
  intro t k
  refine pre8 t ?_
  obtain ⟨c9, a9, q9, s9, m9, i9, u9⟩ := id (VA.keep kp4 nin0)
  refine X7.arraylength hx (by rw [e7]; exact a9.1) (State.isArrayOf_alike hZ.alike a9.2.1) (g := (own_g pre8)) rfl rfl (D 11 rfl) _ ?_
  rw [len_of s9 m9]
  refine XS.iadd X7.here hx rfl (D 12 rfl) rfl ?_
  refine XS.istore X7.here hx rfl (D 13 rfl) rfl (l' := #[vR ra, vR rb, .val .null, vU, vR b4, vI (xk + (0 : Int32)), vU]) rfl ?_
  refine XS.iload X7.here hx rfl (D 14 rfl) rfl ?_
  exact k
 have f11 := (SR.ext (own_keep_ext kp4))
 have f12 := (VR.keep kp4 nin0)
 obtain ⟨_, T13, Lc13, X13, hQ13, pc13⟩ := own_callN X7 hx hZ hown (W 84 rfl) (W 85 rfl) (W 49 rfl) (W 86 rfl) (by decide) (rm_hl l Z a0 hw [] (xk + (0 : Int32)) wc kc xr0 xr1 T4.heap n0 zz4 f11 f12 (hQ.hq)) e7 pre10 hml rfl (D 15 rfl) (lenOf pd7 rfl) rfl (W := 0) rfl (by decide)
 obtain ⟨rfl, M13, e13⟩ := hQ13
 have N13 := Fr.app N4 M13
 have pre14 : oP p e bw G T13 m 49 #[vR ra, vR rb, .val .null, vU, vR b4, vI (xk + (0 : Int32)), vU] [(.ref ra), (.int (F_rm_hl (xk + (0 : Int32)) xr0 xr1))] := by
  intro t k
  refine pc13 t ?_
  refine XS.aloadN X13.here hx rfl (D 16 rfl) rfl rfl ?_
  exact k
 have f15 := (Fe.keep kp4 nin0)
 obtain ⟨T16, X16, e16, st16⟩ := getF X13 hx hZ hown (host := "") (Or.inl (W 74 rfl)) Via.refl e13 f15 (g := (own_g pre14)) rfl rfl (D 17 rfl)
 have pre17 : oP p e bw G T16 m 52 #[vR ra, vR rb, .val .null, vU, vR b4, vI (xk + (0 : Int32)), vU] [(.ref re), (.int (F_rm_hl (xk + (0 : Int32)) xr0 xr1))] := fun t k => pre14 t (st16 t k)
 have pre19 : oP p e bw G T16 m 56 #[vR ra, vR rb, .val .null, vU, vR b4, vI (xk + (0 : Int32)), vU] [(.ref b4), (.int ((F_rm_hl (xk + (0 : Int32)) xr0 xr1) + (own_len le)))] := by
  intro t k
  refine pre17 t ?_
  obtain ⟨c18, a18, q18, s18, m18, i18, u18⟩ := id (VE.keep kp4 nin0)
  refine X16.arraylength hx (by rw [e16]; exact a18.1) (State.isArrayOf_alike hZ.alike a18.2.1) (g := (own_g pre17)) rfl rfl (D 18 rfl) _ ?_
  rw [len_of s18 m18]
  refine XS.iadd X16.here hx rfl (D 19 rfl) rfl ?_
  refine XS.aload X16.here hx rfl (D 20 rfl) rfl rfl ?_
  exact k
 obtain ⟨_, T20, Lc20, X20, hQ20, pc20⟩ := own_callN X16 hx hZ hown (W 92 rfl) (W 63 rfl) (W 49 rfl) (W 64 rfl) (by decide) (rm_bl0 l Z a0 hw [] b4 wc kc xr0 xr1 _ T4.heap n0 zz4 f11 f12 f4_0) e16 pre19 hml rfl (D 21 rfl) (lenOf pd18 rfl) rfl (W := 1) rfl (by decide)
 obtain ⟨rfl, M20, e20⟩ := hQ20
 have N20 := Fr.app N13 M20
 have pre21 : oP p e bw G T20 m 60 #[vR ra, vR rb, .val .null, vU, vR b4, vI (xk + (0 : Int32)), vU] [(.int (((F_rm_hl (xk + (0 : Int32)) xr0 xr1) + (own_len le)) + (F_rm_bl0 xr0 xr1)))] := by
  intro t k
  refine pc20 t ?_
  refine XS.iadd X20.here hx rfl (D 22 rfl) rfl ?_
  exact k
 rw [show (((F_rm_hl (xk + (0 : Int32)) xr0 xr1) + (own_len le)) + (F_rm_bl0 xr0 xr1)) = (own_len (own_hdr 42 (xk + (0 : Int32)) ++ (le ++ (own_bulks [])))) from by rw [own_bl0  _ _]; exact own_q8 hQ _ _] at pre21
 obtain ⟨T22, h22, k22, X22, e22, E22, A22, x22, st22⟩ := newPE X20 hx hZ (W 21 rfl) e20 (g := (own_g pre21)) rfl (D 23 rfl) rfl (own_nn hQ.hb) (cap := 64) (own_cap hcap (by decide)) (by decide) (by decide) (by decide) (ad := "[B") rfl
 obtain ⟨b22, g22⟩ := own_ex T4.heap.size
 rw [← g22] at A22 st22 x22
 have g_b22 : n0 ≤ b22 := Nat.le_trans zz4 (Nat.le_of_eq g22.symm)
 have sz_b22 : h0.size ≤ b22 := Nat.le_trans K4.1 (Nat.le_of_eq g22.symm)
 have K22 : Keep h0 h22 [ra] := K4.ext E22
 have z22 : n0 ≤ h22.size := Nat.le_trans Z0 K22.1
 have V_b22 : Arv Z h22 b22 k22 .byte (own_len (own_hdr 42 (xk + (0 : Int32)) ++ (le ++ (own_bulks [])))) ((List.replicate ((own_len (own_hdr 42 (xk + (0 : Int32)) ++ (le ++ (own_bulks []))))).toNatClampNeg (0 : Int32)).map Value.int) (.int 0) := (Arv.new A22 (own_nn hQ.hb)).pad (own_rep _)
 have pre23 : oP p e bw G T22 m 63 #[vR ra, vR rb, .val .null, vR b22, vR b4, vI (xk + (0 : Int32)), vU] [] := by
  intro t k
  refine pre21 t (st22 t ?_)
  refine XS.astoreN X22.here hx rfl (D 24 rfl) rfl rfl (l' := #[vR ra, vR rb, .val .null, vR b22, vR b4, vI (xk + (0 : Int32)), vU]) rfl ?_
  exact k
 have vc24 : Arv Z h22 b22 k22 .byte (own_len (own_hdr 42 (xk + (0 : Int32)) ++ (le ++ (own_bulks [])))) ((own_zs (own_hdr 42 (xk + (0 : Int32)) ++ (le ++ (own_bulks [])))).map Value.int) (.int 0) := own_cv (rfl) V_b22
 have pre25 : oP p e bw G T22 m 69 #[vR ra, vR rb, .val .null, vR b22, vR b4, vI (xk + (0 : Int32)), vU] [(.int (xk + (0 : Int32))), (.int 42), (.int 0), (.ref b22)] := by
  intro t k
  refine pre23 t ?_
  refine XS.aloadN X22.here hx rfl (D 25 rfl) rfl rfl ?_
  refine XS.iconst X22.here hx rfl (D 26 rfl) ?_
  refine XS.bipush X22.here hx rfl (D 27 rfl) ?_
  refine XS.iload X22.here hx rfl (D 28 rfl) rfl ?_
  exact k
 have f26 := (f11.ext E22)
 have f27 := (f12.ext E22)
 have ne28 := (Nat.ne_of_lt (Nat.lt_of_lt_of_le f12.lt (Nat.le_of_eq g22.symm)))
 obtain ⟨_, T29, Lc29, X29, hQ29, pc29⟩ := own_callN X22 hx hZ hown (W 93 rfl) (W 94 rfl) (W 49 rfl) (W 95 rfl) (by decide) (rm_ph l Z a0 hw [] b22 (0 : Int32) (42 : Int32) (xk + (0 : Int32)) wc kc xr0 xr1 k22 _ _ h22 n0 z22 f26 f27 (hQ.hq) vc24 (g_b22) (own_q1 hQ) (own_q2 hQ) (ne28)) e22 pre25 hml rfl (D 29 rfl) (lenOf pd8 rfl) rfl (W := 0) rfl (by decide)
 obtain ⟨rfl, M29, kp29, f29_0⟩ := hQ29
 have K29 : Keep h0 T29.heap [ra] := K22.trans kp29 (allS (P := fun x => x ∈ [ra] ∨ h0.size ≤ x) (Or.inr sz_b22) all0)
 have zz29 : n0 ≤ T29.heap.size := Nat.le_trans Z0 K29.1
 have N29 := Fr.app N20 M29
 have pre30 : oP p e bw G T29 m 74 #[vR ra, vR rb, .val .null, vR b22, vR b4, vI (xk + (0 : Int32)), vI ((((0 : Int32) + (1 : Int32)) + (F_rm_dig (xk + (0 : Int32)))) + (2 : Int32))] [] := by
  intro t k
  refine pc29 t ?_
  refine XS.istore X29.here hx rfl (D 30 rfl) rfl (l' := #[vR ra, vR rb, .val .null, vR b22, vR b4, vI (xk + (0 : Int32)), vI ((((0 : Int32) + (1 : Int32)) + (F_rm_dig (xk + (0 : Int32)))) + (2 : Int32))]) rfl ?_
  exact k
 rw [show ((((0 : Int32) + (1 : Int32)) + (F_rm_dig (xk + (0 : Int32)))) + (2 : Int32)) = (own_len (own_hdr 42 (xk + (0 : Int32)))) from own_q4 hQ] at pre30
 have vc31 : Arv Z T29.heap b22 k22 .byte (own_len (own_hdr 42 (xk + (0 : Int32)) ++ (le ++ (own_bulks [])))) ((own_hdr 42 (xk + (0 : Int32)) ++ (own_zs (own_hdr 42 (xk + (0 : Int32)) ++ (le ++ (own_bulks [])))).drop (own_hdr 42 (xk + (0 : Int32))).length).map Value.int) (.int 0) := own_cv ((own_q3 hQ).symm) f29_0
 have jt0 := own_q5 hQ
 have pre32 : oP p e bw G T29 m 75 #[vR ra, vR rb, .val .null, vR b22, vR b4, vI (xk + (0 : Int32)), vI (own_len (own_hdr 42 (xk + (0 : Int32))))] [(.ref ra)] := by
  intro t k
  refine pre30 t ?_
  refine XS.aloadN X29.here hx rfl (D 31 rfl) rfl rfl ?_
  exact k
 have ne33 := (Nat.ne_of_lt (Nat.lt_of_lt_of_le f6.lt (Nat.le_of_eq g22.symm)))
 have f34 := ((f15.ext E22).keep kp29 (ninS ne33 nin0))
 obtain ⟨T35, X35, e35, st35⟩ := getF X29 hx hZ hown (host := "") (Or.inl (W 74 rfl)) Via.refl rfl f34 (g := (own_g pre32)) rfl rfl (D 32 rfl)
 have pre36 : oP p e bw G T35 m 83 #[vR ra, vR rb, .val .null, vR b22, vR b4, vI (xk + (0 : Int32)), vI (own_len (own_hdr 42 (xk + (0 : Int32))))] [(.ref ra), (.int (own_len (own_hdr 42 (xk + (0 : Int32))))), (.ref b22), (.int 0), (.ref re)] := by
  intro t k
  refine pre32 t (st35 t ?_)
  refine XS.iconst X35.here hx rfl (D 33 rfl) ?_
  refine XS.aloadN X35.here hx rfl (D 34 rfl) rfl rfl ?_
  refine XS.iload X35.here hx rfl (D 35 rfl) rfl ?_
  refine XS.aloadN X35.here hx rfl (D 36 rfl) rfl rfl ?_
  exact k
 obtain ⟨T37, X37, e37, st37⟩ := getF X35 hx hZ hown (host := "") (Or.inl (W 74 rfl)) Via.refl e35 f34 (g := (own_g pre36)) rfl rfl (D 37 rfl)
 have pre38 : oP p e bw G T37 m 86 #[vR ra, vR rb, .val .null, vR b22, vR b4, vI (xk + (0 : Int32)), vI (own_len (own_hdr 42 (xk + (0 : Int32))))] [(.ref re), (.int (own_len (own_hdr 42 (xk + (0 : Int32))))), (.ref b22), (.int 0), (.ref re)] := fun t k => pre36 t (st37 t k)
 have ne39 := (Nat.ne_of_lt (Nat.lt_of_lt_of_le (VE.keep kp4 nin0).lt (Nat.le_of_eq g22.symm)))
 have pre41 : oP p e bw G T37 m 87 #[vR ra, vR rb, .val .null, vR b22, vR b4, vI (xk + (0 : Int32)), vI (own_len (own_hdr 42 (xk + (0 : Int32))))] [(.int (own_len le)), (.int (own_len (own_hdr 42 (xk + (0 : Int32))))), (.ref b22), (.int 0), (.ref re)] := by
  intro t k
  refine pre38 t ?_
  obtain ⟨c40, a40, q40, s40, m40, i40, u40⟩ := id (((VE.keep kp4 nin0).ext E22).keep kp29 (ninS ne39 nin0))
  refine X37.arraylength hx (by rw [e37]; exact a40.1) (State.isArrayOf_alike hZ.alike a40.2.1) (g := (own_g pre38)) rfl rfl (D 38 rfl) _ ?_
  rw [len_of s40 m40]
  exact k
 have f42 := (((VE.keep kp4 nin0).ext E22).keep kp29 (ninS ne39 nin0))
 obtain ⟨T43, h43, L43, X43, e43, N43, kp43, V43, st43⟩ := cpA X37 hx hZ hown (W 96 rfl) (W 99 rfl) (W 97 rfl) (W 98 rfl) e37 f42 vc31 (us := (le.map Value.int)) (Or.inl ⟨rfl, rfl⟩) (by decide) (own_jt1 jt0) (own_jt2 jt0) (own_jt3 jt0) (own_jt4 jt0) (own_jt6 jt0) (own_jt5 jt0) N29 g_b22 (g := (own_g pre41)) rfl (by rw [hml]; rfl) rfl (D 39 rfl) (by decide) (W := 0) (by show 2 * 0 + _ ≤ _; exact Nat.le_of_eq rfl) (by decide)
 have K43 : Keep h0 h43 [ra] := K29.trans kp43 (allS (P := fun x => x ∈ [ra] ∨ h0.size ≤ x) (Or.inr sz_b22) all0)
 have zz43 : n0 ≤ h43.size := Nat.le_trans Z0 K43.1
 have VV43 : Arv Z h43 b22 k22 .byte (own_len (own_hdr 42 (xk + (0 : Int32)) ++ (le ++ (own_bulks [])))) ((((own_hdr 42 (xk + (0 : Int32))) ++ le) ++ ((own_zs (own_hdr 42 (xk + (0 : Int32)) ++ (le ++ (own_bulks [])))).drop (own_hdr 42 (xk + (0 : Int32))).length).drop le.length).map Value.int) (.int 0) := (by rw [← own_jt7 jt0]; exact V43)
 have pre44 : oP p e bw G T43 m 94 #[vR ra, vR rb, .val .null, vR b22, vR b4, vI (xk + (0 : Int32)), vI (own_len (own_hdr 42 (xk + (0 : Int32))))] [(.ref ra), (.int (own_len (own_hdr 42 (xk + (0 : Int32))))), (.ref b22)] := by
  intro t k
  refine pre41 t (st43 t ?_)
  refine XS.aloadN X43.here hx rfl (D 40 rfl) rfl rfl ?_
  refine XS.iload X43.here hx rfl (D 41 rfl) rfl ?_
  refine XS.aloadN X43.here hx rfl (D 42 rfl) rfl rfl ?_
  exact k
 have f45 := (f34.keep kp43 (ninS ne33 nin0))
 obtain ⟨T46, X46, e46, st46⟩ := getF X43 hx hZ hown (host := "") (Or.inl (W 74 rfl)) Via.refl e43 f45 (g := (own_g pre44)) rfl rfl (D 43 rfl)
 have pre47 : oP p e bw G T46 m 97 #[vR ra, vR rb, .val .null, vR b22, vR b4, vI (xk + (0 : Int32)), vI (own_len (own_hdr 42 (xk + (0 : Int32))))] [(.ref re), (.int (own_len (own_hdr 42 (xk + (0 : Int32))))), (.ref b22)] := fun t k => pre44 t (st46 t k)
 have pre49 : oP p e bw G T46 m 99 #[vR ra, vR rb, .val .null, vR b22, vR b4, vI (xk + (0 : Int32)), vI (own_len (own_hdr 42 (xk + (0 : Int32))))] [(.int ((own_len (own_hdr 42 (xk + (0 : Int32)))) + (own_len le))), (.ref b22)] := by
  intro t k
  refine pre47 t ?_
  obtain ⟨c48, a48, q48, s48, m48, i48, u48⟩ := id (f42.keep kp43 (ninS ne39 nin0))
  refine X46.arraylength hx (by rw [e46]; exact a48.1) (State.isArrayOf_alike hZ.alike a48.2.1) (g := (own_g pre47)) rfl rfl (D 44 rfl) _ ?_
  rw [len_of s48 m48]
  refine XS.iadd X46.here hx rfl (D 45 rfl) rfl ?_
  exact k
 rw [show ((own_len (own_hdr 42 (xk + (0 : Int32)))) + (own_len le)) = (own_len (own_hdr 42 (xk + (0 : Int32)) ++ le)) from (own_lenA _ _).symm] at pre49
 have pre50 : oP p e bw G T46 m 101 #[vR ra, vR rb, .val .null, vR b22, vR b4, vI (xk + (0 : Int32)), vI (own_len (own_hdr 42 (xk + (0 : Int32))))] [(.ref b4), (.int (own_len (own_hdr 42 (xk + (0 : Int32)) ++ le))), (.ref b22)] := by
  intro t k
  refine pre49 t ?_
  refine XS.aload X46.here hx rfl (D 46 rfl) rfl rfl ?_
  exact k
 have f51 := (own_sta_keep (own_sta_keep f26 kp29 x22) kp43 (x22.keep kp29))
 have f52 := ((f27.keep kp29 (ninS ne28 nin0)).keep kp43 (ninS ne28 nin0))
 have ne53 := (Nat.ne_of_lt (Nat.lt_of_lt_of_le f4_0.lt (Nat.le_of_eq g22.symm)))
 have f54 := (((f4_0.ext E22).keep kp29 (ninS ne53 nin0)).keep kp43 (ninS ne53 nin0))
 have f55 := ((x22.keep kp29).keep kp43)
 obtain ⟨_, T56, Lc56, X56, hQ56, pc56⟩ := own_callN X46 hx hZ hown (W 100 rfl) (W 66 rfl) (W 49 rfl) (W 67 rfl) (by decide) (rm_pb0 l Z a0 hw [] b22 b4 wc kc xr0 xr1 k22 _ _ _ (own_hdr 42 (xk + (0 : Int32)) ++ le) (((own_zs (own_hdr 42 (xk + (0 : Int32)) ++ (le ++ (own_bulks [])))).drop (own_hdr 42 (xk + (0 : Int32))).length).drop le.length) h43 n0 zz43 f51 f52 VV43 f54 f55 (g_b22) (rfl) (own_lz (own_q6 hQ).symm) (by rw [own_q6 hQ]; exact hQ.hb) (own_q7 hQ) (ne28) (ne53)) e46 pre50 hml rfl (D 47 rfl) (lenOf pd19 rfl) rfl (W := 0) rfl (by decide)
 obtain ⟨rfl, M56, kp56, f56_0⟩ := hQ56
 have K56 : Keep h0 T56.heap [ra] := K43.trans kp56 all0
 have zz56 : n0 ≤ T56.heap.size := Nat.le_trans Z0 K56.1
 have N56 := Fr.app N43 M56
 have pre57 : oP p e bw G T56 m 104 #[vR ra, vR rb, .val .null, vR b22, vR b4, vI (xk + (0 : Int32)), vI (own_len (own_hdr 42 (xk + (0 : Int32))))] [] := pc56
 have vc58 : Arv Z T56.heap b22 k22 .byte (own_len (own_hdr 42 (xk + (0 : Int32)) ++ (le ++ (own_bulks [])))) ((own_hdr 42 (xk + (0 : Int32)) ++ (le ++ (own_bulks []))).map Value.int) (.int 0) := own_cv ((List.append_assoc _ _ _).symm) f56_0
 have pre59 : oP p e bw G T56 m 105 #[vR ra, vR rb, .val .null, vR b22, vR b4, vI (xk + (0 : Int32)), vI (own_len (own_hdr 42 (xk + (0 : Int32))))] [(.ref ra)] := by
  intro t k
  refine pre57 t ?_
  refine XS.aloadN X56.here hx rfl (D 48 rfl) rfl rfl ?_
  exact k
 obtain ⟨T60, h60, X60, e60, E60, A60, D60, -, st60⟩ := newO X56 hx hZ hown (W 101 rfl) (W 102 rfl) (W 103 rfl) rfl (g := (own_g pre59)) rfl (D 49 rfl) (by decide) (by decide)
 obtain ⟨b60, g60⟩ := own_ex T56.heap.size
 rw [← g60] at A60 D60 st60
 have g_b60 : n0 ≤ b60 := Nat.le_trans zz56 (Nat.le_of_eq g60.symm)
 have sz_b60 : h0.size ≤ b60 := Nat.le_trans K56.1 (Nat.le_of_eq g60.symm)
 have K60 : Keep h0 h60 [ra] := K56.ext E60
 have z60 : n0 ≤ h60.size := Nat.le_trans Z0 K60.1
 have F_rest_b60 : Fld Z h60 b60 oS2 "rest" oS9 .null := D60 (Or.inr (W 109 rfl)) (ty := (.array (.object "java/lang/String"))) (by decide)
 have F_request_b60 : Fld Z h60 b60 oS2 "request" "[B" .null := D60 (Or.inr (W 111 rfl)) (ty := (.array .byte)) (by decide)
 have pre61 : oP p e bw G T60 m 111 #[vR ra, vR rb, .val .null, vR b22, vR b4, vI (xk + (0 : Int32)), vI (own_len (own_hdr 42 (xk + (0 : Int32))))] [(.ref b22), (.ref rb), (.ref b60), (.ref b60), (.ref ra)] := by
  intro t k
  refine pre59 t (st60 t ?_)
  refine XS.dup X60.here hx rfl (D 50 rfl) rfl rfl ?_
  refine XS.aloadN X60.here hx rfl (D 51 rfl) rfl rfl ?_
  refine XS.aloadN X60.here hx rfl (D 52 rfl) rfl rfl ?_
  exact k
 obtain ⟨_, _, ⟨T62, L62, k62, n62⟩, -, X62, ⟨Lc62, hQ62, l62, y62, z62⟩, st62⟩ := X60.specialBackNest hx (y := oM6) rfl hown (own_mvM hZ (W 104 rfl)) (mvT hZ (W 105 rfl)) (mvT hZ (W 106 rfl)) (by decide) (backOf (W := 2) (rm_bi l Z a0 hw [] b60 rb b22 h60 n0 z60 A60 (g_b60) F_rest_b60 F_request_b60) hZ (W 106 rfl) (W 103 rfl) (by decide) (by decide)) (g := (own_g pre61)) rfl (by rw [hml]; rfl) (Steps.refl _) (a := b60) (argsL := [(.ref rb), (.ref b22)]) (rest := [(.ref b60), (.ref ra)]) (lenOf pd23 rfl) rfl (by show 2 * 0 + _ ≤ _; exact Nat.le_of_eq rfl) (D 53 rfl) (fun _ _ => ⟨rfl, e60, (by decide : 3 + 0 ≤ _), (by decide : 66 + 0 ≤ _)⟩)
 dsimp only [Pt.U, Pt.locs, Pt.cells, Pt.slots] at X62 l62 y62 z62 st62 hQ62
 subst y62 z62
 obtain ⟨rfl, M62, kp62, f62_0, f62_1, f62_2⟩ := hQ62
 have K62 : Keep h0 T62.heap [ra] := K60.trans kp62 (allS (P := fun x => x ∈ [ra] ∨ h0.size ≤ x) (Or.inr sz_b60) all0)
 have zz62 : n0 ≤ T62.heap.size := Nat.le_trans Z0 K62.1
 have N62 : Fr n0 L62 := by rw [l62]; exact Fr.app N56 M62
 clear l62
 have pre63 : oP p e bw G T62 m 114 #[vR ra, vR rb, .val .null, vR b22, vR b4, vI (xk + (0 : Int32)), vI (own_len (own_hdr 42 (xk + (0 : Int32))))] [(.ref b60), (.ref ra)] := fun t k => pre61 t (st62.trans k)
 have f64 := (((((((Ea.keep kp4).ext E22).keep kp29).keep kp43).keep kp56).ext E60).keep kp62)
 have ne65 := (Nat.ne_of_lt (Nat.lt_of_lt_of_le (f45.keep kp56 nin0).lt (Nat.le_of_eq g60.symm)))
 have f66 := (((((((Fl.keep kp4 nin0).ext E22).keep kp29 (ninS ne33 nin0)).keep kp43 (ninS ne33 nin0)).keep kp56 nin0).ext E60).keep kp62 (ninS ne65 nin0))
 obtain ⟨T67, h67, X67, e67, W67, st67⟩ := putF X62 hx hZ hown (host := "") (Or.inl (W 81 rfl)) Via.refl rfl f66 f64 (Or.inl (W 82 rfl)) (W 52 rfl) (ty := (.object oS2)) (by decide) rfl rfl (g := (own_g pre63)) rfl rfl (D 54 rfl)
 have K67 : Keep h0 h67 [ra] := K62.wr W67 (Or.inl (by simp))
 have z67 : n0 ≤ h67.size := Nat.le_trans Z0 K67.1
 have N67 := Fr.snoc X67 N62 g_ra
 have Fw67 := f66.same W67
 have pre68 : oP p e bw G T67 m 118 #[vR ra, vR rb, .val .null, vR b22, vR b4, vI (xk + (0 : Int32)), vI (own_len (own_hdr 42 (xk + (0 : Int32))))] [(.ref b22)] := by
  intro t k
  refine pre63 t (st67 t ?_)
  refine XS.aloadN X67.here hx rfl (D 55 rfl) rfl rfl ?_
  exact k
 obtain ⟨fs, hr, hrun, hended, hW, hsame⟩ := X67.leave (hlocks := Bd.notSynchronized) (v := some (.ref b22)) (fun h => by rw [Bd.returns] at h; cases h)
 subst hG
 refine ⟨_, _, pre68 _ ?_, hrun, hended, _, _, rfl, ?_, ⟨_, rfl⟩, hW, hsame.mono (by decide) (by decide)⟩
 ·exact retOut X67 hx Bd.returns rfl (Or.inr (Or.inr (Or.inr (Or.inr ⟨rfl, rfl, rfl⟩)))) (D 56 rfl) hr
 ·show Q_rm_rqa0 Z ra rb xcs wu wc kc xr0 xr1 xk re ke le ka h0 n0 _ T67.heap _
  rw [e67]
  have ne69 := (Nat.ne_of_lt (Nat.lt_of_lt_of_le vc58.lt (Nat.le_of_eq g60.symm)))
  have ne70 := (Nat.ne_of_lt (Nat.lt_of_lt_of_le ((f42.keep kp43 (ninS ne39 nin0)).keep kp56 nin0).lt (Nat.le_of_eq g60.symm)))
  exact ⟨b60, k22, b22, rfl, N67, g_b22, sz_b22, K67, (((vc58.ext E60).keep kp62 (ninS ne69 nin0)).other W67 (Ne.symm ne33)), (f64.wr W67), (((((((f6.ext E22).keep kp29 (ninS ne33 nin0)).keep kp43 (ninS ne33 nin0)).keep kp56 nin0).ext E60).keep kp62 (ninS ne65 nin0)).other W67 (Or.inr (slot_ne (Or.inr (W 73 rfl)) (Or.inl (W 82 rfl)) (by decide) (t := .int) (t' := (.object oS2)) (by decide) (by decide)))), ((((f45.keep kp56 nin0).ext E60).keep kp62 (ninS ne65 nin0)).other W67 (Or.inr (slot_ne (Or.inr (W 75 rfl)) (Or.inl (W 82 rfl)) (by decide) (t := (.array .byte)) (t' := (.object oS2)) (by decide) (by decide)))), Fw67, (((((f42.keep kp43 (ninS ne39 nin0)).keep kp56 nin0).ext E60).keep kp62 (ninS ne70 nin0)).other W67 hre), (f62_0.wr W67), (f62_1.other W67 (Or.inl (Ne.symm ne65))), (f62_2.other W67 (Or.inl (Ne.symm ne65)))⟩
theorem pd24 : parseMethodDescriptor "([Ljava/lang/Object;[Ljava/lang/Object;)Z" = some ⟨[(.array (.object "java/lang/Object")), (.array (.object "java/lang/Object"))], some .boolean⟩ := by decide +kernel
theorem ef_rm_rqb0 (m : MethodId) (ra : Addr) (rb : Addr) : entryFrame m #[(.ref ra), (.ref rb)] 7 = mkF m 0 #[vR ra, vR rb, vU, vU, vU, vU, vU] [] := by simp [entryFrame, mkF, argsToLocals, Value.category]
def Q_rm_rqb0 (Z : State) (ra : Addr) (rb : Addr) (xcs : Int32) (wu : Addr) (wc : Addr) (kc : ClassId) (xr0 : Int32) (xr1 : Int32) (xk : Int32) (re : Addr) (ke : ClassId) (le : List Int32) (ka : ClassId) (rt : Addr) (rr : Addr) (kr : ClassId) (rv : Addr) (h0 : Heap) (n0 : Nat) (v : Option Value) (h : Heap) (L : List Loc) : Prop := ∃ kb : ClassId, ∃ bo : Addr, v = some (.ref bo) ∧ Fr n0 L ∧ n0 ≤ bo ∧ h0.size ≤ bo ∧ Keep h0 h [ra] ∧ Arv Z h bo kb .byte (own_len (own_hdr 42 (xk + (0 : Int32)) ++ (le ++ (own_bulks [])))) ((own_hdr 42 (xk + (0 : Int32)) ++ (le ++ (own_bulks []))).map Value.int) (.int 0)
set_option maxRecDepth 65536 in
set_option maxHeartbeats 40000000 in
theorem rm_rqb0 (l : Launch) (Z : State) (a0 : Array Value) (hw : ∀ d ∈ tables_1, d.before a0 Z = true) (ws : List Jvm.Cond) (ra : Addr) (rb : Addr) (xcs : Int32) (wu : Addr) (wc : Addr) (kc : ClassId) (xr0 : Int32) (xr1 : Int32) (xk : Int32) (re : Addr) (ke : ClassId) (le : List Int32) (ka : ClassId) (rt : Addr) (rr : Addr) (kr : ClassId) (rv : Addr) (h0 : Heap) (n0 : Nat) (Z0 : n0 ≤ h0.size) (SC : Sta Z h0 "java/lang/String" "COMPACT_STRINGS" "Z" (.int xcs)) (hcs : ¬ (xcs = (0 : Int32))) (SI : Sta Z h0 "sun/nio/cs/UTF_8" "INSTANCE" oS7 (.ref wu)) (SU : Sta Z h0 oS5 "UTF_8" oS6 (.ref wu)) (SR : Sta Z h0 oS1 "CRLF" "[B" (.ref wc)) (VR : Arv Z h0 wc kc .byte (2 : Int32) [(.int xr0), (.int xr1)] (.int 0)) (Ea : Exa Z h0 ra oS0) (g_ra : n0 ≤ ra) (Fk : Fld Z h0 ra oS0 "count" "I" (.int xk)) (Fe : Fld Z h0 ra oS0 "encoded" "[B" (.ref re)) (VE : Arv Z h0 re ke .byte (own_len le) (le.map Value.int) (.int 0)) (EE : Exa Z h0 re "[B") (VA : Arv Z h0 rb ka (.object "java/lang/String") (0 : Int32) [] .null) (hQ : own_QT (xk + (0 : Int32)) le (own_bulks [])) (hcap : (own_hdr 42 (xk + (0 : Int32)) ++ (le ++ (own_bulks []))).length ≤ 64) (Fl : Fld Z h0 ra oS0 "last" oS4 (.ref rt)) (Fr_ : Fld Z h0 rt oS2 "rest" oS9 (.ref rr)) (VR2 : Arv Z h0 rr kr (.object "java/lang/String") (1 : Int32) [(.ref rv)] .null) (hnr : rr ≠ rb) :
  oMet l oM0 prog_12_method_2_code 7 (some (.array .byte)) ws (oR 2 3 66 33) #[(.ref ra), (.ref rb)] Z h0 (Q_rm_rqb0 Z ra rb xcs wu wc kc xr0 xr1 xk re ke le ka rt rr kr rv h0 n0) := by
 refine MetFree.of_bodySF (plainFor_of_name pn7) hisR ?_
 have W := own_W hw
 intro p e s m args bw meth c s₁ Bd hml0 hP hK
 obtain ⟨rfl, hZ, hh⟩ := hP
 have hx := Bd.exec
 have hby := Bd.bytes
 have hml : c.maxLocals = 7 := hml0
 have hown : s.vm.findClass oS0 = some m.cls := findClass_of_methodNamed Bd.named
 have hnm := (name_of_methodNamed Bd.named Bd.method).1
 have X0 : Stand p l e (oR 2 3 66 33) s m #[(.ref ra), (.ref rb)] bw meth c s₁ [] 0 0 := Stand.of_body Bd
 have e0 : s₁.heap = h0 := by rw [← hh, Bd.state]; rfl
 have N0 := Fr.nil n0
 have D := own_D hby dB17
 obtain ⟨G, hG⟩ := own_ex fun t => Steps p.tables e bw (s₁.setTop (entryFrame m #[(.ref ra), (.ref rb)] 7)) t
 have pre0 : oP p e bw G s₁ m 0 #[vR ra, vR rb, vU, vU, vU, vU, vU] [] := by intro t k; subst hG; exact castTop (ef_rm_rqb0 m ra rb) k
 have hre := own_neEE (by decide) EE Ea
 have pre1 : oP p e bw G s₁ m 1 #[vR ra, vR rb, vU, vU, vU, vU, vU] [(.ref ra)] := by
  intro t k
  refine pre0 t ?_
  refine XS.aloadN X0.here hx rfl (D 0 rfl) rfl rfl ?_
  exact k
 obtain ⟨T2, X2, e2, st2⟩ := getF X0 hx hZ hown (host := "") (Or.inl (W 81 rfl)) Via.refl e0 Fl (g := (own_g pre1)) rfl rfl (D 1 rfl)
 have pre3 : oP p e bw G T2 m 10 #[vR ra, vR rb, vR rt, vU, vU, vU, vU] [(.ref rt)] := by
  intro t k
  refine pre1 t (st2 t ?_)
  refine XS.astoreN X2.here hx rfl (D 2 rfl) rfl rfl (l' := #[vR ra, vR rb, vR rt, vU, vU, vU, vU]) rfl ?_
  refine XS.aloadN X2.here hx rfl (D 3 rfl) rfl rfl ?_
  refine XS.ifnullNo X2.here hx rfl (D 4 rfl) rfl ?_
  refine XS.aloadN X2.here hx rfl (D 57 rfl) rfl rfl ?_
  exact k
 obtain ⟨T4, X4, e4, st4⟩ := getF X2 hx hZ hown (Or.inr (W 112 rfl)) Via.refl e2 Fr_ (g := (own_g pre3)) rfl rfl (D 58 rfl)
 have pre5 : oP p e bw G T4 m 14 #[vR ra, vR rb, vR rt, vU, vU, vU, vU] [(.ref rb), (.ref rr)] := by
  intro t k
  refine pre3 t (st4 t ?_)
  refine XS.aloadN X4.here hx rfl (D 59 rfl) rfl rfl ?_
  exact k
 obtain ⟨_, T6, Lc6, X6, hQ6, pc6⟩ := own_call X4 hx hZ hown (W 113 rfl) (W 114 rfl) (W 115 rfl) (W 116 rfl) (by decide) (rm_eq1 l Z a0 hw [] rr rb kr ka rv h0 n0 Z0 VR2 VA (hnr)) e4 pre5 hml rfl (D 60 rfl) (lenOf pd24 rfl) rfl (W := 0) rfl (by decide)
 obtain ⟨rfl, M6, e6⟩ := hQ6
 have N6 := Fr.app N0 M6
 have pre7 : oP p e bw G T6 m 29 #[vR ra, vR rb, vR rt, vU, vU, vU, vU] [(.ref rb)] := by
  intro t k
  refine pc6 t ?_
  refine XS.ifYes X6.here hx rfl (pc0 := 17) (pc' := 28) rfl (D 61 rfl) rfl ((if0 _ _).trans (teq (show (0 : Int32) = (0 : Int32) from rfl)).1) (by decide) (by decide) ?_
  refine XS.aloadN X6.here hx rfl (D 5 rfl) rfl rfl ?_
  exact k
 obtain ⟨_, T8, Lc8, X8, hQ8, pc8⟩ := own_callN X6 hx hZ hown (W 83 rfl) (W 58 rfl) (W 49 rfl) (W 59 rfl) (by decide) (rm_u0 l Z a0 hw [] rb xcs wu ka h0 n0 Z0 SC (hcs) SI SU VA) e6 pre7 hml rfl (D 6 rfl) (lenOf pd17 rfl) rfl (W := 0) rfl (by decide)
 obtain ⟨ko_8, b8, rfl, M8, g_b8, zs8, kp8, f8_0⟩ := hQ8
 have sz_b8 : h0.size ≤ b8 := Nat.le_trans (Keep.refl h0 [ra]).1 zs8
 have K8 : Keep h0 T8.heap [ra] := (Keep.refl h0 [ra]).trans kp8 all0
 have zz8 : n0 ≤ T8.heap.size := Nat.le_trans Z0 K8.1
 have N8 := Fr.app N6 M8
 have pre9 : oP p e bw G T8 m 35 #[vR ra, vR rb, vR rt, vU, vR b8, vU, vU] [(.ref ra)] := by
  intro t k
  refine pc8 t ?_
  refine XS.astore X8.here hx rfl (D 7 rfl) rfl rfl (l' := #[vR ra, vR rb, vR rt, vU, vR b8, vU, vU]) rfl ?_
  refine XS.aloadN X8.here hx rfl (D 8 rfl) rfl rfl ?_
  exact k
 have f10 := (Fk.keep kp8 nin0)
 obtain ⟨T11, X11, e11, st11⟩ := getF X8 hx hZ hown (host := "") (Or.inl (W 72 rfl)) Via.refl rfl f10 (g := (own_g pre9)) rfl rfl (D 9 rfl)
 have pre12 : oP p e bw G T11 m 39 #[vR ra, vR rb, vR rt, vU, vR b8, vU, vU] [(.ref rb), (.int xk)] := by
  intro t k
  refine pre9 t (st11 t ?_)
  refine XS.aloadN X11.here hx rfl (D 10 rfl) rfl rfl ?_
  exact k
 have pre14 : oP p e bw G T11 m 45 #[vR ra, vR rb, vR rt, vU, vR b8, vI (xk + (0 : Int32)), vU] [(.int (xk + (0 : Int32)))] := by
  intro t k
  refine pre12 t ?_
  obtain ⟨c13, a13, q13, s13, m13, i13, u13⟩ := id (VA.keep kp8 nin0)
  refine X11.arraylength hx (by rw [e11]; exact a13.1) (State.isArrayOf_alike hZ.alike a13.2.1) (g := (own_g pre12)) rfl rfl (D 11 rfl) _ ?_
  rw [len_of s13 m13]
  refine XS.iadd X11.here hx rfl (D 12 rfl) rfl ?_
  refine XS.istore X11.here hx rfl (D 13 rfl) rfl (l' := #[vR ra, vR rb, vR rt, vU, vR b8, vI (xk + (0 : Int32)), vU]) rfl ?_
  refine XS.iload X11.here hx rfl (D 14 rfl) rfl ?_
  exact k
 have f15 := (SR.ext (own_keep_ext kp8))
 have f16 := (VR.keep kp8 nin0)
 obtain ⟨_, T17, Lc17, X17, hQ17, pc17⟩ := own_callN X11 hx hZ hown (W 84 rfl) (W 85 rfl) (W 49 rfl) (W 86 rfl) (by decide) (rm_hl l Z a0 hw [] (xk + (0 : Int32)) wc kc xr0 xr1 T8.heap n0 zz8 f15 f16 (hQ.hq)) e11 pre14 hml rfl (D 15 rfl) (lenOf pd7 rfl) rfl (W := 0) rfl (by decide)
 obtain ⟨rfl, M17, e17⟩ := hQ17
 have N17 := Fr.app N8 M17
 have pre18 : oP p e bw G T17 m 49 #[vR ra, vR rb, vR rt, vU, vR b8, vI (xk + (0 : Int32)), vU] [(.ref ra), (.int (F_rm_hl (xk + (0 : Int32)) xr0 xr1))] := by
  intro t k
  refine pc17 t ?_
  refine XS.aloadN X17.here hx rfl (D 16 rfl) rfl rfl ?_
  exact k
 have f19 := (Fe.keep kp8 nin0)
 obtain ⟨T20, X20, e20, st20⟩ := getF X17 hx hZ hown (host := "") (Or.inl (W 74 rfl)) Via.refl e17 f19 (g := (own_g pre18)) rfl rfl (D 17 rfl)
 have pre21 : oP p e bw G T20 m 52 #[vR ra, vR rb, vR rt, vU, vR b8, vI (xk + (0 : Int32)), vU] [(.ref re), (.int (F_rm_hl (xk + (0 : Int32)) xr0 xr1))] := fun t k => pre18 t (st20 t k)
 have pre23 : oP p e bw G T20 m 56 #[vR ra, vR rb, vR rt, vU, vR b8, vI (xk + (0 : Int32)), vU] [(.ref b8), (.int ((F_rm_hl (xk + (0 : Int32)) xr0 xr1) + (own_len le)))] := by
  intro t k
  refine pre21 t ?_
  obtain ⟨c22, a22, q22, s22, m22, i22, u22⟩ := id (VE.keep kp8 nin0)
  refine X20.arraylength hx (by rw [e20]; exact a22.1) (State.isArrayOf_alike hZ.alike a22.2.1) (g := (own_g pre21)) rfl rfl (D 18 rfl) _ ?_
  rw [len_of s22 m22]
  refine XS.iadd X20.here hx rfl (D 19 rfl) rfl ?_
  refine XS.aload X20.here hx rfl (D 20 rfl) rfl rfl ?_
  exact k
 obtain ⟨_, T24, Lc24, X24, hQ24, pc24⟩ := own_callN X20 hx hZ hown (W 92 rfl) (W 63 rfl) (W 49 rfl) (W 64 rfl) (by decide) (rm_bl0 l Z a0 hw [] b8 wc kc xr0 xr1 _ T8.heap n0 zz8 f15 f16 f8_0) e20 pre23 hml rfl (D 21 rfl) (lenOf pd18 rfl) rfl (W := 1) rfl (by decide)
 obtain ⟨rfl, M24, e24⟩ := hQ24
 have N24 := Fr.app N17 M24
 have pre25 : oP p e bw G T24 m 60 #[vR ra, vR rb, vR rt, vU, vR b8, vI (xk + (0 : Int32)), vU] [(.int (((F_rm_hl (xk + (0 : Int32)) xr0 xr1) + (own_len le)) + (F_rm_bl0 xr0 xr1)))] := by
  intro t k
  refine pc24 t ?_
  refine XS.iadd X24.here hx rfl (D 22 rfl) rfl ?_
  exact k
 rw [show (((F_rm_hl (xk + (0 : Int32)) xr0 xr1) + (own_len le)) + (F_rm_bl0 xr0 xr1)) = (own_len (own_hdr 42 (xk + (0 : Int32)) ++ (le ++ (own_bulks [])))) from by rw [own_bl0  _ _]; exact own_q8 hQ _ _] at pre25
 obtain ⟨T26, h26, k26, X26, e26, E26, A26, x26, st26⟩ := newPE X24 hx hZ (W 21 rfl) e24 (g := (own_g pre25)) rfl (D 23 rfl) rfl (own_nn hQ.hb) (cap := 64) (own_cap hcap (by decide)) (by decide) (by decide) (by decide) (ad := "[B") rfl
 obtain ⟨b26, g26⟩ := own_ex T8.heap.size
 rw [← g26] at A26 st26 x26
 have g_b26 : n0 ≤ b26 := Nat.le_trans zz8 (Nat.le_of_eq g26.symm)
 have sz_b26 : h0.size ≤ b26 := Nat.le_trans K8.1 (Nat.le_of_eq g26.symm)
 have K26 : Keep h0 h26 [ra] := K8.ext E26
 have z26 : n0 ≤ h26.size := Nat.le_trans Z0 K26.1
 have V_b26 : Arv Z h26 b26 k26 .byte (own_len (own_hdr 42 (xk + (0 : Int32)) ++ (le ++ (own_bulks [])))) ((List.replicate ((own_len (own_hdr 42 (xk + (0 : Int32)) ++ (le ++ (own_bulks []))))).toNatClampNeg (0 : Int32)).map Value.int) (.int 0) := (Arv.new A26 (own_nn hQ.hb)).pad (own_rep _)
 have pre27 : oP p e bw G T26 m 63 #[vR ra, vR rb, vR rt, vR b26, vR b8, vI (xk + (0 : Int32)), vU] [] := by
  intro t k
  refine pre25 t (st26 t ?_)
  refine XS.astoreN X26.here hx rfl (D 24 rfl) rfl rfl (l' := #[vR ra, vR rb, vR rt, vR b26, vR b8, vI (xk + (0 : Int32)), vU]) rfl ?_
  exact k
 have vc28 : Arv Z h26 b26 k26 .byte (own_len (own_hdr 42 (xk + (0 : Int32)) ++ (le ++ (own_bulks [])))) ((own_zs (own_hdr 42 (xk + (0 : Int32)) ++ (le ++ (own_bulks [])))).map Value.int) (.int 0) := own_cv (rfl) V_b26
 have pre29 : oP p e bw G T26 m 69 #[vR ra, vR rb, vR rt, vR b26, vR b8, vI (xk + (0 : Int32)), vU] [(.int (xk + (0 : Int32))), (.int 42), (.int 0), (.ref b26)] := by
  intro t k
  refine pre27 t ?_
  refine XS.aloadN X26.here hx rfl (D 25 rfl) rfl rfl ?_
  refine XS.iconst X26.here hx rfl (D 26 rfl) ?_
  refine XS.bipush X26.here hx rfl (D 27 rfl) ?_
  refine XS.iload X26.here hx rfl (D 28 rfl) rfl ?_
  exact k
 have f30 := (f15.ext E26)
 have f31 := (f16.ext E26)
 have ne32 := (Nat.ne_of_lt (Nat.lt_of_lt_of_le f16.lt (Nat.le_of_eq g26.symm)))
 obtain ⟨_, T33, Lc33, X33, hQ33, pc33⟩ := own_callN X26 hx hZ hown (W 93 rfl) (W 94 rfl) (W 49 rfl) (W 95 rfl) (by decide) (rm_ph l Z a0 hw [] b26 (0 : Int32) (42 : Int32) (xk + (0 : Int32)) wc kc xr0 xr1 k26 _ _ h26 n0 z26 f30 f31 (hQ.hq) vc28 (g_b26) (own_q1 hQ) (own_q2 hQ) (ne32)) e26 pre29 hml rfl (D 29 rfl) (lenOf pd8 rfl) rfl (W := 0) rfl (by decide)
 obtain ⟨rfl, M33, kp33, f33_0⟩ := hQ33
 have K33 : Keep h0 T33.heap [ra] := K26.trans kp33 (allS (P := fun x => x ∈ [ra] ∨ h0.size ≤ x) (Or.inr sz_b26) all0)
 have zz33 : n0 ≤ T33.heap.size := Nat.le_trans Z0 K33.1
 have N33 := Fr.app N24 M33
 have pre34 : oP p e bw G T33 m 74 #[vR ra, vR rb, vR rt, vR b26, vR b8, vI (xk + (0 : Int32)), vI ((((0 : Int32) + (1 : Int32)) + (F_rm_dig (xk + (0 : Int32)))) + (2 : Int32))] [] := by
  intro t k
  refine pc33 t ?_
  refine XS.istore X33.here hx rfl (D 30 rfl) rfl (l' := #[vR ra, vR rb, vR rt, vR b26, vR b8, vI (xk + (0 : Int32)), vI ((((0 : Int32) + (1 : Int32)) + (F_rm_dig (xk + (0 : Int32)))) + (2 : Int32))]) rfl ?_
  exact k
 rw [show ((((0 : Int32) + (1 : Int32)) + (F_rm_dig (xk + (0 : Int32)))) + (2 : Int32)) = (own_len (own_hdr 42 (xk + (0 : Int32)))) from own_q4 hQ] at pre34
 have vc35 : Arv Z T33.heap b26 k26 .byte (own_len (own_hdr 42 (xk + (0 : Int32)) ++ (le ++ (own_bulks [])))) ((own_hdr 42 (xk + (0 : Int32)) ++ (own_zs (own_hdr 42 (xk + (0 : Int32)) ++ (le ++ (own_bulks [])))).drop (own_hdr 42 (xk + (0 : Int32))).length).map Value.int) (.int 0) := own_cv ((own_q3 hQ).symm) f33_0
 have jt0 := own_q5 hQ
 have pre36 : oP p e bw G T33 m 75 #[vR ra, vR rb, vR rt, vR b26, vR b8, vI (xk + (0 : Int32)), vI (own_len (own_hdr 42 (xk + (0 : Int32))))] [(.ref ra)] := by
  intro t k
  refine pre34 t ?_
  refine XS.aloadN X33.here hx rfl (D 31 rfl) rfl rfl ?_
  exact k
 have ne37 := (Nat.ne_of_lt (Nat.lt_of_lt_of_le f10.lt (Nat.le_of_eq g26.symm)))
 have f38 := ((f19.ext E26).keep kp33 (ninS ne37 nin0))
 obtain ⟨T39, X39, e39, st39⟩ := getF X33 hx hZ hown (host := "") (Or.inl (W 74 rfl)) Via.refl rfl f38 (g := (own_g pre36)) rfl rfl (D 32 rfl)
 have pre40 : oP p e bw G T39 m 83 #[vR ra, vR rb, vR rt, vR b26, vR b8, vI (xk + (0 : Int32)), vI (own_len (own_hdr 42 (xk + (0 : Int32))))] [(.ref ra), (.int (own_len (own_hdr 42 (xk + (0 : Int32))))), (.ref b26), (.int 0), (.ref re)] := by
  intro t k
  refine pre36 t (st39 t ?_)
  refine XS.iconst X39.here hx rfl (D 33 rfl) ?_
  refine XS.aloadN X39.here hx rfl (D 34 rfl) rfl rfl ?_
  refine XS.iload X39.here hx rfl (D 35 rfl) rfl ?_
  refine XS.aloadN X39.here hx rfl (D 36 rfl) rfl rfl ?_
  exact k
 obtain ⟨T41, X41, e41, st41⟩ := getF X39 hx hZ hown (host := "") (Or.inl (W 74 rfl)) Via.refl e39 f38 (g := (own_g pre40)) rfl rfl (D 37 rfl)
 have pre42 : oP p e bw G T41 m 86 #[vR ra, vR rb, vR rt, vR b26, vR b8, vI (xk + (0 : Int32)), vI (own_len (own_hdr 42 (xk + (0 : Int32))))] [(.ref re), (.int (own_len (own_hdr 42 (xk + (0 : Int32))))), (.ref b26), (.int 0), (.ref re)] := fun t k => pre40 t (st41 t k)
 have ne43 := (Nat.ne_of_lt (Nat.lt_of_lt_of_le (VE.keep kp8 nin0).lt (Nat.le_of_eq g26.symm)))
 have pre45 : oP p e bw G T41 m 87 #[vR ra, vR rb, vR rt, vR b26, vR b8, vI (xk + (0 : Int32)), vI (own_len (own_hdr 42 (xk + (0 : Int32))))] [(.int (own_len le)), (.int (own_len (own_hdr 42 (xk + (0 : Int32))))), (.ref b26), (.int 0), (.ref re)] := by
  intro t k
  refine pre42 t ?_
  obtain ⟨c44, a44, q44, s44, m44, i44, u44⟩ := id (((VE.keep kp8 nin0).ext E26).keep kp33 (ninS ne43 nin0))
  refine X41.arraylength hx (by rw [e41]; exact a44.1) (State.isArrayOf_alike hZ.alike a44.2.1) (g := (own_g pre42)) rfl rfl (D 38 rfl) _ ?_
  rw [len_of s44 m44]
  exact k
 have f46 := (((VE.keep kp8 nin0).ext E26).keep kp33 (ninS ne43 nin0))
 obtain ⟨T47, h47, L47, X47, e47, N47, kp47, V47, st47⟩ := cpA X41 hx hZ hown (W 96 rfl) (W 99 rfl) (W 97 rfl) (W 98 rfl) e41 f46 vc35 (us := (le.map Value.int)) (Or.inl ⟨rfl, rfl⟩) (by decide) (own_jt1 jt0) (own_jt2 jt0) (own_jt3 jt0) (own_jt4 jt0) (own_jt6 jt0) (own_jt5 jt0) N33 g_b26 (g := (own_g pre45)) rfl (by rw [hml]; rfl) rfl (D 39 rfl) (by decide) (W := 0) (by show 2 * 0 + _ ≤ _; exact Nat.le_of_eq rfl) (by decide)
 have K47 : Keep h0 h47 [ra] := K33.trans kp47 (allS (P := fun x => x ∈ [ra] ∨ h0.size ≤ x) (Or.inr sz_b26) all0)
 have zz47 : n0 ≤ h47.size := Nat.le_trans Z0 K47.1
 have VV47 : Arv Z h47 b26 k26 .byte (own_len (own_hdr 42 (xk + (0 : Int32)) ++ (le ++ (own_bulks [])))) ((((own_hdr 42 (xk + (0 : Int32))) ++ le) ++ ((own_zs (own_hdr 42 (xk + (0 : Int32)) ++ (le ++ (own_bulks [])))).drop (own_hdr 42 (xk + (0 : Int32))).length).drop le.length).map Value.int) (.int 0) := (by rw [← own_jt7 jt0]; exact V47)
 have pre48 : oP p e bw G T47 m 94 #[vR ra, vR rb, vR rt, vR b26, vR b8, vI (xk + (0 : Int32)), vI (own_len (own_hdr 42 (xk + (0 : Int32))))] [(.ref ra), (.int (own_len (own_hdr 42 (xk + (0 : Int32))))), (.ref b26)] := by
  intro t k
  refine pre45 t (st47 t ?_)
  refine XS.aloadN X47.here hx rfl (D 40 rfl) rfl rfl ?_
  refine XS.iload X47.here hx rfl (D 41 rfl) rfl ?_
  refine XS.aloadN X47.here hx rfl (D 42 rfl) rfl rfl ?_
  exact k
 have f49 := (f38.keep kp47 (ninS ne37 nin0))
 obtain ⟨T50, X50, e50, st50⟩ := getF X47 hx hZ hown (host := "") (Or.inl (W 74 rfl)) Via.refl e47 f49 (g := (own_g pre48)) rfl rfl (D 43 rfl)
 have pre51 : oP p e bw G T50 m 97 #[vR ra, vR rb, vR rt, vR b26, vR b8, vI (xk + (0 : Int32)), vI (own_len (own_hdr 42 (xk + (0 : Int32))))] [(.ref re), (.int (own_len (own_hdr 42 (xk + (0 : Int32))))), (.ref b26)] := fun t k => pre48 t (st50 t k)
 have pre53 : oP p e bw G T50 m 99 #[vR ra, vR rb, vR rt, vR b26, vR b8, vI (xk + (0 : Int32)), vI (own_len (own_hdr 42 (xk + (0 : Int32))))] [(.int ((own_len (own_hdr 42 (xk + (0 : Int32)))) + (own_len le))), (.ref b26)] := by
  intro t k
  refine pre51 t ?_
  obtain ⟨c52, a52, q52, s52, m52, i52, u52⟩ := id (f46.keep kp47 (ninS ne43 nin0))
  refine X50.arraylength hx (by rw [e50]; exact a52.1) (State.isArrayOf_alike hZ.alike a52.2.1) (g := (own_g pre51)) rfl rfl (D 44 rfl) _ ?_
  rw [len_of s52 m52]
  refine XS.iadd X50.here hx rfl (D 45 rfl) rfl ?_
  exact k
 rw [show ((own_len (own_hdr 42 (xk + (0 : Int32)))) + (own_len le)) = (own_len (own_hdr 42 (xk + (0 : Int32)) ++ le)) from (own_lenA _ _).symm] at pre53
 have pre54 : oP p e bw G T50 m 101 #[vR ra, vR rb, vR rt, vR b26, vR b8, vI (xk + (0 : Int32)), vI (own_len (own_hdr 42 (xk + (0 : Int32))))] [(.ref b8), (.int (own_len (own_hdr 42 (xk + (0 : Int32)) ++ le))), (.ref b26)] := by
  intro t k
  refine pre53 t ?_
  refine XS.aload X50.here hx rfl (D 46 rfl) rfl rfl ?_
  exact k
 have f55 := (own_sta_keep (own_sta_keep f30 kp33 x26) kp47 (x26.keep kp33))
 have f56 := ((f31.keep kp33 (ninS ne32 nin0)).keep kp47 (ninS ne32 nin0))
 have ne57 := (Nat.ne_of_lt (Nat.lt_of_lt_of_le f8_0.lt (Nat.le_of_eq g26.symm)))
 have f58 := (((f8_0.ext E26).keep kp33 (ninS ne57 nin0)).keep kp47 (ninS ne57 nin0))
 have f59 := ((x26.keep kp33).keep kp47)
 obtain ⟨_, T60, Lc60, X60, hQ60, pc60⟩ := own_callN X50 hx hZ hown (W 100 rfl) (W 66 rfl) (W 49 rfl) (W 67 rfl) (by decide) (rm_pb0 l Z a0 hw [] b26 b8 wc kc xr0 xr1 k26 _ _ _ (own_hdr 42 (xk + (0 : Int32)) ++ le) (((own_zs (own_hdr 42 (xk + (0 : Int32)) ++ (le ++ (own_bulks [])))).drop (own_hdr 42 (xk + (0 : Int32))).length).drop le.length) h47 n0 zz47 f55 f56 VV47 f58 f59 (g_b26) (rfl) (own_lz (own_q6 hQ).symm) (by rw [own_q6 hQ]; exact hQ.hb) (own_q7 hQ) (ne32) (ne57)) e50 pre54 hml rfl (D 47 rfl) (lenOf pd19 rfl) rfl (W := 0) rfl (by decide)
 obtain ⟨rfl, M60, kp60, f60_0⟩ := hQ60
 have K60 : Keep h0 T60.heap [ra] := K47.trans kp60 all0
 have zz60 : n0 ≤ T60.heap.size := Nat.le_trans Z0 K60.1
 have N60 := Fr.app N47 M60
 have pre61 : oP p e bw G T60 m 104 #[vR ra, vR rb, vR rt, vR b26, vR b8, vI (xk + (0 : Int32)), vI (own_len (own_hdr 42 (xk + (0 : Int32))))] [] := pc60
 have vc62 : Arv Z T60.heap b26 k26 .byte (own_len (own_hdr 42 (xk + (0 : Int32)) ++ (le ++ (own_bulks [])))) ((own_hdr 42 (xk + (0 : Int32)) ++ (le ++ (own_bulks []))).map Value.int) (.int 0) := own_cv ((List.append_assoc _ _ _).symm) f60_0
 have pre63 : oP p e bw G T60 m 105 #[vR ra, vR rb, vR rt, vR b26, vR b8, vI (xk + (0 : Int32)), vI (own_len (own_hdr 42 (xk + (0 : Int32))))] [(.ref ra)] := by
  intro t k
  refine pre61 t ?_
  refine XS.aloadN X60.here hx rfl (D 48 rfl) rfl rfl ?_
  exact k
 obtain ⟨T64, h64, X64, e64, E64, A64, D64, -, st64⟩ := newO X60 hx hZ hown (W 101 rfl) (W 102 rfl) (W 103 rfl) rfl (g := (own_g pre63)) rfl (D 49 rfl) (by decide) (by decide)
 obtain ⟨b64, g64⟩ := own_ex T60.heap.size
 rw [← g64] at A64 D64 st64
 have g_b64 : n0 ≤ b64 := Nat.le_trans zz60 (Nat.le_of_eq g64.symm)
 have sz_b64 : h0.size ≤ b64 := Nat.le_trans K60.1 (Nat.le_of_eq g64.symm)
 have K64 : Keep h0 h64 [ra] := K60.ext E64
 have z64 : n0 ≤ h64.size := Nat.le_trans Z0 K64.1
 have F_rest_b64 : Fld Z h64 b64 oS2 "rest" oS9 .null := D64 (Or.inr (W 109 rfl)) (ty := (.array (.object "java/lang/String"))) (by decide)
 have F_request_b64 : Fld Z h64 b64 oS2 "request" "[B" .null := D64 (Or.inr (W 111 rfl)) (ty := (.array .byte)) (by decide)
 have pre65 : oP p e bw G T64 m 111 #[vR ra, vR rb, vR rt, vR b26, vR b8, vI (xk + (0 : Int32)), vI (own_len (own_hdr 42 (xk + (0 : Int32))))] [(.ref b26), (.ref rb), (.ref b64), (.ref b64), (.ref ra)] := by
  intro t k
  refine pre63 t (st64 t ?_)
  refine XS.dup X64.here hx rfl (D 50 rfl) rfl rfl ?_
  refine XS.aloadN X64.here hx rfl (D 51 rfl) rfl rfl ?_
  refine XS.aloadN X64.here hx rfl (D 52 rfl) rfl rfl ?_
  exact k
 obtain ⟨_, _, ⟨T66, L66, k66, n66⟩, -, X66, ⟨Lc66, hQ66, l66, y66, z66⟩, st66⟩ := X64.specialBackNest hx (y := oM6) rfl hown (own_mvM hZ (W 104 rfl)) (mvT hZ (W 105 rfl)) (mvT hZ (W 106 rfl)) (by decide) (backOf (W := 2) (rm_bi l Z a0 hw [] b64 rb b26 h64 n0 z64 A64 (g_b64) F_rest_b64 F_request_b64) hZ (W 106 rfl) (W 103 rfl) (by decide) (by decide)) (g := (own_g pre65)) rfl (by rw [hml]; rfl) (Steps.refl _) (a := b64) (argsL := [(.ref rb), (.ref b26)]) (rest := [(.ref b64), (.ref ra)]) (lenOf pd23 rfl) rfl (by show 2 * 0 + _ ≤ _; exact Nat.le_of_eq rfl) (D 53 rfl) (fun _ _ => ⟨rfl, e64, (by decide : 3 + 0 ≤ _), (by decide : 66 + 0 ≤ _)⟩)
 dsimp only [Pt.U, Pt.locs, Pt.cells, Pt.slots] at X66 l66 y66 z66 st66 hQ66
 subst y66 z66
 obtain ⟨rfl, M66, kp66, f66_0, f66_1, f66_2⟩ := hQ66
 have K66 : Keep h0 T66.heap [ra] := K64.trans kp66 (allS (P := fun x => x ∈ [ra] ∨ h0.size ≤ x) (Or.inr sz_b64) all0)
 have zz66 : n0 ≤ T66.heap.size := Nat.le_trans Z0 K66.1
 have N66 : Fr n0 L66 := by rw [l66]; exact Fr.app N60 M66
 clear l66
 have pre67 : oP p e bw G T66 m 114 #[vR ra, vR rb, vR rt, vR b26, vR b8, vI (xk + (0 : Int32)), vI (own_len (own_hdr 42 (xk + (0 : Int32))))] [(.ref b64), (.ref ra)] := fun t k => pre65 t (st66.trans k)
 have f68 := (((((((Ea.keep kp8).ext E26).keep kp33).keep kp47).keep kp60).ext E64).keep kp66)
 have ne69 := (Nat.ne_of_lt (Nat.lt_of_lt_of_le (f49.keep kp60 nin0).lt (Nat.le_of_eq g64.symm)))
 have f70 := (((((((Fl.keep kp8 nin0).ext E26).keep kp33 (ninS ne37 nin0)).keep kp47 (ninS ne37 nin0)).keep kp60 nin0).ext E64).keep kp66 (ninS ne69 nin0))
 obtain ⟨T71, h71, X71, e71, W71, st71⟩ := putF X66 hx hZ hown (host := "") (Or.inl (W 81 rfl)) Via.refl rfl f70 f68 (Or.inl (W 82 rfl)) (W 52 rfl) (ty := (.object oS2)) (by decide) rfl rfl (g := (own_g pre67)) rfl rfl (D 54 rfl)
 have K71 : Keep h0 h71 [ra] := K66.wr W71 (Or.inl (by simp))
 have z71 : n0 ≤ h71.size := Nat.le_trans Z0 K71.1
 have N71 := Fr.snoc X71 N66 g_ra
 have Fw71 := f70.same W71
 have pre72 : oP p e bw G T71 m 118 #[vR ra, vR rb, vR rt, vR b26, vR b8, vI (xk + (0 : Int32)), vI (own_len (own_hdr 42 (xk + (0 : Int32))))] [(.ref b26)] := by
  intro t k
  refine pre67 t (st71 t ?_)
  refine XS.aloadN X71.here hx rfl (D 55 rfl) rfl rfl ?_
  exact k
 obtain ⟨fs, hr, hrun, hended, hW, hsame⟩ := X71.leave (hlocks := Bd.notSynchronized) (v := some (.ref b26)) (fun h => by rw [Bd.returns] at h; cases h)
 subst hG
 refine ⟨_, _, pre72 _ ?_, hrun, hended, _, _, rfl, ?_, ⟨_, rfl⟩, hW, hsame.mono (by decide) (by decide)⟩
 ·exact retOut X71 hx Bd.returns rfl (Or.inr (Or.inr (Or.inr (Or.inr ⟨rfl, rfl, rfl⟩)))) (D 56 rfl) hr
 ·show Q_rm_rqb0 Z ra rb xcs wu wc kc xr0 xr1 xk re ke le ka rt rr kr rv h0 n0 _ T71.heap _
  rw [e71]
  have ne73 := (Nat.ne_of_lt (Nat.lt_of_lt_of_le vc62.lt (Nat.le_of_eq g64.symm)))
  exact ⟨k26, b26, rfl, N71, g_b26, sz_b26, K71, (((vc62.ext E64).keep kp66 (ninS ne73 nin0)).other W71 (Ne.symm ne37))⟩
theorem ef_rm_rqa1 (m : MethodId) (ra : Addr) (rb : Addr) : entryFrame m #[(.ref ra), (.ref rb)] 7 = mkF m 0 #[vR ra, vR rb, vU, vU, vU, vU, vU] [] := by simp [entryFrame, mkF, argsToLocals, Value.category]
def Q_rm_rqa1 (Z : State) (ra : Addr) (rb : Addr) (xcs : Int32) (wu : Addr) (wc : Addr) (kc : ClassId) (xr0 : Int32) (xr1 : Int32) (xk : Int32) (re : Addr) (ke : ClassId) (le : List Int32) (ka : ClassId) (rw0 : Addr) (ry0 : Addr) (ky0 : ClassId) (lw0 : List Int32) (h0 : Heap) (n0 : Nat) (v : Option Value) (h : Heap) (L : List Loc) : Prop := ∃ rt : Addr, ∃ kb : ClassId, ∃ bo : Addr, v = some (.ref bo) ∧ Fr n0 L ∧ n0 ≤ bo ∧ h0.size ≤ bo ∧ Keep h0 h [ra] ∧ Arv Z h bo kb .byte (own_len (own_hdr 42 (xk + (1 : Int32)) ++ (le ++ (own_bulks [(own_enc lw0)])))) ((own_hdr 42 (xk + (1 : Int32)) ++ (le ++ (own_bulks [(own_enc lw0)]))).map Value.int) (.int 0) ∧ Exa Z h ra oS0 ∧ Fld Z h ra oS0 "count" "I" (.int xk) ∧ Fld Z h ra oS0 "encoded" "[B" (.ref re) ∧ Fld Z h ra oS0 "last" oS4 (.ref rt) ∧ Arv Z h re ke .byte (own_len le) (le.map Value.int) (.int 0) ∧ Exa Z h rt oS2 ∧ Fld Z h rt oS2 "rest" oS9 (.ref rb) ∧ Fld Z h rt oS2 "request" "[B" (.ref bo)
set_option maxRecDepth 65536 in
set_option maxHeartbeats 40000000 in
theorem rm_rqa1 (l : Launch) (Z : State) (a0 : Array Value) (hw : ∀ d ∈ tables_1, d.before a0 Z = true) (ws : List Jvm.Cond) (ra : Addr) (rb : Addr) (xcs : Int32) (wu : Addr) (wc : Addr) (kc : ClassId) (xr0 : Int32) (xr1 : Int32) (xk : Int32) (re : Addr) (ke : ClassId) (le : List Int32) (ka : ClassId) (rw0 : Addr) (ry0 : Addr) (ky0 : ClassId) (lw0 : List Int32) (h0 : Heap) (n0 : Nat) (Z0 : n0 ≤ h0.size) (SC : Sta Z h0 "java/lang/String" "COMPACT_STRINGS" "Z" (.int xcs)) (hcs : ¬ (xcs = (0 : Int32))) (SI : Sta Z h0 "sun/nio/cs/UTF_8" "INSTANCE" oS7 (.ref wu)) (SU : Sta Z h0 oS5 "UTF_8" oS6 (.ref wu)) (SR : Sta Z h0 oS1 "CRLF" "[B" (.ref wc)) (VR : Arv Z h0 wc kc .byte (2 : Int32) [(.int xr0), (.int xr1)] (.int 0)) (Ea : Exa Z h0 ra oS0) (g_ra : n0 ≤ ra) (Fk : Fld Z h0 ra oS0 "count" "I" (.int xk)) (Fe : Fld Z h0 ra oS0 "encoded" "[B" (.ref re)) (VE : Arv Z h0 re ke .byte (own_len le) (le.map Value.int) (.int 0)) (EE : Exa Z h0 re "[B") (VA : Arv Z h0 rb ka (.object "java/lang/String") (1 : Int32) [(.ref rw0)] .null) (EW0 : Exa Z h0 rw0 "java/lang/String") (FW0 : Fld Z h0 rw0 "java/lang/String" "value" "[B" (.ref ry0)) (CW0 : Fld Z h0 rw0 "java/lang/String" "coder" "B" (.int 0)) (VW0 : Arv Z h0 ry0 ky0 .byte (own_len lw0) (lw0.map Value.int) (.int 0)) (EY0 : Exa Z h0 ry0 "[B") (hl_0 : lw0.length ≤ 5) (hbs0 : ∀ x ∈ lw0, nar .byte x = x) (hQ : own_QT (xk + (1 : Int32)) le (own_bulks [(own_enc lw0)])) (hcap : (own_hdr 42 (xk + (1 : Int32)) ++ (le ++ (own_bulks [(own_enc lw0)]))).length ≤ 64) (Fl : Fld Z h0 ra oS0 "last" oS4 .null) :
  oMet l oM0 prog_12_method_2_code 7 (some (.array .byte)) ws (oR 6 5 87 95) #[(.ref ra), (.ref rb)] Z h0 (Q_rm_rqa1 Z ra rb xcs wu wc kc xr0 xr1 xk re ke le ka rw0 ry0 ky0 lw0 h0 n0) := by
 refine MetFree.of_bodySF (plainFor_of_name pn7) hisR ?_
 have W := own_W hw
 intro p e s m args bw meth c s₁ Bd hml0 hP hK
 obtain ⟨rfl, hZ, hh⟩ := hP
 have hx := Bd.exec
 have hby := Bd.bytes
 have hml : c.maxLocals = 7 := hml0
 have hown : s.vm.findClass oS0 = some m.cls := findClass_of_methodNamed Bd.named
 have hnm := (name_of_methodNamed Bd.named Bd.method).1
 have X0 : Stand p l e (oR 6 5 87 95) s m #[(.ref ra), (.ref rb)] bw meth c s₁ [] 0 0 := Stand.of_body Bd
 have e0 : s₁.heap = h0 := by rw [← hh, Bd.state]; rfl
 have N0 := Fr.nil n0
 have D := own_D hby dB17
 obtain ⟨G, hG⟩ := own_ex fun t => Steps p.tables e bw (s₁.setTop (entryFrame m #[(.ref ra), (.ref rb)] 7)) t
 have pre0 : oP p e bw G s₁ m 0 #[vR ra, vR rb, vU, vU, vU, vU, vU] [] := by intro t k; subst hG; exact castTop (ef_rm_rqa1 m ra rb) k
 have hre := own_neEE (by decide) EE Ea
 have pre1 : oP p e bw G s₁ m 1 #[vR ra, vR rb, vU, vU, vU, vU, vU] [(.ref ra)] := by
  intro t k
  refine pre0 t ?_
  refine XS.aloadN X0.here hx rfl (D 0 rfl) rfl rfl ?_
  exact k
 obtain ⟨T2, X2, e2, st2⟩ := getF X0 hx hZ hown (host := "") (Or.inl (W 81 rfl)) Via.refl e0 Fl (g := (own_g pre1)) rfl rfl (D 1 rfl)
 have pre3 : oP p e bw G T2 m 29 #[vR ra, vR rb, .val .null, vU, vU, vU, vU] [(.ref rb)] := by
  intro t k
  refine pre1 t (st2 t ?_)
  refine XS.astoreN X2.here hx rfl (D 2 rfl) rfl rfl (l' := #[vR ra, vR rb, .val .null, vU, vU, vU, vU]) rfl ?_
  refine XS.aloadN X2.here hx rfl (D 3 rfl) rfl rfl ?_
  refine XS.ifnullYes X2.here hx rfl (pc0 := 6) (pc' := 28) rfl (D 4 rfl) rfl (by decide) (by decide) ?_
  refine XS.aloadN X2.here hx rfl (D 5 rfl) rfl rfl ?_
  exact k
 obtain ⟨_, T4, Lc4, X4, hQ4, pc4⟩ := own_callN X2 hx hZ hown (W 83 rfl) (W 58 rfl) (W 49 rfl) (W 59 rfl) (by decide) (rm_u1 l Z a0 hw [] rb xcs wu ka rw0 ry0 ky0 lw0 h0 n0 Z0 SC (hcs) SI SU VA EW0 FW0 CW0 VW0 EY0 (hl_0) (hbs0)) e2 pre3 hml rfl (D 6 rfl) (lenOf pd17 rfl) rfl (W := 0) rfl (by decide)
 obtain ⟨ko_4, ro0_4, ko0_4, b4, rfl, M4, g_b4, zs4, kp4, f4_0, f4_1, f4_2⟩ := hQ4
 have sz_b4 : h0.size ≤ b4 := Nat.le_trans (Keep.refl h0 [ra]).1 zs4
 have K4 : Keep h0 T4.heap [ra] := (Keep.refl h0 [ra]).trans kp4 all0
 have zz4 : n0 ≤ T4.heap.size := Nat.le_trans Z0 K4.1
 have N4 := Fr.app N0 M4
 have pre5 : oP p e bw G T4 m 35 #[vR ra, vR rb, .val .null, vU, vR b4, vU, vU] [(.ref ra)] := by
  intro t k
  refine pc4 t ?_
  refine XS.astore X4.here hx rfl (D 7 rfl) rfl rfl (l' := #[vR ra, vR rb, .val .null, vU, vR b4, vU, vU]) rfl ?_
  refine XS.aloadN X4.here hx rfl (D 8 rfl) rfl rfl ?_
  exact k
 have f6 := (Fk.keep kp4 nin0)
 obtain ⟨T7, X7, e7, st7⟩ := getF X4 hx hZ hown (host := "") (Or.inl (W 72 rfl)) Via.refl rfl f6 (g := (own_g pre5)) rfl rfl (D 9 rfl)
 have pre8 : oP p e bw G T7 m 39 #[vR ra, vR rb, .val .null, vU, vR b4, vU, vU] [(.ref rb), (.int xk)] := by
  intro t k
  refine pre5 t (st7 t ?_)
  refine XS.aloadN X7.here hx rfl (D 10 rfl) rfl rfl ?_
  exact k
 have pre10 : oP p e bw G T7 m 45 #[vR ra, vR rb, .val .null, vU, vR b4, vI (xk + (1 : Int32)), vU] [(.int (xk + (1 : Int32)))] := by
  intro t k
  refine pre8 t ?_
  obtain ⟨c9, a9, q9, s9, m9, i9, u9⟩ := id (VA.keep kp4 nin0)
  refine X7.arraylength hx (by rw [e7]; exact a9.1) (State.isArrayOf_alike hZ.alike a9.2.1) (g := (own_g pre8)) rfl rfl (D 11 rfl) _ ?_
  rw [len_of s9 m9]
  refine XS.iadd X7.here hx rfl (D 12 rfl) rfl ?_
  refine XS.istore X7.here hx rfl (D 13 rfl) rfl (l' := #[vR ra, vR rb, .val .null, vU, vR b4, vI (xk + (1 : Int32)), vU]) rfl ?_
  refine XS.iload X7.here hx rfl (D 14 rfl) rfl ?_
  exact k
 have f11 := (SR.ext (own_keep_ext kp4))
 have f12 := (VR.keep kp4 nin0)
 obtain ⟨_, T13, Lc13, X13, hQ13, pc13⟩ := own_callN X7 hx hZ hown (W 84 rfl) (W 85 rfl) (W 49 rfl) (W 86 rfl) (by decide) (rm_hl l Z a0 hw [] (xk + (1 : Int32)) wc kc xr0 xr1 T4.heap n0 zz4 f11 f12 (hQ.hq)) e7 pre10 hml rfl (D 15 rfl) (lenOf pd7 rfl) rfl (W := 0) rfl (by decide)
 obtain ⟨rfl, M13, e13⟩ := hQ13
 have N13 := Fr.app N4 M13
 have pre14 : oP p e bw G T13 m 49 #[vR ra, vR rb, .val .null, vU, vR b4, vI (xk + (1 : Int32)), vU] [(.ref ra), (.int (F_rm_hl (xk + (1 : Int32)) xr0 xr1))] := by
  intro t k
  refine pc13 t ?_
  refine XS.aloadN X13.here hx rfl (D 16 rfl) rfl rfl ?_
  exact k
 have f15 := (Fe.keep kp4 nin0)
 obtain ⟨T16, X16, e16, st16⟩ := getF X13 hx hZ hown (host := "") (Or.inl (W 74 rfl)) Via.refl e13 f15 (g := (own_g pre14)) rfl rfl (D 17 rfl)
 have pre17 : oP p e bw G T16 m 52 #[vR ra, vR rb, .val .null, vU, vR b4, vI (xk + (1 : Int32)), vU] [(.ref re), (.int (F_rm_hl (xk + (1 : Int32)) xr0 xr1))] := fun t k => pre14 t (st16 t k)
 have pre19 : oP p e bw G T16 m 56 #[vR ra, vR rb, .val .null, vU, vR b4, vI (xk + (1 : Int32)), vU] [(.ref b4), (.int ((F_rm_hl (xk + (1 : Int32)) xr0 xr1) + (own_len le)))] := by
  intro t k
  refine pre17 t ?_
  obtain ⟨c18, a18, q18, s18, m18, i18, u18⟩ := id (VE.keep kp4 nin0)
  refine X16.arraylength hx (by rw [e16]; exact a18.1) (State.isArrayOf_alike hZ.alike a18.2.1) (g := (own_g pre17)) rfl rfl (D 18 rfl) _ ?_
  rw [len_of s18 m18]
  refine XS.iadd X16.here hx rfl (D 19 rfl) rfl ?_
  refine XS.aload X16.here hx rfl (D 20 rfl) rfl rfl ?_
  exact k
 obtain ⟨_, T20, Lc20, X20, hQ20, pc20⟩ := own_callN X16 hx hZ hown (W 92 rfl) (W 63 rfl) (W 49 rfl) (W 64 rfl) (by decide) (rm_bl1 l Z a0 hw [] b4 wc kc xr0 xr1 _ _ _ _ _ T4.heap n0 zz4 f11 f12 f4_0 f4_1 (own_99 (own_w99 hl_0))) e16 pre19 hml rfl (D 21 rfl) (lenOf pd18 rfl) rfl (W := 1) rfl (by decide)
 obtain ⟨rfl, M20, e20⟩ := hQ20
 have N20 := Fr.app N13 M20
 have pre21 : oP p e bw G T20 m 60 #[vR ra, vR rb, .val .null, vU, vR b4, vI (xk + (1 : Int32)), vU] [(.int (((F_rm_hl (xk + (1 : Int32)) xr0 xr1) + (own_len le)) + (F_rm_bl1 xr0 xr1 (own_len (own_enc lw0)) (own_enc lw0))))] := by
  intro t k
  refine pc20 t ?_
  refine XS.iadd X20.here hx rfl (D 22 rfl) rfl ?_
  exact k
 rw [show (((F_rm_hl (xk + (1 : Int32)) xr0 xr1) + (own_len le)) + (F_rm_bl1 xr0 xr1 (own_len (own_enc lw0)) (own_enc lw0))) = (own_len (own_hdr 42 (xk + (1 : Int32)) ++ (le ++ (own_bulks [(own_enc lw0)])))) from by rw [own_bl1 (own_w99 hl_0) _ _]; exact own_q8 hQ _ _] at pre21
 obtain ⟨T22, h22, k22, X22, e22, E22, A22, x22, st22⟩ := newPE X20 hx hZ (W 21 rfl) e20 (g := (own_g pre21)) rfl (D 23 rfl) rfl (own_nn hQ.hb) (cap := 64) (own_cap hcap (by decide)) (by decide) (by decide) (by decide) (ad := "[B") rfl
 obtain ⟨b22, g22⟩ := own_ex T4.heap.size
 rw [← g22] at A22 st22 x22
 have g_b22 : n0 ≤ b22 := Nat.le_trans zz4 (Nat.le_of_eq g22.symm)
 have sz_b22 : h0.size ≤ b22 := Nat.le_trans K4.1 (Nat.le_of_eq g22.symm)
 have K22 : Keep h0 h22 [ra] := K4.ext E22
 have z22 : n0 ≤ h22.size := Nat.le_trans Z0 K22.1
 have V_b22 : Arv Z h22 b22 k22 .byte (own_len (own_hdr 42 (xk + (1 : Int32)) ++ (le ++ (own_bulks [(own_enc lw0)])))) ((List.replicate ((own_len (own_hdr 42 (xk + (1 : Int32)) ++ (le ++ (own_bulks [(own_enc lw0)]))))).toNatClampNeg (0 : Int32)).map Value.int) (.int 0) := (Arv.new A22 (own_nn hQ.hb)).pad (own_rep _)
 have pre23 : oP p e bw G T22 m 63 #[vR ra, vR rb, .val .null, vR b22, vR b4, vI (xk + (1 : Int32)), vU] [] := by
  intro t k
  refine pre21 t (st22 t ?_)
  refine XS.astoreN X22.here hx rfl (D 24 rfl) rfl rfl (l' := #[vR ra, vR rb, .val .null, vR b22, vR b4, vI (xk + (1 : Int32)), vU]) rfl ?_
  exact k
 have vc24 : Arv Z h22 b22 k22 .byte (own_len (own_hdr 42 (xk + (1 : Int32)) ++ (le ++ (own_bulks [(own_enc lw0)])))) ((own_zs (own_hdr 42 (xk + (1 : Int32)) ++ (le ++ (own_bulks [(own_enc lw0)])))).map Value.int) (.int 0) := own_cv (rfl) V_b22
 have pre25 : oP p e bw G T22 m 69 #[vR ra, vR rb, .val .null, vR b22, vR b4, vI (xk + (1 : Int32)), vU] [(.int (xk + (1 : Int32))), (.int 42), (.int 0), (.ref b22)] := by
  intro t k
  refine pre23 t ?_
  refine XS.aloadN X22.here hx rfl (D 25 rfl) rfl rfl ?_
  refine XS.iconst X22.here hx rfl (D 26 rfl) ?_
  refine XS.bipush X22.here hx rfl (D 27 rfl) ?_
  refine XS.iload X22.here hx rfl (D 28 rfl) rfl ?_
  exact k
 have f26 := (f11.ext E22)
 have f27 := (f12.ext E22)
 have ne28 := (Nat.ne_of_lt (Nat.lt_of_lt_of_le f12.lt (Nat.le_of_eq g22.symm)))
 obtain ⟨_, T29, Lc29, X29, hQ29, pc29⟩ := own_callN X22 hx hZ hown (W 93 rfl) (W 94 rfl) (W 49 rfl) (W 95 rfl) (by decide) (rm_ph l Z a0 hw [] b22 (0 : Int32) (42 : Int32) (xk + (1 : Int32)) wc kc xr0 xr1 k22 _ _ h22 n0 z22 f26 f27 (hQ.hq) vc24 (g_b22) (own_q1 hQ) (own_q2 hQ) (ne28)) e22 pre25 hml rfl (D 29 rfl) (lenOf pd8 rfl) rfl (W := 0) rfl (by decide)
 obtain ⟨rfl, M29, kp29, f29_0⟩ := hQ29
 have K29 : Keep h0 T29.heap [ra] := K22.trans kp29 (allS (P := fun x => x ∈ [ra] ∨ h0.size ≤ x) (Or.inr sz_b22) all0)
 have zz29 : n0 ≤ T29.heap.size := Nat.le_trans Z0 K29.1
 have N29 := Fr.app N20 M29
 have pre30 : oP p e bw G T29 m 74 #[vR ra, vR rb, .val .null, vR b22, vR b4, vI (xk + (1 : Int32)), vI ((((0 : Int32) + (1 : Int32)) + (F_rm_dig (xk + (1 : Int32)))) + (2 : Int32))] [] := by
  intro t k
  refine pc29 t ?_
  refine XS.istore X29.here hx rfl (D 30 rfl) rfl (l' := #[vR ra, vR rb, .val .null, vR b22, vR b4, vI (xk + (1 : Int32)), vI ((((0 : Int32) + (1 : Int32)) + (F_rm_dig (xk + (1 : Int32)))) + (2 : Int32))]) rfl ?_
  exact k
 rw [show ((((0 : Int32) + (1 : Int32)) + (F_rm_dig (xk + (1 : Int32)))) + (2 : Int32)) = (own_len (own_hdr 42 (xk + (1 : Int32)))) from own_q4 hQ] at pre30
 have vc31 : Arv Z T29.heap b22 k22 .byte (own_len (own_hdr 42 (xk + (1 : Int32)) ++ (le ++ (own_bulks [(own_enc lw0)])))) ((own_hdr 42 (xk + (1 : Int32)) ++ (own_zs (own_hdr 42 (xk + (1 : Int32)) ++ (le ++ (own_bulks [(own_enc lw0)])))).drop (own_hdr 42 (xk + (1 : Int32))).length).map Value.int) (.int 0) := own_cv ((own_q3 hQ).symm) f29_0
 have jt0 := own_q5 hQ
 have pre32 : oP p e bw G T29 m 75 #[vR ra, vR rb, .val .null, vR b22, vR b4, vI (xk + (1 : Int32)), vI (own_len (own_hdr 42 (xk + (1 : Int32))))] [(.ref ra)] := by
  intro t k
  refine pre30 t ?_
  refine XS.aloadN X29.here hx rfl (D 31 rfl) rfl rfl ?_
  exact k
 have ne33 := (Nat.ne_of_lt (Nat.lt_of_lt_of_le f6.lt (Nat.le_of_eq g22.symm)))
 have f34 := ((f15.ext E22).keep kp29 (ninS ne33 nin0))
 obtain ⟨T35, X35, e35, st35⟩ := getF X29 hx hZ hown (host := "") (Or.inl (W 74 rfl)) Via.refl rfl f34 (g := (own_g pre32)) rfl rfl (D 32 rfl)
 have pre36 : oP p e bw G T35 m 83 #[vR ra, vR rb, .val .null, vR b22, vR b4, vI (xk + (1 : Int32)), vI (own_len (own_hdr 42 (xk + (1 : Int32))))] [(.ref ra), (.int (own_len (own_hdr 42 (xk + (1 : Int32))))), (.ref b22), (.int 0), (.ref re)] := by
  intro t k
  refine pre32 t (st35 t ?_)
  refine XS.iconst X35.here hx rfl (D 33 rfl) ?_
  refine XS.aloadN X35.here hx rfl (D 34 rfl) rfl rfl ?_
  refine XS.iload X35.here hx rfl (D 35 rfl) rfl ?_
  refine XS.aloadN X35.here hx rfl (D 36 rfl) rfl rfl ?_
  exact k
 obtain ⟨T37, X37, e37, st37⟩ := getF X35 hx hZ hown (host := "") (Or.inl (W 74 rfl)) Via.refl e35 f34 (g := (own_g pre36)) rfl rfl (D 37 rfl)
 have pre38 : oP p e bw G T37 m 86 #[vR ra, vR rb, .val .null, vR b22, vR b4, vI (xk + (1 : Int32)), vI (own_len (own_hdr 42 (xk + (1 : Int32))))] [(.ref re), (.int (own_len (own_hdr 42 (xk + (1 : Int32))))), (.ref b22), (.int 0), (.ref re)] := fun t k => pre36 t (st37 t k)
 have ne39 := (Nat.ne_of_lt (Nat.lt_of_lt_of_le (VE.keep kp4 nin0).lt (Nat.le_of_eq g22.symm)))
 have pre41 : oP p e bw G T37 m 87 #[vR ra, vR rb, .val .null, vR b22, vR b4, vI (xk + (1 : Int32)), vI (own_len (own_hdr 42 (xk + (1 : Int32))))] [(.int (own_len le)), (.int (own_len (own_hdr 42 (xk + (1 : Int32))))), (.ref b22), (.int 0), (.ref re)] := by
  intro t k
  refine pre38 t ?_
  obtain ⟨c40, a40, q40, s40, m40, i40, u40⟩ := id (((VE.keep kp4 nin0).ext E22).keep kp29 (ninS ne39 nin0))
  refine X37.arraylength hx (by rw [e37]; exact a40.1) (State.isArrayOf_alike hZ.alike a40.2.1) (g := (own_g pre38)) rfl rfl (D 38 rfl) _ ?_
  rw [len_of s40 m40]
  exact k
 have f42 := (((VE.keep kp4 nin0).ext E22).keep kp29 (ninS ne39 nin0))
 obtain ⟨T43, h43, L43, X43, e43, N43, kp43, V43, st43⟩ := cpA X37 hx hZ hown (W 96 rfl) (W 99 rfl) (W 97 rfl) (W 98 rfl) e37 f42 vc31 (us := (le.map Value.int)) (Or.inl ⟨rfl, rfl⟩) (by decide) (own_jt1 jt0) (own_jt2 jt0) (own_jt3 jt0) (own_jt4 jt0) (own_jt6 jt0) (own_jt5 jt0) N29 g_b22 (g := (own_g pre41)) rfl (by rw [hml]; rfl) rfl (D 39 rfl) (by decide) (W := 0) (by show 2 * 0 + _ ≤ _; exact Nat.le_of_eq rfl) (by decide)
 have K43 : Keep h0 h43 [ra] := K29.trans kp43 (allS (P := fun x => x ∈ [ra] ∨ h0.size ≤ x) (Or.inr sz_b22) all0)
 have zz43 : n0 ≤ h43.size := Nat.le_trans Z0 K43.1
 have VV43 : Arv Z h43 b22 k22 .byte (own_len (own_hdr 42 (xk + (1 : Int32)) ++ (le ++ (own_bulks [(own_enc lw0)])))) ((((own_hdr 42 (xk + (1 : Int32))) ++ le) ++ ((own_zs (own_hdr 42 (xk + (1 : Int32)) ++ (le ++ (own_bulks [(own_enc lw0)])))).drop (own_hdr 42 (xk + (1 : Int32))).length).drop le.length).map Value.int) (.int 0) := (by rw [← own_jt7 jt0]; exact V43)
 have pre44 : oP p e bw G T43 m 94 #[vR ra, vR rb, .val .null, vR b22, vR b4, vI (xk + (1 : Int32)), vI (own_len (own_hdr 42 (xk + (1 : Int32))))] [(.ref ra), (.int (own_len (own_hdr 42 (xk + (1 : Int32))))), (.ref b22)] := by
  intro t k
  refine pre41 t (st43 t ?_)
  refine XS.aloadN X43.here hx rfl (D 40 rfl) rfl rfl ?_
  refine XS.iload X43.here hx rfl (D 41 rfl) rfl ?_
  refine XS.aloadN X43.here hx rfl (D 42 rfl) rfl rfl ?_
  exact k
 have f45 := (f34.keep kp43 (ninS ne33 nin0))
 obtain ⟨T46, X46, e46, st46⟩ := getF X43 hx hZ hown (host := "") (Or.inl (W 74 rfl)) Via.refl e43 f45 (g := (own_g pre44)) rfl rfl (D 43 rfl)
 have pre47 : oP p e bw G T46 m 97 #[vR ra, vR rb, .val .null, vR b22, vR b4, vI (xk + (1 : Int32)), vI (own_len (own_hdr 42 (xk + (1 : Int32))))] [(.ref re), (.int (own_len (own_hdr 42 (xk + (1 : Int32))))), (.ref b22)] := fun t k => pre44 t (st46 t k)
 have pre49 : oP p e bw G T46 m 99 #[vR ra, vR rb, .val .null, vR b22, vR b4, vI (xk + (1 : Int32)), vI (own_len (own_hdr 42 (xk + (1 : Int32))))] [(.int ((own_len (own_hdr 42 (xk + (1 : Int32)))) + (own_len le))), (.ref b22)] := by
  intro t k
  refine pre47 t ?_
  obtain ⟨c48, a48, q48, s48, m48, i48, u48⟩ := id (f42.keep kp43 (ninS ne39 nin0))
  refine X46.arraylength hx (by rw [e46]; exact a48.1) (State.isArrayOf_alike hZ.alike a48.2.1) (g := (own_g pre47)) rfl rfl (D 44 rfl) _ ?_
  rw [len_of s48 m48]
  refine XS.iadd X46.here hx rfl (D 45 rfl) rfl ?_
  exact k
 rw [show ((own_len (own_hdr 42 (xk + (1 : Int32)))) + (own_len le)) = (own_len (own_hdr 42 (xk + (1 : Int32)) ++ le)) from (own_lenA _ _).symm] at pre49
 have pre50 : oP p e bw G T46 m 101 #[vR ra, vR rb, .val .null, vR b22, vR b4, vI (xk + (1 : Int32)), vI (own_len (own_hdr 42 (xk + (1 : Int32))))] [(.ref b4), (.int (own_len (own_hdr 42 (xk + (1 : Int32)) ++ le))), (.ref b22)] := by
  intro t k
  refine pre49 t ?_
  refine XS.aload X46.here hx rfl (D 46 rfl) rfl rfl ?_
  exact k
 have f51 := (own_sta_keep (own_sta_keep f26 kp29 x22) kp43 (x22.keep kp29))
 have f52 := ((f27.keep kp29 (ninS ne28 nin0)).keep kp43 (ninS ne28 nin0))
 have ne53 := (Nat.ne_of_lt (Nat.lt_of_lt_of_le f4_0.lt (Nat.le_of_eq g22.symm)))
 have f54 := (((f4_0.ext E22).keep kp29 (ninS ne53 nin0)).keep kp43 (ninS ne53 nin0))
 have f55 := ((x22.keep kp29).keep kp43)
 have ne56 := (Nat.ne_of_lt (Nat.lt_of_lt_of_le f4_1.lt (Nat.le_of_eq g22.symm)))
 have f57 := (((f4_1.ext E22).keep kp29 (ninS ne56 nin0)).keep kp43 (ninS ne56 nin0))
 obtain ⟨_, T58, Lc58, X58, hQ58, pc58⟩ := own_callN X46 hx hZ hown (W 100 rfl) (W 66 rfl) (W 49 rfl) (W 67 rfl) (by decide) (rm_pb1 l Z a0 hw [] b22 b4 wc kc xr0 xr1 k22 _ _ _ (own_hdr 42 (xk + (1 : Int32)) ++ le) (((own_zs (own_hdr 42 (xk + (1 : Int32)) ++ (le ++ (own_bulks [(own_enc lw0)])))).drop (own_hdr 42 (xk + (1 : Int32))).length).drop le.length) _ _ _ h43 n0 zz43 f51 f52 VV43 f54 f55 (g_b22) (rfl) (own_lz (own_q6 hQ).symm) (by rw [own_q6 hQ]; exact hQ.hb) (own_q7 hQ) (ne28) (ne53) f57 ((own_w99 hl_0)) (ne56)) e46 pre50 hml rfl (D 47 rfl) (lenOf pd19 rfl) rfl (W := 0) rfl (by decide)
 obtain ⟨rfl, M58, kp58, f58_0⟩ := hQ58
 have K58 : Keep h0 T58.heap [ra] := K43.trans kp58 (allS (P := fun x => x ∈ [ra] ∨ h0.size ≤ x) (Or.inr sz_b22) all0)
 have zz58 : n0 ≤ T58.heap.size := Nat.le_trans Z0 K58.1
 have N58 := Fr.app N43 M58
 have pre59 : oP p e bw G T58 m 104 #[vR ra, vR rb, .val .null, vR b22, vR b4, vI (xk + (1 : Int32)), vI (own_len (own_hdr 42 (xk + (1 : Int32))))] [] := pc58
 have vc60 : Arv Z T58.heap b22 k22 .byte (own_len (own_hdr 42 (xk + (1 : Int32)) ++ (le ++ (own_bulks [(own_enc lw0)])))) ((own_hdr 42 (xk + (1 : Int32)) ++ (le ++ (own_bulks [(own_enc lw0)]))).map Value.int) (.int 0) := own_cv ((List.append_assoc _ _ _).symm) f58_0
 have pre61 : oP p e bw G T58 m 105 #[vR ra, vR rb, .val .null, vR b22, vR b4, vI (xk + (1 : Int32)), vI (own_len (own_hdr 42 (xk + (1 : Int32))))] [(.ref ra)] := by
  intro t k
  refine pre59 t ?_
  refine XS.aloadN X58.here hx rfl (D 48 rfl) rfl rfl ?_
  exact k
 obtain ⟨T62, h62, X62, e62, E62, A62, D62, -, st62⟩ := newO X58 hx hZ hown (W 101 rfl) (W 102 rfl) (W 103 rfl) rfl (g := (own_g pre61)) rfl (D 49 rfl) (by decide) (by decide)
 obtain ⟨b62, g62⟩ := own_ex T58.heap.size
 rw [← g62] at A62 D62 st62
 have g_b62 : n0 ≤ b62 := Nat.le_trans zz58 (Nat.le_of_eq g62.symm)
 have sz_b62 : h0.size ≤ b62 := Nat.le_trans K58.1 (Nat.le_of_eq g62.symm)
 have K62 : Keep h0 h62 [ra] := K58.ext E62
 have z62 : n0 ≤ h62.size := Nat.le_trans Z0 K62.1
 have F_rest_b62 : Fld Z h62 b62 oS2 "rest" oS9 .null := D62 (Or.inr (W 109 rfl)) (ty := (.array (.object "java/lang/String"))) (by decide)
 have F_request_b62 : Fld Z h62 b62 oS2 "request" "[B" .null := D62 (Or.inr (W 111 rfl)) (ty := (.array .byte)) (by decide)
 have pre63 : oP p e bw G T62 m 111 #[vR ra, vR rb, .val .null, vR b22, vR b4, vI (xk + (1 : Int32)), vI (own_len (own_hdr 42 (xk + (1 : Int32))))] [(.ref b22), (.ref rb), (.ref b62), (.ref b62), (.ref ra)] := by
  intro t k
  refine pre61 t (st62 t ?_)
  refine XS.dup X62.here hx rfl (D 50 rfl) rfl rfl ?_
  refine XS.aloadN X62.here hx rfl (D 51 rfl) rfl rfl ?_
  refine XS.aloadN X62.here hx rfl (D 52 rfl) rfl rfl ?_
  exact k
 obtain ⟨_, _, ⟨T64, L64, k64, n64⟩, -, X64, ⟨Lc64, hQ64, l64, y64, z64⟩, st64⟩ := X62.specialBackNest hx (y := oM6) rfl hown (own_mvM hZ (W 104 rfl)) (mvT hZ (W 105 rfl)) (mvT hZ (W 106 rfl)) (by decide) (backOf (W := 2) (rm_bi l Z a0 hw [] b62 rb b22 h62 n0 z62 A62 (g_b62) F_rest_b62 F_request_b62) hZ (W 106 rfl) (W 103 rfl) (by decide) (by decide)) (g := (own_g pre63)) rfl (by rw [hml]; rfl) (Steps.refl _) (a := b62) (argsL := [(.ref rb), (.ref b22)]) (rest := [(.ref b62), (.ref ra)]) (lenOf pd23 rfl) rfl (by show 2 * 0 + _ ≤ _; exact Nat.le_of_eq rfl) (D 53 rfl) (fun _ _ => ⟨rfl, e62, (by decide : 5 + 0 ≤ _), (by decide : 87 + 0 ≤ _)⟩)
 dsimp only [Pt.U, Pt.locs, Pt.cells, Pt.slots] at X64 l64 y64 z64 st64 hQ64
 subst y64 z64
 obtain ⟨rfl, M64, kp64, f64_0, f64_1, f64_2⟩ := hQ64
 have K64 : Keep h0 T64.heap [ra] := K62.trans kp64 (allS (P := fun x => x ∈ [ra] ∨ h0.size ≤ x) (Or.inr sz_b62) all0)
 have zz64 : n0 ≤ T64.heap.size := Nat.le_trans Z0 K64.1
 have N64 : Fr n0 L64 := by rw [l64]; exact Fr.app N58 M64
 clear l64
 have pre65 : oP p e bw G T64 m 114 #[vR ra, vR rb, .val .null, vR b22, vR b4, vI (xk + (1 : Int32)), vI (own_len (own_hdr 42 (xk + (1 : Int32))))] [(.ref b62), (.ref ra)] := fun t k => pre63 t (st64.trans k)
 have f66 := (((((((Ea.keep kp4).ext E22).keep kp29).keep kp43).keep kp58).ext E62).keep kp64)
 have ne67 := (Nat.ne_of_lt (Nat.lt_of_lt_of_le (f45.keep kp58 (ninS ne33 nin0)).lt (Nat.le_of_eq g62.symm)))
 have f68 := (((((((Fl.keep kp4 nin0).ext E22).keep kp29 (ninS ne33 nin0)).keep kp43 (ninS ne33 nin0)).keep kp58 (ninS ne33 nin0)).ext E62).keep kp64 (ninS ne67 nin0))
 obtain ⟨T69, h69, X69, e69, W69, st69⟩ := putF X64 hx hZ hown (host := "") (Or.inl (W 81 rfl)) Via.refl rfl f68 f66 (Or.inl (W 82 rfl)) (W 52 rfl) (ty := (.object oS2)) (by decide) rfl rfl (g := (own_g pre65)) rfl rfl (D 54 rfl)
 have K69 : Keep h0 h69 [ra] := K64.wr W69 (Or.inl (by simp))
 have z69 : n0 ≤ h69.size := Nat.le_trans Z0 K69.1
 have N69 := Fr.snoc X69 N64 g_ra
 have Fw69 := f68.same W69
 have pre70 : oP p e bw G T69 m 118 #[vR ra, vR rb, .val .null, vR b22, vR b4, vI (xk + (1 : Int32)), vI (own_len (own_hdr 42 (xk + (1 : Int32))))] [(.ref b22)] := by
  intro t k
  refine pre65 t (st69 t ?_)
  refine XS.aloadN X69.here hx rfl (D 55 rfl) rfl rfl ?_
  exact k
 obtain ⟨fs, hr, hrun, hended, hW, hsame⟩ := X69.leave (hlocks := Bd.notSynchronized) (v := some (.ref b22)) (fun h => by rw [Bd.returns] at h; cases h)
 subst hG
 refine ⟨_, _, pre70 _ ?_, hrun, hended, _, _, rfl, ?_, ⟨_, rfl⟩, hW, hsame.mono (by decide) (by decide)⟩
 ·exact retOut X69 hx Bd.returns rfl (Or.inr (Or.inr (Or.inr (Or.inr ⟨rfl, rfl, rfl⟩)))) (D 56 rfl) hr
 ·show Q_rm_rqa1 Z ra rb xcs wu wc kc xr0 xr1 xk re ke le ka rw0 ry0 ky0 lw0 h0 n0 _ T69.heap _
  rw [e69]
  have ne71 := (Nat.ne_of_lt (Nat.lt_of_lt_of_le vc60.lt (Nat.le_of_eq g62.symm)))
  have ne72 := (Nat.ne_of_lt (Nat.lt_of_lt_of_le ((f42.keep kp43 (ninS ne39 nin0)).keep kp58 (ninS ne39 nin0)).lt (Nat.le_of_eq g62.symm)))
  exact ⟨b62, k22, b22, rfl, N69, g_b22, sz_b22, K69, (((vc60.ext E62).keep kp64 (ninS ne71 nin0)).other W69 (Ne.symm ne33)), (f66.wr W69), (((((((f6.ext E22).keep kp29 (ninS ne33 nin0)).keep kp43 (ninS ne33 nin0)).keep kp58 (ninS ne33 nin0)).ext E62).keep kp64 (ninS ne67 nin0)).other W69 (Or.inr (slot_ne (Or.inr (W 73 rfl)) (Or.inl (W 82 rfl)) (by decide) (t := .int) (t' := (.object oS2)) (by decide) (by decide)))), ((((f45.keep kp58 (ninS ne33 nin0)).ext E62).keep kp64 (ninS ne67 nin0)).other W69 (Or.inr (slot_ne (Or.inr (W 75 rfl)) (Or.inl (W 82 rfl)) (by decide) (t := (.array .byte)) (t' := (.object oS2)) (by decide) (by decide)))), Fw69, (((((f42.keep kp43 (ninS ne39 nin0)).keep kp58 (ninS ne39 nin0)).ext E62).keep kp64 (ninS ne72 nin0)).other W69 hre), (f64_0.wr W69), (f64_1.other W69 (Or.inl (Ne.symm ne67))), (f64_2.other W69 (Or.inl (Ne.symm ne67)))⟩
theorem ef_rm_rqc (m : MethodId) (ra : Addr) (rb : Addr) : entryFrame m #[(.ref ra), (.ref rb)] 7 = mkF m 0 #[vR ra, vR rb, vU, vU, vU, vU, vU] [] := by simp [entryFrame, mkF, argsToLocals, Value.category]
def Q_rm_rqc (Z : State) (ra : Addr) (rb : Addr) (rt : Addr) (rr : Addr) (kr : ClassId) (ka : ClassId) (rq : Addr) (h0 : Heap) (n0 : Nat) (v : Option Value) (h : Heap) (L : List Loc) : Prop := v = some (.ref rq) ∧ Fr n0 L ∧ h = h0
set_option maxRecDepth 65536 in
set_option maxHeartbeats 40000000 in
theorem rm_rqc (l : Launch) (Z : State) (a0 : Array Value) (hw : ∀ d ∈ tables_1, d.before a0 Z = true) (ws : List Jvm.Cond) (ra : Addr) (rb : Addr) (rt : Addr) (rr : Addr) (kr : ClassId) (ka : ClassId) (rq : Addr) (h0 : Heap) (n0 : Nat) (Z0 : n0 ≤ h0.size) (Fl : Fld Z h0 ra oS0 "last" oS4 (.ref rt)) (Fr_ : Fld Z h0 rt oS2 "rest" oS9 (.ref rr)) (Fq : Fld Z h0 rt oS2 "request" "[B" (.ref rq)) (VR2 : Arv Z h0 rr kr (.object "java/lang/String") (0 : Int32) [] .null) (VB0 : Arv Z h0 rb ka (.object "java/lang/String") (0 : Int32) [] .null) (hnr : rr ≠ rb) :
  oMet l oM0 prog_12_method_2_code 7 (some (.array .byte)) ws (oR 1 0 0 15) #[(.ref ra), (.ref rb)] Z h0 (Q_rm_rqc Z ra rb rt rr kr ka rq h0 n0) := by
 refine MetFree.of_bodySF (plainFor_of_name pn7) hisR ?_
 have W := own_W hw
 intro p e s m args bw meth c s₁ Bd hml0 hP hK
 obtain ⟨rfl, hZ, hh⟩ := hP
 have hx := Bd.exec
 have hby := Bd.bytes
 have hml : c.maxLocals = 7 := hml0
 have hown : s.vm.findClass oS0 = some m.cls := findClass_of_methodNamed Bd.named
 have hnm := (name_of_methodNamed Bd.named Bd.method).1
 have X0 : Stand p l e (oR 1 0 0 15) s m #[(.ref ra), (.ref rb)] bw meth c s₁ [] 0 0 := Stand.of_body Bd
 have e0 : s₁.heap = h0 := by rw [← hh, Bd.state]; rfl
 have N0 := Fr.nil n0
 have D := own_D hby dB17
 obtain ⟨G, hG⟩ := own_ex fun t => Steps p.tables e bw (s₁.setTop (entryFrame m #[(.ref ra), (.ref rb)] 7)) t
 have pre0 : oP p e bw G s₁ m 0 #[vR ra, vR rb, vU, vU, vU, vU, vU] [] := by intro t k; subst hG; exact castTop (ef_rm_rqc m ra rb) k
 have pre1 : oP p e bw G s₁ m 1 #[vR ra, vR rb, vU, vU, vU, vU, vU] [(.ref ra)] := by
  intro t k
  refine pre0 t ?_
  refine XS.aloadN X0.here hx rfl (D 0 rfl) rfl rfl ?_
  exact k
 obtain ⟨T2, X2, e2, st2⟩ := getF X0 hx hZ hown (host := "") (Or.inl (W 81 rfl)) Via.refl e0 Fl (g := (own_g pre1)) rfl rfl (D 1 rfl)
 have pre3 : oP p e bw G T2 m 10 #[vR ra, vR rb, vR rt, vU, vU, vU, vU] [(.ref rt)] := by
  intro t k
  refine pre1 t (st2 t ?_)
  refine XS.astoreN X2.here hx rfl (D 2 rfl) rfl rfl (l' := #[vR ra, vR rb, vR rt, vU, vU, vU, vU]) rfl ?_
  refine XS.aloadN X2.here hx rfl (D 3 rfl) rfl rfl ?_
  refine XS.ifnullNo X2.here hx rfl (D 4 rfl) rfl ?_
  refine XS.aloadN X2.here hx rfl (D 57 rfl) rfl rfl ?_
  exact k
 obtain ⟨T4, X4, e4, st4⟩ := getF X2 hx hZ hown (Or.inr (W 112 rfl)) Via.refl e2 Fr_ (g := (own_g pre3)) rfl rfl (D 58 rfl)
 have pre5 : oP p e bw G T4 m 14 #[vR ra, vR rb, vR rt, vU, vU, vU, vU] [(.ref rb), (.ref rr)] := by
  intro t k
  refine pre3 t (st4 t ?_)
  refine XS.aloadN X4.here hx rfl (D 59 rfl) rfl rfl ?_
  exact k
 obtain ⟨_, T6, Lc6, X6, hQ6, pc6⟩ := own_call X4 hx hZ hown (W 113 rfl) (W 114 rfl) (W 115 rfl) (W 116 rfl) (by decide) (rm_eq0 l Z a0 hw [] rr rb kr ka h0 n0 Z0 VR2 VB0 (hnr)) e4 pre5 hml rfl (D 60 rfl) (lenOf pd24 rfl) rfl (W := 0) rfl (by decide)
 obtain ⟨rfl, M6, e6⟩ := hQ6
 have N6 := Fr.app N0 M6
 have pre7 : oP p e bw G T6 m 21 #[vR ra, vR rb, vR rt, vU, vU, vU, vU] [(.ref rt)] := by
  intro t k
  refine pc6 t ?_
  refine XS.ifNo X6.here hx rfl (D 61 rfl) rfl ((if0 _ _).trans (feq (show ¬ ((1 : Int32) = (0 : Int32)) from by decide)).1) ?_
  refine XS.aloadN X6.here hx rfl (D 62 rfl) rfl rfl ?_
  exact k
 obtain ⟨T8, X8, e8, st8⟩ := getF X6 hx hZ hown (Or.inr (W 117 rfl)) Via.refl e6 Fq (g := (own_g pre7)) rfl rfl (D 63 rfl)
 have pre9 : oP p e bw G T8 m 118 #[vR ra, vR rb, vR rt, vR rq, vU, vU, vU] [(.ref rq)] := by
  intro t k
  refine pre7 t (st8 t ?_)
  refine XS.astoreN X8.here hx rfl (D 64 rfl) rfl rfl (l' := #[vR ra, vR rb, vR rt, vR rq, vU, vU, vU]) rfl ?_
  refine XS.goto X8.here hx rfl (pc0 := 25) (pc' := 117) rfl (D 65 rfl) (by decide) (by decide) ?_
  refine XS.aloadN X8.here hx rfl (D 55 rfl) rfl rfl ?_
  exact k
 obtain ⟨fs, hr, hrun, hended, hW, hsame⟩ := X8.leave (hlocks := Bd.notSynchronized) (v := some (.ref rq)) (fun h => by rw [Bd.returns] at h; cases h)
 subst hG
 refine ⟨_, _, pre9 _ ?_, hrun, hended, _, _, rfl, ?_, ⟨_, rfl⟩, hW, hsame.mono (by decide) (by decide)⟩
 ·exact retOut X8 hx Bd.returns rfl (Or.inr (Or.inr (Or.inr (Or.inr ⟨rfl, rfl, rfl⟩)))) (D 56 rfl) hr
 ·show Q_rm_rqc Z ra rb rt rr kr ka rq h0 n0 _ T8.heap _
  rw [e8]
  exact ⟨rfl, N6, rfl⟩
theorem ef_rm_hdr (m : MethodId) (ra : Addr) (xa : Int32) (xk : Int32) (xn : Int32) : entryFrame m #[(.ref ra), (.int xa), (.int xk), (.int xn)] 5 = mkF m 0 #[vR ra, vI xa, vI xk, vI xn, vU] [] := by simp [entryFrame, mkF, argsToLocals, Value.category]
def Q_rm_hdr (Z : State) (ra : Addr) (xa : Int32) (xk : Int32) (xn : Int32) (ka : ClassId) (xz : Int32) (l1 : List Int32) (lA : List Int32) (lR : List Int32) (h0 : Heap) (n0 : Nat) (v : Option Value) (h : Heap) (L : List Loc) : Prop := v = some (.int (own_len (lA ++ own_hdr xk xn))) ∧ Fr n0 L ∧ h = h0
set_option maxRecDepth 65536 in
set_option maxHeartbeats 40000000 in
theorem rm_hdr (l : Launch) (Z : State) (a0 : Array Value) (hw : ∀ d ∈ tables_1, d.before a0 Z = true) (ws : List Jvm.Cond) (ra : Addr) (xa : Int32) (xk : Int32) (xn : Int32) (ka : ClassId) (xz : Int32) (l1 : List Int32) (lA : List Int32) (lR : List Int32) (h0 : Heap) (n0 : Nat) (Z0 : n0 ≤ h0.size) (VA : Arv Z h0 ra ka .byte xz (l1.map Value.int) (.int 0)) (hH : own_RT l1 lA (own_hdr xk xn) lR xa xz) :
  oMet l (⟨oS3, "header", "([BIII)I"⟩ : MethodName) method_8_code 5 (some .int) ws (oR 0 0 0 0) #[(.ref ra), (.int xa), (.int xk), (.int xn)] Z h0 (Q_rm_hdr Z ra xa xk xn ka xz l1 lA lR h0 n0) := by
 refine MetFree.of_bodySF (plainFor_of_name pn4) hisR ?_
 have W := own_W hw
 intro p e s m args bw meth c s₁ Bd hml0 hP hK
 obtain ⟨rfl, hZ, hh⟩ := hP
 have hx := Bd.exec
 have hby := Bd.bytes
 have hml : c.maxLocals = 5 := hml0
 have hown : s.vm.findClass oS3 = some m.cls := findClass_of_methodNamed Bd.named
 have hnm := (name_of_methodNamed Bd.named Bd.method).1
 have X0 : Stand p l e (oR 0 0 0 0) s m #[(.ref ra), (.int xa), (.int xk), (.int xn)] bw meth c s₁ [] 0 0 := Stand.of_body Bd
 have e0 : s₁.heap = h0 := by rw [← hh, Bd.state]; rfl
 have N0 := Fr.nil n0
 have D := own_D hby dB24
 obtain ⟨G, hG⟩ := own_ex fun t => Steps p.tables e bw (s₁.setTop (entryFrame m #[(.ref ra), (.int xa), (.int xk), (.int xn)] 5)) t
 have pre0 : oP p e bw G s₁ m 0 #[vR ra, vI xa, vI xk, vI xn, vU] [] := by intro t k; subst hG; exact castTop (ef_rm_hdr m ra xa xk xn) k
 have pre1 : oP p e bw G s₁ m 9 #[vR ra, vI xa, vI xk, vI xn, vU] [(.int 10), (.int xn)] := by
  intro t k
  refine pre0 t ?_
  refine XS.iloadN X0.here hx rfl (D 0 rfl) rfl ?_
  refine XS.ifYes X0.here hx rfl (pc0 := 1) (pc' := 6) rfl (D 1 rfl) rfl ((if0 _ _).trans (flt (show ¬ (xa < (0 : Int32)) from own_rt1 hH)).2.1) (by decide) (by decide) ?_
  refine XS.iloadN X0.here hx rfl (D 2 rfl) rfl ?_
  refine XS.bipush X0.here hx rfl (D 3 rfl) ?_
  exact k
 by_cases hc9 : xn < (10 : Int32)
 ·have pre2 : oP p e bw G s₁ m 26 #[vR ra, vI xa, vI xk, vI xn, vI 1] [(.ref ra), (.int ((xa + (1 : Int32)) + (3 : Int32)))] := by
   intro t k
   refine pre1 t ?_
   refine XS.icmpNo X0.here hx rfl (D 4 rfl) rfl (tlt hc9).2.1 ?_
   refine XS.iconst X0.here hx rfl (D 5 rfl) ?_
   refine XS.goto X0.here hx rfl (pc0 := 13) (pc' := 17) rfl (D 6 rfl) (by decide) (by decide) ?_
   refine XS.istore X0.here hx rfl (D 7 rfl) rfl (l' := #[vR ra, vI xa, vI xk, vI xn, vI 1]) rfl ?_
   refine XS.iloadN X0.here hx rfl (D 8 rfl) rfl ?_
   refine XS.iload X0.here hx rfl (D 9 rfl) rfl ?_
   refine XS.iadd X0.here hx rfl (D 10 rfl) rfl ?_
   refine XS.iconst X0.here hx rfl (D 11 rfl) ?_
   refine XS.iadd X0.here hx rfl (D 12 rfl) rfl ?_
   refine XS.aloadN X0.here hx rfl (D 13 rfl) rfl rfl ?_
   exact k
  have pre4 : oP p e bw G s₁ m 34 #[vR ra, vI xa, vI xk, vI xn, vI 1] [(.int xa), (.ref ra)] := by
   intro t k
   refine pre2 t ?_
   obtain ⟨c3, a3, q3, s3, m3, i3, u3⟩ := id VA
   refine X0.arraylength hx (by rw [e0]; exact a3.1) (State.isArrayOf_alike hZ.alike a3.2.1) (g := (own_g pre2)) rfl rfl (D 14 rfl) _ ?_
   rw [len_of s3 m3]
   refine XS.icmpYes X0.here hx rfl (pc0 := 27) (pc' := 32) rfl (D 15 rfl) rfl (flt (show ¬ (xz < ((xa + (1 : Int32)) + (3 : Int32))) from (own_hA hH hc9).2.2.2.2.1)).2.2.2 (by decide) (by decide) ?_
   refine XS.aloadN X0.here hx rfl (D 16 rfl) rfl rfl ?_
   refine XS.iloadN X0.here hx rfl (D 17 rfl) rfl ?_
   exact k
  have pre6 : oP p e bw G s₁ m 51 #[vR ra, vI xa, vI xk, vI xn, vI 1] [(.int (xa + (1 : Int32))), (.ref ra)] := by
   intro t k
   refine pre4 t ?_
   obtain ⟨c5, a5, q5, s5, m5, i5, u5⟩ := id VA
   have hin5 := inb_of (j := xa) s5 ((own_hA hH hc9).1).1
   refine X0.baloadBytes hx (j := xa) (v := (.int xk)) (by rw [e0]; exact a5.1) (State.isArrayOf_alike hZ.alike a5.2.1) a5.2.2 hin5 (i5.at hin5 ((own_hA hH hc9).1).2) (g := (own_g pre4)) rfl rfl (D 18 rfl) _ ?_
   refine XS.iloadN X0.here hx rfl (D 19 rfl) rfl ?_
   refine XS.icmpYes X0.here hx rfl (pc0 := 36) (pc' := 41) rfl (D 20 rfl) rfl (teq (show xk = xk from rfl)).1 (by decide) (by decide) ?_
   refine XS.iload X0.here hx rfl (D 21 rfl) rfl ?_
   refine XS.iconst X0.here hx rfl (D 22 rfl) ?_
   refine XS.icmpNo X0.here hx rfl (D 23 rfl) rfl (teq (show (1 : Int32) = (1 : Int32) from by decide)).2 ?_
   refine XS.aloadN X0.here hx rfl (D 24 rfl) rfl rfl ?_
   refine XS.iloadN X0.here hx rfl (D 25 rfl) rfl ?_
   refine XS.iconst X0.here hx rfl (D 26 rfl) ?_
   refine XS.iadd X0.here hx rfl (D 27 rfl) rfl ?_
   exact k
  have pre8 : oP p e bw G s₁ m 100 #[vR ra, vI xa, vI xk, vI xn, vI 1] [(.int ((xa + (1 : Int32)) + (1 : Int32))), (.ref ra)] := by
   intro t k
   refine pre6 t ?_
   obtain ⟨c7, a7, q7, s7, m7, i7, u7⟩ := id VA
   have hin7 := inb_of (j := (xa + (1 : Int32))) s7 ((own_hA hH hc9).2.1).1
   refine X0.baloadBytes hx (j := (xa + (1 : Int32))) (v := (.int ((48 : Int32) + xn))) (by rw [e0]; exact a7.1) (State.isArrayOf_alike hZ.alike a7.2.1) a7.2.2 hin7 (i7.at hin7 ((own_hA hH hc9).2.1).2) (g := (own_g pre6)) rfl rfl (D 28 rfl) _ ?_
   refine XS.bipush X0.here hx rfl (D 29 rfl) ?_
   refine XS.iloadN X0.here hx rfl (D 30 rfl) rfl ?_
   refine XS.iadd X0.here hx rfl (D 31 rfl) rfl ?_
   refine XS.icmpYes X0.here hx rfl (pc0 := 56) (pc' := 93) rfl (D 32 rfl) rfl (teq (show ((48 : Int32) + xn) = ((48 : Int32) + xn) from rfl)).1 (by decide) (by decide) ?_
   refine XS.aloadN X0.here hx rfl (D 33 rfl) rfl rfl ?_
   refine XS.iloadN X0.here hx rfl (D 34 rfl) rfl ?_
   refine XS.iload X0.here hx rfl (D 35 rfl) rfl ?_
   refine XS.iadd X0.here hx rfl (D 36 rfl) rfl ?_
   refine XS.iconst X0.here hx rfl (D 37 rfl) ?_
   refine XS.iadd X0.here hx rfl (D 38 rfl) rfl ?_
   exact k
  have pre10 : oP p e bw G s₁ m 113 #[vR ra, vI xa, vI xk, vI xn, vI 1] [(.int ((xa + (1 : Int32)) + (2 : Int32))), (.ref ra)] := by
   intro t k
   refine pre8 t ?_
   obtain ⟨c9, a9, q9, s9, m9, i9, u9⟩ := id VA
   have hin9 := inb_of (j := ((xa + (1 : Int32)) + (1 : Int32))) s9 ((own_hA hH hc9).2.2.1).1
   refine X0.baloadBytes hx (j := ((xa + (1 : Int32)) + (1 : Int32))) (v := (.int 13)) (by rw [e0]; exact a9.1) (State.isArrayOf_alike hZ.alike a9.2.1) a9.2.2 hin9 (i9.at hin9 ((own_hA hH hc9).2.2.1).2) (g := (own_g pre8)) rfl rfl (D 39 rfl) _ ?_
   refine XS.bipush X0.here hx rfl (D 40 rfl) ?_
   refine XS.icmpNo X0.here hx rfl (D 41 rfl) rfl (teq (show (13 : Int32) = (13 : Int32) from rfl)).2 ?_
   refine XS.aloadN X0.here hx rfl (D 42 rfl) rfl rfl ?_
   refine XS.iloadN X0.here hx rfl (D 43 rfl) rfl ?_
   refine XS.iload X0.here hx rfl (D 44 rfl) rfl ?_
   refine XS.iadd X0.here hx rfl (D 45 rfl) rfl ?_
   refine XS.iconst X0.here hx rfl (D 46 rfl) ?_
   refine XS.iadd X0.here hx rfl (D 47 rfl) rfl ?_
   exact k
  have pre12 : oP p e bw G s₁ m 127 #[vR ra, vI xa, vI xk, vI xn, vI 1] [(.int ((xa + (1 : Int32)) + (3 : Int32)))] := by
   intro t k
   refine pre10 t ?_
   obtain ⟨c11, a11, q11, s11, m11, i11, u11⟩ := id VA
   have hin11 := inb_of (j := ((xa + (1 : Int32)) + (2 : Int32))) s11 ((own_hA hH hc9).2.2.2.1).1
   refine X0.baloadBytes hx (j := ((xa + (1 : Int32)) + (2 : Int32))) (v := (.int 10)) (by rw [e0]; exact a11.1) (State.isArrayOf_alike hZ.alike a11.2.1) a11.2.2 hin11 (i11.at hin11 ((own_hA hH hc9).2.2.2.1).2) (g := (own_g pre10)) rfl rfl (D 48 rfl) _ ?_
   refine XS.bipush X0.here hx rfl (D 49 rfl) ?_
   refine XS.icmpYes X0.here hx rfl (pc0 := 116) (pc' := 121) rfl (D 50 rfl) rfl (teq (show (10 : Int32) = (10 : Int32) from rfl)).1 (by decide) (by decide) ?_
   refine XS.iloadN X0.here hx rfl (D 51 rfl) rfl ?_
   refine XS.iload X0.here hx rfl (D 52 rfl) rfl ?_
   refine XS.iadd X0.here hx rfl (D 53 rfl) rfl ?_
   refine XS.iconst X0.here hx rfl (D 54 rfl) ?_
   refine XS.iadd X0.here hx rfl (D 55 rfl) rfl ?_
   exact k
  obtain ⟨fs, hr, hrun, hended, hW, hsame⟩ := X0.leave (hlocks := Bd.notSynchronized) (v := some (.int ((xa + (1 : Int32)) + (3 : Int32)))) (fun h => by rw [Bd.returns] at h; cases h)
  subst hG
  refine ⟨_, _, pre12 _ ?_, hrun, hended, _, _, rfl, ?_, ⟨_, rfl⟩, hW, hsame.mono (by decide) (by decide)⟩
  ·exact retI X0 hx Bd.returns (D 56 rfl) hr
  ·show Q_rm_hdr Z ra xa xk xn ka xz l1 lA lR h0 n0 _ s₁.heap _
   rw [e0]
   exact ⟨congrArg (fun z => some (Value.int z)) ((own_hA hH hc9).2.2.2.2.2), N0, rfl⟩
 ·have pre13 : oP p e bw G s₁ m 26 #[vR ra, vI xa, vI xk, vI xn, vI 2] [(.ref ra), (.int ((xa + (2 : Int32)) + (3 : Int32)))] := by
   intro t k
   refine pre1 t ?_
   refine XS.icmpYes X0.here hx rfl (pc0 := 9) (pc' := 16) rfl (D 4 rfl) rfl (flt hc9).2.1 (by decide) (by decide) ?_
   refine XS.iconst X0.here hx rfl (D 57 rfl) ?_
   refine XS.istore X0.here hx rfl (D 7 rfl) rfl (l' := #[vR ra, vI xa, vI xk, vI xn, vI 2]) rfl ?_
   refine XS.iloadN X0.here hx rfl (D 8 rfl) rfl ?_
   refine XS.iload X0.here hx rfl (D 9 rfl) rfl ?_
   refine XS.iadd X0.here hx rfl (D 10 rfl) rfl ?_
   refine XS.iconst X0.here hx rfl (D 11 rfl) ?_
   refine XS.iadd X0.here hx rfl (D 12 rfl) rfl ?_
   refine XS.aloadN X0.here hx rfl (D 13 rfl) rfl rfl ?_
   exact k
  have pre15 : oP p e bw G s₁ m 34 #[vR ra, vI xa, vI xk, vI xn, vI 2] [(.int xa), (.ref ra)] := by
   intro t k
   refine pre13 t ?_
   obtain ⟨c14, a14, q14, s14, m14, i14, u14⟩ := id VA
   refine X0.arraylength hx (by rw [e0]; exact a14.1) (State.isArrayOf_alike hZ.alike a14.2.1) (g := (own_g pre13)) rfl rfl (D 14 rfl) _ ?_
   rw [len_of s14 m14]
   refine XS.icmpYes X0.here hx rfl (pc0 := 27) (pc' := 32) rfl (D 15 rfl) rfl (flt (show ¬ (xz < ((xa + (2 : Int32)) + (3 : Int32))) from (own_hB hH hc9).2.2.2.2.2.1)).2.2.2 (by decide) (by decide) ?_
   refine XS.aloadN X0.here hx rfl (D 16 rfl) rfl rfl ?_
   refine XS.iloadN X0.here hx rfl (D 17 rfl) rfl ?_
   exact k
  have pre17 : oP p e bw G s₁ m 65 #[vR ra, vI xa, vI xk, vI xn, vI 2] [(.int (xa + (1 : Int32))), (.ref ra)] := by
   intro t k
   refine pre15 t ?_
   obtain ⟨c16, a16, q16, s16, m16, i16, u16⟩ := id VA
   have hin16 := inb_of (j := xa) s16 ((own_hB hH hc9).1).1
   refine X0.baloadBytes hx (j := xa) (v := (.int xk)) (by rw [e0]; exact a16.1) (State.isArrayOf_alike hZ.alike a16.2.1) a16.2.2 hin16 (i16.at hin16 ((own_hB hH hc9).1).2) (g := (own_g pre15)) rfl rfl (D 18 rfl) _ ?_
   refine XS.iloadN X0.here hx rfl (D 19 rfl) rfl ?_
   refine XS.icmpYes X0.here hx rfl (pc0 := 36) (pc' := 41) rfl (D 20 rfl) rfl (teq (show xk = xk from rfl)).1 (by decide) (by decide) ?_
   refine XS.iload X0.here hx rfl (D 21 rfl) rfl ?_
   refine XS.iconst X0.here hx rfl (D 22 rfl) ?_
   refine XS.icmpYes X0.here hx rfl (pc0 := 44) (pc' := 61) rfl (D 23 rfl) rfl (feq (show ¬ ((2 : Int32) = (1 : Int32)) from by decide)).2 (by decide) (by decide) ?_
   refine XS.aloadN X0.here hx rfl (D 58 rfl) rfl rfl ?_
   refine XS.iloadN X0.here hx rfl (D 59 rfl) rfl ?_
   refine XS.iconst X0.here hx rfl (D 60 rfl) ?_
   refine XS.iadd X0.here hx rfl (D 61 rfl) rfl ?_
   exact k
  have pre19 : oP p e bw G s₁ m 80 #[vR ra, vI xa, vI xk, vI xn, vI 2] [(.int (xa + (2 : Int32))), (.ref ra)] := by
   intro t k
   refine pre17 t ?_
   obtain ⟨c18, a18, q18, s18, m18, i18, u18⟩ := id VA
   have hin18 := inb_of (j := (xa + (1 : Int32))) s18 ((own_hB hH hc9).2.1).1
   refine X0.baloadBytes hx (j := (xa + (1 : Int32))) (v := (.int ((48 : Int32) + (xn / (10 : Int32))))) (by rw [e0]; exact a18.1) (State.isArrayOf_alike hZ.alike a18.2.1) a18.2.2 hin18 (i18.at hin18 ((own_hB hH hc9).2.1).2) (g := (own_g pre17)) rfl rfl (D 62 rfl) _ ?_
   refine XS.bipush X0.here hx rfl (D 63 rfl) ?_
   refine XS.iloadN X0.here hx rfl (D 64 rfl) rfl ?_
   refine XS.bipush X0.here hx rfl (D 65 rfl) ?_
   refine XS.idiv X0.here hx rfl (D 66 rfl) rfl (by decide) ?_
   refine XS.iadd X0.here hx rfl (D 67 rfl) rfl ?_
   refine XS.icmpNo X0.here hx rfl (D 68 rfl) rfl (teq (show ((48 : Int32) + (xn / (10 : Int32))) = ((48 : Int32) + (xn / (10 : Int32))) from rfl)).2 ?_
   refine XS.aloadN X0.here hx rfl (D 69 rfl) rfl rfl ?_
   refine XS.iloadN X0.here hx rfl (D 70 rfl) rfl ?_
   refine XS.iconst X0.here hx rfl (D 71 rfl) ?_
   refine XS.iadd X0.here hx rfl (D 72 rfl) rfl ?_
   exact k
  have pre21 : oP p e bw G s₁ m 100 #[vR ra, vI xa, vI xk, vI xn, vI 2] [(.int ((xa + (2 : Int32)) + (1 : Int32))), (.ref ra)] := by
   intro t k
   refine pre19 t ?_
   obtain ⟨c20, a20, q20, s20, m20, i20, u20⟩ := id VA
   have hin20 := inb_of (j := (xa + (2 : Int32))) s20 ((own_hB hH hc9).2.2.1).1
   refine X0.baloadBytes hx (j := (xa + (2 : Int32))) (v := (.int ((48 : Int32) + (xn % (10 : Int32))))) (by rw [e0]; exact a20.1) (State.isArrayOf_alike hZ.alike a20.2.1) a20.2.2 hin20 (i20.at hin20 ((own_hB hH hc9).2.2.1).2) (g := (own_g pre19)) rfl rfl (D 73 rfl) _ ?_
   refine XS.bipush X0.here hx rfl (D 74 rfl) ?_
   refine XS.iloadN X0.here hx rfl (D 75 rfl) rfl ?_
   refine XS.bipush X0.here hx rfl (D 76 rfl) ?_
   refine iremM X0 hx rfl (D 77 rfl) rfl (by decide) ?_
   refine XS.iadd X0.here hx rfl (D 78 rfl) rfl ?_
   refine XS.icmpYes X0.here hx rfl (pc0 := 88) (pc' := 93) rfl (D 79 rfl) rfl (teq (show ((48 : Int32) + (xn % (10 : Int32))) = ((48 : Int32) + (xn % (10 : Int32))) from rfl)).1 (by decide) (by decide) ?_
   refine XS.aloadN X0.here hx rfl (D 33 rfl) rfl rfl ?_
   refine XS.iloadN X0.here hx rfl (D 34 rfl) rfl ?_
   refine XS.iload X0.here hx rfl (D 35 rfl) rfl ?_
   refine XS.iadd X0.here hx rfl (D 36 rfl) rfl ?_
   refine XS.iconst X0.here hx rfl (D 37 rfl) ?_
   refine XS.iadd X0.here hx rfl (D 38 rfl) rfl ?_
   exact k
  have pre23 : oP p e bw G s₁ m 113 #[vR ra, vI xa, vI xk, vI xn, vI 2] [(.int ((xa + (2 : Int32)) + (2 : Int32))), (.ref ra)] := by
   intro t k
   refine pre21 t ?_
   obtain ⟨c22, a22, q22, s22, m22, i22, u22⟩ := id VA
   have hin22 := inb_of (j := ((xa + (2 : Int32)) + (1 : Int32))) s22 ((own_hB hH hc9).2.2.2.1).1
   refine X0.baloadBytes hx (j := ((xa + (2 : Int32)) + (1 : Int32))) (v := (.int 13)) (by rw [e0]; exact a22.1) (State.isArrayOf_alike hZ.alike a22.2.1) a22.2.2 hin22 (i22.at hin22 ((own_hB hH hc9).2.2.2.1).2) (g := (own_g pre21)) rfl rfl (D 39 rfl) _ ?_
   refine XS.bipush X0.here hx rfl (D 40 rfl) ?_
   refine XS.icmpNo X0.here hx rfl (D 41 rfl) rfl (teq (show (13 : Int32) = (13 : Int32) from rfl)).2 ?_
   refine XS.aloadN X0.here hx rfl (D 42 rfl) rfl rfl ?_
   refine XS.iloadN X0.here hx rfl (D 43 rfl) rfl ?_
   refine XS.iload X0.here hx rfl (D 44 rfl) rfl ?_
   refine XS.iadd X0.here hx rfl (D 45 rfl) rfl ?_
   refine XS.iconst X0.here hx rfl (D 46 rfl) ?_
   refine XS.iadd X0.here hx rfl (D 47 rfl) rfl ?_
   exact k
  have pre25 : oP p e bw G s₁ m 127 #[vR ra, vI xa, vI xk, vI xn, vI 2] [(.int ((xa + (2 : Int32)) + (3 : Int32)))] := by
   intro t k
   refine pre23 t ?_
   obtain ⟨c24, a24, q24, s24, m24, i24, u24⟩ := id VA
   have hin24 := inb_of (j := ((xa + (2 : Int32)) + (2 : Int32))) s24 ((own_hB hH hc9).2.2.2.2.1).1
   refine X0.baloadBytes hx (j := ((xa + (2 : Int32)) + (2 : Int32))) (v := (.int 10)) (by rw [e0]; exact a24.1) (State.isArrayOf_alike hZ.alike a24.2.1) a24.2.2 hin24 (i24.at hin24 ((own_hB hH hc9).2.2.2.2.1).2) (g := (own_g pre23)) rfl rfl (D 48 rfl) _ ?_
   refine XS.bipush X0.here hx rfl (D 49 rfl) ?_
   refine XS.icmpYes X0.here hx rfl (pc0 := 116) (pc' := 121) rfl (D 50 rfl) rfl (teq (show (10 : Int32) = (10 : Int32) from rfl)).1 (by decide) (by decide) ?_
   refine XS.iloadN X0.here hx rfl (D 51 rfl) rfl ?_
   refine XS.iload X0.here hx rfl (D 52 rfl) rfl ?_
   refine XS.iadd X0.here hx rfl (D 53 rfl) rfl ?_
   refine XS.iconst X0.here hx rfl (D 54 rfl) ?_
   refine XS.iadd X0.here hx rfl (D 55 rfl) rfl ?_
   exact k
  obtain ⟨fs, hr, hrun, hended, hW, hsame⟩ := X0.leave (hlocks := Bd.notSynchronized) (v := some (.int ((xa + (2 : Int32)) + (3 : Int32)))) (fun h => by rw [Bd.returns] at h; cases h)
  subst hG
  refine ⟨_, _, pre25 _ ?_, hrun, hended, _, _, rfl, ?_, ⟨_, rfl⟩, hW, hsame.mono (by decide) (by decide)⟩
  ·exact retI X0 hx Bd.returns (D 56 rfl) hr
  ·show Q_rm_hdr Z ra xa xk xn ka xz l1 lA lR h0 n0 _ s₁.heap _
   rw [e0]
   exact ⟨congrArg (fun z => some (Value.int z)) ((own_hB hH hc9).2.2.2.2.2.2), N0, rfl⟩
theorem ef_rm_ch (m : MethodId) (ra : Addr) (xa : Int32) (xc : Int32) : entryFrame m #[(.ref ra), (.int xa), (.int xc)] 3 = mkF m 0 #[vR ra, vI xa, vI xc] [] := by simp [entryFrame, mkF, argsToLocals, Value.category]
def Q_rm_ch (Z : State) (ra : Addr) (xa : Int32) (xc : Int32) (ka : ClassId) (xz : Int32) (l1 : List Int32) (lA : List Int32) (lR : List Int32) (h0 : Heap) (n0 : Nat) (v : Option Value) (h : Heap) (L : List Loc) : Prop := v = some (.int (own_len (lA ++ own_enc [own_b xc]))) ∧ Fr n0 L ∧ h = h0
set_option maxRecDepth 65536 in
set_option maxHeartbeats 40000000 in
theorem rm_ch (l : Launch) (Z : State) (a0 : Array Value) (hw : ∀ d ∈ tables_1, d.before a0 Z = true) (ws : List Jvm.Cond) (ra : Addr) (xa : Int32) (xc : Int32) (ka : ClassId) (xz : Int32) (l1 : List Int32) (lA : List Int32) (lR : List Int32) (h0 : Heap) (n0 : Nat) (Z0 : n0 ≤ h0.size) (VA : Arv Z h0 ra ka .byte xz (l1.map Value.int) (.int 0)) (hH : own_RT l1 lA (own_enc [own_b xc]) lR xa xz) (hok : own_OKc xc) :
  oMet l (⟨oS3, "ch", "([BIC)I"⟩ : MethodName) method_9_code 3 (some .int) ws (oR 0 0 0 0) #[(.ref ra), (.int xa), (.int xc)] Z h0 (Q_rm_ch Z ra xa xc ka xz l1 lA lR h0 n0) := by
 refine MetFree.of_bodySF (plainFor_of_name pn4) hisR ?_
 have W := own_W hw
 intro p e s m args bw meth c s₁ Bd hml0 hP hK
 obtain ⟨rfl, hZ, hh⟩ := hP
 have hx := Bd.exec
 have hby := Bd.bytes
 have hml : c.maxLocals = 3 := hml0
 have hown : s.vm.findClass oS3 = some m.cls := findClass_of_methodNamed Bd.named
 have hnm := (name_of_methodNamed Bd.named Bd.method).1
 have X0 : Stand p l e (oR 0 0 0 0) s m #[(.ref ra), (.int xa), (.int xc)] bw meth c s₁ [] 0 0 := Stand.of_body Bd
 have e0 : s₁.heap = h0 := by rw [← hh, Bd.state]; rfl
 have N0 := Fr.nil n0
 have D := own_D hby dB33
 obtain ⟨G, hG⟩ := own_ex fun t => Steps p.tables e bw (s₁.setTop (entryFrame m #[(.ref ra), (.int xa), (.int xc)] 3)) t
 have pre0 : oP p e bw G s₁ m 0 #[vR ra, vI xa, vI xc] [] := by intro t k; subst hG; exact castTop (ef_rm_ch m ra xa xc) k
 have pre1 : oP p e bw G s₁ m 10 #[vR ra, vI xa, vI xc] [(.int 128), (.int xc)] := by
  intro t k
  refine pre0 t ?_
  refine XS.iloadN X0.here hx rfl (D 0 rfl) rfl ?_
  refine XS.ifYes X0.here hx rfl (pc0 := 1) (pc' := 6) rfl (D 1 rfl) rfl ((if0 _ _).trans (flt (show ¬ (xa < (0 : Int32)) from own_rt1 hH)).2.1) (by decide) (by decide) ?_
  refine XS.iloadN X0.here hx rfl (D 2 rfl) rfl ?_
  refine XS.sipush X0.here hx rfl (D 3 rfl) ?_
  exact k
 by_cases hc10 : xc < (128 : Int32)
 ·have pre2 : oP p e bw G s₁ m 17 #[vR ra, vI xa, vI xc] [(.ref ra), (.int (xa + (1 : Int32)))] := by
   intro t k
   refine pre1 t ?_
   refine XS.icmpNo X0.here hx rfl (D 4 rfl) rfl (tlt hc10).2.1 ?_
   refine XS.iloadN X0.here hx rfl (D 5 rfl) rfl ?_
   refine XS.iconst X0.here hx rfl (D 6 rfl) ?_
   refine XS.iadd X0.here hx rfl (D 7 rfl) rfl ?_
   refine XS.aloadN X0.here hx rfl (D 8 rfl) rfl rfl ?_
   exact k
  have pre4 : oP p e bw G s₁ m 23 #[vR ra, vI xa, vI xc] [(.int xa), (.ref ra)] := by
   intro t k
   refine pre2 t ?_
   obtain ⟨c3, a3, q3, s3, m3, i3, u3⟩ := id VA
   refine X0.arraylength hx (by rw [e0]; exact a3.1) (State.isArrayOf_alike hZ.alike a3.2.1) (g := (own_g pre2)) rfl rfl (D 9 rfl) _ ?_
   rw [len_of s3 m3]
   refine XS.icmpNo X0.here hx rfl (D 10 rfl) rfl (flt (show ¬ (xz < (xa + (1 : Int32))) from (own_cA hH hok hc10).2.1)).2.2.1 ?_
   refine XS.aloadN X0.here hx rfl (D 11 rfl) rfl rfl ?_
   refine XS.iloadN X0.here hx rfl (D 12 rfl) rfl ?_
   exact k
  have pre6 : oP p e bw G s₁ m 34 #[vR ra, vI xa, vI xc] [(.int (xa + (1 : Int32)))] := by
   intro t k
   refine pre4 t ?_
   obtain ⟨c5, a5, q5, s5, m5, i5, u5⟩ := id VA
   have hin5 := inb_of (j := xa) s5 ((own_cA hH hok hc10).1).1
   refine X0.baloadBytes hx (j := xa) (v := (.int (xc.toInt8.toInt32))) (by rw [e0]; exact a5.1) (State.isArrayOf_alike hZ.alike a5.2.1) a5.2.2 hin5 (i5.at hin5 ((own_cA hH hok hc10).1).2) (g := (own_g pre4)) rfl rfl (D 13 rfl) _ ?_
   refine XS.iloadN X0.here hx rfl (D 14 rfl) rfl ?_
   refine XS.i2b X0.here hx rfl (D 15 rfl) rfl ?_
   refine XS.icmpYes X0.here hx rfl (pc0 := 26) (pc' := 31) rfl (D 16 rfl) rfl (teq (show (xc.toInt8.toInt32) = (xc.toInt8.toInt32) from rfl)).1 (by decide) (by decide) ?_
   refine XS.iloadN X0.here hx rfl (D 17 rfl) rfl ?_
   refine XS.iconst X0.here hx rfl (D 18 rfl) ?_
   refine XS.iadd X0.here hx rfl (D 19 rfl) rfl ?_
   exact k
  obtain ⟨fs, hr, hrun, hended, hW, hsame⟩ := X0.leave (hlocks := Bd.notSynchronized) (v := some (.int (xa + (1 : Int32)))) (fun h => by rw [Bd.returns] at h; cases h)
  subst hG
  refine ⟨_, _, pre6 _ ?_, hrun, hended, _, _, rfl, ?_, ⟨_, rfl⟩, hW, hsame.mono (by decide) (by decide)⟩
  ·exact retI X0 hx Bd.returns (D 20 rfl) hr
  ·show Q_rm_ch Z ra xa xc ka xz l1 lA lR h0 n0 _ s₁.heap _
   rw [e0]
   exact ⟨congrArg (fun z => some (Value.int z)) ((own_cA hH hok hc10).2.2), N0, rfl⟩
 ·have pre7 : oP p e bw G s₁ m 39 #[vR ra, vI xa, vI xc] [(.ref ra), (.int (xa + (2 : Int32)))] := by
   intro t k
   refine pre1 t ?_
   refine XS.icmpYes X0.here hx rfl (pc0 := 10) (pc' := 35) rfl (D 4 rfl) rfl (flt hc10).2.1 (by decide) (by decide) ?_
   refine XS.iloadN X0.here hx rfl (D 21 rfl) rfl ?_
   refine XS.iconst X0.here hx rfl (D 22 rfl) ?_
   refine XS.iadd X0.here hx rfl (D 23 rfl) rfl ?_
   refine XS.aloadN X0.here hx rfl (D 24 rfl) rfl rfl ?_
   exact k
  have pre9 : oP p e bw G s₁ m 47 #[vR ra, vI xa, vI xc] [(.int xa), (.ref ra)] := by
   intro t k
   refine pre7 t ?_
   obtain ⟨c8, a8, q8, s8, m8, i8, u8⟩ := id VA
   refine X0.arraylength hx (by rw [e0]; exact a8.1) (State.isArrayOf_alike hZ.alike a8.2.1) (g := (own_g pre7)) rfl rfl (D 25 rfl) _ ?_
   rw [len_of s8 m8]
   refine XS.icmpYes X0.here hx rfl (pc0 := 40) (pc' := 45) rfl (D 26 rfl) rfl (flt (show ¬ (xz < (xa + (2 : Int32))) from (own_cB hH hok hc10).2.2.1)).2.2.2 (by decide) (by decide) ?_
   refine XS.aloadN X0.here hx rfl (D 27 rfl) rfl rfl ?_
   refine XS.iloadN X0.here hx rfl (D 28 rfl) rfl ?_
   exact k
  have pre11 : oP p e bw G s₁ m 64 #[vR ra, vI xa, vI xc] [(.int (xa + (1 : Int32))), (.ref ra)] := by
   intro t k
   refine pre9 t ?_
   obtain ⟨c10, a10, q10, s10, m10, i10, u10⟩ := id VA
   have hin10 := inb_of (j := xa) s10 ((own_cB hH hok hc10).1).1
   refine X0.baloadBytes hx (j := xa) (v := (.int (((192 : Int32) ||| (xc >>> ((6 : Int32) &&& 31))).toInt8.toInt32))) (by rw [e0]; exact a10.1) (State.isArrayOf_alike hZ.alike a10.2.1) a10.2.2 hin10 (i10.at hin10 ((own_cB hH hok hc10).1).2) (g := (own_g pre9)) rfl rfl (D 29 rfl) _ ?_
   refine XS.sipush X0.here hx rfl (D 30 rfl) ?_
   refine XS.iloadN X0.here hx rfl (D 31 rfl) rfl ?_
   refine XS.bipush X0.here hx rfl (D 32 rfl) ?_
   refine XS.ishr X0.here hx rfl (D 33 rfl) rfl ?_
   refine XS.ior X0.here hx rfl (D 34 rfl) rfl ?_
   refine XS.i2b X0.here hx rfl (D 35 rfl) rfl ?_
   refine XS.icmpNo X0.here hx rfl (D 36 rfl) rfl (teq (show (((192 : Int32) ||| (xc >>> ((6 : Int32) &&& 31))).toInt8.toInt32) = (((192 : Int32) ||| (xc >>> ((6 : Int32) &&& 31))).toInt8.toInt32) from rfl)).2 ?_
   refine XS.aloadN X0.here hx rfl (D 37 rfl) rfl rfl ?_
   refine XS.iloadN X0.here hx rfl (D 38 rfl) rfl ?_
   refine XS.iconst X0.here hx rfl (D 39 rfl) ?_
   refine XS.iadd X0.here hx rfl (D 40 rfl) rfl ?_
   exact k
  have pre13 : oP p e bw G s₁ m 82 #[vR ra, vI xa, vI xc] [(.int (xa + (2 : Int32)))] := by
   intro t k
   refine pre11 t ?_
   obtain ⟨c12, a12, q12, s12, m12, i12, u12⟩ := id VA
   have hin12 := inb_of (j := (xa + (1 : Int32))) s12 ((own_cB hH hok hc10).2.1).1
   refine X0.baloadBytes hx (j := (xa + (1 : Int32))) (v := (.int (((128 : Int32) ||| (xc &&& (63 : Int32))).toInt8.toInt32))) (by rw [e0]; exact a12.1) (State.isArrayOf_alike hZ.alike a12.2.1) a12.2.2 hin12 (i12.at hin12 ((own_cB hH hok hc10).2.1).2) (g := (own_g pre11)) rfl rfl (D 41 rfl) _ ?_
   refine XS.sipush X0.here hx rfl (D 42 rfl) ?_
   refine XS.iloadN X0.here hx rfl (D 43 rfl) rfl ?_
   refine XS.bipush X0.here hx rfl (D 44 rfl) ?_
   refine XS.iand X0.here hx rfl (D 45 rfl) rfl ?_
   refine XS.ior X0.here hx rfl (D 46 rfl) rfl ?_
   refine XS.i2b X0.here hx rfl (D 47 rfl) rfl ?_
   refine XS.icmpYes X0.here hx rfl (pc0 := 74) (pc' := 79) rfl (D 48 rfl) rfl (teq (show (((128 : Int32) ||| (xc &&& (63 : Int32))).toInt8.toInt32) = (((128 : Int32) ||| (xc &&& (63 : Int32))).toInt8.toInt32) from rfl)).1 (by decide) (by decide) ?_
   refine XS.iloadN X0.here hx rfl (D 49 rfl) rfl ?_
   refine XS.iconst X0.here hx rfl (D 50 rfl) ?_
   refine XS.iadd X0.here hx rfl (D 51 rfl) rfl ?_
   exact k
  obtain ⟨fs, hr, hrun, hended, hW, hsame⟩ := X0.leave (hlocks := Bd.notSynchronized) (v := some (.int (xa + (2 : Int32)))) (fun h => by rw [Bd.returns] at h; cases h)
  subst hG
  refine ⟨_, _, pre13 _ ?_, hrun, hended, _, _, rfl, ?_, ⟨_, rfl⟩, hW, hsame.mono (by decide) (by decide)⟩
  ·exact retI X0 hx Bd.returns (D 52 rfl) hr
  ·show Q_rm_ch Z ra xa xc ka xz l1 lA lR h0 n0 _ s₁.heap _
   rw [e0]
   exact ⟨congrArg (fun z => some (Value.int z)) ((own_cB hH hok hc10).2.2.2), N0, rfl⟩
theorem ef_rm_cr (m : MethodId) (ra : Addr) (xa : Int32) : entryFrame m #[(.ref ra), (.int xa)] 2 = mkF m 0 #[vR ra, vI xa] [] := by simp [entryFrame, mkF, argsToLocals, Value.category]
def Q_rm_cr (Z : State) (ra : Addr) (xa : Int32) (ka : ClassId) (xz : Int32) (l1 : List Int32) (lA : List Int32) (lR : List Int32) (h0 : Heap) (n0 : Nat) (v : Option Value) (h : Heap) (L : List Loc) : Prop := v = some (.int (own_len (lA ++ [13, 10]))) ∧ Fr n0 L ∧ h = h0
set_option maxRecDepth 65536 in
set_option maxHeartbeats 40000000 in
theorem rm_cr (l : Launch) (Z : State) (a0 : Array Value) (hw : ∀ d ∈ tables_1, d.before a0 Z = true) (ws : List Jvm.Cond) (ra : Addr) (xa : Int32) (ka : ClassId) (xz : Int32) (l1 : List Int32) (lA : List Int32) (lR : List Int32) (h0 : Heap) (n0 : Nat) (Z0 : n0 ≤ h0.size) (VA : Arv Z h0 ra ka .byte xz (l1.map Value.int) (.int 0)) (hH : own_RT l1 lA ([13, 10]) lR xa xz) :
  oMet l (⟨oS3, "crlf", "([BI)I"⟩ : MethodName) method_10_code 2 (some .int) ws (oR 0 0 0 0) #[(.ref ra), (.int xa)] Z h0 (Q_rm_cr Z ra xa ka xz l1 lA lR h0 n0) := by
 refine MetFree.of_bodySF (plainFor_of_name pn4) hisR ?_
 have W := own_W hw
 intro p e s m args bw meth c s₁ Bd hml0 hP hK
 obtain ⟨rfl, hZ, hh⟩ := hP
 have hx := Bd.exec
 have hby := Bd.bytes
 have hml : c.maxLocals = 2 := hml0
 have hown : s.vm.findClass oS3 = some m.cls := findClass_of_methodNamed Bd.named
 have hnm := (name_of_methodNamed Bd.named Bd.method).1
 have X0 : Stand p l e (oR 0 0 0 0) s m #[(.ref ra), (.int xa)] bw meth c s₁ [] 0 0 := Stand.of_body Bd
 have e0 : s₁.heap = h0 := by rw [← hh, Bd.state]; rfl
 have N0 := Fr.nil n0
 have D := own_D hby dB34
 obtain ⟨G, hG⟩ := own_ex fun t => Steps p.tables e bw (s₁.setTop (entryFrame m #[(.ref ra), (.int xa)] 2)) t
 have pre0 : oP p e bw G s₁ m 0 #[vR ra, vI xa] [] := by intro t k; subst hG; exact castTop (ef_rm_cr m ra xa) k
 have pre1 : oP p e bw G s₁ m 8 #[vR ra, vI xa] [(.ref ra), (.int (xa + (2 : Int32)))] := by
  intro t k
  refine pre0 t ?_
  refine XS.iloadN X0.here hx rfl (D 0 rfl) rfl ?_
  refine XS.ifNo X0.here hx rfl (D 1 rfl) rfl ((if0 _ _).trans (flt (show ¬ (xa < (0 : Int32)) from own_rt1 hH)).1) ?_
  refine XS.iloadN X0.here hx rfl (D 2 rfl) rfl ?_
  refine XS.iconst X0.here hx rfl (D 3 rfl) ?_
  refine XS.iadd X0.here hx rfl (D 4 rfl) rfl ?_
  refine XS.aloadN X0.here hx rfl (D 5 rfl) rfl rfl ?_
  exact k
 have pre3 : oP p e bw G s₁ m 16 #[vR ra, vI xa] [(.int xa), (.ref ra)] := by
  intro t k
  refine pre1 t ?_
  obtain ⟨c2, a2, q2, s2, m2, i2, u2⟩ := id VA
  refine X0.arraylength hx (by rw [e0]; exact a2.1) (State.isArrayOf_alike hZ.alike a2.2.1) (g := (own_g pre1)) rfl rfl (D 6 rfl) _ ?_
  rw [len_of s2 m2]
  refine XS.icmpYes X0.here hx rfl (pc0 := 9) (pc' := 14) rfl (D 7 rfl) rfl (flt (show ¬ (xz < (xa + (2 : Int32))) from (own_rC hH).2.2.1)).2.2.2 (by decide) (by decide) ?_
  refine XS.aloadN X0.here hx rfl (D 8 rfl) rfl rfl ?_
  refine XS.iloadN X0.here hx rfl (D 9 rfl) rfl ?_
  exact k
 have pre5 : oP p e bw G s₁ m 26 #[vR ra, vI xa] [(.int (xa + (1 : Int32))), (.ref ra)] := by
  intro t k
  refine pre3 t ?_
  obtain ⟨c4, a4, q4, s4, m4, i4, u4⟩ := id VA
  have hin4 := inb_of (j := xa) s4 ((own_rC hH).1).1
  refine X0.baloadBytes hx (j := xa) (v := (.int 13)) (by rw [e0]; exact a4.1) (State.isArrayOf_alike hZ.alike a4.2.1) a4.2.2 hin4 (i4.at hin4 ((own_rC hH).1).2) (g := (own_g pre3)) rfl rfl (D 10 rfl) _ ?_
  refine XS.bipush X0.here hx rfl (D 11 rfl) ?_
  refine XS.icmpNo X0.here hx rfl (D 12 rfl) rfl (teq (show (13 : Int32) = (13 : Int32) from rfl)).2 ?_
  refine XS.aloadN X0.here hx rfl (D 13 rfl) rfl rfl ?_
  refine XS.iloadN X0.here hx rfl (D 14 rfl) rfl ?_
  refine XS.iconst X0.here hx rfl (D 15 rfl) ?_
  refine XS.iadd X0.here hx rfl (D 16 rfl) rfl ?_
  exact k
 have pre7 : oP p e bw G s₁ m 37 #[vR ra, vI xa] [(.int (xa + (2 : Int32)))] := by
  intro t k
  refine pre5 t ?_
  obtain ⟨c6, a6, q6, s6, m6, i6, u6⟩ := id VA
  have hin6 := inb_of (j := (xa + (1 : Int32))) s6 ((own_rC hH).2.1).1
  refine X0.baloadBytes hx (j := (xa + (1 : Int32))) (v := (.int 10)) (by rw [e0]; exact a6.1) (State.isArrayOf_alike hZ.alike a6.2.1) a6.2.2 hin6 (i6.at hin6 ((own_rC hH).2.1).2) (g := (own_g pre5)) rfl rfl (D 17 rfl) _ ?_
  refine XS.bipush X0.here hx rfl (D 18 rfl) ?_
  refine XS.icmpYes X0.here hx rfl (pc0 := 29) (pc' := 34) rfl (D 19 rfl) rfl (teq (show (10 : Int32) = (10 : Int32) from rfl)).1 (by decide) (by decide) ?_
  refine XS.iloadN X0.here hx rfl (D 20 rfl) rfl ?_
  refine XS.iconst X0.here hx rfl (D 21 rfl) ?_
  refine XS.iadd X0.here hx rfl (D 22 rfl) rfl ?_
  exact k
 obtain ⟨fs, hr, hrun, hended, hW, hsame⟩ := X0.leave (hlocks := Bd.notSynchronized) (v := some (.int (xa + (2 : Int32)))) (fun h => by rw [Bd.returns] at h; cases h)
 subst hG
 refine ⟨_, _, pre7 _ ?_, hrun, hended, _, _, rfl, ?_, ⟨_, rfl⟩, hW, hsame.mono (by decide) (by decide)⟩
 ·exact retI X0 hx Bd.returns (D 23 rfl) hr
 ·show Q_rm_cr Z ra xa ka xz l1 lA lR h0 n0 _ s₁.heap _
  rw [e0]
  exact ⟨congrArg (fun z => some (Value.int z)) ((own_rC hH).2.2.2), N0, rfl⟩
theorem pd25 : parseMethodDescriptor "(C)I" = some ⟨[.char], some .int⟩ := by decide +kernel
theorem pd26 : parseMethodDescriptor "([BIII)I" = some ⟨[(.array .byte), .int, .int, .int], some .int⟩ := by decide +kernel
theorem pd27 : parseMethodDescriptor "([BIC)I" = some ⟨[(.array .byte), .int, .char], some .int⟩ := by decide +kernel
theorem pd28 : parseMethodDescriptor "([BI)I" = some ⟨[(.array .byte), .int], some .int⟩ := by decide +kernel
theorem ef_rm_w5 (m : MethodId) (ra : Addr) (xa : Int32) (rc : Addr) : entryFrame m #[(.ref ra), (.int xa), (.ref rc)] 5 = mkF m 0 #[vR ra, vI xa, vR rc, vU, vU] [] := by simp [entryFrame, mkF, argsToLocals, Value.category]
def Q_rm_w5 (Z : State) (ra : Addr) (xa : Int32) (rc : Addr) (ka : ClassId) (xz : Int32) (l1 : List Int32) (lA : List Int32) (lR : List Int32) (kc2 : ClassId) (xc0 : Int32) (xc1 : Int32) (xc2 : Int32) (xc3 : Int32) (xc4 : Int32) (h0 : Heap) (n0 : Nat) (v : Option Value) (h : Heap) (L : List Loc) : Prop := v = some (.int (own_len (lA ++ own_bulk (own_enc [own_b xc0, own_b xc1, own_b xc2, own_b xc3, own_b xc4])))) ∧ Fr n0 L ∧ h = h0
set_option maxRecDepth 65536 in
set_option maxHeartbeats 40000000 in
theorem rm_w5 (l : Launch) (Z : State) (a0 : Array Value) (hw : ∀ d ∈ tables_1, d.before a0 Z = true) (ws : List Jvm.Cond) (ra : Addr) (xa : Int32) (rc : Addr) (ka : ClassId) (xz : Int32) (l1 : List Int32) (lA : List Int32) (lR : List Int32) (kc2 : ClassId) (xc0 : Int32) (xc1 : Int32) (xc2 : Int32) (xc3 : Int32) (xc4 : Int32) (h0 : Heap) (n0 : Nat) (Z0 : n0 ≤ h0.size) (VA : Arv Z h0 ra ka .byte xz (l1.map Value.int) (.int 0)) (hH : own_RT l1 lA (own_bulk (own_enc [own_b xc0, own_b xc1, own_b xc2, own_b xc3, own_b xc4])) lR xa xz) (VC2 : Arv Z h0 rc kc2 .char (5 : Int32) [(.int xc0), (.int xc1), (.int xc2), (.int xc3), (.int xc4)] (.int 0)) (ho0 : own_OKc xc0) (ho1 : own_OKc xc1) (ho2 : own_OKc xc2) (ho3 : own_OKc xc3) (ho4 : own_OKc xc4) :
  oMet l (⟨oS3, "word5", "([BI[C)I"⟩ : MethodName) method_5_code 5 (some .int) ws (oR 1 0 0 16) #[(.ref ra), (.int xa), (.ref rc)] Z h0 (Q_rm_w5 Z ra xa rc ka xz l1 lA lR kc2 xc0 xc1 xc2 xc3 xc4 h0 n0) := by
 refine MetFree.of_bodySF (plainFor_of_name pn4) hisR ?_
 have W := own_W hw
 intro p e s m args bw meth c s₁ Bd hml0 hP hK
 obtain ⟨rfl, hZ, hh⟩ := hP
 have hx := Bd.exec
 have hby := Bd.bytes
 have hml : c.maxLocals = 5 := hml0
 have hown : s.vm.findClass oS3 = some m.cls := findClass_of_methodNamed Bd.named
 have hnm := (name_of_methodNamed Bd.named Bd.method).1
 have X0 : Stand p l e (oR 1 0 0 16) s m #[(.ref ra), (.int xa), (.ref rc)] bw meth c s₁ [] 0 0 := Stand.of_body Bd
 have e0 : s₁.heap = h0 := by rw [← hh, Bd.state]; rfl
 have N0 := Fr.nil n0
 have D := own_D hby dB31
 obtain ⟨G, hG⟩ := own_ex fun t => Steps p.tables e bw (s₁.setTop (entryFrame m #[(.ref ra), (.int xa), (.ref rc)] 5)) t
 have pre0 : oP p e bw G s₁ m 0 #[vR ra, vI xa, vR rc, vU, vU] [] := by intro t k; subst hG; exact castTop (ef_rm_w5 m ra xa rc) k
 have pre1 : oP p e bw G s₁ m 2 #[vR ra, vI xa, vR rc, vU, vU] [(.int 0), (.ref rc)] := by
  intro t k
  refine pre0 t ?_
  refine XS.aloadN X0.here hx rfl (D 0 rfl) rfl rfl ?_
  refine XS.iconst X0.here hx rfl (D 1 rfl) ?_
  exact k
 have pre3 : oP p e bw G s₁ m 3 #[vR ra, vI xa, vR rc, vU, vU] [(.int xc0)] := by
  intro t k
  refine pre1 t ?_
  obtain ⟨c2, a2, q2, s2, m2, i2, u2⟩ := id VC2
  have hin2 := inb_of (j := (0 : Int32)) s2 ⟨by decide, by decide⟩
  refine X0.caload hx (j := (0 : Int32)) (v := (.int xc0)) (by rw [e0]; exact a2.1) (State.isArrayOf_alike hZ.alike a2.2.1) a2.2.2 hin2 (i2.at hin2 rfl) (g := (own_g pre1)) rfl rfl (D 2 rfl) _ ?_
  exact k
 obtain ⟨_, T4, Lc4, X4, hQ4, pc4⟩ := own_call X0 hx hZ hown (W 167 rfl) (W 168 rfl) (W 120 rfl) (W 169 rfl) (by decide) (rm_len l Z a0 hw [] xc0 h0 n0 Z0 ) e0 pre3 hml rfl (D 3 rfl) (lenOf pd25 rfl) rfl (W := 0) rfl (by decide)
 obtain ⟨rfl, M4, e4⟩ := hQ4
 have N4 := Fr.app N0 M4
 have pre5 : oP p e bw G T4 m 8 #[vR ra, vI xa, vR rc, vU, vU] [(.int 1), (.ref rc), (.int (F_rm_len xc0))] := by
  intro t k
  refine pc4 t ?_
  refine XS.aloadN X4.here hx rfl (D 4 rfl) rfl rfl ?_
  refine XS.iconst X4.here hx rfl (D 5 rfl) ?_
  exact k
 have pre7 : oP p e bw G T4 m 9 #[vR ra, vI xa, vR rc, vU, vU] [(.int xc1), (.int (F_rm_len xc0))] := by
  intro t k
  refine pre5 t ?_
  obtain ⟨c6, a6, q6, s6, m6, i6, u6⟩ := id VC2
  have hin6 := inb_of (j := (1 : Int32)) s6 ⟨by decide, by decide⟩
  refine X4.caload hx (j := (1 : Int32)) (v := (.int xc1)) (by rw [e4]; exact a6.1) (State.isArrayOf_alike hZ.alike a6.2.1) a6.2.2 hin6 (i6.at hin6 rfl) (g := (own_g pre5)) rfl rfl (D 6 rfl) _ ?_
  exact k
 obtain ⟨_, T8, Lc8, X8, hQ8, pc8⟩ := own_call X4 hx hZ hown (W 167 rfl) (W 168 rfl) (W 120 rfl) (W 169 rfl) (by decide) (rm_len l Z a0 hw [] xc1 h0 n0 Z0 ) e4 pre7 hml rfl (D 7 rfl) (lenOf pd25 rfl) rfl (W := 1) rfl (by decide)
 obtain ⟨rfl, M8, e8⟩ := hQ8
 have N8 := Fr.app N4 M8
 have pre9 : oP p e bw G T8 m 15 #[vR ra, vI xa, vR rc, vU, vU] [(.int 2), (.ref rc), (.int ((F_rm_len xc0) + (F_rm_len xc1)))] := by
  intro t k
  refine pc8 t ?_
  refine XS.iadd X8.here hx rfl (D 8 rfl) rfl ?_
  refine XS.aloadN X8.here hx rfl (D 9 rfl) rfl rfl ?_
  refine XS.iconst X8.here hx rfl (D 10 rfl) ?_
  exact k
 have pre11 : oP p e bw G T8 m 16 #[vR ra, vI xa, vR rc, vU, vU] [(.int xc2), (.int ((F_rm_len xc0) + (F_rm_len xc1)))] := by
  intro t k
  refine pre9 t ?_
  obtain ⟨c10, a10, q10, s10, m10, i10, u10⟩ := id VC2
  have hin10 := inb_of (j := (2 : Int32)) s10 ⟨by decide, by decide⟩
  refine X8.caload hx (j := (2 : Int32)) (v := (.int xc2)) (by rw [e8]; exact a10.1) (State.isArrayOf_alike hZ.alike a10.2.1) a10.2.2 hin10 (i10.at hin10 rfl) (g := (own_g pre9)) rfl rfl (D 11 rfl) _ ?_
  exact k
 obtain ⟨_, T12, Lc12, X12, hQ12, pc12⟩ := own_call X8 hx hZ hown (W 167 rfl) (W 168 rfl) (W 120 rfl) (W 169 rfl) (by decide) (rm_len l Z a0 hw [] xc2 h0 n0 Z0 ) e8 pre11 hml rfl (D 12 rfl) (lenOf pd25 rfl) rfl (W := 1) rfl (by decide)
 obtain ⟨rfl, M12, e12⟩ := hQ12
 have N12 := Fr.app N8 M12
 have pre13 : oP p e bw G T12 m 22 #[vR ra, vI xa, vR rc, vU, vU] [(.int 3), (.ref rc), (.int (((F_rm_len xc0) + (F_rm_len xc1)) + (F_rm_len xc2)))] := by
  intro t k
  refine pc12 t ?_
  refine XS.iadd X12.here hx rfl (D 13 rfl) rfl ?_
  refine XS.aloadN X12.here hx rfl (D 14 rfl) rfl rfl ?_
  refine XS.iconst X12.here hx rfl (D 15 rfl) ?_
  exact k
 have pre15 : oP p e bw G T12 m 23 #[vR ra, vI xa, vR rc, vU, vU] [(.int xc3), (.int (((F_rm_len xc0) + (F_rm_len xc1)) + (F_rm_len xc2)))] := by
  intro t k
  refine pre13 t ?_
  obtain ⟨c14, a14, q14, s14, m14, i14, u14⟩ := id VC2
  have hin14 := inb_of (j := (3 : Int32)) s14 ⟨by decide, by decide⟩
  refine X12.caload hx (j := (3 : Int32)) (v := (.int xc3)) (by rw [e12]; exact a14.1) (State.isArrayOf_alike hZ.alike a14.2.1) a14.2.2 hin14 (i14.at hin14 rfl) (g := (own_g pre13)) rfl rfl (D 16 rfl) _ ?_
  exact k
 obtain ⟨_, T16, Lc16, X16, hQ16, pc16⟩ := own_call X12 hx hZ hown (W 167 rfl) (W 168 rfl) (W 120 rfl) (W 169 rfl) (by decide) (rm_len l Z a0 hw [] xc3 h0 n0 Z0 ) e12 pre15 hml rfl (D 17 rfl) (lenOf pd25 rfl) rfl (W := 1) rfl (by decide)
 obtain ⟨rfl, M16, e16⟩ := hQ16
 have N16 := Fr.app N12 M16
 have pre17 : oP p e bw G T16 m 29 #[vR ra, vI xa, vR rc, vU, vU] [(.int 4), (.ref rc), (.int ((((F_rm_len xc0) + (F_rm_len xc1)) + (F_rm_len xc2)) + (F_rm_len xc3)))] := by
  intro t k
  refine pc16 t ?_
  refine XS.iadd X16.here hx rfl (D 18 rfl) rfl ?_
  refine XS.aloadN X16.here hx rfl (D 19 rfl) rfl rfl ?_
  refine XS.iconst X16.here hx rfl (D 20 rfl) ?_
  exact k
 have pre19 : oP p e bw G T16 m 30 #[vR ra, vI xa, vR rc, vU, vU] [(.int xc4), (.int ((((F_rm_len xc0) + (F_rm_len xc1)) + (F_rm_len xc2)) + (F_rm_len xc3)))] := by
  intro t k
  refine pre17 t ?_
  obtain ⟨c18, a18, q18, s18, m18, i18, u18⟩ := id VC2
  have hin18 := inb_of (j := (4 : Int32)) s18 ⟨by decide, by decide⟩
  refine X16.caload hx (j := (4 : Int32)) (v := (.int xc4)) (by rw [e16]; exact a18.1) (State.isArrayOf_alike hZ.alike a18.2.1) a18.2.2 hin18 (i18.at hin18 rfl) (g := (own_g pre17)) rfl rfl (D 21 rfl) _ ?_
  exact k
 obtain ⟨_, T20, Lc20, X20, hQ20, pc20⟩ := own_call X16 hx hZ hown (W 167 rfl) (W 168 rfl) (W 120 rfl) (W 169 rfl) (by decide) (rm_len l Z a0 hw [] xc4 h0 n0 Z0 ) e16 pre19 hml rfl (D 22 rfl) (lenOf pd25 rfl) rfl (W := 1) rfl (by decide)
 obtain ⟨rfl, M20, e20⟩ := hQ20
 have N20 := Fr.app N16 M20
 have pre21 : oP p e bw G T20 m 35 #[vR ra, vI xa, vR rc, vI (((((F_rm_len xc0) + (F_rm_len xc1)) + (F_rm_len xc2)) + (F_rm_len xc3)) + (F_rm_len xc4)), vU] [] := by
  intro t k
  refine pc20 t ?_
  refine XS.iadd X20.here hx rfl (D 23 rfl) rfl ?_
  refine XS.istoreN X20.here hx rfl (D 24 rfl) rfl (l' := #[vR ra, vI xa, vR rc, vI (((((F_rm_len xc0) + (F_rm_len xc1)) + (F_rm_len xc2)) + (F_rm_len xc3)) + (F_rm_len xc4)), vU]) rfl ?_
  exact k
 obtain ⟨lW, hlW⟩ := own_ex (own_enc [own_b xc0, own_b xc1, own_b xc2, own_b xc3, own_b xc4])
 rw [show (((((F_rm_len xc0) + (F_rm_len xc1)) + (F_rm_len xc2)) + (F_rm_len xc3)) + (F_rm_len xc4)) = (own_len lW) from by rw [hlW]; exact own_n5 ho0 ho1 ho2 ho3 ho4] at pre21
 have wa1 := own_rtS (B1 := own_hdr 36 (own_len lW)) (B2 := lW ++ [13, 10]) (by rw [hlW]; exact hH)
 have wa2 := own_rtS wa1.2
 obtain ⟨A_0, hA_0⟩ := own_ex (lA ++ own_hdr 36 (own_len lW))
 rw [← hA_0] at wa2
 have wx := wa2.1
 rw [hlW] at wx
 have wx0 := own_rtX wx
 obtain ⟨A_1, hA_1⟩ := own_ex (A_0 ++ own_enc [own_b xc0])
 rw [← hA_1] at wx0
 have wx1 := own_rtX wx0.2
 obtain ⟨A_2, hA_2⟩ := own_ex (A_1 ++ own_enc [own_b xc1])
 rw [← hA_2] at wx1
 have wx2 := own_rtX wx1.2
 obtain ⟨A_3, hA_3⟩ := own_ex (A_2 ++ own_enc [own_b xc2])
 rw [← hA_3] at wx2
 have wx3 := own_rtX wx2.2
 obtain ⟨A_4, hA_4⟩ := own_ex (A_3 ++ own_enc [own_b xc3])
 rw [← hA_4] at wx3
 have wx4 := own_rtX wx3.2
 obtain ⟨A_5, hA_5⟩ := own_ex (A_4 ++ own_enc [own_b xc4])
 rw [← hA_5] at wx4
 have wxe := own_rtE wx4.2
 have pre22 : oP p e bw G T20 m 40 #[vR ra, vI xa, vR rc, vI (own_len lW), vU] [(.int (own_len lW)), (.int 36), (.int xa), (.ref ra)] := by
  intro t k
  refine pre21 t ?_
  refine XS.aloadN X20.here hx rfl (D 25 rfl) rfl rfl ?_
  refine XS.iloadN X20.here hx rfl (D 26 rfl) rfl ?_
  refine XS.bipush X20.here hx rfl (D 27 rfl) ?_
  refine XS.iloadN X20.here hx rfl (D 28 rfl) rfl ?_
  exact k
 obtain ⟨_, T23, Lc23, X23, hQ23, pc23⟩ := own_call X20 hx hZ hown (W 122 rfl) (W 123 rfl) (W 120 rfl) (W 124 rfl) (by decide) (rm_hdr l Z a0 hw [] ra xa (36 : Int32) (own_len lW) ka xz l1 lA _ h0 n0 Z0 VA (wa1.1)) e20 pre22 hml rfl (D 29 rfl) (lenOf pd26 rfl) rfl (W := 0) rfl (by decide)
 obtain ⟨rfl, M23, e23⟩ := hQ23
 have N23 := Fr.app N20 M23
 have pre24 : oP p e bw G T23 m 43 #[vR ra, vI xa, vR rc, vI (own_len lW), vU] [(.int (own_len (lA ++ own_hdr (36 : Int32) (own_len lW))))] := pc23
 rw [show (own_len (lA ++ own_hdr (36 : Int32) (own_len lW))) = (own_len A_0) from by rw [hA_0]] at pre24
 have pre25 : oP p e bw G T23 m 50 #[vR ra, vI xa, vR rc, vI (own_len lW), vI (own_len A_0)] [(.int 0), (.ref rc), (.int (own_len A_0)), (.ref ra)] := by
  intro t k
  refine pre24 t ?_
  refine XS.istore X23.here hx rfl (D 30 rfl) rfl (l' := #[vR ra, vI xa, vR rc, vI (own_len lW), vI (own_len A_0)]) rfl ?_
  refine XS.aloadN X23.here hx rfl (D 31 rfl) rfl rfl ?_
  refine XS.iload X23.here hx rfl (D 32 rfl) rfl ?_
  refine XS.aloadN X23.here hx rfl (D 33 rfl) rfl rfl ?_
  refine XS.iconst X23.here hx rfl (D 34 rfl) ?_
  exact k
 have pre27 : oP p e bw G T23 m 51 #[vR ra, vI xa, vR rc, vI (own_len lW), vI (own_len A_0)] [(.int xc0), (.int (own_len A_0)), (.ref ra)] := by
  intro t k
  refine pre25 t ?_
  obtain ⟨c26, a26, q26, s26, m26, i26, u26⟩ := id VC2
  have hin26 := inb_of (j := (0 : Int32)) s26 ⟨by decide, by decide⟩
  refine X23.caload hx (j := (0 : Int32)) (v := (.int xc0)) (by rw [e23]; exact a26.1) (State.isArrayOf_alike hZ.alike a26.2.1) a26.2.2 hin26 (i26.at hin26 rfl) (g := (own_g pre25)) rfl rfl (D 35 rfl) _ ?_
  exact k
 obtain ⟨_, T28, Lc28, X28, hQ28, pc28⟩ := own_call X23 hx hZ hown (W 170 rfl) (W 171 rfl) (W 120 rfl) (W 172 rfl) (by decide) (rm_ch l Z a0 hw [] ra (own_len A_0) xc0 ka xz l1 A_0 _ h0 n0 Z0 VA (wx0.1) (ho0)) e23 pre27 hml rfl (D 36 rfl) (lenOf pd27 rfl) rfl (W := 0) rfl (by decide)
 obtain ⟨rfl, M28, e28⟩ := hQ28
 have N28 := Fr.app N23 M28
 have pre29 : oP p e bw G T28 m 54 #[vR ra, vI xa, vR rc, vI (own_len lW), vI (own_len A_0)] [(.int (own_len (A_0 ++ own_enc [own_b xc0])))] := pc28
 rw [show (own_len (A_0 ++ own_enc [own_b xc0])) = (own_len A_1) from by rw [hA_1]] at pre29
 have pre30 : oP p e bw G T28 m 61 #[vR ra, vI xa, vR rc, vI (own_len lW), vI (own_len A_1)] [(.int 1), (.ref rc), (.int (own_len A_1)), (.ref ra)] := by
  intro t k
  refine pre29 t ?_
  refine XS.istore X28.here hx rfl (D 37 rfl) rfl (l' := #[vR ra, vI xa, vR rc, vI (own_len lW), vI (own_len A_1)]) rfl ?_
  refine XS.aloadN X28.here hx rfl (D 38 rfl) rfl rfl ?_
  refine XS.iload X28.here hx rfl (D 39 rfl) rfl ?_
  refine XS.aloadN X28.here hx rfl (D 40 rfl) rfl rfl ?_
  refine XS.iconst X28.here hx rfl (D 41 rfl) ?_
  exact k
 have pre32 : oP p e bw G T28 m 62 #[vR ra, vI xa, vR rc, vI (own_len lW), vI (own_len A_1)] [(.int xc1), (.int (own_len A_1)), (.ref ra)] := by
  intro t k
  refine pre30 t ?_
  obtain ⟨c31, a31, q31, s31, m31, i31, u31⟩ := id VC2
  have hin31 := inb_of (j := (1 : Int32)) s31 ⟨by decide, by decide⟩
  refine X28.caload hx (j := (1 : Int32)) (v := (.int xc1)) (by rw [e28]; exact a31.1) (State.isArrayOf_alike hZ.alike a31.2.1) a31.2.2 hin31 (i31.at hin31 rfl) (g := (own_g pre30)) rfl rfl (D 42 rfl) _ ?_
  exact k
 obtain ⟨_, T33, Lc33, X33, hQ33, pc33⟩ := own_call X28 hx hZ hown (W 170 rfl) (W 171 rfl) (W 120 rfl) (W 172 rfl) (by decide) (rm_ch l Z a0 hw [] ra (own_len A_1) xc1 ka xz l1 A_1 _ h0 n0 Z0 VA (wx1.1) (ho1)) e28 pre32 hml rfl (D 43 rfl) (lenOf pd27 rfl) rfl (W := 0) rfl (by decide)
 obtain ⟨rfl, M33, e33⟩ := hQ33
 have N33 := Fr.app N28 M33
 have pre34 : oP p e bw G T33 m 65 #[vR ra, vI xa, vR rc, vI (own_len lW), vI (own_len A_1)] [(.int (own_len (A_1 ++ own_enc [own_b xc1])))] := pc33
 rw [show (own_len (A_1 ++ own_enc [own_b xc1])) = (own_len A_2) from by rw [hA_2]] at pre34
 have pre35 : oP p e bw G T33 m 72 #[vR ra, vI xa, vR rc, vI (own_len lW), vI (own_len A_2)] [(.int 2), (.ref rc), (.int (own_len A_2)), (.ref ra)] := by
  intro t k
  refine pre34 t ?_
  refine XS.istore X33.here hx rfl (D 44 rfl) rfl (l' := #[vR ra, vI xa, vR rc, vI (own_len lW), vI (own_len A_2)]) rfl ?_
  refine XS.aloadN X33.here hx rfl (D 45 rfl) rfl rfl ?_
  refine XS.iload X33.here hx rfl (D 46 rfl) rfl ?_
  refine XS.aloadN X33.here hx rfl (D 47 rfl) rfl rfl ?_
  refine XS.iconst X33.here hx rfl (D 48 rfl) ?_
  exact k
 have pre37 : oP p e bw G T33 m 73 #[vR ra, vI xa, vR rc, vI (own_len lW), vI (own_len A_2)] [(.int xc2), (.int (own_len A_2)), (.ref ra)] := by
  intro t k
  refine pre35 t ?_
  obtain ⟨c36, a36, q36, s36, m36, i36, u36⟩ := id VC2
  have hin36 := inb_of (j := (2 : Int32)) s36 ⟨by decide, by decide⟩
  refine X33.caload hx (j := (2 : Int32)) (v := (.int xc2)) (by rw [e33]; exact a36.1) (State.isArrayOf_alike hZ.alike a36.2.1) a36.2.2 hin36 (i36.at hin36 rfl) (g := (own_g pre35)) rfl rfl (D 49 rfl) _ ?_
  exact k
 obtain ⟨_, T38, Lc38, X38, hQ38, pc38⟩ := own_call X33 hx hZ hown (W 170 rfl) (W 171 rfl) (W 120 rfl) (W 172 rfl) (by decide) (rm_ch l Z a0 hw [] ra (own_len A_2) xc2 ka xz l1 A_2 _ h0 n0 Z0 VA (wx2.1) (ho2)) e33 pre37 hml rfl (D 50 rfl) (lenOf pd27 rfl) rfl (W := 0) rfl (by decide)
 obtain ⟨rfl, M38, e38⟩ := hQ38
 have N38 := Fr.app N33 M38
 have pre39 : oP p e bw G T38 m 76 #[vR ra, vI xa, vR rc, vI (own_len lW), vI (own_len A_2)] [(.int (own_len (A_2 ++ own_enc [own_b xc2])))] := pc38
 rw [show (own_len (A_2 ++ own_enc [own_b xc2])) = (own_len A_3) from by rw [hA_3]] at pre39
 have pre40 : oP p e bw G T38 m 83 #[vR ra, vI xa, vR rc, vI (own_len lW), vI (own_len A_3)] [(.int 3), (.ref rc), (.int (own_len A_3)), (.ref ra)] := by
  intro t k
  refine pre39 t ?_
  refine XS.istore X38.here hx rfl (D 51 rfl) rfl (l' := #[vR ra, vI xa, vR rc, vI (own_len lW), vI (own_len A_3)]) rfl ?_
  refine XS.aloadN X38.here hx rfl (D 52 rfl) rfl rfl ?_
  refine XS.iload X38.here hx rfl (D 53 rfl) rfl ?_
  refine XS.aloadN X38.here hx rfl (D 54 rfl) rfl rfl ?_
  refine XS.iconst X38.here hx rfl (D 55 rfl) ?_
  exact k
 have pre42 : oP p e bw G T38 m 84 #[vR ra, vI xa, vR rc, vI (own_len lW), vI (own_len A_3)] [(.int xc3), (.int (own_len A_3)), (.ref ra)] := by
  intro t k
  refine pre40 t ?_
  obtain ⟨c41, a41, q41, s41, m41, i41, u41⟩ := id VC2
  have hin41 := inb_of (j := (3 : Int32)) s41 ⟨by decide, by decide⟩
  refine X38.caload hx (j := (3 : Int32)) (v := (.int xc3)) (by rw [e38]; exact a41.1) (State.isArrayOf_alike hZ.alike a41.2.1) a41.2.2 hin41 (i41.at hin41 rfl) (g := (own_g pre40)) rfl rfl (D 56 rfl) _ ?_
  exact k
 obtain ⟨_, T43, Lc43, X43, hQ43, pc43⟩ := own_call X38 hx hZ hown (W 170 rfl) (W 171 rfl) (W 120 rfl) (W 172 rfl) (by decide) (rm_ch l Z a0 hw [] ra (own_len A_3) xc3 ka xz l1 A_3 _ h0 n0 Z0 VA (wx3.1) (ho3)) e38 pre42 hml rfl (D 57 rfl) (lenOf pd27 rfl) rfl (W := 0) rfl (by decide)
 obtain ⟨rfl, M43, e43⟩ := hQ43
 have N43 := Fr.app N38 M43
 have pre44 : oP p e bw G T43 m 87 #[vR ra, vI xa, vR rc, vI (own_len lW), vI (own_len A_3)] [(.int (own_len (A_3 ++ own_enc [own_b xc3])))] := pc43
 rw [show (own_len (A_3 ++ own_enc [own_b xc3])) = (own_len A_4) from by rw [hA_4]] at pre44
 have pre45 : oP p e bw G T43 m 94 #[vR ra, vI xa, vR rc, vI (own_len lW), vI (own_len A_4)] [(.int 4), (.ref rc), (.int (own_len A_4)), (.ref ra)] := by
  intro t k
  refine pre44 t ?_
  refine XS.istore X43.here hx rfl (D 58 rfl) rfl (l' := #[vR ra, vI xa, vR rc, vI (own_len lW), vI (own_len A_4)]) rfl ?_
  refine XS.aloadN X43.here hx rfl (D 59 rfl) rfl rfl ?_
  refine XS.iload X43.here hx rfl (D 60 rfl) rfl ?_
  refine XS.aloadN X43.here hx rfl (D 61 rfl) rfl rfl ?_
  refine XS.iconst X43.here hx rfl (D 62 rfl) ?_
  exact k
 have pre47 : oP p e bw G T43 m 95 #[vR ra, vI xa, vR rc, vI (own_len lW), vI (own_len A_4)] [(.int xc4), (.int (own_len A_4)), (.ref ra)] := by
  intro t k
  refine pre45 t ?_
  obtain ⟨c46, a46, q46, s46, m46, i46, u46⟩ := id VC2
  have hin46 := inb_of (j := (4 : Int32)) s46 ⟨by decide, by decide⟩
  refine X43.caload hx (j := (4 : Int32)) (v := (.int xc4)) (by rw [e43]; exact a46.1) (State.isArrayOf_alike hZ.alike a46.2.1) a46.2.2 hin46 (i46.at hin46 rfl) (g := (own_g pre45)) rfl rfl (D 63 rfl) _ ?_
  exact k
 obtain ⟨_, T48, Lc48, X48, hQ48, pc48⟩ := own_call X43 hx hZ hown (W 170 rfl) (W 171 rfl) (W 120 rfl) (W 172 rfl) (by decide) (rm_ch l Z a0 hw [] ra (own_len A_4) xc4 ka xz l1 A_4 _ h0 n0 Z0 VA (wx4.1) (ho4)) e43 pre47 hml rfl (D 64 rfl) (lenOf pd27 rfl) rfl (W := 0) rfl (by decide)
 obtain ⟨rfl, M48, e48⟩ := hQ48
 have N48 := Fr.app N43 M48
 have pre49 : oP p e bw G T48 m 98 #[vR ra, vI xa, vR rc, vI (own_len lW), vI (own_len A_4)] [(.int (own_len (A_4 ++ own_enc [own_b xc4])))] := pc48
 rw [show (own_len (A_4 ++ own_enc [own_b xc4])) = (own_len A_5) from by rw [hA_5]] at pre49
 have pre50 : oP p e bw G T48 m 103 #[vR ra, vI xa, vR rc, vI (own_len lW), vI (own_len A_5)] [(.int (own_len A_5)), (.ref ra)] := by
  intro t k
  refine pre49 t ?_
  refine XS.istore X48.here hx rfl (D 65 rfl) rfl (l' := #[vR ra, vI xa, vR rc, vI (own_len lW), vI (own_len A_5)]) rfl ?_
  refine XS.aloadN X48.here hx rfl (D 66 rfl) rfl rfl ?_
  refine XS.iload X48.here hx rfl (D 67 rfl) rfl ?_
  exact k
 obtain ⟨_, T51, Lc51, X51, hQ51, pc51⟩ := own_call X48 hx hZ hown (W 173 rfl) (W 174 rfl) (W 120 rfl) (W 175 rfl) (by decide) (rm_cr l Z a0 hw [] ra (own_len A_5) ka xz l1 A_5 _ h0 n0 Z0 VA (wxe)) e48 pre50 hml rfl (D 68 rfl) (lenOf pd28 rfl) rfl (W := 0) rfl (by decide)
 obtain ⟨rfl, M51, e51⟩ := hQ51
 have N51 := Fr.app N48 M51
 have pre52 : oP p e bw G T51 m 106 #[vR ra, vI xa, vR rc, vI (own_len lW), vI (own_len A_5)] [(.int (own_len (A_5 ++ [13, 10])))] := pc51
 obtain ⟨fs, hr, hrun, hended, hW, hsame⟩ := X51.leave (hlocks := Bd.notSynchronized) (v := some (.int (own_len (A_5 ++ [13, 10])))) (fun h => by rw [Bd.returns] at h; cases h)
 subst hG
 refine ⟨_, _, pre52 _ ?_, hrun, hended, _, _, rfl, ?_, ⟨_, rfl⟩, hW, hsame.mono (by decide) (by decide)⟩
 ·exact retI X51 hx Bd.returns (D 69 rfl) hr
 ·show Q_rm_w5 Z ra xa rc ka xz l1 lA lR kc2 xc0 xc1 xc2 xc3 xc4 h0 n0 _ T51.heap _
  rw [e51]
  exact ⟨congrArg (fun z => some (Value.int z)) (congrArg own_len (by simp only [hA_5, hA_4, hA_3, hA_2, hA_1, hA_0, hlW, own_bulk, own_e5, List.append_assoc])), N51, rfl⟩
theorem ef_rm_w1_0 (m : MethodId) (ra : Addr) (xa : Int32) (xc : Int32) : entryFrame m #[(.ref ra), (.int xa), (.int 0), (.int xc)] 5 = mkF m 0 #[vR ra, vI xa, vI 0, vI xc, vU] [] := by simp [entryFrame, mkF, argsToLocals, Value.category]
def Q_rm_w1_0 (Z : State) (ra : Addr) (xa : Int32) (xc : Int32) (ka : ClassId) (xz : Int32) (l1 : List Int32) (lA : List Int32) (lR : List Int32) (h0 : Heap) (n0 : Nat) (v : Option Value) (h : Heap) (L : List Loc) : Prop := v = some (.int (own_len (lA ++ own_bulk (own_enc [own_b xc])))) ∧ Fr n0 L ∧ h = h0
set_option maxRecDepth 65536 in
set_option maxHeartbeats 40000000 in
theorem rm_w1_0 (l : Launch) (Z : State) (a0 : Array Value) (hw : ∀ d ∈ tables_1, d.before a0 Z = true) (ws : List Jvm.Cond) (ra : Addr) (xa : Int32) (xc : Int32) (ka : ClassId) (xz : Int32) (l1 : List Int32) (lA : List Int32) (lR : List Int32) (h0 : Heap) (n0 : Nat) (Z0 : n0 ≤ h0.size) (VA : Arv Z h0 ra ka .byte xz (l1.map Value.int) (.int 0)) (hH : own_RT l1 lA (own_bulk (own_enc [own_b xc])) lR xa xz) (ho0 : own_OKc xc) :
  oMet l oM18 method_6_code 5 (some .int) ws (oR 1 0 0 16) #[(.ref ra), (.int xa), (.int 0), (.int xc)] Z h0 (Q_rm_w1_0 Z ra xa xc ka xz l1 lA lR h0 n0) := by
 refine MetFree.of_bodySF (plainFor_of_name pn4) hisR ?_
 have W := own_W hw
 intro p e s m args bw meth c s₁ Bd hml0 hP hK
 obtain ⟨rfl, hZ, hh⟩ := hP
 have hx := Bd.exec
 have hby := Bd.bytes
 have hml : c.maxLocals = 5 := hml0
 have hown : s.vm.findClass oS3 = some m.cls := findClass_of_methodNamed Bd.named
 have hnm := (name_of_methodNamed Bd.named Bd.method).1
 have X0 : Stand p l e (oR 1 0 0 16) s m #[(.ref ra), (.int xa), (.int 0), (.int xc)] bw meth c s₁ [] 0 0 := Stand.of_body Bd
 have e0 : s₁.heap = h0 := by rw [← hh, Bd.state]; rfl
 have N0 := Fr.nil n0
 have D := own_D hby dB39
 obtain ⟨G, hG⟩ := own_ex fun t => Steps p.tables e bw (s₁.setTop (entryFrame m #[(.ref ra), (.int xa), (.int 0), (.int xc)] 5)) t
 have pre0 : oP p e bw G s₁ m 0 #[vR ra, vI xa, vI 0, vI xc, vU] [] := by intro t k; subst hG; exact castTop (ef_rm_w1_0 m ra xa xc) k
 have pre1 : oP p e bw G s₁ m 13 #[vR ra, vI xa, vI 0, vI xc, vU] [(.int xc), (.int 36), (.int xa), (.ref ra)] := by
  intro t k
  refine pre0 t ?_
  refine XS.aloadN X0.here hx rfl (D 0 rfl) rfl rfl ?_
  refine XS.iloadN X0.here hx rfl (D 1 rfl) rfl ?_
  refine XS.bipush X0.here hx rfl (D 2 rfl) ?_
  refine XS.iloadN X0.here hx rfl (D 3 rfl) rfl ?_
  refine XS.ifYes X0.here hx rfl (pc0 := 5) (pc' := 12) rfl (D 4 rfl) rfl ((if0 _ _).trans (teq (show (0 : Int32) = (0 : Int32) from rfl)).1) (by decide) (by decide) ?_
  refine XS.iloadN X0.here hx rfl (D 5 rfl) rfl ?_
  exact k
 obtain ⟨_, T2, Lc2, X2, hQ2, pc2⟩ := own_call X0 hx hZ hown (W 167 rfl) (W 168 rfl) (W 120 rfl) (W 169 rfl) (by decide) (rm_len l Z a0 hw [] xc h0 n0 Z0 ) e0 pre1 hml rfl (D 6 rfl) (lenOf pd25 rfl) rfl (W := 3) rfl (by decide)
 obtain ⟨rfl, M2, e2⟩ := hQ2
 have N2 := Fr.app N0 M2
 have pre3 : oP p e bw G T2 m 16 #[vR ra, vI xa, vI 0, vI xc, vU] [(.int (F_rm_len xc)), (.int 36), (.int xa), (.ref ra)] := pc2
 obtain ⟨lW, hlW⟩ := own_ex (own_enc [own_b xc])
 rw [show (F_rm_len xc) = (own_len lW) from by rw [hlW]; exact own_n1 ho0] at pre3
 have wa1 := own_rtS (B1 := own_hdr 36 (own_len lW)) (B2 := lW ++ [13, 10]) (by rw [hlW]; exact hH)
 have wa2 := own_rtS wa1.2
 obtain ⟨A_0, hA_0⟩ := own_ex (lA ++ own_hdr 36 (own_len lW))
 rw [← hA_0] at wa2
 have wx := wa2.1
 rw [hlW] at wx
 have wx0 := own_rtX wx
 obtain ⟨A_1, hA_1⟩ := own_ex (A_0 ++ own_enc [own_b xc])
 rw [← hA_1] at wx0
 have wxe := own_rtE wx0.2
 obtain ⟨_, T4, Lc4, X4, hQ4, pc4⟩ := own_call X2 hx hZ hown (W 122 rfl) (W 123 rfl) (W 120 rfl) (W 124 rfl) (by decide) (rm_hdr l Z a0 hw [] ra xa (36 : Int32) (own_len lW) ka xz l1 lA _ h0 n0 Z0 VA (wa1.1)) e2 pre3 hml rfl (D 7 rfl) (lenOf pd26 rfl) rfl (W := 0) rfl (by decide)
 obtain ⟨rfl, M4, e4⟩ := hQ4
 have N4 := Fr.app N2 M4
 have pre5 : oP p e bw G T4 m 19 #[vR ra, vI xa, vI 0, vI xc, vU] [(.int (own_len (lA ++ own_hdr (36 : Int32) (own_len lW))))] := pc4
 rw [show (own_len (lA ++ own_hdr (36 : Int32) (own_len lW))) = (own_len A_0) from by rw [hA_0]] at pre5
 have pre6 : oP p e bw G T4 m 29 #[vR ra, vI xa, vI 0, vI xc, vI (own_len A_0)] [(.int xc), (.int (own_len A_0)), (.ref ra)] := by
  intro t k
  refine pre5 t ?_
  refine XS.istore X4.here hx rfl (D 8 rfl) rfl (l' := #[vR ra, vI xa, vI 0, vI xc, vI (own_len A_0)]) rfl ?_
  refine XS.iloadN X4.here hx rfl (D 9 rfl) rfl ?_
  refine XS.ifNo X4.here hx rfl (D 10 rfl) rfl ((if0 _ _).trans (teq (show (0 : Int32) = (0 : Int32) from rfl)).2) ?_
  refine XS.aloadN X4.here hx rfl (D 11 rfl) rfl rfl ?_
  refine XS.iload X4.here hx rfl (D 12 rfl) rfl ?_
  refine XS.iloadN X4.here hx rfl (D 13 rfl) rfl ?_
  exact k
 obtain ⟨_, T7, Lc7, X7, hQ7, pc7⟩ := own_call X4 hx hZ hown (W 170 rfl) (W 171 rfl) (W 120 rfl) (W 172 rfl) (by decide) (rm_ch l Z a0 hw [] ra (own_len A_0) xc ka xz l1 A_0 _ h0 n0 Z0 VA (wx0.1) (ho0)) e4 pre6 hml rfl (D 14 rfl) (lenOf pd27 rfl) rfl (W := 0) rfl (by decide)
 obtain ⟨rfl, M7, e7⟩ := hQ7
 have N7 := Fr.app N4 M7
 have pre8 : oP p e bw G T7 m 32 #[vR ra, vI xa, vI 0, vI xc, vI (own_len A_0)] [(.int (own_len (A_0 ++ own_enc [own_b xc])))] := pc7
 rw [show (own_len (A_0 ++ own_enc [own_b xc])) = (own_len A_1) from by rw [hA_1]] at pre8
 have pre9 : oP p e bw G T7 m 37 #[vR ra, vI xa, vI 0, vI xc, vI (own_len A_1)] [(.int (own_len A_1)), (.ref ra)] := by
  intro t k
  refine pre8 t ?_
  refine XS.istore X7.here hx rfl (D 15 rfl) rfl (l' := #[vR ra, vI xa, vI 0, vI xc, vI (own_len A_1)]) rfl ?_
  refine XS.aloadN X7.here hx rfl (D 16 rfl) rfl rfl ?_
  refine XS.iload X7.here hx rfl (D 17 rfl) rfl ?_
  exact k
 obtain ⟨_, T10, Lc10, X10, hQ10, pc10⟩ := own_call X7 hx hZ hown (W 173 rfl) (W 174 rfl) (W 120 rfl) (W 175 rfl) (by decide) (rm_cr l Z a0 hw [] ra (own_len A_1) ka xz l1 A_1 _ h0 n0 Z0 VA (wxe)) e7 pre9 hml rfl (D 18 rfl) (lenOf pd28 rfl) rfl (W := 0) rfl (by decide)
 obtain ⟨rfl, M10, e10⟩ := hQ10
 have N10 := Fr.app N7 M10
 have pre11 : oP p e bw G T10 m 40 #[vR ra, vI xa, vI 0, vI xc, vI (own_len A_1)] [(.int (own_len (A_1 ++ [13, 10])))] := pc10
 obtain ⟨fs, hr, hrun, hended, hW, hsame⟩ := X10.leave (hlocks := Bd.notSynchronized) (v := some (.int (own_len (A_1 ++ [13, 10])))) (fun h => by rw [Bd.returns] at h; cases h)
 subst hG
 refine ⟨_, _, pre11 _ ?_, hrun, hended, _, _, rfl, ?_, ⟨_, rfl⟩, hW, hsame.mono (by decide) (by decide)⟩
 ·exact retI X10 hx Bd.returns (D 19 rfl) hr
 ·show Q_rm_w1_0 Z ra xa xc ka xz l1 lA lR h0 n0 _ T10.heap _
  rw [e10]
  exact ⟨congrArg (fun z => some (Value.int z)) (congrArg own_len (by simp only [hA_1, hA_0, hlW, own_bulk, List.append_assoc])), N10, rfl⟩
theorem ef_rm_w1_1 (m : MethodId) (ra : Addr) (xa : Int32) (xc : Int32) : entryFrame m #[(.ref ra), (.int xa), (.int 1), (.int xc)] 5 = mkF m 0 #[vR ra, vI xa, vI 1, vI xc, vU] [] := by simp [entryFrame, mkF, argsToLocals, Value.category]
def Q_rm_w1_1 (Z : State) (ra : Addr) (xa : Int32) (xc : Int32) (ka : ClassId) (xz : Int32) (l1 : List Int32) (lA : List Int32) (lR : List Int32) (h0 : Heap) (n0 : Nat) (v : Option Value) (h : Heap) (L : List Loc) : Prop := v = some (.int (own_len (lA ++ own_bulk (own_enc [])))) ∧ Fr n0 L ∧ h = h0
set_option maxRecDepth 65536 in
set_option maxHeartbeats 40000000 in
theorem rm_w1_1 (l : Launch) (Z : State) (a0 : Array Value) (hw : ∀ d ∈ tables_1, d.before a0 Z = true) (ws : List Jvm.Cond) (ra : Addr) (xa : Int32) (xc : Int32) (ka : ClassId) (xz : Int32) (l1 : List Int32) (lA : List Int32) (lR : List Int32) (h0 : Heap) (n0 : Nat) (Z0 : n0 ≤ h0.size) (VA : Arv Z h0 ra ka .byte xz (l1.map Value.int) (.int 0)) (hH : own_RT l1 lA (own_bulk (own_enc [])) lR xa xz) :
  oMet l oM18 method_6_code 5 (some .int) ws (oR 1 0 0 16) #[(.ref ra), (.int xa), (.int 1), (.int xc)] Z h0 (Q_rm_w1_1 Z ra xa xc ka xz l1 lA lR h0 n0) := by
 refine MetFree.of_bodySF (plainFor_of_name pn4) hisR ?_
 have W := own_W hw
 intro p e s m args bw meth c s₁ Bd hml0 hP hK
 obtain ⟨rfl, hZ, hh⟩ := hP
 have hx := Bd.exec
 have hby := Bd.bytes
 have hml : c.maxLocals = 5 := hml0
 have hown : s.vm.findClass oS3 = some m.cls := findClass_of_methodNamed Bd.named
 have hnm := (name_of_methodNamed Bd.named Bd.method).1
 have X0 : Stand p l e (oR 1 0 0 16) s m #[(.ref ra), (.int xa), (.int 1), (.int xc)] bw meth c s₁ [] 0 0 := Stand.of_body Bd
 have e0 : s₁.heap = h0 := by rw [← hh, Bd.state]; rfl
 have N0 := Fr.nil n0
 have D := own_D hby dB39
 obtain ⟨G, hG⟩ := own_ex fun t => Steps p.tables e bw (s₁.setTop (entryFrame m #[(.ref ra), (.int xa), (.int 1), (.int xc)] 5)) t
 have pre0 : oP p e bw G s₁ m 0 #[vR ra, vI xa, vI 1, vI xc, vU] [] := by intro t k; subst hG; exact castTop (ef_rm_w1_1 m ra xa xc) k
 have pre1 : oP p e bw G s₁ m 16 #[vR ra, vI xa, vI 1, vI xc, vU] [(.int 0), (.int 36), (.int xa), (.ref ra)] := by
  intro t k
  refine pre0 t ?_
  refine XS.aloadN X0.here hx rfl (D 0 rfl) rfl rfl ?_
  refine XS.iloadN X0.here hx rfl (D 1 rfl) rfl ?_
  refine XS.bipush X0.here hx rfl (D 2 rfl) ?_
  refine XS.iloadN X0.here hx rfl (D 3 rfl) rfl ?_
  refine XS.ifNo X0.here hx rfl (D 4 rfl) rfl ((if0 _ _).trans (feq (show ¬ ((1 : Int32) = (0 : Int32)) from by decide)).1) ?_
  refine XS.iconst X0.here hx rfl (D 20 rfl) ?_
  refine XS.goto X0.here hx rfl (pc0 := 9) (pc' := 16) rfl (D 21 rfl) (by decide) (by decide) ?_
  exact k
 have wa1 := own_rtS (B1 := own_hdr 36 (own_len (own_enc []))) (B2 := (own_enc []) ++ [13, 10]) hH
 have wa2 := own_rtS (B1 := (own_enc [])) (B2 := [13, 10]) wa1.2
 have wxe := own_rtE wa2.1
 obtain ⟨_, T2, Lc2, X2, hQ2, pc2⟩ := own_call X0 hx hZ hown (W 122 rfl) (W 123 rfl) (W 120 rfl) (W 124 rfl) (by decide) (rm_hdr l Z a0 hw [] ra xa (36 : Int32) (0 : Int32) ka xz l1 lA _ h0 n0 Z0 VA (wa1.1)) e0 pre1 hml rfl (D 7 rfl) (lenOf pd26 rfl) rfl (W := 0) rfl (by decide)
 obtain ⟨rfl, M2, e2⟩ := hQ2
 have N2 := Fr.app N0 M2
 have pre3 : oP p e bw G T2 m 37 #[vR ra, vI xa, vI 1, vI xc, vI (own_len (lA ++ own_hdr (36 : Int32) (0 : Int32)))] [(.int (own_len (lA ++ own_hdr (36 : Int32) (0 : Int32)))), (.ref ra)] := by
  intro t k
  refine pc2 t ?_
  refine XS.istore X2.here hx rfl (D 8 rfl) rfl (l' := #[vR ra, vI xa, vI 1, vI xc, vI (own_len (lA ++ own_hdr (36 : Int32) (0 : Int32)))]) rfl ?_
  refine XS.iloadN X2.here hx rfl (D 9 rfl) rfl ?_
  refine XS.ifYes X2.here hx rfl (pc0 := 22) (pc' := 34) rfl (D 10 rfl) rfl ((if0 _ _).trans (feq (show ¬ ((1 : Int32) = (0 : Int32)) from by decide)).2) (by decide) (by decide) ?_
  refine XS.aloadN X2.here hx rfl (D 16 rfl) rfl rfl ?_
  refine XS.iload X2.here hx rfl (D 17 rfl) rfl ?_
  exact k
 obtain ⟨_, T4, Lc4, X4, hQ4, pc4⟩ := own_call X2 hx hZ hown (W 173 rfl) (W 174 rfl) (W 120 rfl) (W 175 rfl) (by decide) (rm_cr l Z a0 hw [] ra (own_len (lA ++ own_hdr (36 : Int32) (0 : Int32))) ka xz l1 (lA ++ own_hdr (36 : Int32) (0 : Int32)) _ h0 n0 Z0 VA (wxe)) e2 pre3 hml rfl (D 18 rfl) (lenOf pd28 rfl) rfl (W := 0) rfl (by decide)
 obtain ⟨rfl, M4, e4⟩ := hQ4
 have N4 := Fr.app N2 M4
 have pre5 : oP p e bw G T4 m 40 #[vR ra, vI xa, vI 1, vI xc, vI (own_len (lA ++ own_hdr (36 : Int32) (0 : Int32)))] [(.int (own_len ((lA ++ own_hdr (36 : Int32) (0 : Int32)) ++ [13, 10])))] := pc4
 obtain ⟨fs, hr, hrun, hended, hW, hsame⟩ := X4.leave (hlocks := Bd.notSynchronized) (v := some (.int (own_len ((lA ++ own_hdr (36 : Int32) (0 : Int32)) ++ [13, 10])))) (fun h => by rw [Bd.returns] at h; cases h)
 subst hG
 refine ⟨_, _, pre5 _ ?_, hrun, hended, _, _, rfl, ?_, ⟨_, rfl⟩, hW, hsame.mono (by decide) (by decide)⟩
 ·exact retI X4 hx Bd.returns (D 19 rfl) hr
 ·show Q_rm_w1_1 Z ra xa xc ka xz l1 lA lR h0 n0 _ T4.heap _
  rw [e4]
  exact ⟨congrArg (fun z => some (Value.int z)) (congrArg own_len (List.append_assoc _ _ _)), N4, rfl⟩
theorem ef_rm_w2 (m : MethodId) (ra : Addr) (xa : Int32) (xc : Int32) (xd : Int32) : entryFrame m #[(.ref ra), (.int xa), (.int xc), (.int xd)] 5 = mkF m 0 #[vR ra, vI xa, vI xc, vI xd, vU] [] := by simp [entryFrame, mkF, argsToLocals, Value.category]
def Q_rm_w2 (Z : State) (ra : Addr) (xa : Int32) (xc : Int32) (xd : Int32) (ka : ClassId) (xz : Int32) (l1 : List Int32) (lA : List Int32) (lR : List Int32) (h0 : Heap) (n0 : Nat) (v : Option Value) (h : Heap) (L : List Loc) : Prop := v = some (.int (own_len (lA ++ own_bulk (own_enc [own_b xc, own_b xd])))) ∧ Fr n0 L ∧ h = h0
set_option maxRecDepth 65536 in
set_option maxHeartbeats 40000000 in
theorem rm_w2 (l : Launch) (Z : State) (a0 : Array Value) (hw : ∀ d ∈ tables_1, d.before a0 Z = true) (ws : List Jvm.Cond) (ra : Addr) (xa : Int32) (xc : Int32) (xd : Int32) (ka : ClassId) (xz : Int32) (l1 : List Int32) (lA : List Int32) (lR : List Int32) (h0 : Heap) (n0 : Nat) (Z0 : n0 ≤ h0.size) (VA : Arv Z h0 ra ka .byte xz (l1.map Value.int) (.int 0)) (hH : own_RT l1 lA (own_bulk (own_enc [own_b xc, own_b xd])) lR xa xz) (ho0 : own_OKc xc) (ho1 : own_OKc xd) :
  oMet l (⟨oS3, "word2", "([BICC)I"⟩ : MethodName) method_7_code 5 (some .int) ws (oR 1 0 0 16) #[(.ref ra), (.int xa), (.int xc), (.int xd)] Z h0 (Q_rm_w2 Z ra xa xc xd ka xz l1 lA lR h0 n0) := by
 refine MetFree.of_bodySF (plainFor_of_name pn4) hisR ?_
 have W := own_W hw
 intro p e s m args bw meth c s₁ Bd hml0 hP hK
 obtain ⟨rfl, hZ, hh⟩ := hP
 have hx := Bd.exec
 have hby := Bd.bytes
 have hml : c.maxLocals = 5 := hml0
 have hown : s.vm.findClass oS3 = some m.cls := findClass_of_methodNamed Bd.named
 have hnm := (name_of_methodNamed Bd.named Bd.method).1
 have X0 : Stand p l e (oR 1 0 0 16) s m #[(.ref ra), (.int xa), (.int xc), (.int xd)] bw meth c s₁ [] 0 0 := Stand.of_body Bd
 have e0 : s₁.heap = h0 := by rw [← hh, Bd.state]; rfl
 have N0 := Fr.nil n0
 have D := own_D hby dB40
 obtain ⟨G, hG⟩ := own_ex fun t => Steps p.tables e bw (s₁.setTop (entryFrame m #[(.ref ra), (.int xa), (.int xc), (.int xd)] 5)) t
 have pre0 : oP p e bw G s₁ m 0 #[vR ra, vI xa, vI xc, vI xd, vU] [] := by intro t k; subst hG; exact castTop (ef_rm_w2 m ra xa xc xd) k
 have pre1 : oP p e bw G s₁ m 5 #[vR ra, vI xa, vI xc, vI xd, vU] [(.int xc), (.int 36), (.int xa), (.ref ra)] := by
  intro t k
  refine pre0 t ?_
  refine XS.aloadN X0.here hx rfl (D 0 rfl) rfl rfl ?_
  refine XS.iloadN X0.here hx rfl (D 1 rfl) rfl ?_
  refine XS.bipush X0.here hx rfl (D 2 rfl) ?_
  refine XS.iloadN X0.here hx rfl (D 3 rfl) rfl ?_
  exact k
 obtain ⟨_, T2, Lc2, X2, hQ2, pc2⟩ := own_call X0 hx hZ hown (W 167 rfl) (W 168 rfl) (W 120 rfl) (W 169 rfl) (by decide) (rm_len l Z a0 hw [] xc h0 n0 Z0 ) e0 pre1 hml rfl (D 4 rfl) (lenOf pd25 rfl) rfl (W := 3) rfl (by decide)
 obtain ⟨rfl, M2, e2⟩ := hQ2
 have N2 := Fr.app N0 M2
 have pre3 : oP p e bw G T2 m 9 #[vR ra, vI xa, vI xc, vI xd, vU] [(.int xd), (.int (F_rm_len xc)), (.int 36), (.int xa), (.ref ra)] := by
  intro t k
  refine pc2 t ?_
  refine XS.iloadN X2.here hx rfl (D 5 rfl) rfl ?_
  exact k
 obtain ⟨_, T4, Lc4, X4, hQ4, pc4⟩ := own_call X2 hx hZ hown (W 167 rfl) (W 168 rfl) (W 120 rfl) (W 169 rfl) (by decide) (rm_len l Z a0 hw [] xd h0 n0 Z0 ) e2 pre3 hml rfl (D 6 rfl) (lenOf pd25 rfl) rfl (W := 4) rfl (by decide)
 obtain ⟨rfl, M4, e4⟩ := hQ4
 have N4 := Fr.app N2 M4
 have pre5 : oP p e bw G T4 m 13 #[vR ra, vI xa, vI xc, vI xd, vU] [(.int ((F_rm_len xc) + (F_rm_len xd))), (.int 36), (.int xa), (.ref ra)] := by
  intro t k
  refine pc4 t ?_
  refine XS.iadd X4.here hx rfl (D 7 rfl) rfl ?_
  exact k
 obtain ⟨lW, hlW⟩ := own_ex (own_enc [own_b xc, own_b xd])
 rw [show ((F_rm_len xc) + (F_rm_len xd)) = (own_len lW) from by rw [hlW]; exact own_n2 ho0 ho1] at pre5
 have wa1 := own_rtS (B1 := own_hdr 36 (own_len lW)) (B2 := lW ++ [13, 10]) (by rw [hlW]; exact hH)
 have wa2 := own_rtS wa1.2
 obtain ⟨A_0, hA_0⟩ := own_ex (lA ++ own_hdr 36 (own_len lW))
 rw [← hA_0] at wa2
 have wx := wa2.1
 rw [hlW] at wx
 have wx0 := own_rtX wx
 obtain ⟨A_1, hA_1⟩ := own_ex (A_0 ++ own_enc [own_b xc])
 rw [← hA_1] at wx0
 have wx1 := own_rtX wx0.2
 obtain ⟨A_2, hA_2⟩ := own_ex (A_1 ++ own_enc [own_b xd])
 rw [← hA_2] at wx1
 have wxe := own_rtE wx1.2
 obtain ⟨_, T6, Lc6, X6, hQ6, pc6⟩ := own_call X4 hx hZ hown (W 122 rfl) (W 123 rfl) (W 120 rfl) (W 124 rfl) (by decide) (rm_hdr l Z a0 hw [] ra xa (36 : Int32) (own_len lW) ka xz l1 lA _ h0 n0 Z0 VA (wa1.1)) e4 pre5 hml rfl (D 8 rfl) (lenOf pd26 rfl) rfl (W := 0) rfl (by decide)
 obtain ⟨rfl, M6, e6⟩ := hQ6
 have N6 := Fr.app N4 M6
 have pre7 : oP p e bw G T6 m 16 #[vR ra, vI xa, vI xc, vI xd, vU] [(.int (own_len (lA ++ own_hdr (36 : Int32) (own_len lW))))] := pc6
 rw [show (own_len (lA ++ own_hdr (36 : Int32) (own_len lW))) = (own_len A_0) from by rw [hA_0]] at pre7
 have pre8 : oP p e bw G T6 m 22 #[vR ra, vI xa, vI xc, vI xd, vI (own_len A_0)] [(.int xc), (.int (own_len A_0)), (.ref ra)] := by
  intro t k
  refine pre7 t ?_
  refine XS.istore X6.here hx rfl (D 9 rfl) rfl (l' := #[vR ra, vI xa, vI xc, vI xd, vI (own_len A_0)]) rfl ?_
  refine XS.aloadN X6.here hx rfl (D 10 rfl) rfl rfl ?_
  refine XS.iload X6.here hx rfl (D 11 rfl) rfl ?_
  refine XS.iloadN X6.here hx rfl (D 12 rfl) rfl ?_
  exact k
 obtain ⟨_, T9, Lc9, X9, hQ9, pc9⟩ := own_call X6 hx hZ hown (W 170 rfl) (W 171 rfl) (W 120 rfl) (W 172 rfl) (by decide) (rm_ch l Z a0 hw [] ra (own_len A_0) xc ka xz l1 A_0 _ h0 n0 Z0 VA (wx0.1) (ho0)) e6 pre8 hml rfl (D 13 rfl) (lenOf pd27 rfl) rfl (W := 0) rfl (by decide)
 obtain ⟨rfl, M9, e9⟩ := hQ9
 have N9 := Fr.app N6 M9
 have pre10 : oP p e bw G T9 m 25 #[vR ra, vI xa, vI xc, vI xd, vI (own_len A_0)] [(.int (own_len (A_0 ++ own_enc [own_b xc])))] := pc9
 rw [show (own_len (A_0 ++ own_enc [own_b xc])) = (own_len A_1) from by rw [hA_1]] at pre10
 have pre11 : oP p e bw G T9 m 31 #[vR ra, vI xa, vI xc, vI xd, vI (own_len A_1)] [(.int xd), (.int (own_len A_1)), (.ref ra)] := by
  intro t k
  refine pre10 t ?_
  refine XS.istore X9.here hx rfl (D 14 rfl) rfl (l' := #[vR ra, vI xa, vI xc, vI xd, vI (own_len A_1)]) rfl ?_
  refine XS.aloadN X9.here hx rfl (D 15 rfl) rfl rfl ?_
  refine XS.iload X9.here hx rfl (D 16 rfl) rfl ?_
  refine XS.iloadN X9.here hx rfl (D 17 rfl) rfl ?_
  exact k
 obtain ⟨_, T12, Lc12, X12, hQ12, pc12⟩ := own_call X9 hx hZ hown (W 170 rfl) (W 171 rfl) (W 120 rfl) (W 172 rfl) (by decide) (rm_ch l Z a0 hw [] ra (own_len A_1) xd ka xz l1 A_1 _ h0 n0 Z0 VA (wx1.1) (ho1)) e9 pre11 hml rfl (D 18 rfl) (lenOf pd27 rfl) rfl (W := 0) rfl (by decide)
 obtain ⟨rfl, M12, e12⟩ := hQ12
 have N12 := Fr.app N9 M12
 have pre13 : oP p e bw G T12 m 34 #[vR ra, vI xa, vI xc, vI xd, vI (own_len A_1)] [(.int (own_len (A_1 ++ own_enc [own_b xd])))] := pc12
 rw [show (own_len (A_1 ++ own_enc [own_b xd])) = (own_len A_2) from by rw [hA_2]] at pre13
 have pre14 : oP p e bw G T12 m 39 #[vR ra, vI xa, vI xc, vI xd, vI (own_len A_2)] [(.int (own_len A_2)), (.ref ra)] := by
  intro t k
  refine pre13 t ?_
  refine XS.istore X12.here hx rfl (D 19 rfl) rfl (l' := #[vR ra, vI xa, vI xc, vI xd, vI (own_len A_2)]) rfl ?_
  refine XS.aloadN X12.here hx rfl (D 20 rfl) rfl rfl ?_
  refine XS.iload X12.here hx rfl (D 21 rfl) rfl ?_
  exact k
 obtain ⟨_, T15, Lc15, X15, hQ15, pc15⟩ := own_call X12 hx hZ hown (W 173 rfl) (W 174 rfl) (W 120 rfl) (W 175 rfl) (by decide) (rm_cr l Z a0 hw [] ra (own_len A_2) ka xz l1 A_2 _ h0 n0 Z0 VA (wxe)) e12 pre14 hml rfl (D 22 rfl) (lenOf pd28 rfl) rfl (W := 0) rfl (by decide)
 obtain ⟨rfl, M15, e15⟩ := hQ15
 have N15 := Fr.app N12 M15
 have pre16 : oP p e bw G T15 m 42 #[vR ra, vI xa, vI xc, vI xd, vI (own_len A_2)] [(.int (own_len (A_2 ++ [13, 10])))] := pc15
 obtain ⟨fs, hr, hrun, hended, hW, hsame⟩ := X15.leave (hlocks := Bd.notSynchronized) (v := some (.int (own_len (A_2 ++ [13, 10])))) (fun h => by rw [Bd.returns] at h; cases h)
 subst hG
 refine ⟨_, _, pre16 _ ?_, hrun, hended, _, _, rfl, ?_, ⟨_, rfl⟩, hW, hsame.mono (by decide) (by decide)⟩
 ·exact retI X15 hx Bd.returns (D 23 rfl) hr
 ·show Q_rm_w2 Z ra xa xc xd ka xz l1 lA lR h0 n0 _ T15.heap _
  rw [e15]
  exact ⟨congrArg (fun z => some (Value.int z)) (congrArg own_len (by simp only [hA_2, hA_1, hA_0, hlW, own_bulk, own_e2, List.append_assoc])), N15, rfl⟩
theorem own_fin {l A : List Int32} {xa xz : Int32} (H : own_RT l A [] [] xa xz) : own_len A = xz := by
 rw [H.hz, H.hl]; simp only [List.append_nil]
theorem own_bk0 : own_bulks [] = [] := rfl
theorem own_bk1 (A : List Int32) : own_bulks [A] = own_bulk A := by rw [own_bulks, own_bulks, List.append_nil]
theorem own_bk2 (A B : List Int32) : own_bulks [A, B] = own_bulk A ++ own_bulk B := by rw [own_bulks, own_bulks, own_bulks, List.append_nil]
theorem own_ckX (h a b : List Int32) : h ++ (a ++ b) = [] ++ ((h ++ (a ++ (b ++ []))) ++ []) := by simp only [List.append_nil, List.nil_append]
theorem own_ckY (h a b c : List Int32) : h ++ ((a ++ b) ++ c) = [] ++ ((h ++ (a ++ (b ++ (c ++ [])))) ++ []) := by simp only [List.append_assoc, List.append_nil, List.nil_append]
theorem own_ckZ (h a : List Int32) : h ++ a = [] ++ ((h ++ (a ++ [])) ++ []) := by simp only [List.append_nil, List.nil_append]
theorem own_ckO (h : List Int32) : h ++ ([] ++ []) = [] ++ ((h ++ []) ++ []) := by simp only [List.append_nil, List.nil_append]
theorem own_ckP (h a : List Int32) : h ++ (a ++ []) = [] ++ ((h ++ (a ++ [])) ++ []) := by simp only [List.append_nil, List.nil_append]
theorem own_ck00 (T : Int32) : own_hdr 42 T ++ (own_bulks [] ++ own_bulks []) = [] ++ ((own_hdr 42 T ++ []) ++ []) := by
 rw [own_bk0]; exact own_ckO _
theorem own_ck01 (T : Int32) (C : List Int32) : own_hdr 42 T ++ (own_bulks [] ++ own_bulks [C]) = [] ++ ((own_hdr 42 T ++ (own_bulk C ++ [])) ++ []) := by
 rw [own_bk0, own_bk1, List.nil_append]; exact own_ckZ _ _
theorem own_ck10 (T : Int32) (A : List Int32) : own_hdr 42 T ++ (own_bulks [A] ++ own_bulks []) = [] ++ ((own_hdr 42 T ++ (own_bulk A ++ [])) ++ []) := by
 rw [own_bk0, own_bk1]; exact own_ckP _ _
theorem own_ck11 (T : Int32) (A C : List Int32) : own_hdr 42 T ++ (own_bulks [A] ++ own_bulks [C]) = [] ++ ((own_hdr 42 T ++ (own_bulk A ++ (own_bulk C ++ []))) ++ []) := by
 rw [own_bk1, own_bk1]; exact own_ckX _ _ _
theorem own_ck20 (T : Int32) (A B : List Int32) : own_hdr 42 T ++ (own_bulks [A, B] ++ own_bulks []) = [] ++ ((own_hdr 42 T ++ (own_bulk A ++ (own_bulk B ++ []))) ++ []) := by
 rw [own_bk0, own_bk2, List.append_nil]; exact own_ckX _ _ _
theorem own_ck21 (T : Int32) (A B C : List Int32) : own_hdr 42 T ++ (own_bulks [A, B] ++ own_bulks [C]) = [] ++ ((own_hdr 42 T ++ (own_bulk A ++ (own_bulk B ++ (own_bulk C ++ [])))) ++ []) := by
 rw [own_bk2, own_bk1]; exact own_ckY _ _ _ _
theorem ef_rm_ck000 (m : MethodId) (ra : Addr) (rc : Addr) (xe : Int32) (xc : Int32) (xd : Int32) (xf : Int32) : entryFrame m #[(.ref ra), (.int 0), (.int 0), (.ref rc), (.int xe), (.int xc), (.int xd), (.int xf)] 9 = mkF m 0 #[vR ra, vI 0, vI 0, vR rc, vI xe, vI xc, vI xd, vI xf, vU] [] := by simp [entryFrame, mkF, argsToLocals, Value.category]
def Q_rm_ck000 (Z : State) (ra : Addr) (rc : Addr) (xe : Int32) (xc : Int32) (xd : Int32) (xf : Int32) (ka : ClassId) (xz : Int32) (l1 : List Int32) (kc2 : ClassId) (xc0 : Int32) (xc1 : Int32) (xc2 : Int32) (xc3 : Int32) (xc4 : Int32) (h0 : Heap) (n0 : Nat) (v : Option Value) (h : Heap) (L : List Loc) : Prop := v = some (.int 1) ∧ Fr n0 L ∧ h = h0
set_option maxRecDepth 65536 in
set_option maxHeartbeats 40000000 in
theorem rm_ck000 (l : Launch) (Z : State) (a0 : Array Value) (hw : ∀ d ∈ tables_1, d.before a0 Z = true) (ws : List Jvm.Cond) (ra : Addr) (rc : Addr) (xe : Int32) (xc : Int32) (xd : Int32) (xf : Int32) (ka : ClassId) (xz : Int32) (l1 : List Int32) (kc2 : ClassId) (xc0 : Int32) (xc1 : Int32) (xc2 : Int32) (xc3 : Int32) (xc4 : Int32) (h0 : Heap) (n0 : Nat) (Z0 : n0 ≤ h0.size) (VA : Arv Z h0 ra ka .byte xz (l1.map Value.int) (.int 0)) (hH : own_RT l1 [] (own_hdr 42 ((0 : Int32) + (0 : Int32)) ++ []) [] (0 : Int32) xz) (VC2 : Arv Z h0 rc kc2 .char (5 : Int32) [(.int xc0), (.int xc1), (.int xc2), (.int xc3), (.int xc4)] (.int 0)) :
  oMet l oM1 method_3_code 9 (some .boolean) ws (oR 1 0 0 16) #[(.ref ra), (.int 0), (.int 0), (.ref rc), (.int xe), (.int xc), (.int xd), (.int xf)] Z h0 (Q_rm_ck000 Z ra rc xe xc xd xf ka xz l1 kc2 xc0 xc1 xc2 xc3 xc4 h0 n0) := by
 refine MetFree.of_bodySF (plainFor_of_name pn4) hisR ?_
 have W := own_W hw
 intro p e s m args bw meth c s₁ Bd hml0 hP hK
 obtain ⟨rfl, hZ, hh⟩ := hP
 have hx := Bd.exec
 have hby := Bd.bytes
 have hml : c.maxLocals = 9 := hml0
 have hown : s.vm.findClass oS3 = some m.cls := findClass_of_methodNamed Bd.named
 have hnm := (name_of_methodNamed Bd.named Bd.method).1
 have X0 : Stand p l e (oR 1 0 0 16) s m #[(.ref ra), (.int 0), (.int 0), (.ref rc), (.int xe), (.int xc), (.int xd), (.int xf)] bw meth c s₁ [] 0 0 := Stand.of_body Bd
 have e0 : s₁.heap = h0 := by rw [← hh, Bd.state]; rfl
 have N0 := Fr.nil n0
 have D := own_D hby dB23
 obtain ⟨G, hG⟩ := own_ex fun t => Steps p.tables e bw (s₁.setTop (entryFrame m #[(.ref ra), (.int 0), (.int 0), (.ref rc), (.int xe), (.int xc), (.int xd), (.int xf)] 9)) t
 have pre0 : oP p e bw G s₁ m 0 #[vR ra, vI 0, vI 0, vR rc, vI xe, vI xc, vI xd, vI xf, vU] [] := by intro t k; subst hG; exact castTop (ef_rm_ck000 m ra rc xe xc xd xf) k
 have qa0 := own_rtS hH
 obtain ⟨C_0, hC_0⟩ := own_ex ([] ++ own_hdr 42 ((0 : Int32) + (0 : Int32)))
 rw [← hC_0] at qa0
 have pre1 : oP p e bw G s₁ m 7 #[vR ra, vI 0, vI 0, vR rc, vI xe, vI xc, vI xd, vI xf, vU] [(.int ((0 : Int32) + (0 : Int32))), (.int 42), (.int 0), (.ref ra)] := by
  intro t k
  refine pre0 t ?_
  refine XS.aloadN X0.here hx rfl (D 0 rfl) rfl rfl ?_
  refine XS.iconst X0.here hx rfl (D 1 rfl) ?_
  refine XS.bipush X0.here hx rfl (D 2 rfl) ?_
  refine XS.iloadN X0.here hx rfl (D 3 rfl) rfl ?_
  refine XS.iloadN X0.here hx rfl (D 4 rfl) rfl ?_
  refine XS.iadd X0.here hx rfl (D 5 rfl) rfl ?_
  exact k
 obtain ⟨_, T2, Lc2, X2, hQ2, pc2⟩ := own_call X0 hx hZ hown (W 122 rfl) (W 123 rfl) (W 120 rfl) (W 124 rfl) (by decide) (rm_hdr l Z a0 hw [] ra (0 : Int32) (42 : Int32) ((0 : Int32) + (0 : Int32)) ka xz l1 ([] : List Int32) _ h0 n0 Z0 VA (qa0.1)) e0 pre1 hml rfl (D 6 rfl) (lenOf pd26 rfl) rfl (W := 0) rfl (by decide)
 obtain ⟨rfl, M2, e2⟩ := hQ2
 have N2 := Fr.app N0 M2
 have pre3 : oP p e bw G T2 m 10 #[vR ra, vI 0, vI 0, vR rc, vI xe, vI xc, vI xd, vI xf, vU] [(.int (own_len (([] : List Int32) ++ own_hdr (42 : Int32) ((0 : Int32) + (0 : Int32)))))] := pc2
 rw [show (own_len (([] : List Int32) ++ own_hdr (42 : Int32) ((0 : Int32) + (0 : Int32)))) = (own_len C_0) from by rw [hC_0]] at pre3
 have pre4 : oP p e bw G T2 m 63 #[vR ra, vI 0, vI 0, vR rc, vI xe, vI xc, vI xd, vI xf, vI (own_len C_0)] [(.ref ra), (.int (own_len C_0))] := by
  intro t k
  refine pre3 t ?_
  refine XS.istore X2.here hx rfl (D 7 rfl) rfl (l' := #[vR ra, vI 0, vI 0, vR rc, vI xe, vI xc, vI xd, vI xf, vI (own_len C_0)]) rfl ?_
  refine XS.iloadN X2.here hx rfl (D 8 rfl) rfl ?_
  refine XS.iconst X2.here hx rfl (D 9 rfl) ?_
  refine XS.icmpYes X2.here hx rfl (pc0 := 14) (pc' := 26) rfl (D 10 rfl) rfl (tlt (show (0 : Int32) < (1 : Int32) from by decide)).1 (by decide) (by decide) ?_
  refine XS.iloadN X2.here hx rfl (D 11 rfl) rfl ?_
  refine XS.iconst X2.here hx rfl (D 12 rfl) ?_
  refine XS.icmpYes X2.here hx rfl (pc0 := 28) (pc' := 43) rfl (D 13 rfl) rfl (feq (show ¬ ((0 : Int32) = (2 : Int32)) from by decide)).2 (by decide) (by decide) ?_
  refine XS.iloadN X2.here hx rfl (D 14 rfl) rfl ?_
  refine XS.iconst X2.here hx rfl (D 15 rfl) ?_
  refine XS.icmpYes X2.here hx rfl (pc0 := 45) (pc' := 60) rfl (D 16 rfl) rfl (feq (show ¬ ((0 : Int32) = (1 : Int32)) from by decide)).2 (by decide) (by decide) ?_
  refine XS.iload X2.here hx rfl (D 17 rfl) rfl ?_
  refine XS.aloadN X2.here hx rfl (D 18 rfl) rfl rfl ?_
  exact k
 have pre6 : oP p e bw G T2 m 72 #[vR ra, vI 0, vI 0, vR rc, vI xe, vI xc, vI xd, vI xf, vI (own_len C_0)] [(.int 1)] := by
  intro t k
  refine pre4 t ?_
  obtain ⟨c5, a5, q5, s5, m5, i5, u5⟩ := id VA
  refine X2.arraylength hx (by rw [e2]; exact a5.1) (State.isArrayOf_alike hZ.alike a5.2.1) (g := (own_g pre4)) rfl rfl (D 19 rfl) _ ?_
  rw [len_of s5 m5]
  refine XS.icmpNo X2.here hx rfl (D 20 rfl) rfl (teq (show (own_len C_0) = xz from own_fin qa0.2)).2 ?_
  refine XS.iconst X2.here hx rfl (D 21 rfl) ?_
  refine XS.goto X2.here hx rfl (pc0 := 68) (pc' := 72) rfl (D 22 rfl) (by decide) (by decide) ?_
  exact k
 obtain ⟨fs, hr, hrun, hended, hW, hsame⟩ := X2.leave (hlocks := Bd.notSynchronized) (v := some (.int 1)) (fun h => by rw [Bd.returns] at h; cases h)
 subst hG
 refine ⟨_, _, pre6 _ ?_, hrun, hended, _, _, rfl, ?_, ⟨_, rfl⟩, hW, hsame.mono (by decide) (by decide)⟩
 ·exact retN X2 hx (t := .boolean) Bd.returns (by simp) (D 23 rfl) hr
 ·show Q_rm_ck000 Z ra rc xe xc xd xf ka xz l1 kc2 xc0 xc1 xc2 xc3 xc4 h0 n0 _ T2.heap _
  rw [e2]
  exact ⟨rfl, N2, rfl⟩
theorem pd29 : parseMethodDescriptor "([BICC)I" = some ⟨[(.array .byte), .int, .char, .char], some .int⟩ := by decide +kernel
theorem ef_rm_ck010 (m : MethodId) (ra : Addr) (rc : Addr) (xe : Int32) (xc : Int32) (xd : Int32) (xf : Int32) : entryFrame m #[(.ref ra), (.int 0), (.int 1), (.ref rc), (.int xe), (.int xc), (.int xd), (.int xf)] 9 = mkF m 0 #[vR ra, vI 0, vI 1, vR rc, vI xe, vI xc, vI xd, vI xf, vU] [] := by simp [entryFrame, mkF, argsToLocals, Value.category]
def Q_rm_ck010 (Z : State) (ra : Addr) (rc : Addr) (xe : Int32) (xc : Int32) (xd : Int32) (xf : Int32) (ka : ClassId) (xz : Int32) (l1 : List Int32) (kc2 : ClassId) (xc0 : Int32) (xc1 : Int32) (xc2 : Int32) (xc3 : Int32) (xc4 : Int32) (h0 : Heap) (n0 : Nat) (v : Option Value) (h : Heap) (L : List Loc) : Prop := v = some (.int 1) ∧ Fr n0 L ∧ h = h0
set_option maxRecDepth 65536 in
set_option maxHeartbeats 40000000 in
theorem rm_ck010 (l : Launch) (Z : State) (a0 : Array Value) (hw : ∀ d ∈ tables_1, d.before a0 Z = true) (ws : List Jvm.Cond) (ra : Addr) (rc : Addr) (xe : Int32) (xc : Int32) (xd : Int32) (xf : Int32) (ka : ClassId) (xz : Int32) (l1 : List Int32) (kc2 : ClassId) (xc0 : Int32) (xc1 : Int32) (xc2 : Int32) (xc3 : Int32) (xc4 : Int32) (h0 : Heap) (n0 : Nat) (Z0 : n0 ≤ h0.size) (VA : Arv Z h0 ra ka .byte xz (l1.map Value.int) (.int 0)) (hH : own_RT l1 [] (own_hdr 42 ((0 : Int32) + (1 : Int32)) ++ (own_bulk (own_enc [own_b xd, own_b xf]) ++ [])) [] (0 : Int32) xz) (VC2 : Arv Z h0 rc kc2 .char (5 : Int32) [(.int xc0), (.int xc1), (.int xc2), (.int xc3), (.int xc4)] (.int 0)) (hod : own_OKc xd) (hof : own_OKc xf) :
  oMet l oM1 method_3_code 9 (some .boolean) ws (oR 2 0 0 32) #[(.ref ra), (.int 0), (.int 1), (.ref rc), (.int xe), (.int xc), (.int xd), (.int xf)] Z h0 (Q_rm_ck010 Z ra rc xe xc xd xf ka xz l1 kc2 xc0 xc1 xc2 xc3 xc4 h0 n0) := by
 refine MetFree.of_bodySF (plainFor_of_name pn4) hisR ?_
 have W := own_W hw
 intro p e s m args bw meth c s₁ Bd hml0 hP hK
 obtain ⟨rfl, hZ, hh⟩ := hP
 have hx := Bd.exec
 have hby := Bd.bytes
 have hml : c.maxLocals = 9 := hml0
 have hown : s.vm.findClass oS3 = some m.cls := findClass_of_methodNamed Bd.named
 have hnm := (name_of_methodNamed Bd.named Bd.method).1
 have X0 : Stand p l e (oR 2 0 0 32) s m #[(.ref ra), (.int 0), (.int 1), (.ref rc), (.int xe), (.int xc), (.int xd), (.int xf)] bw meth c s₁ [] 0 0 := Stand.of_body Bd
 have e0 : s₁.heap = h0 := by rw [← hh, Bd.state]; rfl
 have N0 := Fr.nil n0
 have D := own_D hby dB23
 obtain ⟨G, hG⟩ := own_ex fun t => Steps p.tables e bw (s₁.setTop (entryFrame m #[(.ref ra), (.int 0), (.int 1), (.ref rc), (.int xe), (.int xc), (.int xd), (.int xf)] 9)) t
 have pre0 : oP p e bw G s₁ m 0 #[vR ra, vI 0, vI 1, vR rc, vI xe, vI xc, vI xd, vI xf, vU] [] := by intro t k; subst hG; exact castTop (ef_rm_ck010 m ra rc xe xc xd xf) k
 have qa0 := own_rtS hH
 obtain ⟨C_0, hC_0⟩ := own_ex ([] ++ own_hdr 42 ((0 : Int32) + (1 : Int32)))
 rw [← hC_0] at qa0
 have qa1 := own_rtS qa0.2
 obtain ⟨C_1, hC_1⟩ := own_ex (C_0 ++ own_bulk (own_enc [own_b xd, own_b xf]))
 rw [← hC_1] at qa1
 have pre1 : oP p e bw G s₁ m 7 #[vR ra, vI 0, vI 1, vR rc, vI xe, vI xc, vI xd, vI xf, vU] [(.int ((0 : Int32) + (1 : Int32))), (.int 42), (.int 0), (.ref ra)] := by
  intro t k
  refine pre0 t ?_
  refine XS.aloadN X0.here hx rfl (D 0 rfl) rfl rfl ?_
  refine XS.iconst X0.here hx rfl (D 1 rfl) ?_
  refine XS.bipush X0.here hx rfl (D 2 rfl) ?_
  refine XS.iloadN X0.here hx rfl (D 3 rfl) rfl ?_
  refine XS.iloadN X0.here hx rfl (D 4 rfl) rfl ?_
  refine XS.iadd X0.here hx rfl (D 5 rfl) rfl ?_
  exact k
 obtain ⟨_, T2, Lc2, X2, hQ2, pc2⟩ := own_call X0 hx hZ hown (W 122 rfl) (W 123 rfl) (W 120 rfl) (W 124 rfl) (by decide) (rm_hdr l Z a0 hw [] ra (0 : Int32) (42 : Int32) ((0 : Int32) + (1 : Int32)) ka xz l1 ([] : List Int32) _ h0 n0 Z0 VA (qa0.1)) e0 pre1 hml rfl (D 6 rfl) (lenOf pd26 rfl) rfl (W := 0) rfl (by decide)
 obtain ⟨rfl, M2, e2⟩ := hQ2
 have N2 := Fr.app N0 M2
 have pre3 : oP p e bw G T2 m 10 #[vR ra, vI 0, vI 1, vR rc, vI xe, vI xc, vI xd, vI xf, vU] [(.int (own_len (([] : List Int32) ++ own_hdr (42 : Int32) ((0 : Int32) + (1 : Int32)))))] := pc2
 rw [show (own_len (([] : List Int32) ++ own_hdr (42 : Int32) ((0 : Int32) + (1 : Int32)))) = (own_len C_0) from by rw [hC_0]] at pre3
 have pre4 : oP p e bw G T2 m 55 #[vR ra, vI 0, vI 1, vR rc, vI xe, vI xc, vI xd, vI xf, vI (own_len C_0)] [(.int xf), (.int xd), (.int (own_len C_0)), (.ref ra)] := by
  intro t k
  refine pre3 t ?_
  refine XS.istore X2.here hx rfl (D 7 rfl) rfl (l' := #[vR ra, vI 0, vI 1, vR rc, vI xe, vI xc, vI xd, vI xf, vI (own_len C_0)]) rfl ?_
  refine XS.iloadN X2.here hx rfl (D 8 rfl) rfl ?_
  refine XS.iconst X2.here hx rfl (D 9 rfl) ?_
  refine XS.icmpYes X2.here hx rfl (pc0 := 14) (pc' := 26) rfl (D 10 rfl) rfl (tlt (show (0 : Int32) < (1 : Int32) from by decide)).1 (by decide) (by decide) ?_
  refine XS.iloadN X2.here hx rfl (D 11 rfl) rfl ?_
  refine XS.iconst X2.here hx rfl (D 12 rfl) ?_
  refine XS.icmpYes X2.here hx rfl (pc0 := 28) (pc' := 43) rfl (D 13 rfl) rfl (feq (show ¬ ((0 : Int32) = (2 : Int32)) from by decide)).2 (by decide) (by decide) ?_
  refine XS.iloadN X2.here hx rfl (D 14 rfl) rfl ?_
  refine XS.iconst X2.here hx rfl (D 15 rfl) ?_
  refine XS.icmpNo X2.here hx rfl (D 16 rfl) rfl (teq (show (1 : Int32) = (1 : Int32) from by decide)).2 ?_
  refine XS.aloadN X2.here hx rfl (D 24 rfl) rfl rfl ?_
  refine XS.iload X2.here hx rfl (D 25 rfl) rfl ?_
  refine XS.iload X2.here hx rfl (D 26 rfl) rfl ?_
  refine XS.iload X2.here hx rfl (D 27 rfl) rfl ?_
  exact k
 obtain ⟨_, T5, Lc5, X5, hQ5, pc5⟩ := own_call X2 hx hZ hown (W 194 rfl) (W 195 rfl) (W 120 rfl) (W 196 rfl) (by decide) (rm_w2 l Z a0 hw [] ra (own_len C_0) xd xf ka xz l1 C_0 _ h0 n0 Z0 VA (qa1.1) (hod) (hof)) e2 pre4 hml rfl (D 28 rfl) (lenOf pd29 rfl) rfl (W := 0) rfl (by decide)
 obtain ⟨rfl, M5, e5⟩ := hQ5
 have N5 := Fr.app N2 M5
 have pre6 : oP p e bw G T5 m 58 #[vR ra, vI 0, vI 1, vR rc, vI xe, vI xc, vI xd, vI xf, vI (own_len C_0)] [(.int (own_len (C_0 ++ own_bulk (own_enc [own_b xd, own_b xf]))))] := pc5
 rw [show (own_len (C_0 ++ own_bulk (own_enc [own_b xd, own_b xf]))) = (own_len C_1) from by rw [hC_1]] at pre6
 have pre7 : oP p e bw G T5 m 63 #[vR ra, vI 0, vI 1, vR rc, vI xe, vI xc, vI xd, vI xf, vI (own_len C_1)] [(.ref ra), (.int (own_len C_1))] := by
  intro t k
  refine pre6 t ?_
  refine XS.istore X5.here hx rfl (D 29 rfl) rfl (l' := #[vR ra, vI 0, vI 1, vR rc, vI xe, vI xc, vI xd, vI xf, vI (own_len C_1)]) rfl ?_
  refine XS.iload X5.here hx rfl (D 17 rfl) rfl ?_
  refine XS.aloadN X5.here hx rfl (D 18 rfl) rfl rfl ?_
  exact k
 have pre9 : oP p e bw G T5 m 72 #[vR ra, vI 0, vI 1, vR rc, vI xe, vI xc, vI xd, vI xf, vI (own_len C_1)] [(.int 1)] := by
  intro t k
  refine pre7 t ?_
  obtain ⟨c8, a8, q8, s8, m8, i8, u8⟩ := id VA
  refine X5.arraylength hx (by rw [e5]; exact a8.1) (State.isArrayOf_alike hZ.alike a8.2.1) (g := (own_g pre7)) rfl rfl (D 19 rfl) _ ?_
  rw [len_of s8 m8]
  refine XS.icmpNo X5.here hx rfl (D 20 rfl) rfl (teq (show (own_len C_1) = xz from own_fin qa1.2)).2 ?_
  refine XS.iconst X5.here hx rfl (D 21 rfl) ?_
  refine XS.goto X5.here hx rfl (pc0 := 68) (pc' := 72) rfl (D 22 rfl) (by decide) (by decide) ?_
  exact k
 obtain ⟨fs, hr, hrun, hended, hW, hsame⟩ := X5.leave (hlocks := Bd.notSynchronized) (v := some (.int 1)) (fun h => by rw [Bd.returns] at h; cases h)
 subst hG
 refine ⟨_, _, pre9 _ ?_, hrun, hended, _, _, rfl, ?_, ⟨_, rfl⟩, hW, hsame.mono (by decide) (by decide)⟩
 ·exact retN X5 hx (t := .boolean) Bd.returns (by simp) (D 23 rfl) hr
 ·show Q_rm_ck010 Z ra rc xe xc xd xf ka xz l1 kc2 xc0 xc1 xc2 xc3 xc4 h0 n0 _ T5.heap _
  rw [e5]
  exact ⟨rfl, N5, rfl⟩
theorem pd30 : parseMethodDescriptor "([BI[C)I" = some ⟨[(.array .byte), .int, (.array .char)], some .int⟩ := by decide +kernel
theorem ef_rm_ck100 (m : MethodId) (ra : Addr) (rc : Addr) (xe : Int32) (xc : Int32) (xd : Int32) (xf : Int32) : entryFrame m #[(.ref ra), (.int 1), (.int 0), (.ref rc), (.int xe), (.int xc), (.int xd), (.int xf)] 9 = mkF m 0 #[vR ra, vI 1, vI 0, vR rc, vI xe, vI xc, vI xd, vI xf, vU] [] := by simp [entryFrame, mkF, argsToLocals, Value.category]
def Q_rm_ck100 (Z : State) (ra : Addr) (rc : Addr) (xe : Int32) (xc : Int32) (xd : Int32) (xf : Int32) (ka : ClassId) (xz : Int32) (l1 : List Int32) (kc2 : ClassId) (xc0 : Int32) (xc1 : Int32) (xc2 : Int32) (xc3 : Int32) (xc4 : Int32) (h0 : Heap) (n0 : Nat) (v : Option Value) (h : Heap) (L : List Loc) : Prop := v = some (.int 1) ∧ Fr n0 L ∧ h = h0
set_option maxRecDepth 65536 in
set_option maxHeartbeats 40000000 in
theorem rm_ck100 (l : Launch) (Z : State) (a0 : Array Value) (hw : ∀ d ∈ tables_1, d.before a0 Z = true) (ws : List Jvm.Cond) (ra : Addr) (rc : Addr) (xe : Int32) (xc : Int32) (xd : Int32) (xf : Int32) (ka : ClassId) (xz : Int32) (l1 : List Int32) (kc2 : ClassId) (xc0 : Int32) (xc1 : Int32) (xc2 : Int32) (xc3 : Int32) (xc4 : Int32) (h0 : Heap) (n0 : Nat) (Z0 : n0 ≤ h0.size) (VA : Arv Z h0 ra ka .byte xz (l1.map Value.int) (.int 0)) (hH : own_RT l1 [] (own_hdr 42 ((1 : Int32) + (0 : Int32)) ++ (own_bulk (own_enc [own_b xc0, own_b xc1, own_b xc2, own_b xc3, own_b xc4]) ++ [])) [] (0 : Int32) xz) (VC2 : Arv Z h0 rc kc2 .char (5 : Int32) [(.int xc0), (.int xc1), (.int xc2), (.int xc3), (.int xc4)] (.int 0)) (ho0 : own_OKc xc0) (ho1 : own_OKc xc1) (ho2 : own_OKc xc2) (ho3 : own_OKc xc3) (ho4 : own_OKc xc4) :
  oMet l oM1 method_3_code 9 (some .boolean) ws (oR 2 0 0 32) #[(.ref ra), (.int 1), (.int 0), (.ref rc), (.int xe), (.int xc), (.int xd), (.int xf)] Z h0 (Q_rm_ck100 Z ra rc xe xc xd xf ka xz l1 kc2 xc0 xc1 xc2 xc3 xc4 h0 n0) := by
 refine MetFree.of_bodySF (plainFor_of_name pn4) hisR ?_
 have W := own_W hw
 intro p e s m args bw meth c s₁ Bd hml0 hP hK
 obtain ⟨rfl, hZ, hh⟩ := hP
 have hx := Bd.exec
 have hby := Bd.bytes
 have hml : c.maxLocals = 9 := hml0
 have hown : s.vm.findClass oS3 = some m.cls := findClass_of_methodNamed Bd.named
 have hnm := (name_of_methodNamed Bd.named Bd.method).1
 have X0 : Stand p l e (oR 2 0 0 32) s m #[(.ref ra), (.int 1), (.int 0), (.ref rc), (.int xe), (.int xc), (.int xd), (.int xf)] bw meth c s₁ [] 0 0 := Stand.of_body Bd
 have e0 : s₁.heap = h0 := by rw [← hh, Bd.state]; rfl
 have N0 := Fr.nil n0
 have D := own_D hby dB23
 obtain ⟨G, hG⟩ := own_ex fun t => Steps p.tables e bw (s₁.setTop (entryFrame m #[(.ref ra), (.int 1), (.int 0), (.ref rc), (.int xe), (.int xc), (.int xd), (.int xf)] 9)) t
 have pre0 : oP p e bw G s₁ m 0 #[vR ra, vI 1, vI 0, vR rc, vI xe, vI xc, vI xd, vI xf, vU] [] := by intro t k; subst hG; exact castTop (ef_rm_ck100 m ra rc xe xc xd xf) k
 have qa0 := own_rtS hH
 obtain ⟨C_0, hC_0⟩ := own_ex ([] ++ own_hdr 42 ((1 : Int32) + (0 : Int32)))
 rw [← hC_0] at qa0
 have qa1 := own_rtS qa0.2
 obtain ⟨C_1, hC_1⟩ := own_ex (C_0 ++ own_bulk (own_enc [own_b xc0, own_b xc1, own_b xc2, own_b xc3, own_b xc4]))
 rw [← hC_1] at qa1
 have pre1 : oP p e bw G s₁ m 7 #[vR ra, vI 1, vI 0, vR rc, vI xe, vI xc, vI xd, vI xf, vU] [(.int ((1 : Int32) + (0 : Int32))), (.int 42), (.int 0), (.ref ra)] := by
  intro t k
  refine pre0 t ?_
  refine XS.aloadN X0.here hx rfl (D 0 rfl) rfl rfl ?_
  refine XS.iconst X0.here hx rfl (D 1 rfl) ?_
  refine XS.bipush X0.here hx rfl (D 2 rfl) ?_
  refine XS.iloadN X0.here hx rfl (D 3 rfl) rfl ?_
  refine XS.iloadN X0.here hx rfl (D 4 rfl) rfl ?_
  refine XS.iadd X0.here hx rfl (D 5 rfl) rfl ?_
  exact k
 obtain ⟨_, T2, Lc2, X2, hQ2, pc2⟩ := own_call X0 hx hZ hown (W 122 rfl) (W 123 rfl) (W 120 rfl) (W 124 rfl) (by decide) (rm_hdr l Z a0 hw [] ra (0 : Int32) (42 : Int32) ((1 : Int32) + (0 : Int32)) ka xz l1 ([] : List Int32) _ h0 n0 Z0 VA (qa0.1)) e0 pre1 hml rfl (D 6 rfl) (lenOf pd26 rfl) rfl (W := 0) rfl (by decide)
 obtain ⟨rfl, M2, e2⟩ := hQ2
 have N2 := Fr.app N0 M2
 have pre3 : oP p e bw G T2 m 10 #[vR ra, vI 1, vI 0, vR rc, vI xe, vI xc, vI xd, vI xf, vU] [(.int (own_len (([] : List Int32) ++ own_hdr (42 : Int32) ((1 : Int32) + (0 : Int32)))))] := pc2
 rw [show (own_len (([] : List Int32) ++ own_hdr (42 : Int32) ((1 : Int32) + (0 : Int32)))) = (own_len C_0) from by rw [hC_0]] at pre3
 have pre4 : oP p e bw G T2 m 21 #[vR ra, vI 1, vI 0, vR rc, vI xe, vI xc, vI xd, vI xf, vI (own_len C_0)] [(.ref rc), (.int (own_len C_0)), (.ref ra)] := by
  intro t k
  refine pre3 t ?_
  refine XS.istore X2.here hx rfl (D 7 rfl) rfl (l' := #[vR ra, vI 1, vI 0, vR rc, vI xe, vI xc, vI xd, vI xf, vI (own_len C_0)]) rfl ?_
  refine XS.iloadN X2.here hx rfl (D 8 rfl) rfl ?_
  refine XS.iconst X2.here hx rfl (D 9 rfl) ?_
  refine XS.icmpNo X2.here hx rfl (D 10 rfl) rfl (flt (show ¬ ((1 : Int32) < (1 : Int32)) from by decide)).1 ?_
  refine XS.aloadN X2.here hx rfl (D 30 rfl) rfl rfl ?_
  refine XS.iload X2.here hx rfl (D 31 rfl) rfl ?_
  refine XS.aloadN X2.here hx rfl (D 32 rfl) rfl rfl ?_
  exact k
 obtain ⟨_, T5, Lc5, X5, hQ5, pc5⟩ := own_call X2 hx hZ hown (W 164 rfl) (W 165 rfl) (W 120 rfl) (W 166 rfl) (by decide) (rm_w5 l Z a0 hw [] ra (own_len C_0) rc ka xz l1 C_0 _ kc2 xc0 xc1 xc2 xc3 xc4 h0 n0 Z0 VA (qa1.1) VC2 (ho0) (ho1) (ho2) (ho3) (ho4)) e2 pre4 hml rfl (D 33 rfl) (lenOf pd30 rfl) rfl (W := 0) rfl (by decide)
 obtain ⟨rfl, M5, e5⟩ := hQ5
 have N5 := Fr.app N2 M5
 have pre6 : oP p e bw G T5 m 24 #[vR ra, vI 1, vI 0, vR rc, vI xe, vI xc, vI xd, vI xf, vI (own_len C_0)] [(.int (own_len (C_0 ++ own_bulk (own_enc [own_b xc0, own_b xc1, own_b xc2, own_b xc3, own_b xc4]))))] := pc5
 rw [show (own_len (C_0 ++ own_bulk (own_enc [own_b xc0, own_b xc1, own_b xc2, own_b xc3, own_b xc4]))) = (own_len C_1) from by rw [hC_1]] at pre6
 have pre7 : oP p e bw G T5 m 63 #[vR ra, vI 1, vI 0, vR rc, vI xe, vI xc, vI xd, vI xf, vI (own_len C_1)] [(.ref ra), (.int (own_len C_1))] := by
  intro t k
  refine pre6 t ?_
  refine XS.istore X5.here hx rfl (D 34 rfl) rfl (l' := #[vR ra, vI 1, vI 0, vR rc, vI xe, vI xc, vI xd, vI xf, vI (own_len C_1)]) rfl ?_
  refine XS.iloadN X5.here hx rfl (D 11 rfl) rfl ?_
  refine XS.iconst X5.here hx rfl (D 12 rfl) ?_
  refine XS.icmpYes X5.here hx rfl (pc0 := 28) (pc' := 43) rfl (D 13 rfl) rfl (feq (show ¬ ((1 : Int32) = (2 : Int32)) from by decide)).2 (by decide) (by decide) ?_
  refine XS.iloadN X5.here hx rfl (D 14 rfl) rfl ?_
  refine XS.iconst X5.here hx rfl (D 15 rfl) ?_
  refine XS.icmpYes X5.here hx rfl (pc0 := 45) (pc' := 60) rfl (D 16 rfl) rfl (feq (show ¬ ((0 : Int32) = (1 : Int32)) from by decide)).2 (by decide) (by decide) ?_
  refine XS.iload X5.here hx rfl (D 17 rfl) rfl ?_
  refine XS.aloadN X5.here hx rfl (D 18 rfl) rfl rfl ?_
  exact k
 have pre9 : oP p e bw G T5 m 72 #[vR ra, vI 1, vI 0, vR rc, vI xe, vI xc, vI xd, vI xf, vI (own_len C_1)] [(.int 1)] := by
  intro t k
  refine pre7 t ?_
  obtain ⟨c8, a8, q8, s8, m8, i8, u8⟩ := id VA
  refine X5.arraylength hx (by rw [e5]; exact a8.1) (State.isArrayOf_alike hZ.alike a8.2.1) (g := (own_g pre7)) rfl rfl (D 19 rfl) _ ?_
  rw [len_of s8 m8]
  refine XS.icmpNo X5.here hx rfl (D 20 rfl) rfl (teq (show (own_len C_1) = xz from own_fin qa1.2)).2 ?_
  refine XS.iconst X5.here hx rfl (D 21 rfl) ?_
  refine XS.goto X5.here hx rfl (pc0 := 68) (pc' := 72) rfl (D 22 rfl) (by decide) (by decide) ?_
  exact k
 obtain ⟨fs, hr, hrun, hended, hW, hsame⟩ := X5.leave (hlocks := Bd.notSynchronized) (v := some (.int 1)) (fun h => by rw [Bd.returns] at h; cases h)
 subst hG
 refine ⟨_, _, pre9 _ ?_, hrun, hended, _, _, rfl, ?_, ⟨_, rfl⟩, hW, hsame.mono (by decide) (by decide)⟩
 ·exact retN X5 hx (t := .boolean) Bd.returns (by simp) (D 23 rfl) hr
 ·show Q_rm_ck100 Z ra rc xe xc xd xf ka xz l1 kc2 xc0 xc1 xc2 xc3 xc4 h0 n0 _ T5.heap _
  rw [e5]
  exact ⟨rfl, N5, rfl⟩
theorem ef_rm_ck110 (m : MethodId) (ra : Addr) (rc : Addr) (xe : Int32) (xc : Int32) (xd : Int32) (xf : Int32) : entryFrame m #[(.ref ra), (.int 1), (.int 1), (.ref rc), (.int xe), (.int xc), (.int xd), (.int xf)] 9 = mkF m 0 #[vR ra, vI 1, vI 1, vR rc, vI xe, vI xc, vI xd, vI xf, vU] [] := by simp [entryFrame, mkF, argsToLocals, Value.category]
def Q_rm_ck110 (Z : State) (ra : Addr) (rc : Addr) (xe : Int32) (xc : Int32) (xd : Int32) (xf : Int32) (ka : ClassId) (xz : Int32) (l1 : List Int32) (kc2 : ClassId) (xc0 : Int32) (xc1 : Int32) (xc2 : Int32) (xc3 : Int32) (xc4 : Int32) (h0 : Heap) (n0 : Nat) (v : Option Value) (h : Heap) (L : List Loc) : Prop := v = some (.int 1) ∧ Fr n0 L ∧ h = h0
set_option maxRecDepth 65536 in
set_option maxHeartbeats 40000000 in
theorem rm_ck110 (l : Launch) (Z : State) (a0 : Array Value) (hw : ∀ d ∈ tables_1, d.before a0 Z = true) (ws : List Jvm.Cond) (ra : Addr) (rc : Addr) (xe : Int32) (xc : Int32) (xd : Int32) (xf : Int32) (ka : ClassId) (xz : Int32) (l1 : List Int32) (kc2 : ClassId) (xc0 : Int32) (xc1 : Int32) (xc2 : Int32) (xc3 : Int32) (xc4 : Int32) (h0 : Heap) (n0 : Nat) (Z0 : n0 ≤ h0.size) (VA : Arv Z h0 ra ka .byte xz (l1.map Value.int) (.int 0)) (hH : own_RT l1 [] (own_hdr 42 ((1 : Int32) + (1 : Int32)) ++ (own_bulk (own_enc [own_b xc0, own_b xc1, own_b xc2, own_b xc3, own_b xc4]) ++ (own_bulk (own_enc [own_b xd, own_b xf]) ++ []))) [] (0 : Int32) xz) (VC2 : Arv Z h0 rc kc2 .char (5 : Int32) [(.int xc0), (.int xc1), (.int xc2), (.int xc3), (.int xc4)] (.int 0)) (ho0 : own_OKc xc0) (ho1 : own_OKc xc1) (ho2 : own_OKc xc2) (ho3 : own_OKc xc3) (ho4 : own_OKc xc4) (hod : own_OKc xd) (hof : own_OKc xf) :
  oMet l oM1 method_3_code 9 (some .boolean) ws (oR 2 0 0 32) #[(.ref ra), (.int 1), (.int 1), (.ref rc), (.int xe), (.int xc), (.int xd), (.int xf)] Z h0 (Q_rm_ck110 Z ra rc xe xc xd xf ka xz l1 kc2 xc0 xc1 xc2 xc3 xc4 h0 n0) := by
 refine MetFree.of_bodySF (plainFor_of_name pn4) hisR ?_
 have W := own_W hw
 intro p e s m args bw meth c s₁ Bd hml0 hP hK
 obtain ⟨rfl, hZ, hh⟩ := hP
 have hx := Bd.exec
 have hby := Bd.bytes
 have hml : c.maxLocals = 9 := hml0
 have hown : s.vm.findClass oS3 = some m.cls := findClass_of_methodNamed Bd.named
 have hnm := (name_of_methodNamed Bd.named Bd.method).1
 have X0 : Stand p l e (oR 2 0 0 32) s m #[(.ref ra), (.int 1), (.int 1), (.ref rc), (.int xe), (.int xc), (.int xd), (.int xf)] bw meth c s₁ [] 0 0 := Stand.of_body Bd
 have e0 : s₁.heap = h0 := by rw [← hh, Bd.state]; rfl
 have N0 := Fr.nil n0
 have D := own_D hby dB23
 obtain ⟨G, hG⟩ := own_ex fun t => Steps p.tables e bw (s₁.setTop (entryFrame m #[(.ref ra), (.int 1), (.int 1), (.ref rc), (.int xe), (.int xc), (.int xd), (.int xf)] 9)) t
 have pre0 : oP p e bw G s₁ m 0 #[vR ra, vI 1, vI 1, vR rc, vI xe, vI xc, vI xd, vI xf, vU] [] := by intro t k; subst hG; exact castTop (ef_rm_ck110 m ra rc xe xc xd xf) k
 have qa0 := own_rtS hH
 obtain ⟨C_0, hC_0⟩ := own_ex ([] ++ own_hdr 42 ((1 : Int32) + (1 : Int32)))
 rw [← hC_0] at qa0
 have qa1 := own_rtS qa0.2
 obtain ⟨C_1, hC_1⟩ := own_ex (C_0 ++ own_bulk (own_enc [own_b xc0, own_b xc1, own_b xc2, own_b xc3, own_b xc4]))
 rw [← hC_1] at qa1
 have qa2 := own_rtS qa1.2
 obtain ⟨C_2, hC_2⟩ := own_ex (C_1 ++ own_bulk (own_enc [own_b xd, own_b xf]))
 rw [← hC_2] at qa2
 have pre1 : oP p e bw G s₁ m 7 #[vR ra, vI 1, vI 1, vR rc, vI xe, vI xc, vI xd, vI xf, vU] [(.int ((1 : Int32) + (1 : Int32))), (.int 42), (.int 0), (.ref ra)] := by
  intro t k
  refine pre0 t ?_
  refine XS.aloadN X0.here hx rfl (D 0 rfl) rfl rfl ?_
  refine XS.iconst X0.here hx rfl (D 1 rfl) ?_
  refine XS.bipush X0.here hx rfl (D 2 rfl) ?_
  refine XS.iloadN X0.here hx rfl (D 3 rfl) rfl ?_
  refine XS.iloadN X0.here hx rfl (D 4 rfl) rfl ?_
  refine XS.iadd X0.here hx rfl (D 5 rfl) rfl ?_
  exact k
 obtain ⟨_, T2, Lc2, X2, hQ2, pc2⟩ := own_call X0 hx hZ hown (W 122 rfl) (W 123 rfl) (W 120 rfl) (W 124 rfl) (by decide) (rm_hdr l Z a0 hw [] ra (0 : Int32) (42 : Int32) ((1 : Int32) + (1 : Int32)) ka xz l1 ([] : List Int32) _ h0 n0 Z0 VA (qa0.1)) e0 pre1 hml rfl (D 6 rfl) (lenOf pd26 rfl) rfl (W := 0) rfl (by decide)
 obtain ⟨rfl, M2, e2⟩ := hQ2
 have N2 := Fr.app N0 M2
 have pre3 : oP p e bw G T2 m 10 #[vR ra, vI 1, vI 1, vR rc, vI xe, vI xc, vI xd, vI xf, vU] [(.int (own_len (([] : List Int32) ++ own_hdr (42 : Int32) ((1 : Int32) + (1 : Int32)))))] := pc2
 rw [show (own_len (([] : List Int32) ++ own_hdr (42 : Int32) ((1 : Int32) + (1 : Int32)))) = (own_len C_0) from by rw [hC_0]] at pre3
 have pre4 : oP p e bw G T2 m 21 #[vR ra, vI 1, vI 1, vR rc, vI xe, vI xc, vI xd, vI xf, vI (own_len C_0)] [(.ref rc), (.int (own_len C_0)), (.ref ra)] := by
  intro t k
  refine pre3 t ?_
  refine XS.istore X2.here hx rfl (D 7 rfl) rfl (l' := #[vR ra, vI 1, vI 1, vR rc, vI xe, vI xc, vI xd, vI xf, vI (own_len C_0)]) rfl ?_
  refine XS.iloadN X2.here hx rfl (D 8 rfl) rfl ?_
  refine XS.iconst X2.here hx rfl (D 9 rfl) ?_
  refine XS.icmpNo X2.here hx rfl (D 10 rfl) rfl (flt (show ¬ ((1 : Int32) < (1 : Int32)) from by decide)).1 ?_
  refine XS.aloadN X2.here hx rfl (D 30 rfl) rfl rfl ?_
  refine XS.iload X2.here hx rfl (D 31 rfl) rfl ?_
  refine XS.aloadN X2.here hx rfl (D 32 rfl) rfl rfl ?_
  exact k
 obtain ⟨_, T5, Lc5, X5, hQ5, pc5⟩ := own_call X2 hx hZ hown (W 164 rfl) (W 165 rfl) (W 120 rfl) (W 166 rfl) (by decide) (rm_w5 l Z a0 hw [] ra (own_len C_0) rc ka xz l1 C_0 _ kc2 xc0 xc1 xc2 xc3 xc4 h0 n0 Z0 VA (qa1.1) VC2 (ho0) (ho1) (ho2) (ho3) (ho4)) e2 pre4 hml rfl (D 33 rfl) (lenOf pd30 rfl) rfl (W := 0) rfl (by decide)
 obtain ⟨rfl, M5, e5⟩ := hQ5
 have N5 := Fr.app N2 M5
 have pre6 : oP p e bw G T5 m 24 #[vR ra, vI 1, vI 1, vR rc, vI xe, vI xc, vI xd, vI xf, vI (own_len C_0)] [(.int (own_len (C_0 ++ own_bulk (own_enc [own_b xc0, own_b xc1, own_b xc2, own_b xc3, own_b xc4]))))] := pc5
 rw [show (own_len (C_0 ++ own_bulk (own_enc [own_b xc0, own_b xc1, own_b xc2, own_b xc3, own_b xc4]))) = (own_len C_1) from by rw [hC_1]] at pre6
 have pre7 : oP p e bw G T5 m 55 #[vR ra, vI 1, vI 1, vR rc, vI xe, vI xc, vI xd, vI xf, vI (own_len C_1)] [(.int xf), (.int xd), (.int (own_len C_1)), (.ref ra)] := by
  intro t k
  refine pre6 t ?_
  refine XS.istore X5.here hx rfl (D 34 rfl) rfl (l' := #[vR ra, vI 1, vI 1, vR rc, vI xe, vI xc, vI xd, vI xf, vI (own_len C_1)]) rfl ?_
  refine XS.iloadN X5.here hx rfl (D 11 rfl) rfl ?_
  refine XS.iconst X5.here hx rfl (D 12 rfl) ?_
  refine XS.icmpYes X5.here hx rfl (pc0 := 28) (pc' := 43) rfl (D 13 rfl) rfl (feq (show ¬ ((1 : Int32) = (2 : Int32)) from by decide)).2 (by decide) (by decide) ?_
  refine XS.iloadN X5.here hx rfl (D 14 rfl) rfl ?_
  refine XS.iconst X5.here hx rfl (D 15 rfl) ?_
  refine XS.icmpNo X5.here hx rfl (D 16 rfl) rfl (teq (show (1 : Int32) = (1 : Int32) from by decide)).2 ?_
  refine XS.aloadN X5.here hx rfl (D 24 rfl) rfl rfl ?_
  refine XS.iload X5.here hx rfl (D 25 rfl) rfl ?_
  refine XS.iload X5.here hx rfl (D 26 rfl) rfl ?_
  refine XS.iload X5.here hx rfl (D 27 rfl) rfl ?_
  exact k
 obtain ⟨_, T8, Lc8, X8, hQ8, pc8⟩ := own_call X5 hx hZ hown (W 194 rfl) (W 195 rfl) (W 120 rfl) (W 196 rfl) (by decide) (rm_w2 l Z a0 hw [] ra (own_len C_1) xd xf ka xz l1 C_1 _ h0 n0 Z0 VA (qa2.1) (hod) (hof)) e5 pre7 hml rfl (D 28 rfl) (lenOf pd29 rfl) rfl (W := 0) rfl (by decide)
 obtain ⟨rfl, M8, e8⟩ := hQ8
 have N8 := Fr.app N5 M8
 have pre9 : oP p e bw G T8 m 58 #[vR ra, vI 1, vI 1, vR rc, vI xe, vI xc, vI xd, vI xf, vI (own_len C_1)] [(.int (own_len (C_1 ++ own_bulk (own_enc [own_b xd, own_b xf]))))] := pc8
 rw [show (own_len (C_1 ++ own_bulk (own_enc [own_b xd, own_b xf]))) = (own_len C_2) from by rw [hC_2]] at pre9
 have pre10 : oP p e bw G T8 m 63 #[vR ra, vI 1, vI 1, vR rc, vI xe, vI xc, vI xd, vI xf, vI (own_len C_2)] [(.ref ra), (.int (own_len C_2))] := by
  intro t k
  refine pre9 t ?_
  refine XS.istore X8.here hx rfl (D 29 rfl) rfl (l' := #[vR ra, vI 1, vI 1, vR rc, vI xe, vI xc, vI xd, vI xf, vI (own_len C_2)]) rfl ?_
  refine XS.iload X8.here hx rfl (D 17 rfl) rfl ?_
  refine XS.aloadN X8.here hx rfl (D 18 rfl) rfl rfl ?_
  exact k
 have pre12 : oP p e bw G T8 m 72 #[vR ra, vI 1, vI 1, vR rc, vI xe, vI xc, vI xd, vI xf, vI (own_len C_2)] [(.int 1)] := by
  intro t k
  refine pre10 t ?_
  obtain ⟨c11, a11, q11, s11, m11, i11, u11⟩ := id VA
  refine X8.arraylength hx (by rw [e8]; exact a11.1) (State.isArrayOf_alike hZ.alike a11.2.1) (g := (own_g pre10)) rfl rfl (D 19 rfl) _ ?_
  rw [len_of s11 m11]
  refine XS.icmpNo X8.here hx rfl (D 20 rfl) rfl (teq (show (own_len C_2) = xz from own_fin qa2.2)).2 ?_
  refine XS.iconst X8.here hx rfl (D 21 rfl) ?_
  refine XS.goto X8.here hx rfl (pc0 := 68) (pc' := 72) rfl (D 22 rfl) (by decide) (by decide) ?_
  exact k
 obtain ⟨fs, hr, hrun, hended, hW, hsame⟩ := X8.leave (hlocks := Bd.notSynchronized) (v := some (.int 1)) (fun h => by rw [Bd.returns] at h; cases h)
 subst hG
 refine ⟨_, _, pre12 _ ?_, hrun, hended, _, _, rfl, ?_, ⟨_, rfl⟩, hW, hsame.mono (by decide) (by decide)⟩
 ·exact retN X8 hx (t := .boolean) Bd.returns (by simp) (D 23 rfl) hr
 ·show Q_rm_ck110 Z ra rc xe xc xd xf ka xz l1 kc2 xc0 xc1 xc2 xc3 xc4 h0 n0 _ T8.heap _
  rw [e8]
  exact ⟨rfl, N8, rfl⟩
theorem pd31 : parseMethodDescriptor "([BIZC)I" = some ⟨[(.array .byte), .int, .boolean, .char], some .int⟩ := by decide +kernel
theorem ef_rm_ck200 (m : MethodId) (ra : Addr) (rc : Addr) (xc : Int32) (xd : Int32) (xf : Int32) : entryFrame m #[(.ref ra), (.int 2), (.int 0), (.ref rc), (.int 0), (.int xc), (.int xd), (.int xf)] 9 = mkF m 0 #[vR ra, vI 2, vI 0, vR rc, vI 0, vI xc, vI xd, vI xf, vU] [] := by simp [entryFrame, mkF, argsToLocals, Value.category]
def Q_rm_ck200 (Z : State) (ra : Addr) (rc : Addr) (xc : Int32) (xd : Int32) (xf : Int32) (ka : ClassId) (xz : Int32) (l1 : List Int32) (kc2 : ClassId) (xc0 : Int32) (xc1 : Int32) (xc2 : Int32) (xc3 : Int32) (xc4 : Int32) (h0 : Heap) (n0 : Nat) (v : Option Value) (h : Heap) (L : List Loc) : Prop := v = some (.int 1) ∧ Fr n0 L ∧ h = h0
set_option maxRecDepth 65536 in
set_option maxHeartbeats 40000000 in
theorem rm_ck200 (l : Launch) (Z : State) (a0 : Array Value) (hw : ∀ d ∈ tables_1, d.before a0 Z = true) (ws : List Jvm.Cond) (ra : Addr) (rc : Addr) (xc : Int32) (xd : Int32) (xf : Int32) (ka : ClassId) (xz : Int32) (l1 : List Int32) (kc2 : ClassId) (xc0 : Int32) (xc1 : Int32) (xc2 : Int32) (xc3 : Int32) (xc4 : Int32) (h0 : Heap) (n0 : Nat) (Z0 : n0 ≤ h0.size) (VA : Arv Z h0 ra ka .byte xz (l1.map Value.int) (.int 0)) (hH : own_RT l1 [] (own_hdr 42 ((2 : Int32) + (0 : Int32)) ++ (own_bulk (own_enc [own_b xc0, own_b xc1, own_b xc2, own_b xc3, own_b xc4]) ++ (own_bulk (own_enc [own_b xc]) ++ []))) [] (0 : Int32) xz) (VC2 : Arv Z h0 rc kc2 .char (5 : Int32) [(.int xc0), (.int xc1), (.int xc2), (.int xc3), (.int xc4)] (.int 0)) (ho0 : own_OKc xc0) (ho1 : own_OKc xc1) (ho2 : own_OKc xc2) (ho3 : own_OKc xc3) (ho4 : own_OKc xc4) (hoc : own_OKc xc) :
  oMet l oM1 method_3_code 9 (some .boolean) ws (oR 2 0 0 32) #[(.ref ra), (.int 2), (.int 0), (.ref rc), (.int 0), (.int xc), (.int xd), (.int xf)] Z h0 (Q_rm_ck200 Z ra rc xc xd xf ka xz l1 kc2 xc0 xc1 xc2 xc3 xc4 h0 n0) := by
 refine MetFree.of_bodySF (plainFor_of_name pn4) hisR ?_
 have W := own_W hw
 intro p e s m args bw meth c s₁ Bd hml0 hP hK
 obtain ⟨rfl, hZ, hh⟩ := hP
 have hx := Bd.exec
 have hby := Bd.bytes
 have hml : c.maxLocals = 9 := hml0
 have hown : s.vm.findClass oS3 = some m.cls := findClass_of_methodNamed Bd.named
 have hnm := (name_of_methodNamed Bd.named Bd.method).1
 have X0 : Stand p l e (oR 2 0 0 32) s m #[(.ref ra), (.int 2), (.int 0), (.ref rc), (.int 0), (.int xc), (.int xd), (.int xf)] bw meth c s₁ [] 0 0 := Stand.of_body Bd
 have e0 : s₁.heap = h0 := by rw [← hh, Bd.state]; rfl
 have N0 := Fr.nil n0
 have D := own_D hby dB23
 obtain ⟨G, hG⟩ := own_ex fun t => Steps p.tables e bw (s₁.setTop (entryFrame m #[(.ref ra), (.int 2), (.int 0), (.ref rc), (.int 0), (.int xc), (.int xd), (.int xf)] 9)) t
 have pre0 : oP p e bw G s₁ m 0 #[vR ra, vI 2, vI 0, vR rc, vI 0, vI xc, vI xd, vI xf, vU] [] := by intro t k; subst hG; exact castTop (ef_rm_ck200 m ra rc xc xd xf) k
 have qa0 := own_rtS hH
 obtain ⟨C_0, hC_0⟩ := own_ex ([] ++ own_hdr 42 ((2 : Int32) + (0 : Int32)))
 rw [← hC_0] at qa0
 have qa1 := own_rtS qa0.2
 obtain ⟨C_1, hC_1⟩ := own_ex (C_0 ++ own_bulk (own_enc [own_b xc0, own_b xc1, own_b xc2, own_b xc3, own_b xc4]))
 rw [← hC_1] at qa1
 have qa2 := own_rtS qa1.2
 obtain ⟨C_2, hC_2⟩ := own_ex (C_1 ++ own_bulk (own_enc [own_b xc]))
 rw [← hC_2] at qa2
 have pre1 : oP p e bw G s₁ m 7 #[vR ra, vI 2, vI 0, vR rc, vI 0, vI xc, vI xd, vI xf, vU] [(.int ((2 : Int32) + (0 : Int32))), (.int 42), (.int 0), (.ref ra)] := by
  intro t k
  refine pre0 t ?_
  refine XS.aloadN X0.here hx rfl (D 0 rfl) rfl rfl ?_
  refine XS.iconst X0.here hx rfl (D 1 rfl) ?_
  refine XS.bipush X0.here hx rfl (D 2 rfl) ?_
  refine XS.iloadN X0.here hx rfl (D 3 rfl) rfl ?_
  refine XS.iloadN X0.here hx rfl (D 4 rfl) rfl ?_
  refine XS.iadd X0.here hx rfl (D 5 rfl) rfl ?_
  exact k
 obtain ⟨_, T2, Lc2, X2, hQ2, pc2⟩ := own_call X0 hx hZ hown (W 122 rfl) (W 123 rfl) (W 120 rfl) (W 124 rfl) (by decide) (rm_hdr l Z a0 hw [] ra (0 : Int32) (42 : Int32) ((2 : Int32) + (0 : Int32)) ka xz l1 ([] : List Int32) _ h0 n0 Z0 VA (qa0.1)) e0 pre1 hml rfl (D 6 rfl) (lenOf pd26 rfl) rfl (W := 0) rfl (by decide)
 obtain ⟨rfl, M2, e2⟩ := hQ2
 have N2 := Fr.app N0 M2
 have pre3 : oP p e bw G T2 m 10 #[vR ra, vI 2, vI 0, vR rc, vI 0, vI xc, vI xd, vI xf, vU] [(.int (own_len (([] : List Int32) ++ own_hdr (42 : Int32) ((2 : Int32) + (0 : Int32)))))] := pc2
 rw [show (own_len (([] : List Int32) ++ own_hdr (42 : Int32) ((2 : Int32) + (0 : Int32)))) = (own_len C_0) from by rw [hC_0]] at pre3
 have pre4 : oP p e bw G T2 m 21 #[vR ra, vI 2, vI 0, vR rc, vI 0, vI xc, vI xd, vI xf, vI (own_len C_0)] [(.ref rc), (.int (own_len C_0)), (.ref ra)] := by
  intro t k
  refine pre3 t ?_
  refine XS.istore X2.here hx rfl (D 7 rfl) rfl (l' := #[vR ra, vI 2, vI 0, vR rc, vI 0, vI xc, vI xd, vI xf, vI (own_len C_0)]) rfl ?_
  refine XS.iloadN X2.here hx rfl (D 8 rfl) rfl ?_
  refine XS.iconst X2.here hx rfl (D 9 rfl) ?_
  refine XS.icmpNo X2.here hx rfl (D 10 rfl) rfl (flt (show ¬ ((2 : Int32) < (1 : Int32)) from by decide)).1 ?_
  refine XS.aloadN X2.here hx rfl (D 30 rfl) rfl rfl ?_
  refine XS.iload X2.here hx rfl (D 31 rfl) rfl ?_
  refine XS.aloadN X2.here hx rfl (D 32 rfl) rfl rfl ?_
  exact k
 obtain ⟨_, T5, Lc5, X5, hQ5, pc5⟩ := own_call X2 hx hZ hown (W 164 rfl) (W 165 rfl) (W 120 rfl) (W 166 rfl) (by decide) (rm_w5 l Z a0 hw [] ra (own_len C_0) rc ka xz l1 C_0 _ kc2 xc0 xc1 xc2 xc3 xc4 h0 n0 Z0 VA (qa1.1) VC2 (ho0) (ho1) (ho2) (ho3) (ho4)) e2 pre4 hml rfl (D 33 rfl) (lenOf pd30 rfl) rfl (W := 0) rfl (by decide)
 obtain ⟨rfl, M5, e5⟩ := hQ5
 have N5 := Fr.app N2 M5
 have pre6 : oP p e bw G T5 m 24 #[vR ra, vI 2, vI 0, vR rc, vI 0, vI xc, vI xd, vI xf, vI (own_len C_0)] [(.int (own_len (C_0 ++ own_bulk (own_enc [own_b xc0, own_b xc1, own_b xc2, own_b xc3, own_b xc4]))))] := pc5
 rw [show (own_len (C_0 ++ own_bulk (own_enc [own_b xc0, own_b xc1, own_b xc2, own_b xc3, own_b xc4]))) = (own_len C_1) from by rw [hC_1]] at pre6
 have pre7 : oP p e bw G T5 m 38 #[vR ra, vI 2, vI 0, vR rc, vI 0, vI xc, vI xd, vI xf, vI (own_len C_1)] [(.int xc), (.int 0), (.int (own_len C_1)), (.ref ra)] := by
  intro t k
  refine pre6 t ?_
  refine XS.istore X5.here hx rfl (D 34 rfl) rfl (l' := #[vR ra, vI 2, vI 0, vR rc, vI 0, vI xc, vI xd, vI xf, vI (own_len C_1)]) rfl ?_
  refine XS.iloadN X5.here hx rfl (D 11 rfl) rfl ?_
  refine XS.iconst X5.here hx rfl (D 12 rfl) ?_
  refine XS.icmpNo X5.here hx rfl (D 13 rfl) rfl (teq (show (2 : Int32) = (2 : Int32) from by decide)).2 ?_
  refine XS.aloadN X5.here hx rfl (D 35 rfl) rfl rfl ?_
  refine XS.iload X5.here hx rfl (D 36 rfl) rfl ?_
  refine XS.iload X5.here hx rfl (D 37 rfl) rfl ?_
  refine XS.iload X5.here hx rfl (D 38 rfl) rfl ?_
  exact k
 obtain ⟨_, T8, Lc8, X8, hQ8, pc8⟩ := own_call X5 hx hZ hown (W 191 rfl) (W 192 rfl) (W 120 rfl) (W 193 rfl) (by decide) (rm_w1_0 l Z a0 hw [] ra (own_len C_1) xc ka xz l1 C_1 _ h0 n0 Z0 VA (qa2.1) (hoc)) e5 pre7 hml rfl (D 39 rfl) (lenOf pd31 rfl) rfl (W := 0) rfl (by decide)
 obtain ⟨rfl, M8, e8⟩ := hQ8
 have N8 := Fr.app N5 M8
 have pre9 : oP p e bw G T8 m 41 #[vR ra, vI 2, vI 0, vR rc, vI 0, vI xc, vI xd, vI xf, vI (own_len C_1)] [(.int (own_len (C_1 ++ own_bulk (own_enc [own_b xc]))))] := pc8
 rw [show (own_len (C_1 ++ own_bulk (own_enc [own_b xc]))) = (own_len C_2) from by rw [hC_2]] at pre9
 have pre10 : oP p e bw G T8 m 63 #[vR ra, vI 2, vI 0, vR rc, vI 0, vI xc, vI xd, vI xf, vI (own_len C_2)] [(.ref ra), (.int (own_len C_2))] := by
  intro t k
  refine pre9 t ?_
  refine XS.istore X8.here hx rfl (D 40 rfl) rfl (l' := #[vR ra, vI 2, vI 0, vR rc, vI 0, vI xc, vI xd, vI xf, vI (own_len C_2)]) rfl ?_
  refine XS.iloadN X8.here hx rfl (D 14 rfl) rfl ?_
  refine XS.iconst X8.here hx rfl (D 15 rfl) ?_
  refine XS.icmpYes X8.here hx rfl (pc0 := 45) (pc' := 60) rfl (D 16 rfl) rfl (feq (show ¬ ((0 : Int32) = (1 : Int32)) from by decide)).2 (by decide) (by decide) ?_
  refine XS.iload X8.here hx rfl (D 17 rfl) rfl ?_
  refine XS.aloadN X8.here hx rfl (D 18 rfl) rfl rfl ?_
  exact k
 have pre12 : oP p e bw G T8 m 72 #[vR ra, vI 2, vI 0, vR rc, vI 0, vI xc, vI xd, vI xf, vI (own_len C_2)] [(.int 1)] := by
  intro t k
  refine pre10 t ?_
  obtain ⟨c11, a11, q11, s11, m11, i11, u11⟩ := id VA
  refine X8.arraylength hx (by rw [e8]; exact a11.1) (State.isArrayOf_alike hZ.alike a11.2.1) (g := (own_g pre10)) rfl rfl (D 19 rfl) _ ?_
  rw [len_of s11 m11]
  refine XS.icmpNo X8.here hx rfl (D 20 rfl) rfl (teq (show (own_len C_2) = xz from own_fin qa2.2)).2 ?_
  refine XS.iconst X8.here hx rfl (D 21 rfl) ?_
  refine XS.goto X8.here hx rfl (pc0 := 68) (pc' := 72) rfl (D 22 rfl) (by decide) (by decide) ?_
  exact k
 obtain ⟨fs, hr, hrun, hended, hW, hsame⟩ := X8.leave (hlocks := Bd.notSynchronized) (v := some (.int 1)) (fun h => by rw [Bd.returns] at h; cases h)
 subst hG
 refine ⟨_, _, pre12 _ ?_, hrun, hended, _, _, rfl, ?_, ⟨_, rfl⟩, hW, hsame.mono (by decide) (by decide)⟩
 ·exact retN X8 hx (t := .boolean) Bd.returns (by simp) (D 23 rfl) hr
 ·show Q_rm_ck200 Z ra rc xc xd xf ka xz l1 kc2 xc0 xc1 xc2 xc3 xc4 h0 n0 _ T8.heap _
  rw [e8]
  exact ⟨rfl, N8, rfl⟩
theorem ef_rm_ck201 (m : MethodId) (ra : Addr) (rc : Addr) (xc : Int32) (xd : Int32) (xf : Int32) : entryFrame m #[(.ref ra), (.int 2), (.int 0), (.ref rc), (.int 1), (.int xc), (.int xd), (.int xf)] 9 = mkF m 0 #[vR ra, vI 2, vI 0, vR rc, vI 1, vI xc, vI xd, vI xf, vU] [] := by simp [entryFrame, mkF, argsToLocals, Value.category]
def Q_rm_ck201 (Z : State) (ra : Addr) (rc : Addr) (xc : Int32) (xd : Int32) (xf : Int32) (ka : ClassId) (xz : Int32) (l1 : List Int32) (kc2 : ClassId) (xc0 : Int32) (xc1 : Int32) (xc2 : Int32) (xc3 : Int32) (xc4 : Int32) (h0 : Heap) (n0 : Nat) (v : Option Value) (h : Heap) (L : List Loc) : Prop := v = some (.int 1) ∧ Fr n0 L ∧ h = h0
set_option maxRecDepth 65536 in
set_option maxHeartbeats 40000000 in
theorem rm_ck201 (l : Launch) (Z : State) (a0 : Array Value) (hw : ∀ d ∈ tables_1, d.before a0 Z = true) (ws : List Jvm.Cond) (ra : Addr) (rc : Addr) (xc : Int32) (xd : Int32) (xf : Int32) (ka : ClassId) (xz : Int32) (l1 : List Int32) (kc2 : ClassId) (xc0 : Int32) (xc1 : Int32) (xc2 : Int32) (xc3 : Int32) (xc4 : Int32) (h0 : Heap) (n0 : Nat) (Z0 : n0 ≤ h0.size) (VA : Arv Z h0 ra ka .byte xz (l1.map Value.int) (.int 0)) (hH : own_RT l1 [] (own_hdr 42 ((2 : Int32) + (0 : Int32)) ++ (own_bulk (own_enc [own_b xc0, own_b xc1, own_b xc2, own_b xc3, own_b xc4]) ++ (own_bulk (own_enc []) ++ []))) [] (0 : Int32) xz) (VC2 : Arv Z h0 rc kc2 .char (5 : Int32) [(.int xc0), (.int xc1), (.int xc2), (.int xc3), (.int xc4)] (.int 0)) (ho0 : own_OKc xc0) (ho1 : own_OKc xc1) (ho2 : own_OKc xc2) (ho3 : own_OKc xc3) (ho4 : own_OKc xc4) :
  oMet l oM1 method_3_code 9 (some .boolean) ws (oR 2 0 0 32) #[(.ref ra), (.int 2), (.int 0), (.ref rc), (.int 1), (.int xc), (.int xd), (.int xf)] Z h0 (Q_rm_ck201 Z ra rc xc xd xf ka xz l1 kc2 xc0 xc1 xc2 xc3 xc4 h0 n0) := by
 refine MetFree.of_bodySF (plainFor_of_name pn4) hisR ?_
 have W := own_W hw
 intro p e s m args bw meth c s₁ Bd hml0 hP hK
 obtain ⟨rfl, hZ, hh⟩ := hP
 have hx := Bd.exec
 have hby := Bd.bytes
 have hml : c.maxLocals = 9 := hml0
 have hown : s.vm.findClass oS3 = some m.cls := findClass_of_methodNamed Bd.named
 have hnm := (name_of_methodNamed Bd.named Bd.method).1
 have X0 : Stand p l e (oR 2 0 0 32) s m #[(.ref ra), (.int 2), (.int 0), (.ref rc), (.int 1), (.int xc), (.int xd), (.int xf)] bw meth c s₁ [] 0 0 := Stand.of_body Bd
 have e0 : s₁.heap = h0 := by rw [← hh, Bd.state]; rfl
 have N0 := Fr.nil n0
 have D := own_D hby dB23
 obtain ⟨G, hG⟩ := own_ex fun t => Steps p.tables e bw (s₁.setTop (entryFrame m #[(.ref ra), (.int 2), (.int 0), (.ref rc), (.int 1), (.int xc), (.int xd), (.int xf)] 9)) t
 have pre0 : oP p e bw G s₁ m 0 #[vR ra, vI 2, vI 0, vR rc, vI 1, vI xc, vI xd, vI xf, vU] [] := by intro t k; subst hG; exact castTop (ef_rm_ck201 m ra rc xc xd xf) k
 have qa0 := own_rtS hH
 obtain ⟨C_0, hC_0⟩ := own_ex ([] ++ own_hdr 42 ((2 : Int32) + (0 : Int32)))
 rw [← hC_0] at qa0
 have qa1 := own_rtS qa0.2
 obtain ⟨C_1, hC_1⟩ := own_ex (C_0 ++ own_bulk (own_enc [own_b xc0, own_b xc1, own_b xc2, own_b xc3, own_b xc4]))
 rw [← hC_1] at qa1
 have qa2 := own_rtS qa1.2
 obtain ⟨C_2, hC_2⟩ := own_ex (C_1 ++ own_bulk (own_enc []))
 rw [← hC_2] at qa2
 have pre1 : oP p e bw G s₁ m 7 #[vR ra, vI 2, vI 0, vR rc, vI 1, vI xc, vI xd, vI xf, vU] [(.int ((2 : Int32) + (0 : Int32))), (.int 42), (.int 0), (.ref ra)] := by
  intro t k
  refine pre0 t ?_
  refine XS.aloadN X0.here hx rfl (D 0 rfl) rfl rfl ?_
  refine XS.iconst X0.here hx rfl (D 1 rfl) ?_
  refine XS.bipush X0.here hx rfl (D 2 rfl) ?_
  refine XS.iloadN X0.here hx rfl (D 3 rfl) rfl ?_
  refine XS.iloadN X0.here hx rfl (D 4 rfl) rfl ?_
  refine XS.iadd X0.here hx rfl (D 5 rfl) rfl ?_
  exact k
 obtain ⟨_, T2, Lc2, X2, hQ2, pc2⟩ := own_call X0 hx hZ hown (W 122 rfl) (W 123 rfl) (W 120 rfl) (W 124 rfl) (by decide) (rm_hdr l Z a0 hw [] ra (0 : Int32) (42 : Int32) ((2 : Int32) + (0 : Int32)) ka xz l1 ([] : List Int32) _ h0 n0 Z0 VA (qa0.1)) e0 pre1 hml rfl (D 6 rfl) (lenOf pd26 rfl) rfl (W := 0) rfl (by decide)
 obtain ⟨rfl, M2, e2⟩ := hQ2
 have N2 := Fr.app N0 M2
 have pre3 : oP p e bw G T2 m 10 #[vR ra, vI 2, vI 0, vR rc, vI 1, vI xc, vI xd, vI xf, vU] [(.int (own_len (([] : List Int32) ++ own_hdr (42 : Int32) ((2 : Int32) + (0 : Int32)))))] := pc2
 rw [show (own_len (([] : List Int32) ++ own_hdr (42 : Int32) ((2 : Int32) + (0 : Int32)))) = (own_len C_0) from by rw [hC_0]] at pre3
 have pre4 : oP p e bw G T2 m 21 #[vR ra, vI 2, vI 0, vR rc, vI 1, vI xc, vI xd, vI xf, vI (own_len C_0)] [(.ref rc), (.int (own_len C_0)), (.ref ra)] := by
  intro t k
  refine pre3 t ?_
  refine XS.istore X2.here hx rfl (D 7 rfl) rfl (l' := #[vR ra, vI 2, vI 0, vR rc, vI 1, vI xc, vI xd, vI xf, vI (own_len C_0)]) rfl ?_
  refine XS.iloadN X2.here hx rfl (D 8 rfl) rfl ?_
  refine XS.iconst X2.here hx rfl (D 9 rfl) ?_
  refine XS.icmpNo X2.here hx rfl (D 10 rfl) rfl (flt (show ¬ ((2 : Int32) < (1 : Int32)) from by decide)).1 ?_
  refine XS.aloadN X2.here hx rfl (D 30 rfl) rfl rfl ?_
  refine XS.iload X2.here hx rfl (D 31 rfl) rfl ?_
  refine XS.aloadN X2.here hx rfl (D 32 rfl) rfl rfl ?_
  exact k
 obtain ⟨_, T5, Lc5, X5, hQ5, pc5⟩ := own_call X2 hx hZ hown (W 164 rfl) (W 165 rfl) (W 120 rfl) (W 166 rfl) (by decide) (rm_w5 l Z a0 hw [] ra (own_len C_0) rc ka xz l1 C_0 _ kc2 xc0 xc1 xc2 xc3 xc4 h0 n0 Z0 VA (qa1.1) VC2 (ho0) (ho1) (ho2) (ho3) (ho4)) e2 pre4 hml rfl (D 33 rfl) (lenOf pd30 rfl) rfl (W := 0) rfl (by decide)
 obtain ⟨rfl, M5, e5⟩ := hQ5
 have N5 := Fr.app N2 M5
 have pre6 : oP p e bw G T5 m 24 #[vR ra, vI 2, vI 0, vR rc, vI 1, vI xc, vI xd, vI xf, vI (own_len C_0)] [(.int (own_len (C_0 ++ own_bulk (own_enc [own_b xc0, own_b xc1, own_b xc2, own_b xc3, own_b xc4]))))] := pc5
 rw [show (own_len (C_0 ++ own_bulk (own_enc [own_b xc0, own_b xc1, own_b xc2, own_b xc3, own_b xc4]))) = (own_len C_1) from by rw [hC_1]] at pre6
 have pre7 : oP p e bw G T5 m 38 #[vR ra, vI 2, vI 0, vR rc, vI 1, vI xc, vI xd, vI xf, vI (own_len C_1)] [(.int xc), (.int 1), (.int (own_len C_1)), (.ref ra)] := by
  intro t k
  refine pre6 t ?_
  refine XS.istore X5.here hx rfl (D 34 rfl) rfl (l' := #[vR ra, vI 2, vI 0, vR rc, vI 1, vI xc, vI xd, vI xf, vI (own_len C_1)]) rfl ?_
  refine XS.iloadN X5.here hx rfl (D 11 rfl) rfl ?_
  refine XS.iconst X5.here hx rfl (D 12 rfl) ?_
  refine XS.icmpNo X5.here hx rfl (D 13 rfl) rfl (teq (show (2 : Int32) = (2 : Int32) from by decide)).2 ?_
  refine XS.aloadN X5.here hx rfl (D 35 rfl) rfl rfl ?_
  refine XS.iload X5.here hx rfl (D 36 rfl) rfl ?_
  refine XS.iload X5.here hx rfl (D 37 rfl) rfl ?_
  refine XS.iload X5.here hx rfl (D 38 rfl) rfl ?_
  exact k
 obtain ⟨_, T8, Lc8, X8, hQ8, pc8⟩ := own_call X5 hx hZ hown (W 191 rfl) (W 192 rfl) (W 120 rfl) (W 193 rfl) (by decide) (rm_w1_1 l Z a0 hw [] ra (own_len C_1) xc ka xz l1 C_1 _ h0 n0 Z0 VA (qa2.1)) e5 pre7 hml rfl (D 39 rfl) (lenOf pd31 rfl) rfl (W := 0) rfl (by decide)
 obtain ⟨rfl, M8, e8⟩ := hQ8
 have N8 := Fr.app N5 M8
 have pre9 : oP p e bw G T8 m 41 #[vR ra, vI 2, vI 0, vR rc, vI 1, vI xc, vI xd, vI xf, vI (own_len C_1)] [(.int (own_len (C_1 ++ own_bulk (own_enc []))))] := pc8
 rw [show (own_len (C_1 ++ own_bulk (own_enc []))) = (own_len C_2) from by rw [hC_2]] at pre9
 have pre10 : oP p e bw G T8 m 63 #[vR ra, vI 2, vI 0, vR rc, vI 1, vI xc, vI xd, vI xf, vI (own_len C_2)] [(.ref ra), (.int (own_len C_2))] := by
  intro t k
  refine pre9 t ?_
  refine XS.istore X8.here hx rfl (D 40 rfl) rfl (l' := #[vR ra, vI 2, vI 0, vR rc, vI 1, vI xc, vI xd, vI xf, vI (own_len C_2)]) rfl ?_
  refine XS.iloadN X8.here hx rfl (D 14 rfl) rfl ?_
  refine XS.iconst X8.here hx rfl (D 15 rfl) ?_
  refine XS.icmpYes X8.here hx rfl (pc0 := 45) (pc' := 60) rfl (D 16 rfl) rfl (feq (show ¬ ((0 : Int32) = (1 : Int32)) from by decide)).2 (by decide) (by decide) ?_
  refine XS.iload X8.here hx rfl (D 17 rfl) rfl ?_
  refine XS.aloadN X8.here hx rfl (D 18 rfl) rfl rfl ?_
  exact k
 have pre12 : oP p e bw G T8 m 72 #[vR ra, vI 2, vI 0, vR rc, vI 1, vI xc, vI xd, vI xf, vI (own_len C_2)] [(.int 1)] := by
  intro t k
  refine pre10 t ?_
  obtain ⟨c11, a11, q11, s11, m11, i11, u11⟩ := id VA
  refine X8.arraylength hx (by rw [e8]; exact a11.1) (State.isArrayOf_alike hZ.alike a11.2.1) (g := (own_g pre10)) rfl rfl (D 19 rfl) _ ?_
  rw [len_of s11 m11]
  refine XS.icmpNo X8.here hx rfl (D 20 rfl) rfl (teq (show (own_len C_2) = xz from own_fin qa2.2)).2 ?_
  refine XS.iconst X8.here hx rfl (D 21 rfl) ?_
  refine XS.goto X8.here hx rfl (pc0 := 68) (pc' := 72) rfl (D 22 rfl) (by decide) (by decide) ?_
  exact k
 obtain ⟨fs, hr, hrun, hended, hW, hsame⟩ := X8.leave (hlocks := Bd.notSynchronized) (v := some (.int 1)) (fun h => by rw [Bd.returns] at h; cases h)
 subst hG
 refine ⟨_, _, pre12 _ ?_, hrun, hended, _, _, rfl, ?_, ⟨_, rfl⟩, hW, hsame.mono (by decide) (by decide)⟩
 ·exact retN X8 hx (t := .boolean) Bd.returns (by simp) (D 23 rfl) hr
 ·show Q_rm_ck201 Z ra rc xc xd xf ka xz l1 kc2 xc0 xc1 xc2 xc3 xc4 h0 n0 _ T8.heap _
  rw [e8]
  exact ⟨rfl, N8, rfl⟩
theorem ef_rm_ck210 (m : MethodId) (ra : Addr) (rc : Addr) (xc : Int32) (xd : Int32) (xf : Int32) : entryFrame m #[(.ref ra), (.int 2), (.int 1), (.ref rc), (.int 0), (.int xc), (.int xd), (.int xf)] 9 = mkF m 0 #[vR ra, vI 2, vI 1, vR rc, vI 0, vI xc, vI xd, vI xf, vU] [] := by simp [entryFrame, mkF, argsToLocals, Value.category]
def Q_rm_ck210 (Z : State) (ra : Addr) (rc : Addr) (xc : Int32) (xd : Int32) (xf : Int32) (ka : ClassId) (xz : Int32) (l1 : List Int32) (kc2 : ClassId) (xc0 : Int32) (xc1 : Int32) (xc2 : Int32) (xc3 : Int32) (xc4 : Int32) (h0 : Heap) (n0 : Nat) (v : Option Value) (h : Heap) (L : List Loc) : Prop := v = some (.int 1) ∧ Fr n0 L ∧ h = h0
set_option maxRecDepth 65536 in
set_option maxHeartbeats 40000000 in
theorem rm_ck210 (l : Launch) (Z : State) (a0 : Array Value) (hw : ∀ d ∈ tables_1, d.before a0 Z = true) (ws : List Jvm.Cond) (ra : Addr) (rc : Addr) (xc : Int32) (xd : Int32) (xf : Int32) (ka : ClassId) (xz : Int32) (l1 : List Int32) (kc2 : ClassId) (xc0 : Int32) (xc1 : Int32) (xc2 : Int32) (xc3 : Int32) (xc4 : Int32) (h0 : Heap) (n0 : Nat) (Z0 : n0 ≤ h0.size) (VA : Arv Z h0 ra ka .byte xz (l1.map Value.int) (.int 0)) (hH : own_RT l1 [] (own_hdr 42 ((2 : Int32) + (1 : Int32)) ++ (own_bulk (own_enc [own_b xc0, own_b xc1, own_b xc2, own_b xc3, own_b xc4]) ++ (own_bulk (own_enc [own_b xc]) ++ (own_bulk (own_enc [own_b xd, own_b xf]) ++ [])))) [] (0 : Int32) xz) (VC2 : Arv Z h0 rc kc2 .char (5 : Int32) [(.int xc0), (.int xc1), (.int xc2), (.int xc3), (.int xc4)] (.int 0)) (ho0 : own_OKc xc0) (ho1 : own_OKc xc1) (ho2 : own_OKc xc2) (ho3 : own_OKc xc3) (ho4 : own_OKc xc4) (hoc : own_OKc xc) (hod : own_OKc xd) (hof : own_OKc xf) :
  oMet l oM1 method_3_code 9 (some .boolean) ws (oR 2 0 0 32) #[(.ref ra), (.int 2), (.int 1), (.ref rc), (.int 0), (.int xc), (.int xd), (.int xf)] Z h0 (Q_rm_ck210 Z ra rc xc xd xf ka xz l1 kc2 xc0 xc1 xc2 xc3 xc4 h0 n0) := by
 refine MetFree.of_bodySF (plainFor_of_name pn4) hisR ?_
 have W := own_W hw
 intro p e s m args bw meth c s₁ Bd hml0 hP hK
 obtain ⟨rfl, hZ, hh⟩ := hP
 have hx := Bd.exec
 have hby := Bd.bytes
 have hml : c.maxLocals = 9 := hml0
 have hown : s.vm.findClass oS3 = some m.cls := findClass_of_methodNamed Bd.named
 have hnm := (name_of_methodNamed Bd.named Bd.method).1
 have X0 : Stand p l e (oR 2 0 0 32) s m #[(.ref ra), (.int 2), (.int 1), (.ref rc), (.int 0), (.int xc), (.int xd), (.int xf)] bw meth c s₁ [] 0 0 := Stand.of_body Bd
 have e0 : s₁.heap = h0 := by rw [← hh, Bd.state]; rfl
 have N0 := Fr.nil n0
 have D := own_D hby dB23
 obtain ⟨G, hG⟩ := own_ex fun t => Steps p.tables e bw (s₁.setTop (entryFrame m #[(.ref ra), (.int 2), (.int 1), (.ref rc), (.int 0), (.int xc), (.int xd), (.int xf)] 9)) t
 have pre0 : oP p e bw G s₁ m 0 #[vR ra, vI 2, vI 1, vR rc, vI 0, vI xc, vI xd, vI xf, vU] [] := by intro t k; subst hG; exact castTop (ef_rm_ck210 m ra rc xc xd xf) k
 have qa0 := own_rtS hH
 obtain ⟨C_0, hC_0⟩ := own_ex ([] ++ own_hdr 42 ((2 : Int32) + (1 : Int32)))
 rw [← hC_0] at qa0
 have qa1 := own_rtS qa0.2
 obtain ⟨C_1, hC_1⟩ := own_ex (C_0 ++ own_bulk (own_enc [own_b xc0, own_b xc1, own_b xc2, own_b xc3, own_b xc4]))
 rw [← hC_1] at qa1
 have qa2 := own_rtS qa1.2
 obtain ⟨C_2, hC_2⟩ := own_ex (C_1 ++ own_bulk (own_enc [own_b xc]))
 rw [← hC_2] at qa2
 have qa3 := own_rtS qa2.2
 obtain ⟨C_3, hC_3⟩ := own_ex (C_2 ++ own_bulk (own_enc [own_b xd, own_b xf]))
 rw [← hC_3] at qa3
 have pre1 : oP p e bw G s₁ m 7 #[vR ra, vI 2, vI 1, vR rc, vI 0, vI xc, vI xd, vI xf, vU] [(.int ((2 : Int32) + (1 : Int32))), (.int 42), (.int 0), (.ref ra)] := by
  intro t k
  refine pre0 t ?_
  refine XS.aloadN X0.here hx rfl (D 0 rfl) rfl rfl ?_
  refine XS.iconst X0.here hx rfl (D 1 rfl) ?_
  refine XS.bipush X0.here hx rfl (D 2 rfl) ?_
  refine XS.iloadN X0.here hx rfl (D 3 rfl) rfl ?_
  refine XS.iloadN X0.here hx rfl (D 4 rfl) rfl ?_
  refine XS.iadd X0.here hx rfl (D 5 rfl) rfl ?_
  exact k
 obtain ⟨_, T2, Lc2, X2, hQ2, pc2⟩ := own_call X0 hx hZ hown (W 122 rfl) (W 123 rfl) (W 120 rfl) (W 124 rfl) (by decide) (rm_hdr l Z a0 hw [] ra (0 : Int32) (42 : Int32) ((2 : Int32) + (1 : Int32)) ka xz l1 ([] : List Int32) _ h0 n0 Z0 VA (qa0.1)) e0 pre1 hml rfl (D 6 rfl) (lenOf pd26 rfl) rfl (W := 0) rfl (by decide)
 obtain ⟨rfl, M2, e2⟩ := hQ2
 have N2 := Fr.app N0 M2
 have pre3 : oP p e bw G T2 m 10 #[vR ra, vI 2, vI 1, vR rc, vI 0, vI xc, vI xd, vI xf, vU] [(.int (own_len (([] : List Int32) ++ own_hdr (42 : Int32) ((2 : Int32) + (1 : Int32)))))] := pc2
 rw [show (own_len (([] : List Int32) ++ own_hdr (42 : Int32) ((2 : Int32) + (1 : Int32)))) = (own_len C_0) from by rw [hC_0]] at pre3
 have pre4 : oP p e bw G T2 m 21 #[vR ra, vI 2, vI 1, vR rc, vI 0, vI xc, vI xd, vI xf, vI (own_len C_0)] [(.ref rc), (.int (own_len C_0)), (.ref ra)] := by
  intro t k
  refine pre3 t ?_
  refine XS.istore X2.here hx rfl (D 7 rfl) rfl (l' := #[vR ra, vI 2, vI 1, vR rc, vI 0, vI xc, vI xd, vI xf, vI (own_len C_0)]) rfl ?_
  refine XS.iloadN X2.here hx rfl (D 8 rfl) rfl ?_
  refine XS.iconst X2.here hx rfl (D 9 rfl) ?_
  refine XS.icmpNo X2.here hx rfl (D 10 rfl) rfl (flt (show ¬ ((2 : Int32) < (1 : Int32)) from by decide)).1 ?_
  refine XS.aloadN X2.here hx rfl (D 30 rfl) rfl rfl ?_
  refine XS.iload X2.here hx rfl (D 31 rfl) rfl ?_
  refine XS.aloadN X2.here hx rfl (D 32 rfl) rfl rfl ?_
  exact k
 obtain ⟨_, T5, Lc5, X5, hQ5, pc5⟩ := own_call X2 hx hZ hown (W 164 rfl) (W 165 rfl) (W 120 rfl) (W 166 rfl) (by decide) (rm_w5 l Z a0 hw [] ra (own_len C_0) rc ka xz l1 C_0 _ kc2 xc0 xc1 xc2 xc3 xc4 h0 n0 Z0 VA (qa1.1) VC2 (ho0) (ho1) (ho2) (ho3) (ho4)) e2 pre4 hml rfl (D 33 rfl) (lenOf pd30 rfl) rfl (W := 0) rfl (by decide)
 obtain ⟨rfl, M5, e5⟩ := hQ5
 have N5 := Fr.app N2 M5
 have pre6 : oP p e bw G T5 m 24 #[vR ra, vI 2, vI 1, vR rc, vI 0, vI xc, vI xd, vI xf, vI (own_len C_0)] [(.int (own_len (C_0 ++ own_bulk (own_enc [own_b xc0, own_b xc1, own_b xc2, own_b xc3, own_b xc4]))))] := pc5
 rw [show (own_len (C_0 ++ own_bulk (own_enc [own_b xc0, own_b xc1, own_b xc2, own_b xc3, own_b xc4]))) = (own_len C_1) from by rw [hC_1]] at pre6
 have pre7 : oP p e bw G T5 m 38 #[vR ra, vI 2, vI 1, vR rc, vI 0, vI xc, vI xd, vI xf, vI (own_len C_1)] [(.int xc), (.int 0), (.int (own_len C_1)), (.ref ra)] := by
  intro t k
  refine pre6 t ?_
  refine XS.istore X5.here hx rfl (D 34 rfl) rfl (l' := #[vR ra, vI 2, vI 1, vR rc, vI 0, vI xc, vI xd, vI xf, vI (own_len C_1)]) rfl ?_
  refine XS.iloadN X5.here hx rfl (D 11 rfl) rfl ?_
  refine XS.iconst X5.here hx rfl (D 12 rfl) ?_
  refine XS.icmpNo X5.here hx rfl (D 13 rfl) rfl (teq (show (2 : Int32) = (2 : Int32) from by decide)).2 ?_
  refine XS.aloadN X5.here hx rfl (D 35 rfl) rfl rfl ?_
  refine XS.iload X5.here hx rfl (D 36 rfl) rfl ?_
  refine XS.iload X5.here hx rfl (D 37 rfl) rfl ?_
  refine XS.iload X5.here hx rfl (D 38 rfl) rfl ?_
  exact k
 obtain ⟨_, T8, Lc8, X8, hQ8, pc8⟩ := own_call X5 hx hZ hown (W 191 rfl) (W 192 rfl) (W 120 rfl) (W 193 rfl) (by decide) (rm_w1_0 l Z a0 hw [] ra (own_len C_1) xc ka xz l1 C_1 _ h0 n0 Z0 VA (qa2.1) (hoc)) e5 pre7 hml rfl (D 39 rfl) (lenOf pd31 rfl) rfl (W := 0) rfl (by decide)
 obtain ⟨rfl, M8, e8⟩ := hQ8
 have N8 := Fr.app N5 M8
 have pre9 : oP p e bw G T8 m 41 #[vR ra, vI 2, vI 1, vR rc, vI 0, vI xc, vI xd, vI xf, vI (own_len C_1)] [(.int (own_len (C_1 ++ own_bulk (own_enc [own_b xc]))))] := pc8
 rw [show (own_len (C_1 ++ own_bulk (own_enc [own_b xc]))) = (own_len C_2) from by rw [hC_2]] at pre9
 have pre10 : oP p e bw G T8 m 55 #[vR ra, vI 2, vI 1, vR rc, vI 0, vI xc, vI xd, vI xf, vI (own_len C_2)] [(.int xf), (.int xd), (.int (own_len C_2)), (.ref ra)] := by
  intro t k
  refine pre9 t ?_
  refine XS.istore X8.here hx rfl (D 40 rfl) rfl (l' := #[vR ra, vI 2, vI 1, vR rc, vI 0, vI xc, vI xd, vI xf, vI (own_len C_2)]) rfl ?_
  refine XS.iloadN X8.here hx rfl (D 14 rfl) rfl ?_
  refine XS.iconst X8.here hx rfl (D 15 rfl) ?_
  refine XS.icmpNo X8.here hx rfl (D 16 rfl) rfl (teq (show (1 : Int32) = (1 : Int32) from by decide)).2 ?_
  refine XS.aloadN X8.here hx rfl (D 24 rfl) rfl rfl ?_
  refine XS.iload X8.here hx rfl (D 25 rfl) rfl ?_
  refine XS.iload X8.here hx rfl (D 26 rfl) rfl ?_
  refine XS.iload X8.here hx rfl (D 27 rfl) rfl ?_
  exact k
 obtain ⟨_, T11, Lc11, X11, hQ11, pc11⟩ := own_call X8 hx hZ hown (W 194 rfl) (W 195 rfl) (W 120 rfl) (W 196 rfl) (by decide) (rm_w2 l Z a0 hw [] ra (own_len C_2) xd xf ka xz l1 C_2 _ h0 n0 Z0 VA (qa3.1) (hod) (hof)) e8 pre10 hml rfl (D 28 rfl) (lenOf pd29 rfl) rfl (W := 0) rfl (by decide)
 obtain ⟨rfl, M11, e11⟩ := hQ11
 have N11 := Fr.app N8 M11
 have pre12 : oP p e bw G T11 m 58 #[vR ra, vI 2, vI 1, vR rc, vI 0, vI xc, vI xd, vI xf, vI (own_len C_2)] [(.int (own_len (C_2 ++ own_bulk (own_enc [own_b xd, own_b xf]))))] := pc11
 rw [show (own_len (C_2 ++ own_bulk (own_enc [own_b xd, own_b xf]))) = (own_len C_3) from by rw [hC_3]] at pre12
 have pre13 : oP p e bw G T11 m 63 #[vR ra, vI 2, vI 1, vR rc, vI 0, vI xc, vI xd, vI xf, vI (own_len C_3)] [(.ref ra), (.int (own_len C_3))] := by
  intro t k
  refine pre12 t ?_
  refine XS.istore X11.here hx rfl (D 29 rfl) rfl (l' := #[vR ra, vI 2, vI 1, vR rc, vI 0, vI xc, vI xd, vI xf, vI (own_len C_3)]) rfl ?_
  refine XS.iload X11.here hx rfl (D 17 rfl) rfl ?_
  refine XS.aloadN X11.here hx rfl (D 18 rfl) rfl rfl ?_
  exact k
 have pre15 : oP p e bw G T11 m 72 #[vR ra, vI 2, vI 1, vR rc, vI 0, vI xc, vI xd, vI xf, vI (own_len C_3)] [(.int 1)] := by
  intro t k
  refine pre13 t ?_
  obtain ⟨c14, a14, q14, s14, m14, i14, u14⟩ := id VA
  refine X11.arraylength hx (by rw [e11]; exact a14.1) (State.isArrayOf_alike hZ.alike a14.2.1) (g := (own_g pre13)) rfl rfl (D 19 rfl) _ ?_
  rw [len_of s14 m14]
  refine XS.icmpNo X11.here hx rfl (D 20 rfl) rfl (teq (show (own_len C_3) = xz from own_fin qa3.2)).2 ?_
  refine XS.iconst X11.here hx rfl (D 21 rfl) ?_
  refine XS.goto X11.here hx rfl (pc0 := 68) (pc' := 72) rfl (D 22 rfl) (by decide) (by decide) ?_
  exact k
 obtain ⟨fs, hr, hrun, hended, hW, hsame⟩ := X11.leave (hlocks := Bd.notSynchronized) (v := some (.int 1)) (fun h => by rw [Bd.returns] at h; cases h)
 subst hG
 refine ⟨_, _, pre15 _ ?_, hrun, hended, _, _, rfl, ?_, ⟨_, rfl⟩, hW, hsame.mono (by decide) (by decide)⟩
 ·exact retN X11 hx (t := .boolean) Bd.returns (by simp) (D 23 rfl) hr
 ·show Q_rm_ck210 Z ra rc xc xd xf ka xz l1 kc2 xc0 xc1 xc2 xc3 xc4 h0 n0 _ T11.heap _
  rw [e11]
  exact ⟨rfl, N11, rfl⟩
theorem ef_rm_ck211 (m : MethodId) (ra : Addr) (rc : Addr) (xc : Int32) (xd : Int32) (xf : Int32) : entryFrame m #[(.ref ra), (.int 2), (.int 1), (.ref rc), (.int 1), (.int xc), (.int xd), (.int xf)] 9 = mkF m 0 #[vR ra, vI 2, vI 1, vR rc, vI 1, vI xc, vI xd, vI xf, vU] [] := by simp [entryFrame, mkF, argsToLocals, Value.category]
def Q_rm_ck211 (Z : State) (ra : Addr) (rc : Addr) (xc : Int32) (xd : Int32) (xf : Int32) (ka : ClassId) (xz : Int32) (l1 : List Int32) (kc2 : ClassId) (xc0 : Int32) (xc1 : Int32) (xc2 : Int32) (xc3 : Int32) (xc4 : Int32) (h0 : Heap) (n0 : Nat) (v : Option Value) (h : Heap) (L : List Loc) : Prop := v = some (.int 1) ∧ Fr n0 L ∧ h = h0
set_option maxRecDepth 65536 in
set_option maxHeartbeats 40000000 in
theorem rm_ck211 (l : Launch) (Z : State) (a0 : Array Value) (hw : ∀ d ∈ tables_1, d.before a0 Z = true) (ws : List Jvm.Cond) (ra : Addr) (rc : Addr) (xc : Int32) (xd : Int32) (xf : Int32) (ka : ClassId) (xz : Int32) (l1 : List Int32) (kc2 : ClassId) (xc0 : Int32) (xc1 : Int32) (xc2 : Int32) (xc3 : Int32) (xc4 : Int32) (h0 : Heap) (n0 : Nat) (Z0 : n0 ≤ h0.size) (VA : Arv Z h0 ra ka .byte xz (l1.map Value.int) (.int 0)) (hH : own_RT l1 [] (own_hdr 42 ((2 : Int32) + (1 : Int32)) ++ (own_bulk (own_enc [own_b xc0, own_b xc1, own_b xc2, own_b xc3, own_b xc4]) ++ (own_bulk (own_enc []) ++ (own_bulk (own_enc [own_b xd, own_b xf]) ++ [])))) [] (0 : Int32) xz) (VC2 : Arv Z h0 rc kc2 .char (5 : Int32) [(.int xc0), (.int xc1), (.int xc2), (.int xc3), (.int xc4)] (.int 0)) (ho0 : own_OKc xc0) (ho1 : own_OKc xc1) (ho2 : own_OKc xc2) (ho3 : own_OKc xc3) (ho4 : own_OKc xc4) (hod : own_OKc xd) (hof : own_OKc xf) :
  oMet l oM1 method_3_code 9 (some .boolean) ws (oR 2 0 0 32) #[(.ref ra), (.int 2), (.int 1), (.ref rc), (.int 1), (.int xc), (.int xd), (.int xf)] Z h0 (Q_rm_ck211 Z ra rc xc xd xf ka xz l1 kc2 xc0 xc1 xc2 xc3 xc4 h0 n0) := by
 refine MetFree.of_bodySF (plainFor_of_name pn4) hisR ?_
 have W := own_W hw
 intro p e s m args bw meth c s₁ Bd hml0 hP hK
 obtain ⟨rfl, hZ, hh⟩ := hP
 have hx := Bd.exec
 have hby := Bd.bytes
 have hml : c.maxLocals = 9 := hml0
 have hown : s.vm.findClass oS3 = some m.cls := findClass_of_methodNamed Bd.named
 have hnm := (name_of_methodNamed Bd.named Bd.method).1
 have X0 : Stand p l e (oR 2 0 0 32) s m #[(.ref ra), (.int 2), (.int 1), (.ref rc), (.int 1), (.int xc), (.int xd), (.int xf)] bw meth c s₁ [] 0 0 := Stand.of_body Bd
 have e0 : s₁.heap = h0 := by rw [← hh, Bd.state]; rfl
 have N0 := Fr.nil n0
 have D := own_D hby dB23
 obtain ⟨G, hG⟩ := own_ex fun t => Steps p.tables e bw (s₁.setTop (entryFrame m #[(.ref ra), (.int 2), (.int 1), (.ref rc), (.int 1), (.int xc), (.int xd), (.int xf)] 9)) t
 have pre0 : oP p e bw G s₁ m 0 #[vR ra, vI 2, vI 1, vR rc, vI 1, vI xc, vI xd, vI xf, vU] [] := by intro t k; subst hG; exact castTop (ef_rm_ck211 m ra rc xc xd xf) k
 have qa0 := own_rtS hH
 obtain ⟨C_0, hC_0⟩ := own_ex ([] ++ own_hdr 42 ((2 : Int32) + (1 : Int32)))
 rw [← hC_0] at qa0
 have qa1 := own_rtS qa0.2
 obtain ⟨C_1, hC_1⟩ := own_ex (C_0 ++ own_bulk (own_enc [own_b xc0, own_b xc1, own_b xc2, own_b xc3, own_b xc4]))
 rw [← hC_1] at qa1
 have qa2 := own_rtS qa1.2
 obtain ⟨C_2, hC_2⟩ := own_ex (C_1 ++ own_bulk (own_enc []))
 rw [← hC_2] at qa2
 have qa3 := own_rtS qa2.2
 obtain ⟨C_3, hC_3⟩ := own_ex (C_2 ++ own_bulk (own_enc [own_b xd, own_b xf]))
 rw [← hC_3] at qa3
 have pre1 : oP p e bw G s₁ m 7 #[vR ra, vI 2, vI 1, vR rc, vI 1, vI xc, vI xd, vI xf, vU] [(.int ((2 : Int32) + (1 : Int32))), (.int 42), (.int 0), (.ref ra)] := by
  intro t k
  refine pre0 t ?_
  refine XS.aloadN X0.here hx rfl (D 0 rfl) rfl rfl ?_
  refine XS.iconst X0.here hx rfl (D 1 rfl) ?_
  refine XS.bipush X0.here hx rfl (D 2 rfl) ?_
  refine XS.iloadN X0.here hx rfl (D 3 rfl) rfl ?_
  refine XS.iloadN X0.here hx rfl (D 4 rfl) rfl ?_
  refine XS.iadd X0.here hx rfl (D 5 rfl) rfl ?_
  exact k
 obtain ⟨_, T2, Lc2, X2, hQ2, pc2⟩ := own_call X0 hx hZ hown (W 122 rfl) (W 123 rfl) (W 120 rfl) (W 124 rfl) (by decide) (rm_hdr l Z a0 hw [] ra (0 : Int32) (42 : Int32) ((2 : Int32) + (1 : Int32)) ka xz l1 ([] : List Int32) _ h0 n0 Z0 VA (qa0.1)) e0 pre1 hml rfl (D 6 rfl) (lenOf pd26 rfl) rfl (W := 0) rfl (by decide)
 obtain ⟨rfl, M2, e2⟩ := hQ2
 have N2 := Fr.app N0 M2
 have pre3 : oP p e bw G T2 m 10 #[vR ra, vI 2, vI 1, vR rc, vI 1, vI xc, vI xd, vI xf, vU] [(.int (own_len (([] : List Int32) ++ own_hdr (42 : Int32) ((2 : Int32) + (1 : Int32)))))] := pc2
 rw [show (own_len (([] : List Int32) ++ own_hdr (42 : Int32) ((2 : Int32) + (1 : Int32)))) = (own_len C_0) from by rw [hC_0]] at pre3
 have pre4 : oP p e bw G T2 m 21 #[vR ra, vI 2, vI 1, vR rc, vI 1, vI xc, vI xd, vI xf, vI (own_len C_0)] [(.ref rc), (.int (own_len C_0)), (.ref ra)] := by
  intro t k
  refine pre3 t ?_
  refine XS.istore X2.here hx rfl (D 7 rfl) rfl (l' := #[vR ra, vI 2, vI 1, vR rc, vI 1, vI xc, vI xd, vI xf, vI (own_len C_0)]) rfl ?_
  refine XS.iloadN X2.here hx rfl (D 8 rfl) rfl ?_
  refine XS.iconst X2.here hx rfl (D 9 rfl) ?_
  refine XS.icmpNo X2.here hx rfl (D 10 rfl) rfl (flt (show ¬ ((2 : Int32) < (1 : Int32)) from by decide)).1 ?_
  refine XS.aloadN X2.here hx rfl (D 30 rfl) rfl rfl ?_
  refine XS.iload X2.here hx rfl (D 31 rfl) rfl ?_
  refine XS.aloadN X2.here hx rfl (D 32 rfl) rfl rfl ?_
  exact k
 obtain ⟨_, T5, Lc5, X5, hQ5, pc5⟩ := own_call X2 hx hZ hown (W 164 rfl) (W 165 rfl) (W 120 rfl) (W 166 rfl) (by decide) (rm_w5 l Z a0 hw [] ra (own_len C_0) rc ka xz l1 C_0 _ kc2 xc0 xc1 xc2 xc3 xc4 h0 n0 Z0 VA (qa1.1) VC2 (ho0) (ho1) (ho2) (ho3) (ho4)) e2 pre4 hml rfl (D 33 rfl) (lenOf pd30 rfl) rfl (W := 0) rfl (by decide)
 obtain ⟨rfl, M5, e5⟩ := hQ5
 have N5 := Fr.app N2 M5
 have pre6 : oP p e bw G T5 m 24 #[vR ra, vI 2, vI 1, vR rc, vI 1, vI xc, vI xd, vI xf, vI (own_len C_0)] [(.int (own_len (C_0 ++ own_bulk (own_enc [own_b xc0, own_b xc1, own_b xc2, own_b xc3, own_b xc4]))))] := pc5
 rw [show (own_len (C_0 ++ own_bulk (own_enc [own_b xc0, own_b xc1, own_b xc2, own_b xc3, own_b xc4]))) = (own_len C_1) from by rw [hC_1]] at pre6
 have pre7 : oP p e bw G T5 m 38 #[vR ra, vI 2, vI 1, vR rc, vI 1, vI xc, vI xd, vI xf, vI (own_len C_1)] [(.int xc), (.int 1), (.int (own_len C_1)), (.ref ra)] := by
  intro t k
  refine pre6 t ?_
  refine XS.istore X5.here hx rfl (D 34 rfl) rfl (l' := #[vR ra, vI 2, vI 1, vR rc, vI 1, vI xc, vI xd, vI xf, vI (own_len C_1)]) rfl ?_
  refine XS.iloadN X5.here hx rfl (D 11 rfl) rfl ?_
  refine XS.iconst X5.here hx rfl (D 12 rfl) ?_
  refine XS.icmpNo X5.here hx rfl (D 13 rfl) rfl (teq (show (2 : Int32) = (2 : Int32) from by decide)).2 ?_
  refine XS.aloadN X5.here hx rfl (D 35 rfl) rfl rfl ?_
  refine XS.iload X5.here hx rfl (D 36 rfl) rfl ?_
  refine XS.iload X5.here hx rfl (D 37 rfl) rfl ?_
  refine XS.iload X5.here hx rfl (D 38 rfl) rfl ?_
  exact k
 obtain ⟨_, T8, Lc8, X8, hQ8, pc8⟩ := own_call X5 hx hZ hown (W 191 rfl) (W 192 rfl) (W 120 rfl) (W 193 rfl) (by decide) (rm_w1_1 l Z a0 hw [] ra (own_len C_1) xc ka xz l1 C_1 _ h0 n0 Z0 VA (qa2.1)) e5 pre7 hml rfl (D 39 rfl) (lenOf pd31 rfl) rfl (W := 0) rfl (by decide)
 obtain ⟨rfl, M8, e8⟩ := hQ8
 have N8 := Fr.app N5 M8
 have pre9 : oP p e bw G T8 m 41 #[vR ra, vI 2, vI 1, vR rc, vI 1, vI xc, vI xd, vI xf, vI (own_len C_1)] [(.int (own_len (C_1 ++ own_bulk (own_enc []))))] := pc8
 rw [show (own_len (C_1 ++ own_bulk (own_enc []))) = (own_len C_2) from by rw [hC_2]] at pre9
 have pre10 : oP p e bw G T8 m 55 #[vR ra, vI 2, vI 1, vR rc, vI 1, vI xc, vI xd, vI xf, vI (own_len C_2)] [(.int xf), (.int xd), (.int (own_len C_2)), (.ref ra)] := by
  intro t k
  refine pre9 t ?_
  refine XS.istore X8.here hx rfl (D 40 rfl) rfl (l' := #[vR ra, vI 2, vI 1, vR rc, vI 1, vI xc, vI xd, vI xf, vI (own_len C_2)]) rfl ?_
  refine XS.iloadN X8.here hx rfl (D 14 rfl) rfl ?_
  refine XS.iconst X8.here hx rfl (D 15 rfl) ?_
  refine XS.icmpNo X8.here hx rfl (D 16 rfl) rfl (teq (show (1 : Int32) = (1 : Int32) from by decide)).2 ?_
  refine XS.aloadN X8.here hx rfl (D 24 rfl) rfl rfl ?_
  refine XS.iload X8.here hx rfl (D 25 rfl) rfl ?_
  refine XS.iload X8.here hx rfl (D 26 rfl) rfl ?_
  refine XS.iload X8.here hx rfl (D 27 rfl) rfl ?_
  exact k
 obtain ⟨_, T11, Lc11, X11, hQ11, pc11⟩ := own_call X8 hx hZ hown (W 194 rfl) (W 195 rfl) (W 120 rfl) (W 196 rfl) (by decide) (rm_w2 l Z a0 hw [] ra (own_len C_2) xd xf ka xz l1 C_2 _ h0 n0 Z0 VA (qa3.1) (hod) (hof)) e8 pre10 hml rfl (D 28 rfl) (lenOf pd29 rfl) rfl (W := 0) rfl (by decide)
 obtain ⟨rfl, M11, e11⟩ := hQ11
 have N11 := Fr.app N8 M11
 have pre12 : oP p e bw G T11 m 58 #[vR ra, vI 2, vI 1, vR rc, vI 1, vI xc, vI xd, vI xf, vI (own_len C_2)] [(.int (own_len (C_2 ++ own_bulk (own_enc [own_b xd, own_b xf]))))] := pc11
 rw [show (own_len (C_2 ++ own_bulk (own_enc [own_b xd, own_b xf]))) = (own_len C_3) from by rw [hC_3]] at pre12
 have pre13 : oP p e bw G T11 m 63 #[vR ra, vI 2, vI 1, vR rc, vI 1, vI xc, vI xd, vI xf, vI (own_len C_3)] [(.ref ra), (.int (own_len C_3))] := by
  intro t k
  refine pre12 t ?_
  refine XS.istore X11.here hx rfl (D 29 rfl) rfl (l' := #[vR ra, vI 2, vI 1, vR rc, vI 1, vI xc, vI xd, vI xf, vI (own_len C_3)]) rfl ?_
  refine XS.iload X11.here hx rfl (D 17 rfl) rfl ?_
  refine XS.aloadN X11.here hx rfl (D 18 rfl) rfl rfl ?_
  exact k
 have pre15 : oP p e bw G T11 m 72 #[vR ra, vI 2, vI 1, vR rc, vI 1, vI xc, vI xd, vI xf, vI (own_len C_3)] [(.int 1)] := by
  intro t k
  refine pre13 t ?_
  obtain ⟨c14, a14, q14, s14, m14, i14, u14⟩ := id VA
  refine X11.arraylength hx (by rw [e11]; exact a14.1) (State.isArrayOf_alike hZ.alike a14.2.1) (g := (own_g pre13)) rfl rfl (D 19 rfl) _ ?_
  rw [len_of s14 m14]
  refine XS.icmpNo X11.here hx rfl (D 20 rfl) rfl (teq (show (own_len C_3) = xz from own_fin qa3.2)).2 ?_
  refine XS.iconst X11.here hx rfl (D 21 rfl) ?_
  refine XS.goto X11.here hx rfl (pc0 := 68) (pc' := 72) rfl (D 22 rfl) (by decide) (by decide) ?_
  exact k
 obtain ⟨fs, hr, hrun, hended, hW, hsame⟩ := X11.leave (hlocks := Bd.notSynchronized) (v := some (.int 1)) (fun h => by rw [Bd.returns] at h; cases h)
 subst hG
 refine ⟨_, _, pre15 _ ?_, hrun, hended, _, _, rfl, ?_, ⟨_, rfl⟩, hW, hsame.mono (by decide) (by decide)⟩
 ·exact retN X11 hx (t := .boolean) Bd.returns (by simp) (D 23 rfl) hr
 ·show Q_rm_ck211 Z ra rc xc xd xf ka xz l1 kc2 xc0 xc1 xc2 xc3 xc4 h0 n0 _ T11.heap _
  rw [e11]
  exact ⟨rfl, N11, rfl⟩
theorem own_backSH {p : Program} {l : Launch} {e : Env} {R : Room} {s : State} {args : Array Value} {bw : List Frame} {Z : State} {a0 : Array Value} {EL : List (String × Nat)} {h : Heap} {vm0 : Vm} {y : MethodName} {bytes : ByteArray} {maxL : Nat} {ret : Option FieldType} {rm : Room} {len W : Nat} {as' : Array Value} {Q : Option Value → Heap → List Loc → Prop} {xs : List Addr}
  (hM : MetFree l y (head1 [Cond.code y bytes maxL ret] rm) (fun a U => a = as' ∧ Z.Warmed39 U.vm ∧ U.heap = h ∧ CHv Z EL U.vm h ∧ ∀ x ∈ xs, Safe Z EL U.vm h x) (fun _ _ _ _ _ => True) (fun _ U o U' => ∃ v L, o = .returned v ∧ Q v U'.heap L ∧ CHr Z EL U.vm U.heap U'.vm U'.heap ∧ ReturnedEndW U o U' L rm.cells rm.slots))
  (hZ : Z.Warmed39 vm0) (wc : (Cond.code y bytes maxL ret).before a0 Z = true) (wz : (Cond.initialized y.cls).before a0 Z = true) (hf : rm.frames + 1 ≤ R.frames) (hl : W + (maxL + 11) + rm.locals ≤ R.locals) (hEL : EW Z a0 EL) (H : CHv Z EL vm0 h) (hlt : ∀ x ∈ xs, x < h.size) (hs : ∀ x ∈ xs, Safe Z EL vm0 h x) :
  BackS l R p e bw (s.setVm vm0) args y len W (fun A a => a = as' ∧ A.U.heap = h ∧ A.cells + rm.cells ≤ R.cells ∧ A.slots + rm.slots ≤ R.slots)
   (fun A _ v B => ∃ L, Q v B.U.heap L ∧ B.locs = A.locs ++ L ∧ B.cells = A.cells + rm.cells ∧ B.slots = A.slots + rm.slots ∧ CHr Z EL vm0 h B.U.vm B.U.heap) := by
 refine BackS.of_freeW (bytes := bytes) (maxL := maxL) (ret := ret) (E := fun _ first o t L k n => k = rm.cells ∧ n = rm.slots ∧ (∃ v, o = .returned v ∧ Q v t.heap L) ∧ CHr Z EL first.vm first.heap t.vm t.heap) hM hf hl ?_ ?_ (fun _ _ _ _ _ _ _ _ _ => trivial) ?_ ?_
 ·intro m meth c A a Y hp
  have hU : Z.Warmed39 A.U.vm := wtrans (s := s.setVm vm0) hZ Y.warmed
  refine ⟨?_, mv hU wc, mv hU wz, hp.2.2.1, hp.2.2.2⟩
  show (Cond.and _ .tt).before a A.U = true
  rw [Cond.before_and, mv hU wc]
  rfl
 ·intro m meth c A a g mk Y hp
  have hr := CHv.at Y hZ hEL H
  exact ⟨hp.1, wtrans (s := s.setVm vm0) hZ Y.warmed, hp.2.1, hr.1, fun x hx => hr.safe (hlt x hx) (hs x hx)⟩
 ·rintro _ _ _ _ ⟨v, L, h1, h2, h3, h4⟩
  exact ⟨L, _, _, h4, rfl, rfl, ⟨v, h1, h2⟩, h3⟩
 ·rintro m meth c A a g mk v t L k n Y hp _ _ ⟨e1, e2, ⟨v', e3, e4⟩, e5⟩
  cases e3
  subst e1 e2
  refine ⟨L, e4, rfl, rfl, rfl, (CHv.at Y hZ hEL H).trans ?_⟩
  rw [← hp.2.1]
  exact e5
theorem ef_rm_sc0 (m : MethodId) (ra : Addr) (rb : Addr) : entryFrame m #[(.ref ra), (.ref rb), (.int 0), (.int 0), .null] 6 = mkF m 0 #[vR ra, vR rb, vI 0, vI 0, .val .null, vU] [] := by simp [entryFrame, mkF, argsToLocals, Value.category]
def Q_rm_sc0 (Z : State) (ra : Addr) (rb : Addr) (h0 : Heap) (n0 : Nat) (v : Option Value) (h : Heap) (L : List Loc) : Prop := ∃ ry : Addr, ∃ ky : ClassId, v = none ∧ Fr n0 L ∧ Keep h0 h [ra] ∧ Exa Z h ra "java/lang/String" ∧ Fld Z h ra "java/lang/String" "value" "[B" (.ref ry) ∧ Fld Z h ra "java/lang/String" "coder" "B" (.int 0) ∧ Arv Z h ry ky .byte (0 : Int32) [] (.int 0) ∧ Exa Z h ry "[B"
set_option maxRecDepth 65536 in
set_option maxHeartbeats 40000000 in
theorem rm_sc0 (l : Launch) (Z : State) (a0 : Array Value) (hw : ∀ d ∈ tables_1, d.before a0 Z = true) (ws : List Jvm.Cond) (ra : Addr) (rb : Addr) (h0 : Heap) (n0 : Nat) (Z0 : n0 ≤ h0.size) (E_ra : Exa Z h0 ra "java/lang/String") (g_ra : n0 ≤ ra) (F_coder_ra : Fld Z h0 ra "java/lang/String" "coder" "B" (.int 0)) (F_value_ra : Fld Z h0 ra "java/lang/String" "value" "[B" .null) :
  MetFree l oM2 (head1 (Jvm.Cond.code oM2 jdk_42_method_149_code 6 none :: ws) (oR 1 4 8 12)) (fun a U => a = #[(.ref ra), (.ref rb), (.int 0), (.int 0), .null] ∧ Z.Warmed39 U.vm ∧ U.heap = h0 ∧ CHv Z own_EL U.vm h0 ∧ ∀ x ∈ [ra], Safe Z own_EL U.vm h0 x) (fun _ _ _ _ _ => True) (fun _ U o U' => ∃ v L, o = .returned v ∧ Q_rm_sc0 Z ra rb h0 n0 v U'.heap L ∧ CHr Z own_EL U.vm U.heap U'.vm U'.heap ∧ ReturnedEndW U o U' L (oR 1 4 8 12).cells (oR 1 4 8 12).slots) := by
 refine MetFree.of_bodySF (plainFor_of_name pn1) hisR ?_
 have W := own_W hw
 intro p e s m args bw meth c s₁ Bd hml0 hP hK
 obtain ⟨rfl, hZ, hh, HC0, HZ0⟩ := hP
 have hx := Bd.exec
 have hby := Bd.bytes
 have hml : c.maxLocals = 6 := hml0
 have hown : s.vm.findClass "java/lang/String" = some m.cls := findClass_of_methodNamed Bd.named
 have hnm := (name_of_methodNamed Bd.named Bd.method).1
 have X0 : Stand p l e (oR 1 4 8 12) (s.setVm s.vm) m #[(.ref ra), (.ref rb), (.int 0), (.int 0), .null] bw meth c s₁ [] 0 0 := Stand.of_body Bd
 have hS0 : s.Since s.vm 0 := State.WarmedH.since (State.WarmedH.refl s) 0
 have hk0 : 0 ≤ h0.size := Nat.zero_le _
 have hEL : EW Z a0 own_EL := EW.cons (W 197 rfl) (by decide) EW.nil
 have wS : ∀ d ∈ Bundle.stringAtoms, d.before a0 Z = true := fun d hd => hw d ((by decide +kernel : ∀ d ∈ Bundle.stringAtoms, d ∈ tables_1) d hd)
 have hown : (s.setVm s.vm).vm.findClass "java/lang/String" = some m.cls := hown
 have hZ : Z.Warmed39 (s.setVm s.vm).vm := hZ
 have e0 : s₁.heap = h0 := by rw [← hh, Bd.state]; rfl
 have N0 := Fr.nil n0
 have D := own_D hby dB2
 obtain ⟨G, hG⟩ := own_ex fun t => Steps p.tables e bw (s₁.setTop (entryFrame m #[(.ref ra), (.ref rb), (.int 0), (.int 0), .null] 6)) t
 have pre0 : oP p e bw G s₁ m 0 #[vR ra, vR rb, vI 0, vI 0, .val .null, vU] [] := by intro t k; subst hG; exact castTop (ef_rm_sc0 m ra rb) k
 have pre1 : oP p e bw G s₁ m 1 #[vR ra, vR rb, vI 0, vI 0, .val .null, vU] [(.ref ra)] := by
  intro t k
  refine pre0 t ?_
  refine XS.aloadN X0.here hx rfl (D 0 rfl) rfl rfl ?_
  exact k
 obtain ⟨T2, X2, e2, st2⟩ := initO X0 hx hZ hown (W 13 rfl) (W 14 rfl) (W 15 rfl) e0 (g := (own_g pre1)) rfl (by rw [hml]; rfl) rfl (D 1 rfl) (by decide) (W := 0) (by show 2 * 0 + _ ≤ _; exact Nat.le_of_eq rfl) (by decide)
 have pre3 : oP p e bw G T2 m 9 #[vR ra, vR rb, vI 0, vI 0, .val .null, vU] [(.ref ra)] := by
  intro t k
  refine pre1 t (st2 t ?_)
  refine XS.iloadN X2.here hx rfl (D 2 rfl) rfl ?_
  refine XS.ifNo X2.here hx rfl (D 3 rfl) rfl ((if0 _ _).trans (teq (show (0 : Int32) = (0 : Int32) from rfl)).2) ?_
  refine XS.aloadN X2.here hx rfl (D 20 rfl) rfl rfl ?_
  exact k
 obtain ⟨a4, T4, h4, k4, b4, kb4, X4, e4, E4, hS4, hk4, hZ, hown, Ea4, Fc4, Fv4, Va4, -, -, CR4, Lt4, nb4, st4⟩ := ldcCH X2 hx hZ hown (W 197 rfl) wS e2 hS0 hk0 hEL (by simp [own_EL]) HC0 (vs := []) (z := (0 : Int32)) ⟨by decide, by first | rfl | decide⟩ (by decide) rfl (g := (own_g pre3)) rfl (D 21 rfl) (n := 0) (by decide) (by decide) (by decide) (by decide)
 have sf4_ra := CHr.safe CR4 E_ra.lt (HZ0 ra (by simp))
 have K4 : Keep h0 h4 [ra] := (Keep.refl h0 [ra]).ext E4
 have z4 : n0 ≤ h4.size := Nat.le_trans Z0 K4.1
 have RC4 := CHr.trans (CHr.refl HC0) CR4
 have xB4 := own_exaB hZ hown (W 197 rfl) (by simp [own_EL]) CR4.1 Lt4 Fv4
 have X4 : Stand p l e _ _ m _ bw meth c T4 _ 2 4 := X4
 have pre5 : oP p e bw G T4 m 11 #[vR ra, vR rb, vI 0, vI 0, .val .null, vU] [(.ref a4), (.ref ra)] := fun t k => pre3 t (st4 t k)
 obtain ⟨T6, X6, e6, st6⟩ := getF X4 hx hZ hown (host := "") (Or.inl (W 30 rfl)) Via.refl e4 Fv4 (g := (own_g pre5)) rfl rfl (D 22 rfl)
 have pre7 : oP p e bw G T6 m 14 #[vR ra, vR rb, vI 0, vI 0, .val .null, vU] [(.ref b4), (.ref ra)] := fun t k => pre5 t (st6 t k)
 have f8 := (E_ra.ext E4)
 have f9 := (F_value_ra.ext E4)
 obtain ⟨T10, h10, X10, e10, W10, st10⟩ := putF X6 hx hZ hown (host := "") (Or.inl (W 30 rfl)) Via.refl e6 f9 f8 (Or.inr ⟨(W 31 rfl), rfl, hnm⟩) (W 4 rfl) (ty := (.array .byte)) (by decide) rfl rfl (g := (own_g pre7)) rfl rfl (D 23 rfl)
 have so10 := sf4_ra
 have sf10_ra := Safe.wr W10 so10 CR4.1 sf4_ra
 have RC10 := CHr.trans RC4 (CHr.wr W10 so10 CR4.1)
 have HC10 := CHv.wr W10 so10 CR4.1
 have hk10 := Nat.le_trans hk4 (Keep.of_wr W10).1
 have K10 : Keep h0 h10 [ra] := K4.wr W10 (Or.inl (by simp))
 have z10 : n0 ≤ h10.size := Nat.le_trans Z0 K10.1
 have N10 := Fr.snoc X10 N0 g_ra
 have Fw10 := f9.same W10
 have pre11 : oP p e bw G T10 m 18 #[vR ra, vR rb, vI 0, vI 0, .val .null, vU] [(.ref ra)] := by
  intro t k
  refine pre7 t (st10 t ?_)
  refine XS.aloadN X10.here hx rfl (D 24 rfl) rfl rfl ?_
  exact k
 obtain ⟨a12, T12, h12, k12, b12, kb12, X12, e12, E12, hS12, hk12, hZ, hown, Ea12, Fc12, Fv12, Va12, -, -, CR12, Lt12, nb12, st12⟩ := ldcCH X10 hx hZ hown (W 197 rfl) wS e10 hS4 hk10 hEL (by simp [own_EL]) HC10 (vs := []) (z := (0 : Int32)) ⟨by decide, by first | rfl | decide⟩ (by decide) rfl (g := (own_g pre11)) rfl (D 25 rfl) (n := 0) (by decide) (by decide) (by decide) (by decide)
 have sf12_ra := CHr.safe CR12 (f8.wr W10).lt sf10_ra
 have K12 : Keep h0 h12 [ra] := K10.ext E12
 have z12 : n0 ≤ h12.size := Nat.le_trans Z0 K12.1
 have RC12 := CHr.trans RC10 CR12
 have xB12 := own_exaB hZ hown (W 197 rfl) (by simp [own_EL]) CR12.1 Lt12 Fv12
 have f13 := ((xB4.wr W10).ext E12)
 have X12 : Stand p l e _ _ m _ bw meth c T12 _ 4 8 := X12
 have pre14 : oP p e bw G T12 m 20 #[vR ra, vR rb, vI 0, vI 0, .val .null, vU] [(.ref a12), (.ref ra)] := fun t k => pre11 t (st12 t k)
 obtain ⟨T15, X15, e15, st15⟩ := getF X12 hx hZ hown (host := "") (Or.inl (W 28 rfl)) Via.refl e12 Fc12 (g := (own_g pre14)) rfl rfl (D 26 rfl)
 have pre16 : oP p e bw G T15 m 23 #[vR ra, vR rb, vI 0, vI 0, .val .null, vU] [(.int 0), (.ref ra)] := fun t k => pre14 t (st15 t k)
 have f17 := ((f8.wr W10).ext E12)
 have f18 := (((F_coder_ra.ext E4).other W10 (Or.inr (slot_ne (Or.inr (W 29 rfl)) (Or.inr (W 31 rfl)) (by decide) (t := .byte) (t' := (.array .byte)) (by decide) (by decide)))).ext E12)
 obtain ⟨T19, h19, X19, e19, W19, st19⟩ := putFN X15 hx hZ hown (W 28 rfl) Via.refl e15 f18 f17 (Or.inr ⟨(W 29 rfl), rfl, hnm⟩) (W 4 rfl) (ty := .byte) (v' := (.int (nar .byte (0 : Int32)))) (by decide) rfl (fits_nar_byte _) (g := (own_g pre16)) rfl rfl (D 27 rfl)
 have so19 := sf12_ra
 have sf19_ra := Safe.wr W19 so19 CR12.1 sf12_ra
 have RC19 := CHr.trans RC12 (CHr.wr W19 so19 CR12.1)
 have HC19 := CHv.wr W19 so19 CR12.1
 have hk19 := Nat.le_trans hk12 (Keep.of_wr W19).1
 have K19 : Keep h0 h19 [ra] := K12.wr W19 (Or.inl (by simp))
 have z19 : n0 ≤ h19.size := Nat.le_trans Z0 K19.1
 have N19 := Fr.snoc X19 N10 g_ra
 have Fw19 := f18.same W19
 have pre20 : oP p e bw G T19 m 26 #[vR ra, vR rb, vI 0, vI 0, .val .null, vU] [] := fun t k => pre16 t (st19 t k)
 obtain ⟨fs, hr, hrun, hended, hRW⟩ := X19.leaveW hS12 (Nat.le_trans hk19 (Nat.le_of_eq (congrArg Array.size (show _ = h19 from e19)).symm)) (v := none) (fun _ => rfl)
 subst hG
 have RE := CHr.trans RC19 (CHv.at X19 hZ hEL HC19)
 refine ⟨_, _, pre20 _ ?_, hrun, hended, _, _, rfl, ?_, (by rw [hh]; show CHr Z own_EL s.vm h0 T19.vm T19.heap; rw [show T19.heap = h19 from e19]; exact RE), hRW.1, hRW.2.1, hRW.2.2.1, hRW.2.2.2.mono (by decide) (by decide)⟩
 ·exact X19.returnOut hx Bd.returns (D 28 rfl) hr
 ·show Q_rm_sc0 Z ra rb h0 n0 _ T19.heap _
  rw [e19]
  exact ⟨b4, kb4, rfl, N19, K19, (f17.wr W19), ((Fw10.ext E12).other W19 (Or.inr (slot_ne (Or.inr (W 31 rfl)) (Or.inr (W 29 rfl)) (by decide) (t := (.array .byte)) (t' := .byte) (by decide) (by decide)))), Fw19, (((Va4.other W10 (Ne.symm (nb4 _ sf4_ra).2)).ext E12).other W19 (Ne.symm (nb4 _ sf4_ra).2)), (f13.wr W19)⟩
theorem ef_rm_sn0 (m : MethodId) (ra : Addr) (rb : Addr) : entryFrame m #[(.ref ra), (.ref rb)] 2 = mkF m 0 #[vR ra, vR rb] [] := by simp [entryFrame, mkF, argsToLocals, Value.category]
def Q_rm_sn0 (Z : State) (ra : Addr) (rb : Addr) (ka : ClassId) (h0 : Heap) (n0 : Nat) (v : Option Value) (h : Heap) (L : List Loc) : Prop := ∃ ry : Addr, ∃ ky : ClassId, v = none ∧ Fr n0 L ∧ Keep h0 h [ra] ∧ Exa Z h ra "java/lang/String" ∧ Fld Z h ra "java/lang/String" "value" "[B" (.ref ry) ∧ Fld Z h ra "java/lang/String" "coder" "B" (.int 0) ∧ Arv Z h ry ky .byte (0 : Int32) [] (.int 0) ∧ Exa Z h ry "[B"
set_option maxRecDepth 65536 in
set_option maxHeartbeats 40000000 in
theorem rm_sn0 (l : Launch) (Z : State) (a0 : Array Value) (hw : ∀ d ∈ tables_1, d.before a0 Z = true) (ws : List Jvm.Cond) (ra : Addr) (rb : Addr) (ka : ClassId) (h0 : Heap) (n0 : Nat) (Z0 : n0 ≤ h0.size) (E_ra : Exa Z h0 ra "java/lang/String") (g_ra : n0 ≤ ra) (F_coder_ra : Fld Z h0 ra "java/lang/String" "coder" "B" (.int 0)) (F_value_ra : Fld Z h0 ra "java/lang/String" "value" "[B" .null) (VA : Arv Z h0 rb ka .char (0 : Int32) [] (.int 0)) :
  MetFree l oM3 (head1 (Jvm.Cond.code oM3 jdk_42_method_3_code 2 none :: ws) (oR 2 4 8 29)) (fun a U => a = #[(.ref ra), (.ref rb)] ∧ Z.Warmed39 U.vm ∧ U.heap = h0 ∧ CHv Z own_EL U.vm h0 ∧ ∀ x ∈ [ra], Safe Z own_EL U.vm h0 x) (fun _ _ _ _ _ => True) (fun _ U o U' => ∃ v L, o = .returned v ∧ Q_rm_sn0 Z ra rb ka h0 n0 v U'.heap L ∧ CHr Z own_EL U.vm U.heap U'.vm U'.heap ∧ ReturnedEndW U o U' L (oR 2 4 8 29).cells (oR 2 4 8 29).slots) := by
 refine MetFree.of_bodySF (plainFor_of_name pn1) hisR ?_
 have W := own_W hw
 intro p e s m args bw meth c s₁ Bd hml0 hP hK
 obtain ⟨rfl, hZ, hh, HC0, HZ0⟩ := hP
 have hx := Bd.exec
 have hby := Bd.bytes
 have hml : c.maxLocals = 2 := hml0
 have hown : s.vm.findClass "java/lang/String" = some m.cls := findClass_of_methodNamed Bd.named
 have hnm := (name_of_methodNamed Bd.named Bd.method).1
 have X0 : Stand p l e (oR 2 4 8 29) (s.setVm s.vm) m #[(.ref ra), (.ref rb)] bw meth c s₁ [] 0 0 := Stand.of_body Bd
 have hS0 : s.Since s.vm 0 := State.WarmedH.since (State.WarmedH.refl s) 0
 have hk0 : 0 ≤ h0.size := Nat.zero_le _
 have hEL : EW Z a0 own_EL := EW.cons (W 197 rfl) (by decide) EW.nil
 have wS : ∀ d ∈ Bundle.stringAtoms, d.before a0 Z = true := fun d hd => hw d ((by decide +kernel : ∀ d ∈ Bundle.stringAtoms, d ∈ tables_1) d hd)
 have hown : (s.setVm s.vm).vm.findClass "java/lang/String" = some m.cls := hown
 have hZ : Z.Warmed39 (s.setVm s.vm).vm := hZ
 have e0 : s₁.heap = h0 := by rw [← hh, Bd.state]; rfl
 have N0 := Fr.nil n0
 have D := own_D hby dB1
 obtain ⟨G, hG⟩ := own_ex fun t => Steps p.tables e bw (s₁.setTop (entryFrame m #[(.ref ra), (.ref rb)] 2)) t
 have pre0 : oP p e bw G s₁ m 0 #[vR ra, vR rb] [] := by intro t k; subst hG; exact castTop (ef_rm_sn0 m ra rb) k
 have pre1 : oP p e bw G s₁ m 4 #[vR ra, vR rb] [(.ref rb), (.int 0), (.ref rb), (.ref ra)] := by
  intro t k
  refine pre0 t ?_
  refine XS.aloadN X0.here hx rfl (D 0 rfl) rfl rfl ?_
  refine XS.aloadN X0.here hx rfl (D 1 rfl) rfl rfl ?_
  refine XS.iconst X0.here hx rfl (D 2 rfl) ?_
  refine XS.aloadN X0.here hx rfl (D 3 rfl) rfl rfl ?_
  exact k
 have pre3 : oP p e bw G s₁ m 6 #[vR ra, vR rb] [.null, (.int 0), (.int 0), (.ref rb), (.ref ra)] := by
  intro t k
  refine pre1 t ?_
  obtain ⟨c2, a2, q2, s2, m2, i2, u2⟩ := id VA
  refine X0.arraylength hx (by rw [e0]; exact a2.1) (State.isArrayOf_alike hZ.alike a2.2.1) (g := (own_g pre1)) rfl rfl (D 4 rfl) _ ?_
  rw [len_of s2 m2]
  refine XS.aconstNull X0.here hx rfl (D 5 rfl) ?_
  exact k
 obtain ⟨_, _, ⟨T4, L4, k4, n4⟩, -, X4, hs4, gz4, ⟨Lc4, hQ4, l4, y4, z4, CR4⟩, st4⟩ := X0.specialBackS hx (y := oM2) rfl hown (mvT hZ (W 9 rfl)) (mvT hZ (W 10 rfl)) (mvT hZ (W 12 rfl)) (by decide) (own_backSH (W := 0) (rm_sc0 l Z a0 hw [] ra rb h0 n0 Z0 E_ra (g_ra) F_coder_ra F_value_ra) hZ (W 12 rfl) (W 5 rfl) (by decide) (by decide) hEL HC0 (allS (P := fun x => x < _) E_ra.lt all0) (allS (P := fun x => Safe Z own_EL _ _ x) (HZ0 ra (by simp)) all0)) (g := (own_g pre3)) rfl (by rw [hml]; rfl) (Steps.refl _) (a := ra) (argsL := [(.ref rb), (.int 0), (.int 0), .null]) (rest := []) (lenOf pd6 rfl) rfl (by show 2 * 0 + _ ≤ _; exact Nat.le_of_eq rfl) (D 6 rfl) (fun _ _ => ⟨rfl, e0, (by decide : 0 + 4 ≤ _), (by decide : 0 + 8 ≤ _)⟩)
 dsimp only [Pt.U, Pt.locs, Pt.cells, Pt.slots] at X4 l4 y4 z4 st4 hQ4 hs4 gz4 CR4
 subst y4 z4
 obtain ⟨X4, hS4, hZ, hown⟩ := rebS hS0 (Nat.le_trans hk0 (Nat.le_of_eq (congrArg Array.size (show _ = h0 from e0)).symm)) X4 hs4 gz4 hZ hown
 have hk4 := Nat.le_refl T4.heap.size
 have sf4_ra := CHr.safe CR4 E_ra.lt (HZ0 ra (by simp))
 have RC4 := CHr.trans (CHr.refl HC0) CR4
 obtain ⟨ry_4, ky_4, rfl, M4, kp4, f4_0, f4_1, f4_2, f4_3, f4_4⟩ := hQ4
 have K4 : Keep h0 T4.heap [ra] := (Keep.refl h0 [ra]).trans kp4 (allS (P := fun x => x ∈ [ra] ∨ h0.size ≤ x) (Or.inl (by simp)) all0)
 have zz4 : n0 ≤ T4.heap.size := Nat.le_trans Z0 K4.1
 have N4 : Fr n0 L4 := by rw [l4]; exact Fr.app N0 M4
 clear l4
 have X4 : Stand p l e _ _ m _ bw meth c T4 _ 4 8 := X4
 have pre5 : oP p e bw G T4 m 9 #[vR ra, vR rb] [] := fun t k => pre3 t (st4.trans k)
 obtain ⟨fs, hr, hrun, hended, hRW⟩ := X4.leaveW hS4 (Nat.le_trans hk4 (Nat.le_of_eq (congrArg Array.size (show _ = T4.heap from rfl)).symm)) (v := none) (fun _ => rfl)
 subst hG
 have RE := CHr.trans RC4 (CHv.at X4 hZ hEL CR4.1)
 refine ⟨_, _, pre5 _ ?_, hrun, hended, _, _, rfl, ?_, (by rw [hh]; show CHr Z own_EL s.vm h0 T4.vm T4.heap; rw [show T4.heap = T4.heap from rfl]; exact RE), hRW.1, hRW.2.1, hRW.2.2.1, hRW.2.2.2.mono (by decide) (by decide)⟩
 ·exact X4.returnOut hx Bd.returns (D 7 rfl) hr
 ·show Q_rm_sn0 Z ra rb ka h0 n0 _ T4.heap _
  exact ⟨ry_4, ky_4, rfl, N4, K4, f4_0, f4_1, f4_2, f4_3, f4_4⟩
theorem own_r8 (x : Int32) : own_OKc ((x &&& (255 : Int32)).toUInt32.toUInt16.toUInt32.toInt32) := by
 have := rng32 x
 have := c_mask x (255 : Int32) 8 (by decide) (by decide +kernel)
 have := rng32 (x &&& (255 : Int32))
 have := c_i2c (x &&& (255 : Int32))
 have := rng32 ((x &&& (255 : Int32)).toUInt32.toUInt16.toUInt32.toInt32)
 constructor <;> omega
theorem own_rL (x : Int64) : own_OKc (((x &&& (255 : Int64)).toInt32).toUInt32.toUInt16.toUInt32.toInt32) := by
 have := rng64 x
 have := c_maskL x (255 : Int64) 8 (by decide) (by decide +kernel)
 have := rng64 (x &&& (255 : Int64))
 have := c_l2i (x &&& (255 : Int64))
 have := rng32 ((x &&& (255 : Int64)).toInt32)
 have := c_i2c (x &&& (255 : Int64)).toInt32
 have := rng32 ((x &&& (255 : Int64)).toInt32.toUInt32.toUInt16.toUInt32.toInt32)
 constructor <;> omega
def own_OKl (z : Int32) : Prop := z = 0 ∨ z = 1 ∨ z = 2
theorem own_k3 (x : Int32) : own_OKl ((x &&& (2147483647 : Int32)) % (3 : Int32)) := by
 have := rng32 x
 have := c_mask x (2147483647 : Int32) 31 (by decide) (by decide +kernel)
 have := rng32 (x &&& (2147483647 : Int32))
 have : (3 : Int32).toInt = 3 := rfl
 have := c_irem (x &&& (2147483647 : Int32)) (3 : Int32) 3 rfl
 have := rng32 ((x &&& (2147483647 : Int32)) % (3 : Int32))
 simp only [own_OKl, ← Int32.toInt_inj]
 have : (0 : Int32).toInt = 0 := rfl
 have : (1 : Int32).toInt = 1 := rfl
 have : (2 : Int32).toInt = 2 := rfl
 omega
theorem own_m2 (x : Int32) : (x &&& (1 : Int32)) = 0 ∨ (x &&& (1 : Int32)) = 1 := by
 have := rng32 x
 have := c_mask x (1 : Int32) 1 (by decide) (by decide +kernel)
 have := rng32 (x &&& (1 : Int32))
 simp only [← Int32.toInt_inj]
 have : (0 : Int32).toInt = 0 := rfl
 have : (1 : Int32).toInt = 1 := rfl
 omega
theorem own_or {z : Int32} (q : z = 0 ∨ z = 1) (a : ¬ (z = (0 : Int32))) : z = (1 : Int32) := q.elim (fun e => absurd e a) id
theorem own_v01 {c : Prop} [Decidable c] {z : Int32} (h : z = (if c then (0 : Int32) else (1 : Int32))) : z = 0 ∨ z = 1 := by
 rw [h]; split
 ·exact Or.inl rfl
 ·exact Or.inr rfl
theorem own_l2 {z : Int32} (q : own_OKl z) (a : ¬ (z = (0 : Int32))) (b : ¬ (z = (1 : Int32))) : z = (2 : Int32) := by
 rcases q with q | q | q
 ·exact absurd q a
 ·exact absurd q b
 ·exact q
theorem own_nc {z : Int32} (q : own_OKc z) : nar .char z = z := by
 obtain ⟨q1, q2⟩ := q
 have := c_i2c z
 show z.toUInt32.toUInt16.toUInt32.toInt32 = z
 rw [← Int32.toInt_inj]
 omega
theorem own_lt {z : Int32} (q : own_OKc z) : ¬ ((255 : Int32) < z) := by
 obtain ⟨q1, q2⟩ := q
 rw [Int32.lt_iff_toInt_lt]
 have : (255 : Int32).toInt = 255 := rfl
 omega
theorem own_ltc {z : Int32} (q : own_OKc z) : ¬ ((255 : Int32) < nar .char z) := by rw [own_nc q]; exact own_lt q
theorem own_okn {z : Int32} (q : own_OKc z) : own_OKc (nar .char z) := by rw [own_nc q]; exact q
theorem pd32 : parseMethodDescriptor "([C)V" = some ⟨[(.array .char)], none⟩ := by decide +kernel
theorem pd33 : parseMethodDescriptor "(C)Ljava/lang/String;" = some ⟨[.char], some (.object "java/lang/String")⟩ := by decide +kernel
theorem pd34 : parseMethodDescriptor "([Ljava/lang/String;)Lcom/example/quorum_lease/quorumlease/redis/Resp$Head;" = some ⟨[(.array (.object "java/lang/String"))], some (.object oS0)⟩ := by decide +kernel
theorem pd35 : parseMethodDescriptor "([BII[CZCCC)Z" = some ⟨[(.array .byte), .int, .int, (.array .char), .boolean, .char, .char, .char], some .boolean⟩ := by decide +kernel
theorem ef_rm0 (m : MethodId) (xt : Int64) (xp : Int32) (xq : Int32) (xs : Int32) : entryFrame m #[(.long xt), (.int xp), (.int xq), (.int xs)] maxLocals = mkF m 0 #[vJ xt, .second, vI xp, vI xq, vI xs, vU, vU, vU, vU, vU, vU, vU, vU, vU, vU, vU, vU, vU, vU, vU, vU] [] := by first | (simp [entryFrame, mkF, argsToLocals, Value.category, maxLocals]; done) | rfl
def Q_rm0 (Z : State) (xt : Int64) (xp : Int32) (xq : Int32) (xs : Int32) (xcs : Int32) (wu : Addr) (wc : Addr) (kc : ClassId) (xr0 : Int32) (xr1 : Int32) (h0 : Heap) (n0 : Nat) (v : Option Value) (h : Heap) (L : List Loc) : Prop := v = some (.int 1) ∧ Fr n0 L
set_option maxRecDepth 65536 in
set_option maxHeartbeats 40000000 in
theorem rm0 (l : Launch) (Z : State) (a0 : Array Value) (hw : ∀ d ∈ tables_1, d.before a0 Z = true) (ws : List Jvm.Cond) (xt : Int64) (xp : Int32) (xq : Int32) (xs : Int32) (xcs : Int32) (wu : Addr) (wc : Addr) (kc : ClassId) (xr0 : Int32) (xr1 : Int32) (h0 : Heap) (n0 : Nat) (Z0 : n0 ≤ h0.size) (SC : Sta Z h0 "java/lang/String" "COMPACT_STRINGS" "Z" (.int xcs)) (hcs : ¬ (xcs = (0 : Int32))) (SI : Sta Z h0 "sun/nio/cs/UTF_8" "INSTANCE" oS7 (.ref wu)) (SU : Sta Z h0 oS5 "UTF_8" oS6 (.ref wu)) (SR : Sta Z h0 oS1 "CRLF" "[B" (.ref wc)) (VR : Arv Z h0 wc kc .byte (2 : Int32) [(.int xr0), (.int xr1)] (.int 0)) :
  MetFree l x (head1 (Jvm.Cond.code x code maxLocals ret :: ws) room_1) (fun a U => a = #[(.long xt), (.int xp), (.int xq), (.int xs)] ∧ Z.Warmed39 U.vm ∧ U.heap = h0 ∧ CHv Z own_EL U.vm h0) (fun _ _ _ _ _ => True) (fun _ U o U' => ∃ v L, o = .returned v ∧ Q_rm0 Z xt xp xq xs xcs wu wc kc xr0 xr1 h0 n0 v U'.heap L ∧ CHr Z own_EL U.vm U.heap U'.vm U'.heap ∧ ReturnedEndW U o U' L room_1.cells room_1.slots) := by
 refine MetFree.of_bodySF (plainFor_of_name pn4) hisR ?_
 have W := own_W hw
 intro p e s m args bw meth c s₁ Bd hml0 hP hK
 obtain ⟨rfl, hZ, hh, HC0⟩ := hP
 have hx := Bd.exec
 have hby := Bd.bytes
 have hml : c.maxLocals = 21 := hml0
 have hown : s.vm.findClass oS3 = some m.cls := findClass_of_methodNamed Bd.named
 have hnm := (name_of_methodNamed Bd.named Bd.method).1
 have X0 : Stand p l e room_1 (s.setVm s.vm) m #[(.long xt), (.int xp), (.int xq), (.int xs)] bw meth c s₁ [] 0 0 := Stand.of_body Bd
 have hS0 : s.Since s.vm 0 := State.WarmedH.since (State.WarmedH.refl s) 0
 have hk0 : 0 ≤ h0.size := Nat.zero_le _
 have hEL : EW Z a0 own_EL := EW.cons (W 197 rfl) (by decide) EW.nil
 have wS : ∀ d ∈ Bundle.stringAtoms, d.before a0 Z = true := fun d hd => hw d ((by decide +kernel : ∀ d ∈ Bundle.stringAtoms, d ∈ tables_1) d hd)
 have hown : (s.setVm s.vm).vm.findClass oS3 = some m.cls := hown
 have hZ : Z.Warmed39 (s.setVm s.vm).vm := hZ
 have e0 : s₁.heap = h0 := by rw [← hh, Bd.state]; rfl
 have N0 := Fr.nil n0
 obtain ⟨G, hG⟩ := own_ex fun t => Steps p.tables e bw (s₁.setTop (entryFrame m #[(.long xt), (.int xp), (.int xq), (.int xs)] maxLocals)) t
 have pre0 : oP p e bw G s₁ m 0 #[vJ xt, .second, vI xp, vI xq, vI xs, vU, vU, vU, vU, vU, vU, vU, vU, vU, vU, vU, vU, vU, vU, vU, vU] [] := by intro t k; subst hG; exact castTop (ef_rm0 m xt xp xq xs) k
 have pre1 : oP p e bw G s₁ m 1 #[vJ xt, .second, vI xp, vI xq, vI xs, vU, vU, vU, vU, vU, vU, vU, vU, vU, vU, vU, vU, vU, vU, vU, vU] [(.int 5)] := by
  intro t k
  refine pre0 t ?_
  refine XS.iconst X0.here hx rfl (hb hby at_0) ?_
  exact k
 obtain ⟨T2, h2, k2, X2, e2, E2, A2, st2⟩ := newP X0 hx hZ (W 0 rfl) e0 (g := (own_g pre1)) rfl (hb hby at_1) rfl (by decide) (cap := 5) (by decide) (by decide) (by decide) (by decide)
 obtain ⟨b2, g2⟩ := own_ex h0.size
 rw [← g2] at A2 st2
 have g_b2 : n0 ≤ b2 := Nat.le_trans Z0 (Nat.le_of_eq g2.symm)
 have sz_b2 : h0.size ≤ b2 := Nat.le_trans (Keep.refl h0 ([] : List Addr)).1 (Nat.le_of_eq g2.symm)
 have sf2_b2 := Safe.ext E2 HC0 (Safe.new (Nat.le_of_eq g2.symm))
 have RC2 := CHr.trans (CHr.refl HC0) (CHr.ext E2 HC0)
 have HC2 := CHv.ext E2 HC0
 have hk2 := Nat.le_trans hk0 E2.1
 have K2 : Keep h0 h2 ([] : List Addr) := (Keep.refl h0 ([] : List Addr)).ext E2
 have z2 : n0 ≤ h2.size := Nat.le_trans Z0 K2.1
 have V_b2 : Arv Z h2 b2 k2 .char (5 : Int32) [(.int 0), (.int 0), (.int 0), (.int 0), (.int 0)] (.int 0) := (Arv.new A2 (by decide)).pad (pad_rep [] (.int 0) 5)
 have X2 : Stand p l e _ _ m _ bw meth c T2 _ 1 5 := X2
 have pre3 : oP p e bw G T2 m 6 #[vJ xt, .second, vI xp, vI xq, vI xs, vU, vU, vU, vU, vU, vU, vU, vU, vU, vU, vU, vU, vU, vU, vU, vU] [(.long xt), (.int 0), (.ref b2), (.ref b2)] := by
  intro t k
  refine pre1 t (st2 t ?_)
  refine XS.dup X2.here hx rfl (hb hby at_3) rfl rfl ?_
  refine XS.iconst X2.here hx rfl (hb hby at_4) ?_
  refine XS.lloadN X2.here hx rfl (hb hby at_5) rfl ?_
  exact k
 have pre4 : oP p e bw G T2 m 12 #[vJ xt, .second, vI xp, vI xq, vI xs, vU, vU, vU, vU, vU, vU, vU, vU, vU, vU, vU, vU, vU, vU, vU, vU] [(.int (((xt &&& (255 : Int64)).toInt32).toUInt32.toUInt16.toUInt32.toInt32)), (.int 0), (.ref b2), (.ref b2)] := by
  intro t k
  refine pre3 t ?_
  refine X2.ldc2Long hx hown (mvT hZ (W 1 rfl)) (g := (own_g pre3)) rfl (hb hby at_6) _ ?_
  refine XS.land X2.here hx rfl (hb hby at_9) rfl ?_
  refine XS.l2i X2.here hx rfl (hb hby at_10) rfl ?_
  refine XS.i2c X2.here hx rfl (hb hby at_11) rfl ?_
  exact k
 obtain ⟨ja, hja⟩ : ∃ z : Int32, z = (((xt &&& (255 : Int64)).toInt32).toUInt32.toUInt16.toUInt32.toInt32) := ⟨_, rfl⟩
 rw [← hja] at pre4
 obtain ⟨c5, a5, q5, s5, m5, i5, u5⟩ := id V_b2
 obtain ⟨T6, h6, X6, e6, W6, st6⟩ := stC X2 hx hZ e2 a5 (j := (0 : Int32)) (inb_of s5 ⟨by decide, by decide⟩) (g := (own_g pre4)) rfl rfl (hb hby at_12)
 have so6 := sf2_b2
 have sf6_b2 := Safe.wr W6 so6 HC2 sf2_b2
 have RC6 := CHr.trans RC2 (CHr.wr W6 so6 HC2)
 have HC6 := CHv.wr W6 so6 HC2
 have hk6 := Nat.le_trans hk2 (Keep.of_wr W6).1
 have K6 : Keep h0 h6 ([] : List Addr) := K2.wr W6 (Or.inr sz_b2)
 have z6 : n0 ≤ h6.size := Nat.le_trans Z0 K6.1
 have N6 := Fr.snoc X6 N0 g_b2
 have V6 : Arv Z h6 b2 k2 .char (5 : Int32) [(.int (nar .char ja)), (.int 0), (.int 0), (.int 0), (.int 0)] (.int 0) := Arv.set a5 q5 s5 m5 i5 u5 (fits_nar_char _) W6 0 rfl (Nat.le_of_ble_eq_true rfl)
 have pre7 : oP p e bw G T6 m 19 #[vJ xt, .second, vI xp, vI xq, vI xs, vU, vU, vU, vU, vU, vU, vU, vU, vU, vU, vU, vU, vU, vU, vU, vU] [(.long ((xt.toUInt64 >>> ((8 : Int32) &&& 0x3f).toInt64.toUInt64).toInt64)), (.int 1), (.ref b2), (.ref b2)] := by
  intro t k
  refine pre4 t (st6 t ?_)
  refine XS.dup X6.here hx rfl (hb hby at_13) rfl rfl ?_
  refine XS.iconst X6.here hx rfl (hb hby at_14) ?_
  refine XS.lloadN X6.here hx rfl (hb hby at_15) rfl ?_
  refine XS.bipush X6.here hx rfl (hb hby at_16) ?_
  refine XS.lushr X6.here hx rfl (hb hby at_18) rfl ?_
  exact k
 have pre8 : oP p e bw G T6 m 25 #[vJ xt, .second, vI xp, vI xq, vI xs, vU, vU, vU, vU, vU, vU, vU, vU, vU, vU, vU, vU, vU, vU, vU, vU] [(.int (((((xt.toUInt64 >>> ((8 : Int32) &&& 0x3f).toInt64.toUInt64).toInt64) &&& (255 : Int64)).toInt32).toUInt32.toUInt16.toUInt32.toInt32)), (.int 1), (.ref b2), (.ref b2)] := by
  intro t k
  refine pre7 t ?_
  refine X6.ldc2Long hx hown (mvT hZ (W 1 rfl)) (g := (own_g pre7)) rfl (hb hby at_19) _ ?_
  refine XS.land X6.here hx rfl (hb hby at_22) rfl ?_
  refine XS.l2i X6.here hx rfl (hb hby at_23) rfl ?_
  refine XS.i2c X6.here hx rfl (hb hby at_24) rfl ?_
  exact k
 obtain ⟨jb, hjb⟩ : ∃ z : Int32, z = (((((xt.toUInt64 >>> ((8 : Int32) &&& 0x3f).toInt64.toUInt64).toInt64) &&& (255 : Int64)).toInt32).toUInt32.toUInt16.toUInt32.toInt32) := ⟨_, rfl⟩
 rw [← hjb] at pre8
 obtain ⟨c9, a9, q9, s9, m9, i9, u9⟩ := id V6
 obtain ⟨T10, h10, X10, e10, W10, st10⟩ := stC X6 hx hZ e6 a9 (j := (1 : Int32)) (inb_of s9 ⟨by decide, by decide⟩) (g := (own_g pre8)) rfl rfl (hb hby at_25)
 have so10 := sf6_b2
 have sf10_b2 := Safe.wr W10 so10 HC6 sf6_b2
 have RC10 := CHr.trans RC6 (CHr.wr W10 so10 HC6)
 have HC10 := CHv.wr W10 so10 HC6
 have hk10 := Nat.le_trans hk6 (Keep.of_wr W10).1
 have K10 : Keep h0 h10 ([] : List Addr) := K6.wr W10 (Or.inr sz_b2)
 have z10 : n0 ≤ h10.size := Nat.le_trans Z0 K10.1
 have N10 := Fr.snoc X10 N6 g_b2
 have V10 : Arv Z h10 b2 k2 .char (5 : Int32) [(.int (nar .char ja)), (.int (nar .char jb)), (.int 0), (.int 0), (.int 0)] (.int 0) := Arv.set a9 q9 s9 m9 i9 u9 (fits_nar_char _) W10 1 rfl (Nat.le_of_ble_eq_true rfl)
 have pre11 : oP p e bw G T10 m 32 #[vJ xt, .second, vI xp, vI xq, vI xs, vU, vU, vU, vU, vU, vU, vU, vU, vU, vU, vU, vU, vU, vU, vU, vU] [(.long ((xt.toUInt64 >>> ((16 : Int32) &&& 0x3f).toInt64.toUInt64).toInt64)), (.int 2), (.ref b2), (.ref b2)] := by
  intro t k
  refine pre8 t (st10 t ?_)
  refine XS.dup X10.here hx rfl (hb hby at_26) rfl rfl ?_
  refine XS.iconst X10.here hx rfl (hb hby at_27) ?_
  refine XS.lloadN X10.here hx rfl (hb hby at_28) rfl ?_
  refine XS.bipush X10.here hx rfl (hb hby at_29) ?_
  refine XS.lushr X10.here hx rfl (hb hby at_31) rfl ?_
  exact k
 have pre12 : oP p e bw G T10 m 38 #[vJ xt, .second, vI xp, vI xq, vI xs, vU, vU, vU, vU, vU, vU, vU, vU, vU, vU, vU, vU, vU, vU, vU, vU] [(.int (((((xt.toUInt64 >>> ((16 : Int32) &&& 0x3f).toInt64.toUInt64).toInt64) &&& (255 : Int64)).toInt32).toUInt32.toUInt16.toUInt32.toInt32)), (.int 2), (.ref b2), (.ref b2)] := by
  intro t k
  refine pre11 t ?_
  refine X10.ldc2Long hx hown (mvT hZ (W 1 rfl)) (g := (own_g pre11)) rfl (hb hby at_32) _ ?_
  refine XS.land X10.here hx rfl (hb hby at_35) rfl ?_
  refine XS.l2i X10.here hx rfl (hb hby at_36) rfl ?_
  refine XS.i2c X10.here hx rfl (hb hby at_37) rfl ?_
  exact k
 obtain ⟨jc, hjc⟩ : ∃ z : Int32, z = (((((xt.toUInt64 >>> ((16 : Int32) &&& 0x3f).toInt64.toUInt64).toInt64) &&& (255 : Int64)).toInt32).toUInt32.toUInt16.toUInt32.toInt32) := ⟨_, rfl⟩
 rw [← hjc] at pre12
 obtain ⟨c13, a13, q13, s13, m13, i13, u13⟩ := id V10
 obtain ⟨T14, h14, X14, e14, W14, st14⟩ := stC X10 hx hZ e10 a13 (j := (2 : Int32)) (inb_of s13 ⟨by decide, by decide⟩) (g := (own_g pre12)) rfl rfl (hb hby at_38)
 have so14 := sf10_b2
 have sf14_b2 := Safe.wr W14 so14 HC10 sf10_b2
 have RC14 := CHr.trans RC10 (CHr.wr W14 so14 HC10)
 have HC14 := CHv.wr W14 so14 HC10
 have hk14 := Nat.le_trans hk10 (Keep.of_wr W14).1
 have K14 : Keep h0 h14 ([] : List Addr) := K10.wr W14 (Or.inr sz_b2)
 have z14 : n0 ≤ h14.size := Nat.le_trans Z0 K14.1
 have N14 := Fr.snoc X14 N10 g_b2
 have V14 : Arv Z h14 b2 k2 .char (5 : Int32) [(.int (nar .char ja)), (.int (nar .char jb)), (.int (nar .char jc)), (.int 0), (.int 0)] (.int 0) := Arv.set a13 q13 s13 m13 i13 u13 (fits_nar_char _) W14 2 rfl (Nat.le_of_ble_eq_true rfl)
 have pre15 : oP p e bw G T14 m 45 #[vJ xt, .second, vI xp, vI xq, vI xs, vU, vU, vU, vU, vU, vU, vU, vU, vU, vU, vU, vU, vU, vU, vU, vU] [(.long ((xt.toUInt64 >>> ((24 : Int32) &&& 0x3f).toInt64.toUInt64).toInt64)), (.int 3), (.ref b2), (.ref b2)] := by
  intro t k
  refine pre12 t (st14 t ?_)
  refine XS.dup X14.here hx rfl (hb hby at_39) rfl rfl ?_
  refine XS.iconst X14.here hx rfl (hb hby at_40) ?_
  refine XS.lloadN X14.here hx rfl (hb hby at_41) rfl ?_
  refine XS.bipush X14.here hx rfl (hb hby at_42) ?_
  refine XS.lushr X14.here hx rfl (hb hby at_44) rfl ?_
  exact k
 have pre16 : oP p e bw G T14 m 51 #[vJ xt, .second, vI xp, vI xq, vI xs, vU, vU, vU, vU, vU, vU, vU, vU, vU, vU, vU, vU, vU, vU, vU, vU] [(.int (((((xt.toUInt64 >>> ((24 : Int32) &&& 0x3f).toInt64.toUInt64).toInt64) &&& (255 : Int64)).toInt32).toUInt32.toUInt16.toUInt32.toInt32)), (.int 3), (.ref b2), (.ref b2)] := by
  intro t k
  refine pre15 t ?_
  refine X14.ldc2Long hx hown (mvT hZ (W 1 rfl)) (g := (own_g pre15)) rfl (hb hby at_45) _ ?_
  refine XS.land X14.here hx rfl (hb hby at_48) rfl ?_
  refine XS.l2i X14.here hx rfl (hb hby at_49) rfl ?_
  refine XS.i2c X14.here hx rfl (hb hby at_50) rfl ?_
  exact k
 obtain ⟨jd, hjd⟩ : ∃ z : Int32, z = (((((xt.toUInt64 >>> ((24 : Int32) &&& 0x3f).toInt64.toUInt64).toInt64) &&& (255 : Int64)).toInt32).toUInt32.toUInt16.toUInt32.toInt32) := ⟨_, rfl⟩
 rw [← hjd] at pre16
 obtain ⟨c17, a17, q17, s17, m17, i17, u17⟩ := id V14
 obtain ⟨T18, h18, X18, e18, W18, st18⟩ := stC X14 hx hZ e14 a17 (j := (3 : Int32)) (inb_of s17 ⟨by decide, by decide⟩) (g := (own_g pre16)) rfl rfl (hb hby at_51)
 have so18 := sf14_b2
 have sf18_b2 := Safe.wr W18 so18 HC14 sf14_b2
 have RC18 := CHr.trans RC14 (CHr.wr W18 so18 HC14)
 have HC18 := CHv.wr W18 so18 HC14
 have hk18 := Nat.le_trans hk14 (Keep.of_wr W18).1
 have K18 : Keep h0 h18 ([] : List Addr) := K14.wr W18 (Or.inr sz_b2)
 have z18 : n0 ≤ h18.size := Nat.le_trans Z0 K18.1
 have N18 := Fr.snoc X18 N14 g_b2
 have V18 : Arv Z h18 b2 k2 .char (5 : Int32) [(.int (nar .char ja)), (.int (nar .char jb)), (.int (nar .char jc)), (.int (nar .char jd)), (.int 0)] (.int 0) := Arv.set a17 q17 s17 m17 i17 u17 (fits_nar_char _) W18 3 rfl (Nat.le_of_ble_eq_true rfl)
 have pre19 : oP p e bw G T18 m 58 #[vJ xt, .second, vI xp, vI xq, vI xs, vU, vU, vU, vU, vU, vU, vU, vU, vU, vU, vU, vU, vU, vU, vU, vU] [(.long ((xt.toUInt64 >>> ((32 : Int32) &&& 0x3f).toInt64.toUInt64).toInt64)), (.int 4), (.ref b2), (.ref b2)] := by
  intro t k
  refine pre16 t (st18 t ?_)
  refine XS.dup X18.here hx rfl (hb hby at_52) rfl rfl ?_
  refine XS.iconst X18.here hx rfl (hb hby at_53) ?_
  refine XS.lloadN X18.here hx rfl (hb hby at_54) rfl ?_
  refine XS.bipush X18.here hx rfl (hb hby at_55) ?_
  refine XS.lushr X18.here hx rfl (hb hby at_57) rfl ?_
  exact k
 have pre20 : oP p e bw G T18 m 64 #[vJ xt, .second, vI xp, vI xq, vI xs, vU, vU, vU, vU, vU, vU, vU, vU, vU, vU, vU, vU, vU, vU, vU, vU] [(.int (((((xt.toUInt64 >>> ((32 : Int32) &&& 0x3f).toInt64.toUInt64).toInt64) &&& (255 : Int64)).toInt32).toUInt32.toUInt16.toUInt32.toInt32)), (.int 4), (.ref b2), (.ref b2)] := by
  intro t k
  refine pre19 t ?_
  refine X18.ldc2Long hx hown (mvT hZ (W 1 rfl)) (g := (own_g pre19)) rfl (hb hby at_58) _ ?_
  refine XS.land X18.here hx rfl (hb hby at_61) rfl ?_
  refine XS.l2i X18.here hx rfl (hb hby at_62) rfl ?_
  refine XS.i2c X18.here hx rfl (hb hby at_63) rfl ?_
  exact k
 obtain ⟨je, hje⟩ : ∃ z : Int32, z = (((((xt.toUInt64 >>> ((32 : Int32) &&& 0x3f).toInt64.toUInt64).toInt64) &&& (255 : Int64)).toInt32).toUInt32.toUInt16.toUInt32.toInt32) := ⟨_, rfl⟩
 rw [← hje] at pre20
 obtain ⟨c21, a21, q21, s21, m21, i21, u21⟩ := id V18
 obtain ⟨T22, h22, X22, e22, W22, st22⟩ := stC X18 hx hZ e18 a21 (j := (4 : Int32)) (inb_of s21 ⟨by decide, by decide⟩) (g := (own_g pre20)) rfl rfl (hb hby at_64)
 have so22 := sf18_b2
 have sf22_b2 := Safe.wr W22 so22 HC18 sf18_b2
 have RC22 := CHr.trans RC18 (CHr.wr W22 so22 HC18)
 have HC22 := CHv.wr W22 so22 HC18
 have hk22 := Nat.le_trans hk18 (Keep.of_wr W22).1
 have K22 : Keep h0 h22 ([] : List Addr) := K18.wr W22 (Or.inr sz_b2)
 have z22 : n0 ≤ h22.size := Nat.le_trans Z0 K22.1
 have N22 := Fr.snoc X22 N18 g_b2
 have V22 : Arv Z h22 b2 k2 .char (5 : Int32) [(.int (nar .char ja)), (.int (nar .char jb)), (.int (nar .char jc)), (.int (nar .char jd)), (.int (nar .char je))] (.int 0) := Arv.set a21 q21 s21 m21 i21 u21 (fits_nar_char _) W22 4 rfl (Nat.le_of_ble_eq_true rfl)
 have pre23 : oP p e bw G T22 m 73 #[vJ xt, .second, vI xp, vI xq, vI xs, vR b2, vU, vU, vU, vU, vU, vU, vU, vU, vU, vU, vU, vU, vU, vU, vU] [(.int ((xp &&& (255 : Int32)).toUInt32.toUInt16.toUInt32.toInt32))] := by
  intro t k
  refine pre20 t (st22 t ?_)
  refine XS.astore X22.here hx rfl (hb hby at_65) rfl rfl (l' := #[vJ xt, .second, vI xp, vI xq, vI xs, vR b2, vU, vU, vU, vU, vU, vU, vU, vU, vU, vU, vU, vU, vU, vU, vU]) rfl ?_
  refine XS.iloadN X22.here hx rfl (hb hby at_67) rfl ?_
  refine XS.sipush X22.here hx rfl (hb hby at_68) ?_
  refine XS.iand X22.here hx rfl (hb hby at_71) rfl ?_
  refine XS.i2c X22.here hx rfl (hb hby at_72) rfl ?_
  exact k
 obtain ⟨jf, hjf⟩ : ∃ z : Int32, z = ((xp &&& (255 : Int32)).toUInt32.toUInt16.toUInt32.toInt32) := ⟨_, rfl⟩
 rw [← hjf] at pre23
 have pre24 : oP p e bw G T22 m 75 #[vJ xt, .second, vI xp, vI xq, vI xs, vR b2, vI jf, vU, vU, vU, vU, vU, vU, vU, vU, vU, vU, vU, vU, vU, vU] [] := by
  intro t k
  refine pre23 t ?_
  refine XS.istore X22.here hx rfl (hb hby at_73) rfl (l' := #[vJ xt, .second, vI xp, vI xq, vI xs, vR b2, vI jf, vU, vU, vU, vU, vU, vU, vU, vU, vU, vU, vU, vU, vU, vU]) rfl ?_
  exact k
 obtain ⟨jv, hjv⟩ : ∃ z : Int32, z = (if (((xp.toUInt32 >>> ((8 : Int32) &&& 31).toUInt32).toInt32) &&& (1 : Int32)) = (0 : Int32) then (0 : Int32) else (1 : Int32)) := ⟨_, rfl⟩
 have pre25 : oP p e bw G T22 m 89 #[vJ xt, .second, vI xp, vI xq, vI xs, vR b2, vI jf, vU, vU, vU, vU, vU, vU, vU, vU, vU, vU, vU, vU, vU, vU] [(.int jv)] := by
  intro t k
  refine pre24 t ?_
  refine XS.iloadN X22.here hx rfl (hb hby at_75) rfl ?_
  refine XS.bipush X22.here hx rfl (hb hby at_76) ?_
  refine XS.iushr X22.here hx rfl (hb hby at_78) rfl ?_
  refine XS.iconst X22.here hx rfl (hb hby at_79) ?_
  refine XS.iand X22.here hx rfl (hb hby at_80) rfl ?_
  by_cases hc81 : (((xp.toUInt32 >>> ((8 : Int32) &&& 31).toUInt32).toInt32) &&& (1 : Int32)) = (0 : Int32)
  ·refine XS.ifYes X22.here hx rfl (pc0 := 81) (pc' := 88) rfl (hb hby at_81) rfl ((if0 _ _).trans (teq hc81).1) (by decide) (by decide) ?_
   refine XS.iconst X22.here hx rfl (hb hby at_88) ?_
   rw [show jv = (0 : Int32) from by rw [hjv, if_pos hc81]] at k
   exact k
  ·refine XS.ifNo X22.here hx rfl (hb hby at_81) rfl ((if0 _ _).trans (feq hc81).1) ?_
   refine XS.iconst X22.here hx rfl (hb hby at_84) ?_
   refine XS.goto X22.here hx rfl (pc0 := 85) (pc' := 89) rfl (hb hby at_85) (by decide) (by decide) ?_
   rw [show jv = (1 : Int32) from by rw [hjv, if_neg hc81]] at k
   exact k
 have pre26 : oP p e bw G T22 m 97 #[vJ xt, .second, vI xp, vI xq, vI xs, vR b2, vI jf, vI jv, vU, vU, vU, vU, vU, vU, vU, vU, vU, vU, vU, vU, vU] [(.int ((xq &&& (255 : Int32)).toUInt32.toUInt16.toUInt32.toInt32))] := by
  intro t k
  refine pre25 t ?_
  refine XS.istore X22.here hx rfl (hb hby at_89) rfl (l' := #[vJ xt, .second, vI xp, vI xq, vI xs, vR b2, vI jf, vI jv, vU, vU, vU, vU, vU, vU, vU, vU, vU, vU, vU, vU, vU]) rfl ?_
  refine XS.iloadN X22.here hx rfl (hb hby at_91) rfl ?_
  refine XS.sipush X22.here hx rfl (hb hby at_92) ?_
  refine XS.iand X22.here hx rfl (hb hby at_95) rfl ?_
  refine XS.i2c X22.here hx rfl (hb hby at_96) rfl ?_
  exact k
 obtain ⟨jg, hjg⟩ : ∃ z : Int32, z = ((xq &&& (255 : Int32)).toUInt32.toUInt16.toUInt32.toInt32) := ⟨_, rfl⟩
 rw [← hjg] at pre26
 have pre27 : oP p e bw G T22 m 108 #[vJ xt, .second, vI xp, vI xq, vI xs, vR b2, vI jf, vI jv, vI jg, vU, vU, vU, vU, vU, vU, vU, vU, vU, vU, vU, vU] [(.int ((((xq.toUInt32 >>> ((8 : Int32) &&& 31).toUInt32).toInt32) &&& (255 : Int32)).toUInt32.toUInt16.toUInt32.toInt32))] := by
  intro t k
  refine pre26 t ?_
  refine XS.istore X22.here hx rfl (hb hby at_97) rfl (l' := #[vJ xt, .second, vI xp, vI xq, vI xs, vR b2, vI jf, vI jv, vI jg, vU, vU, vU, vU, vU, vU, vU, vU, vU, vU, vU, vU]) rfl ?_
  refine XS.iloadN X22.here hx rfl (hb hby at_99) rfl ?_
  refine XS.bipush X22.here hx rfl (hb hby at_100) ?_
  refine XS.iushr X22.here hx rfl (hb hby at_102) rfl ?_
  refine XS.sipush X22.here hx rfl (hb hby at_103) ?_
  refine XS.iand X22.here hx rfl (hb hby at_106) rfl ?_
  refine XS.i2c X22.here hx rfl (hb hby at_107) rfl ?_
  exact k
 obtain ⟨jh, hjh⟩ : ∃ z : Int32, z = ((((xq.toUInt32 >>> ((8 : Int32) &&& 31).toUInt32).toInt32) &&& (255 : Int32)).toUInt32.toUInt16.toUInt32.toInt32) := ⟨_, rfl⟩
 rw [← hjh] at pre27
 have pre28 : oP p e bw G T22 m 112 #[vJ xt, .second, vI xp, vI xq, vI xs, vR b2, vI jf, vI jv, vI jg, vI jh, vU, vU, vU, vU, vU, vU, vU, vU, vU, vU, vU] [(.int xs)] := by
  intro t k
  refine pre27 t ?_
  refine XS.istore X22.here hx rfl (hb hby at_108) rfl (l' := #[vJ xt, .second, vI xp, vI xq, vI xs, vR b2, vI jf, vI jv, vI jg, vI jh, vU, vU, vU, vU, vU, vU, vU, vU, vU, vU, vU]) rfl ?_
  refine XS.iload X22.here hx rfl (hb hby at_110) rfl ?_
  exact k
 have pre29 : oP p e bw G T22 m 117 #[vJ xt, .second, vI xp, vI xq, vI xs, vR b2, vI jf, vI jv, vI jg, vI jh, vU, vU, vU, vU, vU, vU, vU, vU, vU, vU, vU] [(.int ((xs &&& (2147483647 : Int32)) % (3 : Int32)))] := by
  intro t k
  refine pre28 t ?_
  refine X22.ldcInt hx hown (mvT hZ (W 2 rfl)) (g := (own_g pre28)) rfl (hb hby at_112) _ ?_
  refine XS.iand X22.here hx rfl (hb hby at_114) rfl ?_
  refine XS.iconst X22.here hx rfl (hb hby at_115) ?_
  refine iremM X22 hx rfl (hb hby at_116) rfl (by decide) ?_
  exact k
 obtain ⟨jk, hjk⟩ : ∃ z : Int32, z = ((xs &&& (2147483647 : Int32)) % (3 : Int32)) := ⟨_, rfl⟩
 rw [← hjk] at pre29
 have pre30 : oP p e bw G T22 m 126 #[vJ xt, .second, vI xp, vI xq, vI xs, vR b2, vI jf, vI jv, vI jg, vI jh, vI jk, vU, vU, vU, vU, vU, vU, vU, vU, vU, vU] [(.int (((xs.toUInt32 >>> ((8 : Int32) &&& 31).toUInt32).toInt32) &&& (1 : Int32)))] := by
  intro t k
  refine pre29 t ?_
  refine XS.istore X22.here hx rfl (hb hby at_117) rfl (l' := #[vJ xt, .second, vI xp, vI xq, vI xs, vR b2, vI jf, vI jv, vI jg, vI jh, vI jk, vU, vU, vU, vU, vU, vU, vU, vU, vU, vU]) rfl ?_
  refine XS.iload X22.here hx rfl (hb hby at_119) rfl ?_
  refine XS.bipush X22.here hx rfl (hb hby at_121) ?_
  refine XS.iushr X22.here hx rfl (hb hby at_123) rfl ?_
  refine XS.iconst X22.here hx rfl (hb hby at_124) ?_
  refine XS.iand X22.here hx rfl (hb hby at_125) rfl ?_
  exact k
 obtain ⟨jm, hjm⟩ : ∃ z : Int32, z = (((xs.toUInt32 >>> ((8 : Int32) &&& 31).toUInt32).toInt32) &&& (1 : Int32)) := ⟨_, rfl⟩
 rw [← hjm] at pre30
 have pre31 : oP p e bw G T22 m 128 #[vJ xt, .second, vI xp, vI xq, vI xs, vR b2, vI jf, vI jv, vI jg, vI jh, vI jk, vI jm, vU, vU, vU, vU, vU, vU, vU, vU, vU] [] := by
  intro t k
  refine pre30 t ?_
  refine XS.istore X22.here hx rfl (hb hby at_126) rfl (l' := #[vJ xt, .second, vI xp, vI xq, vI xs, vR b2, vI jf, vI jv, vI jg, vI jh, vI jk, vI jm, vU, vU, vU, vU, vU, vU, vU, vU, vU]) rfl ?_
  exact k
 have rja : own_OKc ja := by rw [hja]; exact own_rL _
 have rjb : own_OKc jb := by rw [hjb]; exact own_rL _
 have rjc : own_OKc jc := by rw [hjc]; exact own_rL _
 have rjd : own_OKc jd := by rw [hjd]; exact own_rL _
 have rje : own_OKc je := by rw [hje]; exact own_rL _
 have rjf : own_OKc jf := by rw [hjf]; exact own_r8 _
 have rjg : own_OKc jg := by rw [hjg]; exact own_r8 _
 have rjh : own_OKc jh := by rw [hjh]; exact own_r8 _
 have rjk : own_OKl jk := by rw [hjk]; exact own_k3 _
 have rjm : jm = 0 ∨ jm = 1 := by rw [hjm]; exact own_m2 _
 have rjv : jv = 0 ∨ jv = 1 := own_v01 hjv
 obtain ⟨T32, h32, X32, e32, E32, A32, D32, -, st32⟩ := newO X22 hx hZ hown (W 3 rfl) (W 4 rfl) (W 5 rfl) e22 (g := (own_g pre31)) rfl (hb hby at_128) (by decide) (by decide)
 obtain ⟨b32, g32⟩ := own_ex h22.size
 rw [← g32] at A32 D32 st32
 have g_b32 : n0 ≤ b32 := Nat.le_trans z22 (Nat.le_of_eq g32.symm)
 have sz_b32 : h0.size ≤ b32 := Nat.le_trans K22.1 (Nat.le_of_eq g32.symm)
 have sf32_b2 := Safe.ext E32 HC22 sf22_b2
 have sf32_b32 := Safe.ext E32 HC22 (Safe.new (Nat.le_of_eq g32.symm))
 have RC32 := CHr.trans RC22 (CHr.ext E32 HC22)
 have HC32 := CHv.ext E32 HC22
 have hk32 := Nat.le_trans hk22 E32.1
 have K32 : Keep h0 h32 ([] : List Addr) := K22.ext E32
 have z32 : n0 ≤ h32.size := Nat.le_trans Z0 K32.1
 have F_coder_b32 : Fld Z h32 b32 "java/lang/String" "coder" "B" (.int 0) := D32 (Or.inr (W 29 rfl)) (ty := .byte) (by decide)
 have F_value_b32 : Fld Z h32 b32 "java/lang/String" "value" "[B" .null := D32 (Or.inr (W 31 rfl)) (ty := (.array .byte)) (by decide)
 have X32 : Stand p l e _ _ m _ bw meth c T32 _ 2 9 := X32
 have pre33 : oP p e bw G T32 m 134 #[vJ xt, .second, vI xp, vI xq, vI xs, vR b2, vI jf, vI jv, vI jg, vI jh, vI jk, vI jm, vU, vU, vU, vU, vU, vU, vU, vU, vU] [(.ref b2), (.ref b32), (.ref b32)] := by
  intro t k
  refine pre31 t (st32 t ?_)
  refine XS.dup X32.here hx rfl (hb hby at_131) rfl rfl ?_
  refine XS.aload X32.here hx rfl (hb hby at_132) rfl rfl ?_
  exact k
 have f34 := (V22.ext E32)
 have f35 := (SC.ext (own_keep_ext K32))
 have ne36 := (Nat.ne_of_lt (Nat.lt_of_lt_of_le V22.lt (Nat.le_of_eq g32.symm)))
 obtain ⟨_, _, ⟨T37, L37, k37, n37⟩, -, X37, ⟨Lc37, hQ37, l37, y37, z37⟩, st37⟩ := X32.specialBack hx (y := oM3) rfl hown (mvT hZ (W 6 rfl)) (mvT hZ (W 7 rfl)) (mvT hZ (W 8 rfl)) (by decide) (backOf (W := 1) (rm_sn5 l Z a0 hw [] b32 b2 k2 xcs _ _ _ _ _ h32 n0 z32 A32 (g_b32) F_coder_b32 F_value_b32 f34 f35 (hcs) (ne36) (own_ltc rja) (own_ltc rjb) (own_ltc rjc) (own_ltc rjd) (own_ltc rje)) hZ (W 8 rfl) (W 5 rfl) (by decide) (by decide)) (g := (own_g pre33)) rfl (by rw [hml]; rfl) (Steps.refl _) (a := b32) (argsL := [(.ref b2)]) (rest := [(.ref b32)]) (lenOf pd32 rfl) rfl (by show 2 * 0 + _ ≤ _; exact Nat.le_of_eq rfl) (hb hby at_134) (fun _ _ => ⟨rfl, e32, (by decide : 2 + 1 ≤ _), (by decide : 9 + 5 ≤ _)⟩)
 dsimp only [Pt.U, Pt.locs, Pt.cells, Pt.slots] at X37 l37 y37 z37 st37 hQ37
 subst y37 z37
 obtain ⟨ry_37, ky_37, rfl, M37, kp37, f37_0, f37_1, f37_2, f37_3, f37_4⟩ := hQ37
 have hs37 : ∀ x ∈ [b32], Safe Z own_EL s.vm h32 x := (allS sf32_b32 all0)
 have sf37_b2 := Safe.keep kp37 hs37 HC32 sf32_b2
 have sf37_b32 := Safe.keep kp37 hs37 HC32 sf32_b32
 have RC37 := CHr.trans RC32 (CHr.keep kp37 hs37 HC32)
 have HC37 := CHv.keep kp37 hs37 HC32
 have hk37 := Nat.le_trans hk32 kp37.1
 have K37 : Keep h0 T37.heap ([] : List Addr) := K32.trans kp37 (allS (P := fun x => x ∈ ([] : List Addr) ∨ h0.size ≤ x) (Or.inr sz_b32) all0)
 have zz37 : n0 ≤ T37.heap.size := Nat.le_trans Z0 K37.1
 have N37 : Fr n0 L37 := by rw [l37]; exact Fr.app N22 M37
 clear l37
 have X37 : Stand p l e _ _ m _ bw meth c T37 _ 3 14 := X37
 have pre38 : oP p e bw G T37 m 139 #[vJ xt, .second, vI xp, vI xq, vI xs, vR b2, vI jf, vI jv, vI jg, vI jh, vI jk, vI jm, vR b32, vU, vU, vU, vU, vU, vU, vU, vU] [] := by
  intro t k
  refine pre33 t (st37.trans ?_)
  refine XS.astore X37.here hx rfl (hb hby at_137) rfl rfl (l' := #[vJ xt, .second, vI xp, vI xq, vI xs, vR b2, vI jf, vI jv, vI jg, vI jh, vI jk, vI jm, vR b32, vU, vU, vU, vU, vU, vU, vU, vU]) rfl ?_
  exact k
 obtain ⟨lw0, hlw0⟩ : ∃ z : List Int32, z = List.map own_b [nar .char ja, nar .char jb, nar .char jc, nar .char jd, nar .char je] := ⟨_, rfl⟩
 have hl_lw0 : lw0.length ≤ 5 := by rw [hlw0]; exact Nat.le_of_ble_eq_true rfl
 have hbs_lw0 : ∀ x ∈ lw0, nar .byte x = x := by rw [hlw0]; exact own_bsL _
 have V_lw0 : Arv Z T37.heap ry_37 ky_37 .byte (own_len lw0) (lw0.map Value.int) (.int 0) := by rw [hlw0]; exact f37_3
 have el0 : own_enc lw0 = own_enc [own_b (nar .char ja), own_b (nar .char jb), own_b (nar .char jc), own_b (nar .char jd), own_b (nar .char je)] := by rw [hlw0]; rfl
 have pre39 : oP p e bw G T37 m 141 #[vJ xt, .second, vI xp, vI xq, vI xs, vR b2, vI jf, vI jv, vI jg, vI jh, vI jk, vI jm, vR b32, vU, vU, vU, vU, vU, vU, vU, vU] [(.int jv)] := by
  intro t k
  refine pre38 t ?_
  refine XS.iload X37.here hx rfl (hb hby at_139) rfl ?_
  exact k
 have f41 := (f34.keep kp37 (ninS ne36 nin0))
 have reg40 : ∃ (vm' : Vm) (T' : State) (L' : List Loc) (h' : Heap) (k' : Nat) (w1 ry1 : Addr) (ky1 : ClassId) (lw1 : List Int32), Stand p l e room_1 (s.setVm vm') m #[(.long xt), (.int xp), (.int xq), (.int xs)] bw meth c T' L' 9 26 ∧ T'.heap = h' ∧ s.Since vm' k' ∧ k' ≤ h'.size ∧ Z.Warmed39 (s.setVm vm').vm ∧ (s.setVm vm').vm.findClass oS3 = some m.cls ∧ Fr n0 L' ∧ Keep h0 h' [] ∧ CHr Z own_EL s.vm h0 vm' h' ∧ lw1.length ≤ 5 ∧ (∀ x ∈ lw1, nar .byte x = x) ∧ lw1 = List.map own_b (if jv = (0 : Int32) then [jf] else []) ∧ Exa Z h' w1 "java/lang/String" ∧ Fld Z h' w1 "java/lang/String" "value" "[B" (.ref ry1) ∧ Fld Z h' w1 "java/lang/String" "coder" "B" (.int 0) ∧ Arv Z h' ry1 ky1 .byte (own_len lw1) (lw1.map Value.int) (.int 0) ∧ Exa Z h' ry1 "[B" ∧ Exa Z h' b32 "java/lang/String" ∧ Fld Z h' b32 "java/lang/String" "value" "[B" (.ref ry_37) ∧ Fld Z h' b32 "java/lang/String" "coder" "B" (.int (nar .byte (0 : Int32))) ∧ Arv Z h' ry_37 ky_37 .byte (own_len lw0) (lw0.map Value.int) (.int 0) ∧ Exa Z h' ry_37 "[B" ∧ Arv Z h' b2 k2 .char (5 : Int32) [(.int (nar .char ja)), (.int (nar .char jb)), (.int (nar .char jc)), (.int (nar .char jd)), (.int (nar .char je))] (.int 0) ∧ oP p e bw G T' m 164 #[vJ xt, .second, vI xp, vI xq, vI xs, vR b2, vI jf, vI jv, vI jg, vI jh, vI jk, vI jm, vR b32, vR w1, vU, vU, vU, vU, vU, vU, vU] [] := by
  by_cases hc141 : jv = (0 : Int32)
  ·have pre42 : oP p e bw G T37 m 159 #[vJ xt, .second, vI xp, vI xq, vI xs, vR b2, vI jf, vI jv, vI jg, vI jh, vI jk, vI jm, vR b32, vU, vU, vU, vU, vU, vU, vU, vU] [(.int jf)] := by
    intro t k
    refine pre39 t ?_
    refine XS.ifYes X37.here hx rfl (pc0 := 141) (pc' := 157) rfl (hb hby at_141) rfl ((if0 _ _).trans (teq hc141).1) (by decide) (by decide) ?_
    refine XS.iload X37.here hx rfl (hb hby at_157) rfl ?_
    exact k
   have f43 := (own_sta_keep f35 kp37 A32)
   obtain ⟨_, T44, Lc44, X44, hQ44, pc44⟩ := own_call X37 hx hZ hown (W 32 rfl) (W 33 rfl) (W 5 rfl) (W 34 rfl) (by decide) (rm_sval l Z a0 hw [] jf xcs T37.heap n0 zz37 f43 (hcs) (own_lt rjf)) rfl pre42 hml rfl (hb hby at_159) (lenOf pd33 rfl) rfl (W := 0) rfl (by decide)
   obtain ⟨ry_44, ky_44, b44, rfl, M44, g_b44, zs44, kp44, f44_0, f44_1, f44_2, f44_3, f44_4⟩ := hQ44
   have sz_b44 : h0.size ≤ b44 := Nat.le_trans K37.1 zs44
   have hs44 : ∀ x ∈ ([] : List Addr), Safe Z own_EL s.vm T37.heap x := all0
   have sf44_b2 := Safe.keep kp44 hs44 HC37 sf37_b2
   have sf44_b32 := Safe.keep kp44 hs44 HC37 sf37_b32
   have RC44 := CHr.trans RC37 (CHr.keep kp44 hs44 HC37)
   have HC44 := CHv.keep kp44 hs44 HC37
   have hk44 := Nat.le_trans hk37 kp44.1
   have K44 : Keep h0 T44.heap ([] : List Addr) := K37.trans kp44 all0
   have zz44 : n0 ≤ T44.heap.size := Nat.le_trans Z0 K44.1
   have N44 := Fr.app N37 M44
   have X44 : Stand p l e _ _ m _ bw meth c T44 _ 5 19 := X44
   have pre45 : oP p e bw G T44 m 164 #[vJ xt, .second, vI xp, vI xq, vI xs, vR b2, vI jf, vI jv, vI jg, vI jh, vI jk, vI jm, vR b32, vR b44, vU, vU, vU, vU, vU, vU, vU] [] := by
    intro t k
    refine pc44 t ?_
    refine XS.astore X44.here hx rfl (hb hby at_162) rfl rfl (l' := #[vJ xt, .second, vI xp, vI xq, vI xs, vR b2, vI jf, vI jv, vI jg, vI jh, vI jk, vI jm, vR b32, vR b44, vU, vU, vU, vU, vU, vU, vU]) rfl ?_
    exact k
   exact ⟨s.vm, T44, _, T44.heap, _, b44, ry_44, ky_44, List.map own_b [jf], X44.more (by decide) (by decide), rfl, hS0, hk44, hZ, hown, N44, K44, RC44, (Nat.le_of_ble_eq_true rfl), own_bsL _, (by rw [if_pos hc141]), f44_0, f44_1, f44_2, f44_3, f44_4, (f37_0.keep kp44), (f37_1.keep kp44 nin0), (f37_2.keep kp44 nin0), (V_lw0.keep kp44 nin0), (f37_4.keep kp44), (f41.keep kp44 nin0), pre45⟩
  ·have pre46 : oP p e bw G T37 m 144 #[vJ xt, .second, vI xp, vI xq, vI xs, vR b2, vI jf, vI jv, vI jg, vI jh, vI jk, vI jm, vR b32, vU, vU, vU, vU, vU, vU, vU, vU] [] := by
    intro t k
    refine pre39 t ?_
    refine XS.ifNo X37.here hx rfl (hb hby at_141) rfl ((if0 _ _).trans (feq hc141).1) ?_
    exact k
   obtain ⟨T47, h47, X47, e47, E47, A47, D47, -, st47⟩ := newO X37 hx hZ hown (W 3 rfl) (W 4 rfl) (W 5 rfl) rfl (g := (own_g pre46)) rfl (hb hby at_144) (by decide) (by decide)
   obtain ⟨b47, g47⟩ := own_ex T37.heap.size
   rw [← g47] at A47 D47 st47
   have g_b47 : n0 ≤ b47 := Nat.le_trans zz37 (Nat.le_of_eq g47.symm)
   have sz_b47 : h0.size ≤ b47 := Nat.le_trans K37.1 (Nat.le_of_eq g47.symm)
   have sf47_b2 := Safe.ext E47 HC37 sf37_b2
   have sf47_b32 := Safe.ext E47 HC37 sf37_b32
   have sf47_b47 := Safe.ext E47 HC37 (Safe.new (Nat.le_of_eq g47.symm))
   have RC47 := CHr.trans RC37 (CHr.ext E47 HC37)
   have HC47 := CHv.ext E47 HC37
   have hk47 := Nat.le_trans hk37 E47.1
   have K47 : Keep h0 h47 ([] : List Addr) := K37.ext E47
   have z47 : n0 ≤ h47.size := Nat.le_trans Z0 K47.1
   have F_coder_b47 : Fld Z h47 b47 "java/lang/String" "coder" "B" (.int 0) := D47 (Or.inr (W 29 rfl)) (ty := .byte) (by decide)
   have F_value_b47 : Fld Z h47 b47 "java/lang/String" "value" "[B" .null := D47 (Or.inr (W 31 rfl)) (ty := (.array .byte)) (by decide)
   have X47 : Stand p l e _ _ m _ bw meth c T47 _ 4 18 := X47
   have pre48 : oP p e bw G T47 m 149 #[vJ xt, .second, vI xp, vI xq, vI xs, vR b2, vI jf, vI jv, vI jg, vI jh, vI jk, vI jm, vR b32, vU, vU, vU, vU, vU, vU, vU, vU] [(.int 0), (.ref b47), (.ref b47)] := by
    intro t k
    refine pre46 t (st47 t ?_)
    refine XS.dup X47.here hx rfl (hb hby at_147) rfl rfl ?_
    refine XS.iconst X47.here hx rfl (hb hby at_148) ?_
    exact k
   obtain ⟨T49, h49, k49, X49, e49, E49, A49, st49⟩ := newP X47 hx hZ (W 0 rfl) e47 (g := (own_g pre48)) rfl (hb hby at_149) rfl (by decide) (cap := 0) (by decide) (by decide) (by decide) (by decide)
   obtain ⟨b49, g49⟩ := own_ex h47.size
   rw [← g49] at A49 st49
   have g_b49 : n0 ≤ b49 := Nat.le_trans z47 (Nat.le_of_eq g49.symm)
   have sz_b49 : h0.size ≤ b49 := Nat.le_trans K47.1 (Nat.le_of_eq g49.symm)
   have sf49_b2 := Safe.ext E49 HC47 sf47_b2
   have sf49_b32 := Safe.ext E49 HC47 sf47_b32
   have sf49_b47 := Safe.ext E49 HC47 sf47_b47
   have sf49_b49 := Safe.ext E49 HC47 (Safe.new (Nat.le_of_eq g49.symm))
   have RC49 := CHr.trans RC47 (CHr.ext E49 HC47)
   have HC49 := CHv.ext E49 HC47
   have hk49 := Nat.le_trans hk47 E49.1
   have K49 : Keep h0 h49 ([] : List Addr) := K47.ext E49
   have z49 : n0 ≤ h49.size := Nat.le_trans Z0 K49.1
   have V_b49 : Arv Z h49 b49 k49 .char (0 : Int32) [] (.int 0) := (Arv.new A49 (by decide)).pad (pad_rep [] (.int 0) 0)
   have X49 : Stand p l e _ _ m _ bw meth c T49 _ 5 18 := X49
   have pre50 : oP p e bw G T49 m 151 #[vJ xt, .second, vI xp, vI xq, vI xs, vR b2, vI jf, vI jv, vI jg, vI jh, vI jk, vI jm, vR b32, vU, vU, vU, vU, vU, vU, vU, vU] [(.ref b49), (.ref b47), (.ref b47)] := fun t k => pre48 t (st49 t k)
   have f51 := (A47.ext E49)
   have f52 := (F_coder_b47.ext E49)
   have f53 := (F_value_b47.ext E49)
   obtain ⟨_, _, ⟨T54, L54, k54, n54⟩, -, X54, hs54, gz54, ⟨Lc54, hQ54, l54, y54, z54, CR54⟩, st54⟩ := X49.specialBackS hx (y := oM3) rfl hown (mvT hZ (W 6 rfl)) (mvT hZ (W 7 rfl)) (mvT hZ (W 8 rfl)) (by decide) (own_backSH (W := 1) (rm_sn0 l Z a0 hw [] b47 b49 k49 h49 n0 z49 f51 (g_b47) f52 f53 V_b49) hZ (W 8 rfl) (W 5 rfl) (by decide) (by decide) hEL HC49 (allS (P := fun x => x < _) f51.lt all0) (allS (P := fun x => Safe Z own_EL _ _ x) sf49_b47 all0)) (g := (own_g pre50)) rfl (by rw [hml]; rfl) (Steps.refl _) (a := b47) (argsL := [(.ref b49)]) (rest := [(.ref b47)]) (lenOf pd32 rfl) rfl (by show 2 * 0 + _ ≤ _; exact Nat.le_of_eq rfl) (hb hby at_151) (fun _ _ => ⟨rfl, e49, (by decide : 5 + 4 ≤ _), (by decide : 18 + 8 ≤ _)⟩)
   dsimp only [Pt.U, Pt.locs, Pt.cells, Pt.slots] at X54 l54 y54 z54 st54 hQ54 hs54 gz54 CR54
   subst y54 z54
   obtain ⟨X54, hS54, hZ, hown⟩ := rebS hS0 (Nat.le_trans hk49 (Nat.le_of_eq (congrArg Array.size (show _ = h49 from e49)).symm)) X54 hs54 gz54 hZ hown
   have hk54 := Nat.le_refl T54.heap.size
   have sf54_b2 := CHr.safe CR54 ((f41.ext E47).ext E49).lt sf49_b2
   have sf54_b32 := CHr.safe CR54 ((f37_0.ext E47).ext E49).lt sf49_b32
   have sf54_b47 := CHr.safe CR54 f51.lt sf49_b47
   have sf54_b49 := CHr.safe CR54 V_b49.lt sf49_b49
   have RC54 := CHr.trans RC49 CR54
   obtain ⟨ry_54, ky_54, rfl, M54, kp54, f54_0, f54_1, f54_2, f54_3, f54_4⟩ := hQ54
   have K54 : Keep h0 T54.heap ([] : List Addr) := K49.trans kp54 (allS (P := fun x => x ∈ ([] : List Addr) ∨ h0.size ≤ x) (Or.inr sz_b47) all0)
   have zz54 : n0 ≤ T54.heap.size := Nat.le_trans Z0 K54.1
   have N54 : Fr n0 L54 := by rw [l54]; exact Fr.app N37 M54
   clear l54
   have X54 : Stand p l e _ _ m _ bw meth c T54 _ 9 26 := X54
   have pre55 : oP p e bw G T54 m 164 #[vJ xt, .second, vI xp, vI xq, vI xs, vR b2, vI jf, vI jv, vI jg, vI jh, vI jk, vI jm, vR b32, vR b47, vU, vU, vU, vU, vU, vU, vU] [] := by
    intro t k
    refine pre50 t (st54.trans ?_)
    refine XS.goto X54.here hx rfl (pc0 := 154) (pc' := 162) rfl (hb hby at_154) (by decide) (by decide) ?_
    refine XS.astore X54.here hx rfl (hb hby at_162) rfl rfl (l' := #[vJ xt, .second, vI xp, vI xq, vI xs, vR b2, vI jf, vI jv, vI jg, vI jh, vI jk, vI jm, vR b32, vR b47, vU, vU, vU, vU, vU, vU, vU]) rfl ?_
    exact k
   have ne56 := (Nat.ne_of_lt (Nat.lt_of_lt_of_le f37_0.lt (Nat.le_of_eq g47.symm)))
   have ne57 := (Nat.ne_of_lt (Nat.lt_of_lt_of_le V_lw0.lt (Nat.le_of_eq g47.symm)))
   have ne58 := (Nat.ne_of_lt (Nat.lt_of_lt_of_le f41.lt (Nat.le_of_eq g47.symm)))
   exact ⟨T54.vm, T54, _, T54.heap, _, b47, ry_54, ky_54, List.map own_b [], X54.more (by decide) (by decide), rfl, hS54, hk54, hZ, hown, N54, K54, RC54, (Nat.le_of_ble_eq_true rfl), own_bsL _, (by rw [if_neg hc141]), f54_0, f54_1, f54_2, f54_3, f54_4, (((f37_0.ext E47).ext E49).keep kp54), (((f37_1.ext E47).ext E49).keep kp54 (ninS ne56 nin0)), (((f37_2.ext E47).ext E49).keep kp54 (ninS ne56 nin0)), (((V_lw0.ext E47).ext E49).keep kp54 (ninS ne57 nin0)), (((f37_4.ext E47).ext E49).keep kp54), (((f41.ext E47).ext E49).keep kp54 (ninS ne58 nin0)), pre55⟩
 obtain ⟨vm40, T40, L40, h40, k40, w1, ry1, ky1, lw1, X40, e40, hS40, hk40, hZ, hown, N40, K40, RC40, hl_lw1, hbs_lw1, hlw1, fr40_0, fr40_1, fr40_2, fr40_3, fr40_4, fr40_5, fr40_6, fr40_7, fr40_8, fr40_9, fr40_10, pr40⟩ := reg40
 have z40 : n0 ≤ h40.size := Nat.le_trans Z0 K40.1
 obtain ⟨T59, h59, X59, e59, E59, A59, D59, -, st59⟩ := newO X40 hx hZ hown (W 3 rfl) (W 4 rfl) (W 5 rfl) e40 (g := (own_g pr40)) rfl (hb hby at_164) (by decide) (by decide)
 obtain ⟨b59, g59⟩ := own_ex h40.size
 rw [← g59] at A59 D59 st59
 have g_b59 : n0 ≤ b59 := Nat.le_trans z40 (Nat.le_of_eq g59.symm)
 have sz_b59 : h0.size ≤ b59 := Nat.le_trans K40.1 (Nat.le_of_eq g59.symm)
 have sf59_b59 := Safe.ext E59 RC40.1 (Safe.new (Nat.le_of_eq g59.symm))
 have RC59 := CHr.trans RC40 (CHr.ext E59 RC40.1)
 have HC59 := CHv.ext E59 RC40.1
 have hk59 := Nat.le_trans hk40 E59.1
 have K59 : Keep h0 h59 ([] : List Addr) := K40.ext E59
 have z59 : n0 ≤ h59.size := Nat.le_trans Z0 K59.1
 have F_coder_b59 : Fld Z h59 b59 "java/lang/String" "coder" "B" (.int 0) := D59 (Or.inr (W 29 rfl)) (ty := .byte) (by decide)
 have F_value_b59 : Fld Z h59 b59 "java/lang/String" "value" "[B" .null := D59 (Or.inr (W 31 rfl)) (ty := (.array .byte)) (by decide)
 have X59 : Stand p l e _ _ m _ bw meth c T59 _ 10 30 := X59
 have pre60 : oP p e bw G T59 m 169 #[vJ xt, .second, vI xp, vI xq, vI xs, vR b2, vI jf, vI jv, vI jg, vI jh, vI jk, vI jm, vR b32, vR w1, vU, vU, vU, vU, vU, vU, vU] [(.int 2), (.ref b59), (.ref b59)] := by
  intro t k
  refine pr40 t (st59 t ?_)
  refine XS.dup X59.here hx rfl (hb hby at_167) rfl rfl ?_
  refine XS.iconst X59.here hx rfl (hb hby at_168) ?_
  exact k
 obtain ⟨T61, h61, k61, X61, e61, E61, A61, st61⟩ := newP X59 hx hZ (W 0 rfl) e59 (g := (own_g pre60)) rfl (hb hby at_169) rfl (by decide) (cap := 2) (by decide) (by decide) (by decide) (by decide)
 obtain ⟨b61, g61⟩ := own_ex h59.size
 rw [← g61] at A61 st61
 have g_b61 : n0 ≤ b61 := Nat.le_trans z59 (Nat.le_of_eq g61.symm)
 have sz_b61 : h0.size ≤ b61 := Nat.le_trans K59.1 (Nat.le_of_eq g61.symm)
 have sf61_b59 := Safe.ext E61 HC59 sf59_b59
 have sf61_b61 := Safe.ext E61 HC59 (Safe.new (Nat.le_of_eq g61.symm))
 have RC61 := CHr.trans RC59 (CHr.ext E61 HC59)
 have HC61 := CHv.ext E61 HC59
 have hk61 := Nat.le_trans hk59 E61.1
 have K61 : Keep h0 h61 ([] : List Addr) := K59.ext E61
 have z61 : n0 ≤ h61.size := Nat.le_trans Z0 K61.1
 have V_b61 : Arv Z h61 b61 k61 .char (2 : Int32) [(.int 0), (.int 0)] (.int 0) := (Arv.new A61 (by decide)).pad (pad_rep [] (.int 0) 2)
 have X61 : Stand p l e _ _ m _ bw meth c T61 _ 11 32 := X61
 have pre62 : oP p e bw G T61 m 175 #[vJ xt, .second, vI xp, vI xq, vI xs, vR b2, vI jf, vI jv, vI jg, vI jh, vI jk, vI jm, vR b32, vR w1, vU, vU, vU, vU, vU, vU, vU] [(.int jg), (.int 0), (.ref b61), (.ref b61), (.ref b59), (.ref b59)] := by
  intro t k
  refine pre60 t (st61 t ?_)
  refine XS.dup X61.here hx rfl (hb hby at_171) rfl rfl ?_
  refine XS.iconst X61.here hx rfl (hb hby at_172) ?_
  refine XS.iload X61.here hx rfl (hb hby at_173) rfl ?_
  exact k
 obtain ⟨c63, a63, q63, s63, m63, i63, u63⟩ := id V_b61
 obtain ⟨T64, h64, X64, e64, W64, st64⟩ := stC X61 hx hZ e61 a63 (j := (0 : Int32)) (inb_of s63 ⟨by decide, by decide⟩) (g := (own_g pre62)) rfl rfl (hb hby at_175)
 have so64 := sf61_b61
 have sf64_b59 := Safe.wr W64 so64 HC61 sf61_b59
 have sf64_b61 := Safe.wr W64 so64 HC61 sf61_b61
 have RC64 := CHr.trans RC61 (CHr.wr W64 so64 HC61)
 have HC64 := CHv.wr W64 so64 HC61
 have hk64 := Nat.le_trans hk61 (Keep.of_wr W64).1
 have K64 : Keep h0 h64 ([] : List Addr) := K61.wr W64 (Or.inr sz_b61)
 have z64 : n0 ≤ h64.size := Nat.le_trans Z0 K64.1
 have N64 := Fr.snoc X64 N40 g_b61
 have V64 : Arv Z h64 b61 k61 .char (2 : Int32) [(.int (nar .char jg)), (.int 0)] (.int 0) := Arv.set a63 q63 s63 m63 i63 u63 (fits_nar_char _) W64 0 rfl (Nat.le_of_ble_eq_true rfl)
 have pre65 : oP p e bw G T64 m 180 #[vJ xt, .second, vI xp, vI xq, vI xs, vR b2, vI jf, vI jv, vI jg, vI jh, vI jk, vI jm, vR b32, vR w1, vU, vU, vU, vU, vU, vU, vU] [(.int jh), (.int 1), (.ref b61), (.ref b61), (.ref b59), (.ref b59)] := by
  intro t k
  refine pre62 t (st64 t ?_)
  refine XS.dup X64.here hx rfl (hb hby at_176) rfl rfl ?_
  refine XS.iconst X64.here hx rfl (hb hby at_177) ?_
  refine XS.iload X64.here hx rfl (hb hby at_178) rfl ?_
  exact k
 obtain ⟨c66, a66, q66, s66, m66, i66, u66⟩ := id V64
 obtain ⟨T67, h67, X67, e67, W67, st67⟩ := stC X64 hx hZ e64 a66 (j := (1 : Int32)) (inb_of s66 ⟨by decide, by decide⟩) (g := (own_g pre65)) rfl rfl (hb hby at_180)
 have so67 := sf64_b61
 have sf67_b59 := Safe.wr W67 so67 HC64 sf64_b59
 have sf67_b61 := Safe.wr W67 so67 HC64 sf64_b61
 have RC67 := CHr.trans RC64 (CHr.wr W67 so67 HC64)
 have HC67 := CHv.wr W67 so67 HC64
 have hk67 := Nat.le_trans hk64 (Keep.of_wr W67).1
 have K67 : Keep h0 h67 ([] : List Addr) := K64.wr W67 (Or.inr sz_b61)
 have z67 : n0 ≤ h67.size := Nat.le_trans Z0 K67.1
 have N67 := Fr.snoc X67 N64 g_b61
 have V67 : Arv Z h67 b61 k61 .char (2 : Int32) [(.int (nar .char jg)), (.int (nar .char jh))] (.int 0) := Arv.set a66 q66 s66 m66 i66 u66 (fits_nar_char _) W67 1 rfl (Nat.le_of_ble_eq_true rfl)
 have pre68 : oP p e bw G T67 m 181 #[vJ xt, .second, vI xp, vI xq, vI xs, vR b2, vI jf, vI jv, vI jg, vI jh, vI jk, vI jm, vR b32, vR w1, vU, vU, vU, vU, vU, vU, vU] [(.ref b61), (.ref b59), (.ref b59)] := fun t k => pre65 t (st67 t k)
 have f69 := (((A59.ext E61).wr W64).wr W67)
 have ne70 := (Nat.ne_of_lt (Nat.lt_of_lt_of_le A59.lt (Nat.le_of_eq g61.symm)))
 have f71 := (((F_coder_b59.ext E61).other W64 (Or.inl ne70)).other W67 (Or.inl ne70))
 have f72 := (((F_value_b59.ext E61).other W64 (Or.inl ne70)).other W67 (Or.inl ne70))
 have f73 := (SC.ext (own_keep_ext K67))
 obtain ⟨_, _, ⟨T74, L74, k74, n74⟩, -, X74, ⟨Lc74, hQ74, l74, y74, z74⟩, st74⟩ := X67.specialBack hx (y := oM3) rfl hown (mvT hZ (W 6 rfl)) (mvT hZ (W 7 rfl)) (mvT hZ (W 8 rfl)) (by decide) (backOf (W := 1) (rm_sn2 l Z a0 hw [] b59 b61 k61 xcs _ _ h67 n0 z67 f69 (g_b59) f71 f72 V67 f73 (hcs) ((Ne.symm ne70)) (own_ltc rjg) (own_ltc rjh)) hZ (W 8 rfl) (W 5 rfl) (by decide) (by decide)) (g := (own_g pre68)) rfl (by rw [hml]; rfl) (Steps.refl _) (a := b59) (argsL := [(.ref b61)]) (rest := [(.ref b59)]) (lenOf pd32 rfl) rfl (by show 2 * 0 + _ ≤ _; exact Nat.le_of_eq rfl) (hb hby at_181) (fun _ _ => ⟨rfl, e67, (by decide : 11 + 1 ≤ _), (by decide : 32 + 2 ≤ _)⟩)
 dsimp only [Pt.U, Pt.locs, Pt.cells, Pt.slots] at X74 l74 y74 z74 st74 hQ74
 subst y74 z74
 obtain ⟨ry_74, ky_74, rfl, M74, kp74, f74_0, f74_1, f74_2, f74_3, f74_4⟩ := hQ74
 have hs74 : ∀ x ∈ [b59], Safe Z own_EL vm40 h67 x := (allS sf67_b59 all0)
 have sf74_b59 := Safe.keep kp74 hs74 HC67 sf67_b59
 have sf74_b61 := Safe.keep kp74 hs74 HC67 sf67_b61
 have RC74 := CHr.trans RC67 (CHr.keep kp74 hs74 HC67)
 have HC74 := CHv.keep kp74 hs74 HC67
 have hk74 := Nat.le_trans hk67 kp74.1
 have K74 : Keep h0 T74.heap ([] : List Addr) := K67.trans kp74 (allS (P := fun x => x ∈ ([] : List Addr) ∨ h0.size ≤ x) (Or.inr sz_b59) all0)
 have zz74 : n0 ≤ T74.heap.size := Nat.le_trans Z0 K74.1
 have N74 : Fr n0 L74 := by rw [l74]; exact Fr.app N67 M74
 clear l74
 have X74 : Stand p l e _ _ m _ bw meth c T74 _ 12 34 := X74
 have pre75 : oP p e bw G T74 m 186 #[vJ xt, .second, vI xp, vI xq, vI xs, vR b2, vI jf, vI jv, vI jg, vI jh, vI jk, vI jm, vR b32, vR w1, vR b59, vU, vU, vU, vU, vU, vU] [] := by
  intro t k
  refine pre68 t (st74.trans ?_)
  refine XS.astore X74.here hx rfl (hb hby at_184) rfl rfl (l' := #[vJ xt, .second, vI xp, vI xq, vI xs, vR b2, vI jf, vI jv, vI jg, vI jh, vI jk, vI jm, vR b32, vR w1, vR b59, vU, vU, vU, vU, vU, vU]) rfl ?_
  exact k
 obtain ⟨lw2, hlw2⟩ : ∃ z : List Int32, z = List.map own_b [nar .char jg, nar .char jh] := ⟨_, rfl⟩
 have hl_lw2 : lw2.length ≤ 5 := by rw [hlw2]; exact Nat.le_of_ble_eq_true rfl
 have hbs_lw2 : ∀ x ∈ lw2, nar .byte x = x := by rw [hlw2]; exact own_bsL _
 have V_lw2 : Arv Z T74.heap ry_74 ky_74 .byte (own_len lw2) (lw2.map Value.int) (.int 0) := by rw [hlw2]; exact f74_3
 have el2 : own_enc lw2 = own_enc [own_b (jg), own_b (jh)] := by rw [hlw2, own_nc rjg, own_nc rjh]; rfl
 have pre76 : oP p e bw G T74 m 188 #[vJ xt, .second, vI xp, vI xq, vI xs, vR b2, vI jf, vI jv, vI jg, vI jh, vI jk, vI jm, vR b32, vR w1, vR b59, vU, vU, vU, vU, vU, vU] [(.int jk)] := by
  intro t k
  refine pre75 t ?_
  refine XS.iload X74.here hx rfl (hb hby at_186) rfl ?_
  exact k
 by_cases hc188 : jk = (0 : Int32)
 ·have pre77 : oP p e bw G T74 m 191 #[vJ xt, .second, vI xp, vI xq, vI xs, vR b2, vI jf, vI jv, vI jg, vI jh, vI jk, vI jm, vR b32, vR w1, vR b59, vU, vU, vU, vU, vU, vU] [] := by
   intro t k
   refine pre76 t ?_
   refine XS.ifNo X74.here hx rfl (hb hby at_188) rfl ((if0 _ _).trans (teq hc188).2) ?_
   exact k
  rw [show jk = (0 : Int32) from hc188] at pre77
  have pre78 : oP p e bw G T74 m 192 #[vJ xt, .second, vI xp, vI xq, vI xs, vR b2, vI jf, vI jv, vI jg, vI jh, vI 0, vI jm, vR b32, vR w1, vR b59, vU, vU, vU, vU, vU, vU] [(.int 0)] := by
   intro t k
   refine pre77 t ?_
   refine XS.iconst X74.here hx rfl (hb hby at_191) ?_
   exact k
  obtain ⟨T79, h79, k79, X79, e79, E79, A79, O79, st79⟩ := newR X74 hx hZ hown (W 3 rfl) (W 46 rfl) rfl (g := (own_g pre78)) rfl (hb hby at_192) rfl (by decide) (cap := 0) (by decide) (by decide) (by decide) (by decide)
  obtain ⟨b79, g79⟩ := own_ex T74.heap.size
  rw [← g79] at A79 st79
  have g_b79 : n0 ≤ b79 := Nat.le_trans zz74 (Nat.le_of_eq g79.symm)
  have sz_b79 : h0.size ≤ b79 := Nat.le_trans K74.1 (Nat.le_of_eq g79.symm)
  have sf79_b79 := Safe.ext E79 HC74 (Safe.new (Nat.le_of_eq g79.symm))
  have RC79 := CHr.trans RC74 (CHr.ext E79 HC74)
  have HC79 := CHv.ext E79 HC74
  have hk79 := Nat.le_trans hk74 E79.1
  have K79 : Keep h0 h79 ([] : List Addr) := K74.ext E79
  have z79 : n0 ≤ h79.size := Nat.le_trans Z0 K79.1
  have V_b79 : Arv Z h79 b79 k79 (.object "java/lang/String") (0 : Int32) [] .null := (Arv.new A79 (by decide)).pad (pad_rep [] .null 0)
  have X79 : Stand p l e _ _ m _ bw meth c T79 _ 13 34 := X79
  have ne80 := (Nat.ne_of_lt (Nat.lt_of_lt_of_le (fr40_10.ext E59).lt (Nat.le_of_eq g61.symm)))
  have ne81 := (Nat.ne_of_lt (Nat.lt_of_lt_of_le fr40_10.lt (Nat.le_of_eq g59.symm)))
  have f82 := ((((((fr40_10.ext E59).ext E61).other W64 ne80).other W67 ne80).keep kp74 (ninS ne81 nin0)).ext E79)
  have f83 := (f74_0.ext E79)
  have f84 := (f74_2.ext E79)
  have f85 := (f74_1.ext E79)
  have f86 := (V_lw2.ext E79)
  have f87 := (f74_4.ext E79)
  have pre88 : oP p e bw G T79 m 234 #[vJ xt, .second, vI xp, vI xq, vI xs, vR b2, vI jf, vI jv, vI jg, vI jh, vI 0, vI jm, vR b32, vR w1, vR b59, vR b79, vU, vU, vU, vU, vU] [(.int jm)] := by
   intro t k
   refine pre78 t (st79 t ?_)
   refine XS.goto X79.here hx rfl (pc0 := 195) (pc' := 230) rfl (hb hby at_195) (by decide) (by decide) ?_
   refine XS.astore X79.here hx rfl (hb hby at_230) rfl rfl (l' := #[vJ xt, .second, vI xp, vI xq, vI xs, vR b2, vI jf, vI jv, vI jg, vI jh, vI 0, vI jm, vR b32, vR w1, vR b59, vR b79, vU, vU, vU, vU, vU]) rfl ?_
   refine XS.iload X79.here hx rfl (hb hby at_232) rfl ?_
   exact k
  by_cases hc234 : jm = (0 : Int32)
  ·have pre89 : oP p e bw G T79 m 237 #[vJ xt, .second, vI xp, vI xq, vI xs, vR b2, vI jf, vI jv, vI jg, vI jh, vI 0, vI jm, vR b32, vR w1, vR b59, vR b79, vU, vU, vU, vU, vU] [] := by
    intro t k
    refine pre88 t ?_
    refine XS.ifNo X79.here hx rfl (hb hby at_234) rfl ((if0 _ _).trans (teq hc234).2) ?_
    exact k
   rw [show jm = (0 : Int32) from hc234] at pre89
   have pre90 : oP p e bw G T79 m 238 #[vJ xt, .second, vI xp, vI xq, vI xs, vR b2, vI jf, vI jv, vI jg, vI jh, vI 0, vI 0, vR b32, vR w1, vR b59, vR b79, vU, vU, vU, vU, vU] [(.int 0)] := by
    intro t k
    refine pre89 t ?_
    refine XS.iconst X79.here hx rfl (hb hby at_237) ?_
    exact k
   obtain ⟨T91, h91, k91, X91, e91, E91, A91, O91, st91⟩ := newR X79 hx hZ hown (W 3 rfl) (W 46 rfl) e79 (g := (own_g pre90)) rfl (hb hby at_238) rfl (by decide) (cap := 0) (by decide) (by decide) (by decide) (by decide)
   obtain ⟨b91, g91⟩ := own_ex h79.size
   rw [← g91] at A91 st91
   have g_b91 : n0 ≤ b91 := Nat.le_trans z79 (Nat.le_of_eq g91.symm)
   have sz_b91 : h0.size ≤ b91 := Nat.le_trans K79.1 (Nat.le_of_eq g91.symm)
   have sf91_b79 := Safe.ext E91 HC79 sf79_b79
   have sf91_b91 := Safe.ext E91 HC79 (Safe.new (Nat.le_of_eq g91.symm))
   have RC91 := CHr.trans RC79 (CHr.ext E91 HC79)
   have HC91 := CHv.ext E91 HC79
   have hk91 := Nat.le_trans hk79 E91.1
   have K91 : Keep h0 h91 ([] : List Addr) := K79.ext E91
   have z91 : n0 ≤ h91.size := Nat.le_trans Z0 K91.1
   have V_b91 : Arv Z h91 b91 k91 (.object "java/lang/String") (0 : Int32) [] .null := (Arv.new A91 (by decide)).pad (pad_rep [] .null 0)
   have X91 : Stand p l e _ _ m _ bw meth c T91 _ 14 34 := X91
   have pre92 : oP p e bw G T91 m 256 #[vJ xt, .second, vI xp, vI xq, vI xs, vR b2, vI jf, vI jv, vI jg, vI jh, vI 0, vI 0, vR b32, vR w1, vR b59, vR b79, vR b91, vU, vU, vU, vU] [(.int 0)] := by
    intro t k
    refine pre90 t (st91 t ?_)
    refine XS.goto X91.here hx rfl (pc0 := 241) (pc' := 253) rfl (hb hby at_241) (by decide) (by decide) ?_
    refine XS.astore X91.here hx rfl (hb hby at_253) rfl rfl (l' := #[vJ xt, .second, vI xp, vI xq, vI xs, vR b2, vI jf, vI jv, vI jg, vI jh, vI 0, vI 0, vR b32, vR w1, vR b59, vR b79, vR b91, vU, vU, vU, vU]) rfl ?_
    refine XS.iconst X91.here hx rfl (hb hby at_255) ?_
    exact k
   obtain ⟨T93, h93, k93, X93, e93, E93, A93, O93, st93⟩ := newR X91 hx hZ hown (W 3 rfl) (W 46 rfl) e91 (g := (own_g pre92)) rfl (hb hby at_256) rfl (by decide) (cap := 0) (by decide) (by decide) (by decide) (by decide)
   obtain ⟨b93, g93⟩ := own_ex h91.size
   rw [← g93] at A93 st93
   have g_b93 : n0 ≤ b93 := Nat.le_trans z91 (Nat.le_of_eq g93.symm)
   have sz_b93 : h0.size ≤ b93 := Nat.le_trans K91.1 (Nat.le_of_eq g93.symm)
   have sf93_b79 := Safe.ext E93 HC91 sf91_b79
   have sf93_b91 := Safe.ext E93 HC91 sf91_b91
   have sf93_b93 := Safe.ext E93 HC91 (Safe.new (Nat.le_of_eq g93.symm))
   have RC93 := CHr.trans RC91 (CHr.ext E93 HC91)
   have HC93 := CHv.ext E93 HC91
   have hk93 := Nat.le_trans hk91 E93.1
   have K93 : Keep h0 h93 ([] : List Addr) := K91.ext E93
   have z93 : n0 ≤ h93.size := Nat.le_trans Z0 K93.1
   have V_b93 : Arv Z h93 b93 k93 (.object "java/lang/String") (0 : Int32) [] .null := (Arv.new A93 (by decide)).pad (pad_rep [] .null 0)
   have X93 : Stand p l e _ _ m _ bw meth c T93 _ 15 34 := X93
   have pre94 : oP p e bw G T93 m 263 #[vJ xt, .second, vI xp, vI xq, vI xs, vR b2, vI jf, vI jv, vI jg, vI jh, vI 0, vI 0, vR b32, vR w1, vR b59, vR b79, vR b91, vR b93, vU, vU, vU] [(.ref b79)] := by
    intro t k
    refine pre92 t (st93 t ?_)
    refine XS.astore X93.here hx rfl (hb hby at_259) rfl rfl (l' := #[vJ xt, .second, vI xp, vI xq, vI xs, vR b2, vI jf, vI jv, vI jg, vI jh, vI 0, vI 0, vR b32, vR w1, vR b59, vR b79, vR b91, vR b93, vU, vU, vU]) rfl ?_
    refine XS.aload X93.here hx rfl (hb hby at_261) rfl rfl ?_
    exact k
   have f95 := ((((own_sta_keep f73 kp74 f69).ext E79).ext E91).ext E93)
   have f96 := (SI.ext (own_keep_ext K93))
   have f97 := (SU.ext (own_keep_ext K93))
   have f98 := (SR.ext (own_keep_ext K93))
   have f99 := (VR.ext (own_keep_ext K93))
   have f100 := ((V_b79.ext E91).ext E93)
   obtain ⟨_, T101, Lc101, X101, hQ101, pc101⟩ := own_call X93 hx hZ hown (W 47 rfl) (W 48 rfl) (W 49 rfl) (W 50 rfl) (by decide) (rm_hd0 l Z a0 hw [] b79 xcs wu wc kc xr0 xr1 k79 h93 n0 z93 f95 (hcs) f96 f97 f98 f99 f100) e93 pre94 hml rfl (hb hby at_263) (lenOf pd34 rfl) rfl (W := 0) rfl (by decide)
   obtain ⟨re_101, ke_101, b101, rfl, M101, g_b101, zs101, kp101, f101_0, f101_1, f101_2, f101_3, f101_4, f101_5⟩ := hQ101
   have sz_b101 : h0.size ≤ b101 := Nat.le_trans K93.1 zs101
   have hs101 : ∀ x ∈ ([] : List Addr), Safe Z own_EL vm40 h93 x := all0
   have RC101 := CHr.trans RC93 (CHr.keep kp101 hs101 HC93)
   have HC101 := CHv.keep kp101 hs101 HC93
   have hk101 := Nat.le_trans hk93 kp101.1
   have K101 : Keep h0 T101.heap ([] : List Addr) := K93.trans kp101 all0
   have zz101 : n0 ≤ T101.heap.size := Nat.le_trans Z0 K101.1
   have N101 := Fr.app N74 M101
   have X101 : Stand p l e _ _ m _ bw meth c T101 _ 18 77 := X101
   have pre102 : oP p e bw G T101 m 268 #[vJ xt, .second, vI xp, vI xq, vI xs, vR b2, vI jf, vI jv, vI jg, vI jh, vI 0, vI 0, vR b32, vR w1, vR b59, vR b79, vR b91, vR b93, vR b101, vU, vU] [] := by
    intro t k
    refine pc101 t ?_
    refine XS.astore X101.here hx rfl (hb hby at_266) rfl rfl (l' := #[vJ xt, .second, vI xp, vI xq, vI xs, vR b2, vI jf, vI jv, vI jg, vI jh, vI 0, vI 0, vR b32, vR w1, vR b59, vR b79, vR b91, vR b93, vR b101, vU, vU]) rfl ?_
    exact k
   have hle : (own_bulks []).length ≤ 40 := Nat.zero_le _
   have hrs : (own_bulks []).length ≤ 18 := Nat.zero_le _
   have pre103 : oP p e bw G T101 m 272 #[vJ xt, .second, vI xp, vI xq, vI xs, vR b2, vI jf, vI jv, vI jg, vI jh, vI 0, vI 0, vR b32, vR w1, vR b59, vR b79, vR b91, vR b93, vR b101, vU, vU] [(.ref b91), (.ref b101)] := by
    intro t k
    refine pre102 t ?_
    refine XS.aload X101.here hx rfl (hb hby at_268) rfl rfl ?_
    refine XS.aload X101.here hx rfl (hb hby at_270) rfl rfl ?_
    exact k
   have f104 := (f95.ext (own_keep_ext kp101))
   have f105 := (f96.ext (own_keep_ext kp101))
   have f106 := (f97.ext (own_keep_ext kp101))
   have f107 := (f98.ext (own_keep_ext kp101))
   have f108 := (f99.keep kp101 nin0)
   have f109 := ((V_b91.ext E93).keep kp101 nin0)
   obtain ⟨cq110, kq110, q110a, q110b, q110c⟩ := isOf hZ rfl f101_0
   obtain ⟨_, _, ⟨T110, L110, k110, n110⟩, -, X110, ⟨Lc110, hQ110, l110, y110, z110⟩, st110⟩ := X101.virtualBack hx (y := oM0) (z := oM0) hown (mvT hZ (W 76 rfl)) (mvT hZ (W 77 rfl)) (notFace_of_selects (args := #[]) (mvT hZ (W 79 rfl))) (mvT hZ (W 79 rfl)) (mvT hZ (W 78 rfl)) (by decide) (backOf (W := 0) (rm_rqa0 l Z a0 hw [] _ b91 xcs wu wc kc xr0 xr1 _ _ _ _ k91 T101.heap n0 zz101 f104 (hcs) f105 f106 f107 f108 f101_0 (g_b101) f101_1 f101_2 f101_4 f101_5 f109 ((own_mkQ (by decide) hle hrs).1) ((own_mkQ (by decide) hle hrs).2) f101_3) hZ (W 80 rfl) (W 53 rfl) (by decide) (by decide)) q110a q110c (g := (own_g pre103)) rfl (by rw [hml]; rfl) (Steps.refl _) (argsL := [(.ref b91)]) (rest := []) (lenOf pd20 rfl) rfl (by show 2 * 0 + _ ≤ _; exact Nat.le_of_eq rfl) (hb hby at_272) (fun _ _ => ⟨rfl, rfl, (by decide : 18 + 3 ≤ _), (by decide : 77 + 66 ≤ _)⟩)
   dsimp only [Pt.U, Pt.locs, Pt.cells, Pt.slots] at X110 l110 y110 z110 st110 hQ110
   subst y110 z110
   obtain ⟨rt_110, kb_110, b110, rfl, M110, g_b110, zs110, kp110, f110_0, f110_1, f110_2, f110_3, f110_4, f110_5, f110_6, f110_7, f110_8⟩ := hQ110
   have sz_b110 : h0.size ≤ b110 := Nat.le_trans K101.1 zs110
   have hs110 : ∀ x ∈ [b101], Safe Z own_EL vm40 T101.heap x := (allS (Safe.exa (EL := own_EL) hZ.alike f101_0 (by decide) (by decide)) all0)
   have RC110 := CHr.trans RC101 (CHr.keep kp110 hs110 HC101)
   have HC110 := CHv.keep kp110 hs110 HC101
   have hk110 := Nat.le_trans hk101 kp110.1
   have K110 : Keep h0 T110.heap ([] : List Addr) := K101.trans kp110 (allS (P := fun x => x ∈ ([] : List Addr) ∨ h0.size ≤ x) (Or.inr sz_b101) all0)
   have zz110 : n0 ≤ T110.heap.size := Nat.le_trans Z0 K110.1
   have N110 : Fr n0 L110 := by rw [l110]; exact Fr.app N101 M110
   clear l110
   have X110 : Stand p l e _ _ m _ bw meth c T110 _ 21 143 := X110
   have pre111 : oP p e bw G T110 m 281 #[vJ xt, .second, vI xp, vI xq, vI xs, vR b2, vI jf, vI jv, vI jg, vI jh, vI 0, vI 0, vR b32, vR w1, vR b59, vR b79, vR b91, vR b93, vR b101, vR b110, vU] [(.ref b93), (.ref b101)] := by
    intro t k
    refine pre103 t (st110.trans ?_)
    refine XS.astore X110.here hx rfl (hb hby at_275) rfl rfl (l' := #[vJ xt, .second, vI xp, vI xq, vI xs, vR b2, vI jf, vI jv, vI jg, vI jh, vI 0, vI 0, vR b32, vR w1, vR b59, vR b79, vR b91, vR b93, vR b101, vR b110, vU]) rfl ?_
    refine XS.aload X110.here hx rfl (hb hby at_277) rfl rfl ?_
    refine XS.aload X110.here hx rfl (hb hby at_279) rfl rfl ?_
    exact k
   have ne112 := (Nat.ne_of_lt (Nat.lt_of_lt_of_le (V_b91.ext E93).lt zs101))
   have f113 := (f109.keep kp110 (ninS ne112 nin0))
   have ne114 := (Nat.ne_of_lt (Nat.lt_of_lt_of_le V_b93.lt zs101))
   have f115 := ((V_b93.keep kp101 nin0).keep kp110 (ninS ne114 nin0))
   have ne116 := (Nat.ne_of_lt (Nat.lt_of_lt_of_le V_b91.lt (Nat.le_of_eq g93.symm)))
   obtain ⟨cq117, kq117, q117a, q117b, q117c⟩ := isOf hZ rfl f110_1
   obtain ⟨_, _, ⟨T117, L117, k117, n117⟩, -, X117, ⟨Lc117, hQ117, l117, y117, z117⟩, st117⟩ := X110.virtualBack hx (y := oM0) (z := oM0) hown (mvT hZ (W 76 rfl)) (mvT hZ (W 77 rfl)) (notFace_of_selects (args := #[]) (mvT hZ (W 79 rfl))) (mvT hZ (W 79 rfl)) (mvT hZ (W 78 rfl)) (by decide) (backOf (W := 0) (rm_rqc l Z a0 hw [] _ b93 _ b91 k91 k93 _ T110.heap n0 zz110 f110_4 f110_7 f110_8 f113 f115 (ne116)) hZ (W 80 rfl) (W 53 rfl) (by decide) (by decide)) q117a q117c (g := (own_g pre111)) rfl (by rw [hml]; rfl) (Steps.refl _) (argsL := [(.ref b93)]) (rest := []) (lenOf pd20 rfl) rfl (by show 2 * 0 + _ ≤ _; exact Nat.le_of_eq rfl) (hb hby at_281) (fun _ _ => ⟨rfl, rfl, (by decide : 21 + 0 ≤ _), (by decide : 143 + 0 ≤ _)⟩)
   dsimp only [Pt.U, Pt.locs, Pt.cells, Pt.slots] at X117 l117 y117 z117 st117 hQ117
   subst y117 z117
   obtain ⟨rfl, M117, e117⟩ := hQ117
   have N117 : Fr n0 L117 := by rw [l117]; exact Fr.app N110 M117
   clear l117
   have X117 : Stand p l e _ _ m _ bw meth c T117 _ 21 143 := X117
   have pre118 : oP p e bw G T117 m 314 #[vJ xt, .second, vI xp, vI xq, vI xs, vR b2, vI jf, vI jv, vI jg, vI jh, vI 0, vI 0, vR b32, vR w1, vR b59, vR b79, vR b91, vR b93, vR b101, vR b110, vR b110] [(.int jh), (.int jg), (.int jf), (.int jv), (.ref b2), (.int 0), (.int 0), (.ref b110)] := by
    intro t k
    refine pre111 t (st117.trans ?_)
    refine XS.astore X117.here hx rfl (hb hby at_284) rfl rfl (l' := #[vJ xt, .second, vI xp, vI xq, vI xs, vR b2, vI jf, vI jv, vI jg, vI jh, vI 0, vI 0, vR b32, vR w1, vR b59, vR b79, vR b91, vR b93, vR b101, vR b110, vR b110]) rfl ?_
    refine XS.aload X117.here hx rfl (hb hby at_286) rfl rfl ?_
    refine XS.ifnullNo X117.here hx rfl (hb hby at_288) rfl ?_
    refine XS.aload X117.here hx rfl (hb hby at_291) rfl rfl ?_
    refine XS.ifnonnullYes X117.here hx rfl (pc0 := 293) (pc' := 298) rfl (hb hby at_293) rfl (by decide) (by decide) ?_
    refine XS.aload X117.here hx rfl (hb hby at_298) rfl rfl ?_
    refine XS.iload X117.here hx rfl (hb hby at_300) rfl ?_
    refine XS.iload X117.here hx rfl (hb hby at_302) rfl ?_
    refine XS.aload X117.here hx rfl (hb hby at_304) rfl rfl ?_
    refine XS.iload X117.here hx rfl (hb hby at_306) rfl ?_
    refine XS.iload X117.here hx rfl (hb hby at_308) rfl ?_
    refine XS.iload X117.here hx rfl (hb hby at_310) rfl ?_
    refine XS.iload X117.here hx rfl (hb hby at_312) rfl ?_
    exact k
   have ne119 := (Nat.ne_of_lt (Nat.lt_of_lt_of_le ((f82.ext E91).ext E93).lt zs101))
   have f120 := ((((f82.ext E91).ext E93).keep kp101 nin0).keep kp110 (ninS ne119 nin0))
   obtain ⟨_, T121, Lc121, X121, hQ121, pc121⟩ := own_call X117 hx hZ hown (W 118 rfl) (W 119 rfl) (W 120 rfl) (W 121 rfl) (by decide) (rm_ck000 l Z a0 hw [] _ b2 jv jf jg jh _ _ _ k2 _ _ _ _ _ T110.heap n0 zz110 f110_0 (⟨by exact own_ck00 _, (own_mkQ (by decide) hle hrs).1.hb, rfl, rfl⟩) f120) e117 pre118 hml rfl (hb hby at_314) (lenOf pd35 rfl) rfl (W := 0) rfl (by decide)
   obtain ⟨rfl, M121, e121⟩ := hQ121
   have N121 := Fr.app N117 M121
   have X121 : Stand p l e _ _ m _ bw meth c T121 _ 21 143 := X121
   have pre122 : oP p e bw G T121 m 335 #[vJ xt, .second, vI xp, vI xq, vI xs, vR b2, vI jf, vI jv, vI jg, vI jh, vI 0, vI 0, vR b32, vR w1, vR b59, vR b79, vR b91, vR b93, vR b101, vR b110, vR b110] [(.int jh), (.int jg), (.int jf), (.int jv), (.ref b2), (.int 0), (.int 0), (.ref b110)] := by
    intro t k
    refine pc121 t ?_
    refine XS.ifNo X121.here hx rfl (hb hby at_317) rfl ((if0 _ _).trans (feq (show ¬ ((1 : Int32) = (0 : Int32)) from by decide)).1) ?_
    refine XS.aload X121.here hx rfl (hb hby at_320) rfl rfl ?_
    refine XS.iload X121.here hx rfl (hb hby at_322) rfl ?_
    refine XS.iconst X121.here hx rfl (hb hby at_324) ?_
    refine XS.aload X121.here hx rfl (hb hby at_325) rfl rfl ?_
    refine XS.iload X121.here hx rfl (hb hby at_327) rfl ?_
    refine XS.iload X121.here hx rfl (hb hby at_329) rfl ?_
    refine XS.iload X121.here hx rfl (hb hby at_331) rfl ?_
    refine XS.iload X121.here hx rfl (hb hby at_333) rfl ?_
    exact k
   obtain ⟨_, T123, Lc123, X123, hQ123, pc123⟩ := own_call X121 hx hZ hown (W 118 rfl) (W 119 rfl) (W 120 rfl) (W 121 rfl) (by decide) (rm_ck000 l Z a0 hw [] _ b2 jv jf jg jh _ _ _ k2 _ _ _ _ _ T110.heap n0 zz110 f110_0 (⟨by exact own_ck00 _, (own_mkQ (by decide) hle (by decide)).1.hb, rfl, rfl⟩) f120) e121 pre122 hml rfl (hb hby at_335) (lenOf pd35 rfl) rfl (W := 0) rfl (by decide)
   obtain ⟨rfl, M123, e123⟩ := hQ123
   have N123 := Fr.app N121 M123
   have X123 : Stand p l e _ _ m _ bw meth c T123 _ 21 143 := X123
   have pre124 : oP p e bw G T123 m 346 #[vJ xt, .second, vI xp, vI xq, vI xs, vR b2, vI jf, vI jv, vI jg, vI jh, vI 0, vI 0, vR b32, vR w1, vR b59, vR b79, vR b91, vR b93, vR b101, vR b110, vR b110] [(.int 1)] := by
    intro t k
    refine pc123 t ?_
    refine XS.ifNo X123.here hx rfl (hb hby at_338) rfl ((if0 _ _).trans (feq (show ¬ ((1 : Int32) = (0 : Int32)) from by decide)).1) ?_
    refine XS.iconst X123.here hx rfl (hb hby at_341) ?_
    refine XS.goto X123.here hx rfl (pc0 := 342) (pc' := 346) rfl (hb hby at_342) (by decide) (by decide) ?_
    exact k
   obtain ⟨fs, hr, hrun, hended, hRW⟩ := X123.leaveW hS40 (Nat.le_trans hk110 (Nat.le_of_eq (congrArg Array.size (show _ = T110.heap from e123)).symm)) (v := some (.int 1)) (fun h => by rw [Bd.returns] at h; cases h)
   subst hG
   have RE := CHr.trans RC110 (CHv.at X123 hZ hEL HC110)
   refine ⟨_, _, pre124 _ ?_, hrun, hended, _, _, rfl, ?_, (by rw [hh]; show CHr Z own_EL s.vm h0 T123.vm T123.heap; rw [show T123.heap = T110.heap from e123]; exact RE), hRW.1, hRW.2.1, hRW.2.2.1, hRW.2.2.2.mono (by decide) (by decide)⟩
   ·exact retN X123 hx (t := .boolean) Bd.returns (by simp) (hb hby at_346) hr
   ·show Q_rm0 Z xt xp xq xs xcs wu wc kc xr0 xr1 h0 n0 _ T123.heap _
    rw [e123]
    exact ⟨rfl, N123⟩
  ·have pre125 : oP p e bw G T79 m 244 #[vJ xt, .second, vI xp, vI xq, vI xs, vR b2, vI jf, vI jv, vI jg, vI jh, vI 0, vI jm, vR b32, vR w1, vR b59, vR b79, vU, vU, vU, vU, vU] [] := by
    intro t k
    refine pre88 t ?_
    refine XS.ifYes X79.here hx rfl (pc0 := 234) (pc' := 244) rfl (hb hby at_234) rfl ((if0 _ _).trans (feq hc234).2) (by decide) (by decide) ?_
    exact k
   rw [show jm = (1 : Int32) from own_or rjm hc234] at pre125
   have pre126 : oP p e bw G T79 m 245 #[vJ xt, .second, vI xp, vI xq, vI xs, vR b2, vI jf, vI jv, vI jg, vI jh, vI 0, vI 1, vR b32, vR w1, vR b59, vR b79, vU, vU, vU, vU, vU] [(.int 1)] := by
    intro t k
    refine pre125 t ?_
    refine XS.iconst X79.here hx rfl (hb hby at_244) ?_
    exact k
   obtain ⟨T127, h127, k127, X127, e127, E127, A127, O127, st127⟩ := newR X79 hx hZ hown (W 3 rfl) (W 46 rfl) e79 (g := (own_g pre126)) rfl (hb hby at_245) rfl (by decide) (cap := 1) (by decide) (by decide) (by decide) (by decide)
   obtain ⟨b127, g127⟩ := own_ex h79.size
   rw [← g127] at A127 st127
   have g_b127 : n0 ≤ b127 := Nat.le_trans z79 (Nat.le_of_eq g127.symm)
   have sz_b127 : h0.size ≤ b127 := Nat.le_trans K79.1 (Nat.le_of_eq g127.symm)
   have sf127_b79 := Safe.ext E127 HC79 sf79_b79
   have sf127_b127 := Safe.ext E127 HC79 (Safe.new (Nat.le_of_eq g127.symm))
   have RC127 := CHr.trans RC79 (CHr.ext E127 HC79)
   have HC127 := CHv.ext E127 HC79
   have hk127 := Nat.le_trans hk79 E127.1
   have K127 : Keep h0 h127 ([] : List Addr) := K79.ext E127
   have z127 : n0 ≤ h127.size := Nat.le_trans Z0 K127.1
   have V_b127 : Arv Z h127 b127 k127 (.object "java/lang/String") (1 : Int32) [.null] .null := (Arv.new A127 (by decide)).pad (pad_rep [] .null 1)
   have X127 : Stand p l e _ _ m _ bw meth c T127 _ 14 35 := X127
   have pre128 : oP p e bw G T127 m 252 #[vJ xt, .second, vI xp, vI xq, vI xs, vR b2, vI jf, vI jv, vI jg, vI jh, vI 0, vI 1, vR b32, vR w1, vR b59, vR b79, vU, vU, vU, vU, vU] [(.ref b59), (.int 0), (.ref b127), (.ref b127)] := by
    intro t k
    refine pre126 t (st127 t ?_)
    refine XS.dup X127.here hx rfl (hb hby at_248) rfl rfl ?_
    refine XS.iconst X127.here hx rfl (hb hby at_249) ?_
    refine XS.aload X127.here hx rfl (hb hby at_250) rfl rfl ?_
    exact k
   obtain ⟨c129, a129, q129, s129, m129, i129, u129⟩ := id V_b127
   have f130 := (f83.ext E127)
   obtain ⟨T131, h131, X131, e131, W131, st131⟩ := stR X127 hx hZ e127 a129 (j := (0 : Int32)) (inb_of s129 ⟨by decide, by decide⟩) rfl (Sto.ofV a129 q129 O127 (Ins.self f130)) (g := (own_g pre128)) rfl rfl (hb hby at_252)
   have so131 := sf127_b127
   have sf131_b79 := Safe.wr W131 so131 HC127 sf127_b79
   have sf131_b127 := Safe.wr W131 so131 HC127 sf127_b127
   have RC131 := CHr.trans RC127 (CHr.wr W131 so131 HC127)
   have HC131 := CHv.wr W131 so131 HC127
   have hk131 := Nat.le_trans hk127 (Keep.of_wr W131).1
   have K131 : Keep h0 h131 ([] : List Addr) := K127.wr W131 (Or.inr sz_b127)
   have z131 : n0 ≤ h131.size := Nat.le_trans Z0 K131.1
   have N131 := Fr.snoc X131 N74 g_b127
   have V131 : Arv Z h131 b127 k127 (.object "java/lang/String") (1 : Int32) [(.ref b59)] .null := Arv.set a129 q129 s129 m129 i129 u129 rfl W131 0 rfl (Nat.le_of_ble_eq_true rfl)
   have pre132 : oP p e bw G T131 m 256 #[vJ xt, .second, vI xp, vI xq, vI xs, vR b2, vI jf, vI jv, vI jg, vI jh, vI 0, vI 1, vR b32, vR w1, vR b59, vR b79, vR b127, vU, vU, vU, vU] [(.int 0)] := by
    intro t k
    refine pre128 t (st131 t ?_)
    refine XS.astore X131.here hx rfl (hb hby at_253) rfl rfl (l' := #[vJ xt, .second, vI xp, vI xq, vI xs, vR b2, vI jf, vI jv, vI jg, vI jh, vI 0, vI 1, vR b32, vR w1, vR b59, vR b79, vR b127, vU, vU, vU, vU]) rfl ?_
    refine XS.iconst X131.here hx rfl (hb hby at_255) ?_
    exact k
   obtain ⟨T133, h133, k133, X133, e133, E133, A133, O133, st133⟩ := newR X131 hx hZ hown (W 3 rfl) (W 46 rfl) e131 (g := (own_g pre132)) rfl (hb hby at_256) rfl (by decide) (cap := 0) (by decide) (by decide) (by decide) (by decide)
   obtain ⟨b133, g133⟩ := own_ex h131.size
   rw [← g133] at A133 st133
   have g_b133 : n0 ≤ b133 := Nat.le_trans z131 (Nat.le_of_eq g133.symm)
   have sz_b133 : h0.size ≤ b133 := Nat.le_trans K131.1 (Nat.le_of_eq g133.symm)
   have sf133_b79 := Safe.ext E133 HC131 sf131_b79
   have sf133_b127 := Safe.ext E133 HC131 sf131_b127
   have sf133_b133 := Safe.ext E133 HC131 (Safe.new (Nat.le_of_eq g133.symm))
   have RC133 := CHr.trans RC131 (CHr.ext E133 HC131)
   have HC133 := CHv.ext E133 HC131
   have hk133 := Nat.le_trans hk131 E133.1
   have K133 : Keep h0 h133 ([] : List Addr) := K131.ext E133
   have z133 : n0 ≤ h133.size := Nat.le_trans Z0 K133.1
   have V_b133 : Arv Z h133 b133 k133 (.object "java/lang/String") (0 : Int32) [] .null := (Arv.new A133 (by decide)).pad (pad_rep [] .null 0)
   have X133 : Stand p l e _ _ m _ bw meth c T133 _ 15 35 := X133
   have pre134 : oP p e bw G T133 m 263 #[vJ xt, .second, vI xp, vI xq, vI xs, vR b2, vI jf, vI jv, vI jg, vI jh, vI 0, vI 1, vR b32, vR w1, vR b59, vR b79, vR b127, vR b133, vU, vU, vU] [(.ref b79)] := by
    intro t k
    refine pre132 t (st133 t ?_)
    refine XS.astore X133.here hx rfl (hb hby at_259) rfl rfl (l' := #[vJ xt, .second, vI xp, vI xq, vI xs, vR b2, vI jf, vI jv, vI jg, vI jh, vI 0, vI 1, vR b32, vR w1, vR b59, vR b79, vR b127, vR b133, vU, vU, vU]) rfl ?_
    refine XS.aload X133.here hx rfl (hb hby at_261) rfl rfl ?_
    exact k
   have f135 := (((((own_sta_keep f73 kp74 f69).ext E79).ext E127).wr W131).ext E133)
   have f136 := (SI.ext (own_keep_ext K133))
   have f137 := (SU.ext (own_keep_ext K133))
   have f138 := (SR.ext (own_keep_ext K133))
   have f139 := (VR.ext (own_keep_ext K133))
   have ne140 := (Nat.ne_of_lt (Nat.lt_of_lt_of_le V_b79.lt (Nat.le_of_eq g127.symm)))
   have f141 := (((V_b79.ext E127).other W131 ne140).ext E133)
   obtain ⟨_, T142, Lc142, X142, hQ142, pc142⟩ := own_call X133 hx hZ hown (W 47 rfl) (W 48 rfl) (W 49 rfl) (W 50 rfl) (by decide) (rm_hd0 l Z a0 hw [] b79 xcs wu wc kc xr0 xr1 k79 h133 n0 z133 f135 (hcs) f136 f137 f138 f139 f141) e133 pre134 hml rfl (hb hby at_263) (lenOf pd34 rfl) rfl (W := 0) rfl (by decide)
   obtain ⟨re_142, ke_142, b142, rfl, M142, g_b142, zs142, kp142, f142_0, f142_1, f142_2, f142_3, f142_4, f142_5⟩ := hQ142
   have sz_b142 : h0.size ≤ b142 := Nat.le_trans K133.1 zs142
   have hs142 : ∀ x ∈ ([] : List Addr), Safe Z own_EL vm40 h133 x := all0
   have RC142 := CHr.trans RC133 (CHr.keep kp142 hs142 HC133)
   have HC142 := CHv.keep kp142 hs142 HC133
   have hk142 := Nat.le_trans hk133 kp142.1
   have K142 : Keep h0 T142.heap ([] : List Addr) := K133.trans kp142 all0
   have zz142 : n0 ≤ T142.heap.size := Nat.le_trans Z0 K142.1
   have N142 := Fr.app N131 M142
   have X142 : Stand p l e _ _ m _ bw meth c T142 _ 18 78 := X142
   have pre143 : oP p e bw G T142 m 268 #[vJ xt, .second, vI xp, vI xq, vI xs, vR b2, vI jf, vI jv, vI jg, vI jh, vI 0, vI 1, vR b32, vR w1, vR b59, vR b79, vR b127, vR b133, vR b142, vU, vU] [] := by
    intro t k
    refine pc142 t ?_
    refine XS.astore X142.here hx rfl (hb hby at_266) rfl rfl (l' := #[vJ xt, .second, vI xp, vI xq, vI xs, vR b2, vI jf, vI jv, vI jg, vI jh, vI 0, vI 1, vR b32, vR w1, vR b59, vR b79, vR b127, vR b133, vR b142, vU, vU]) rfl ?_
    exact k
   have hle : (own_bulks []).length ≤ 40 := Nat.zero_le _
   have hrs : (own_bulks [own_enc lw2]).length ≤ 18 := by have := own_bs1 (own_w99 hl_lw2); have := own_encL lw2; omega
   have pre144 : oP p e bw G T142 m 272 #[vJ xt, .second, vI xp, vI xq, vI xs, vR b2, vI jf, vI jv, vI jg, vI jh, vI 0, vI 1, vR b32, vR w1, vR b59, vR b79, vR b127, vR b133, vR b142, vU, vU] [(.ref b127), (.ref b142)] := by
    intro t k
    refine pre143 t ?_
    refine XS.aload X142.here hx rfl (hb hby at_268) rfl rfl ?_
    refine XS.aload X142.here hx rfl (hb hby at_270) rfl rfl ?_
    exact k
   have f145 := (f135.ext (own_keep_ext kp142))
   have f146 := (f136.ext (own_keep_ext kp142))
   have f147 := (f137.ext (own_keep_ext kp142))
   have f148 := (f138.ext (own_keep_ext kp142))
   have f149 := (f139.keep kp142 nin0)
   have f150 := ((V131.ext E133).keep kp142 nin0)
   have f151 := (((f130.wr W131).ext E133).keep kp142)
   have ne152 := (Nat.ne_of_lt (Nat.lt_of_lt_of_le f83.lt (Nat.le_of_eq g127.symm)))
   have f153 := ((((f85.ext E127).other W131 (Or.inl ne152)).ext E133).keep kp142 nin0)
   have f154 := ((((f84.ext E127).other W131 (Or.inl ne152)).ext E133).keep kp142 nin0)
   have ne155 := (Nat.ne_of_lt (Nat.lt_of_lt_of_le f86.lt (Nat.le_of_eq g127.symm)))
   have f156 := ((((f86.ext E127).other W131 ne155).ext E133).keep kp142 nin0)
   have f157 := ((((f87.ext E127).wr W131).ext E133).keep kp142)
   obtain ⟨cq158, kq158, q158a, q158b, q158c⟩ := isOf hZ rfl f142_0
   obtain ⟨_, _, ⟨T158, L158, k158, n158⟩, -, X158, ⟨Lc158, hQ158, l158, y158, z158⟩, st158⟩ := X142.virtualBack hx (y := oM0) (z := oM0) hown (mvT hZ (W 76 rfl)) (mvT hZ (W 77 rfl)) (notFace_of_selects (args := #[]) (mvT hZ (W 79 rfl))) (mvT hZ (W 79 rfl)) (mvT hZ (W 78 rfl)) (by decide) (backOf (W := 0) (rm_rqa1 l Z a0 hw [] _ _ xcs wu wc kc xr0 xr1 _ _ _ _ _ b59 _ _ lw2 T142.heap n0 zz142 f145 (hcs) f146 f147 f148 f149 f142_0 (g_b142) f142_1 f142_2 f142_4 f142_5 f150 f151 f153 f154 f156 f157 (hl_lw2) (hbs_lw2) ((own_mkQ (by decide) hle hrs).1) ((own_mkQ (by decide) hle hrs).2) f142_3) hZ (W 80 rfl) (W 53 rfl) (by decide) (by decide)) q158a q158c (g := (own_g pre144)) rfl (by rw [hml]; rfl) (Steps.refl _) (argsL := [(.ref b127)]) (rest := []) (lenOf pd20 rfl) rfl (by show 2 * 0 + _ ≤ _; exact Nat.le_of_eq rfl) (hb hby at_272) (fun _ _ => ⟨rfl, rfl, (by decide : 18 + 5 ≤ _), (by decide : 78 + 87 ≤ _)⟩)
   dsimp only [Pt.U, Pt.locs, Pt.cells, Pt.slots] at X158 l158 y158 z158 st158 hQ158
   subst y158 z158
   obtain ⟨rt_158, kb_158, b158, rfl, M158, g_b158, zs158, kp158, f158_0, f158_1, f158_2, f158_3, f158_4, f158_5, f158_6, f158_7, f158_8⟩ := hQ158
   have sz_b158 : h0.size ≤ b158 := Nat.le_trans K142.1 zs158
   have hs158 : ∀ x ∈ [b142], Safe Z own_EL vm40 T142.heap x := (allS (Safe.exa (EL := own_EL) hZ.alike f142_0 (by decide) (by decide)) all0)
   have RC158 := CHr.trans RC142 (CHr.keep kp158 hs158 HC142)
   have HC158 := CHv.keep kp158 hs158 HC142
   have hk158 := Nat.le_trans hk142 kp158.1
   have K158 : Keep h0 T158.heap ([] : List Addr) := K142.trans kp158 (allS (P := fun x => x ∈ ([] : List Addr) ∨ h0.size ≤ x) (Or.inr sz_b142) all0)
   have zz158 : n0 ≤ T158.heap.size := Nat.le_trans Z0 K158.1
   have N158 : Fr n0 L158 := by rw [l158]; exact Fr.app N142 M158
   clear l158
   have X158 : Stand p l e _ _ m _ bw meth c T158 _ 23 165 := X158
   have pre159 : oP p e bw G T158 m 281 #[vJ xt, .second, vI xp, vI xq, vI xs, vR b2, vI jf, vI jv, vI jg, vI jh, vI 0, vI 1, vR b32, vR w1, vR b59, vR b79, vR b127, vR b133, vR b142, vR b158, vU] [(.ref b133), (.ref b142)] := by
    intro t k
    refine pre144 t (st158.trans ?_)
    refine XS.astore X158.here hx rfl (hb hby at_275) rfl rfl (l' := #[vJ xt, .second, vI xp, vI xq, vI xs, vR b2, vI jf, vI jv, vI jg, vI jh, vI 0, vI 1, vR b32, vR w1, vR b59, vR b79, vR b127, vR b133, vR b142, vR b158, vU]) rfl ?_
    refine XS.aload X158.here hx rfl (hb hby at_277) rfl rfl ?_
    refine XS.aload X158.here hx rfl (hb hby at_279) rfl rfl ?_
    exact k
   have f160 := (own_sta_keep f145 kp158 f142_0)
   have f161 := (own_sta_keep f146 kp158 f142_0)
   have f162 := (own_sta_keep f147 kp158 f142_0)
   have f163 := (own_sta_keep f148 kp158 f142_0)
   have ne164 := (Nat.ne_of_lt (Nat.lt_of_lt_of_le f139.lt zs142))
   have f165 := (f149.keep kp158 (ninS ne164 nin0))
   have f166 := (f142_5.keep kp158)
   have ne167 := (Nat.ne_of_lt (Nat.lt_of_lt_of_le V_b133.lt zs142))
   have f168 := ((V_b133.keep kp142 nin0).keep kp158 (ninS ne167 nin0))
   have ne169 := (Nat.ne_of_lt (Nat.lt_of_lt_of_le (V131.ext E133).lt zs142))
   have f170 := (f150.keep kp158 (ninS ne169 nin0))
   have ne171 := (Nat.ne_of_lt (Nat.lt_of_lt_of_le V131.lt (Nat.le_of_eq g133.symm)))
   obtain ⟨cq172, kq172, q172a, q172b, q172c⟩ := isOf hZ rfl f158_1
   obtain ⟨_, _, ⟨T172, L172, k172, n172⟩, -, X172, ⟨Lc172, hQ172, l172, y172, z172⟩, st172⟩ := X158.virtualBack hx (y := oM0) (z := oM0) hown (mvT hZ (W 76 rfl)) (mvT hZ (W 77 rfl)) (notFace_of_selects (args := #[]) (mvT hZ (W 79 rfl))) (mvT hZ (W 79 rfl)) (mvT hZ (W 78 rfl)) (by decide) (backOf (W := 0) (rm_rqb0 l Z a0 hw [] _ _ xcs wu wc kc xr0 xr1 _ _ _ _ _ _ _ _ b59 T158.heap n0 zz158 f160 (hcs) f161 f162 f163 f165 f158_1 (g_b142) f158_2 f158_3 f158_5 f166 f168 ((own_mkQ (by decide) hle (by decide)).1) ((own_mkQ (by decide) hle (by decide)).2) f158_4 f158_7 f170 (ne171)) hZ (W 80 rfl) (W 53 rfl) (by decide) (by decide)) q172a q172c (g := (own_g pre159)) rfl (by rw [hml]; rfl) (Steps.refl _) (argsL := [(.ref b133)]) (rest := []) (lenOf pd20 rfl) rfl (by show 2 * 0 + _ ≤ _; exact Nat.le_of_eq rfl) (hb hby at_281) (fun _ _ => ⟨rfl, rfl, (by decide : 23 + 3 ≤ _), (by decide : 165 + 66 ≤ _)⟩)
   dsimp only [Pt.U, Pt.locs, Pt.cells, Pt.slots] at X172 l172 y172 z172 st172 hQ172
   subst y172 z172
   obtain ⟨kb_172, b172, rfl, M172, g_b172, zs172, kp172, f172_0⟩ := hQ172
   have sz_b172 : h0.size ≤ b172 := Nat.le_trans K158.1 zs172
   have hs172 : ∀ x ∈ [b142], Safe Z own_EL vm40 T158.heap x := (allS (Safe.exa (EL := own_EL) hZ.alike f158_1 (by decide) (by decide)) all0)
   have RC172 := CHr.trans RC158 (CHr.keep kp172 hs172 HC158)
   have HC172 := CHv.keep kp172 hs172 HC158
   have hk172 := Nat.le_trans hk158 kp172.1
   have K172 : Keep h0 T172.heap ([] : List Addr) := K158.trans kp172 (allS (P := fun x => x ∈ ([] : List Addr) ∨ h0.size ≤ x) (Or.inr sz_b142) all0)
   have zz172 : n0 ≤ T172.heap.size := Nat.le_trans Z0 K172.1
   have N172 : Fr n0 L172 := by rw [l172]; exact Fr.app N158 M172
   clear l172
   have X172 : Stand p l e _ _ m _ bw meth c T172 _ 26 231 := X172
   have pre173 : oP p e bw G T172 m 314 #[vJ xt, .second, vI xp, vI xq, vI xs, vR b2, vI jf, vI jv, vI jg, vI jh, vI 0, vI 1, vR b32, vR w1, vR b59, vR b79, vR b127, vR b133, vR b142, vR b158, vR b172] [(.int jh), (.int jg), (.int jf), (.int jv), (.ref b2), (.int 1), (.int 0), (.ref b158)] := by
    intro t k
    refine pre159 t (st172.trans ?_)
    refine XS.astore X172.here hx rfl (hb hby at_284) rfl rfl (l' := #[vJ xt, .second, vI xp, vI xq, vI xs, vR b2, vI jf, vI jv, vI jg, vI jh, vI 0, vI 1, vR b32, vR w1, vR b59, vR b79, vR b127, vR b133, vR b142, vR b158, vR b172]) rfl ?_
    refine XS.aload X172.here hx rfl (hb hby at_286) rfl rfl ?_
    refine XS.ifnullNo X172.here hx rfl (hb hby at_288) rfl ?_
    refine XS.aload X172.here hx rfl (hb hby at_291) rfl rfl ?_
    refine XS.ifnonnullYes X172.here hx rfl (pc0 := 293) (pc' := 298) rfl (hb hby at_293) rfl (by decide) (by decide) ?_
    refine XS.aload X172.here hx rfl (hb hby at_298) rfl rfl ?_
    refine XS.iload X172.here hx rfl (hb hby at_300) rfl ?_
    refine XS.iload X172.here hx rfl (hb hby at_302) rfl ?_
    refine XS.aload X172.here hx rfl (hb hby at_304) rfl rfl ?_
    refine XS.iload X172.here hx rfl (hb hby at_306) rfl ?_
    refine XS.iload X172.here hx rfl (hb hby at_308) rfl ?_
    refine XS.iload X172.here hx rfl (hb hby at_310) rfl ?_
    refine XS.iload X172.here hx rfl (hb hby at_312) rfl ?_
    exact k
   have ne174 := (Ne.symm (Nat.ne_of_lt (Nat.lt_of_lt_of_le f142_0.lt zs158)))
   have f175 := (f158_0.keep kp172 (ninS ne174 nin0))
   have ne176 := (Nat.ne_of_lt (Nat.lt_of_lt_of_le f82.lt (Nat.le_of_eq g127.symm)))
   have ne177 := (Nat.ne_of_lt (Nat.lt_of_lt_of_le (((f82.ext E127).other W131 ne176).ext E133).lt zs142))
   have f178 := ((((((f82.ext E127).other W131 ne176).ext E133).keep kp142 nin0).keep kp158 (ninS ne177 nin0)).keep kp172 (ninS ne177 nin0))
   obtain ⟨_, T179, Lc179, X179, hQ179, pc179⟩ := own_call X172 hx hZ hown (W 118 rfl) (W 119 rfl) (W 120 rfl) (W 121 rfl) (by decide) (rm_ck010 l Z a0 hw [] _ b2 jv jf jg jh _ _ _ k2 _ _ _ _ _ T172.heap n0 zz172 f175 (⟨by rw [el2]; exact own_ck01 _ _, (own_mkQ (by decide) hle hrs).1.hb, rfl, rfl⟩) f178 (rjg) (rjh)) rfl pre173 hml rfl (hb hby at_314) (lenOf pd35 rfl) rfl (W := 0) rfl (by decide)
   obtain ⟨rfl, M179, e179⟩ := hQ179
   have N179 := Fr.app N172 M179
   have X179 : Stand p l e _ _ m _ bw meth c T179 _ 26 231 := X179
   have pre180 : oP p e bw G T179 m 335 #[vJ xt, .second, vI xp, vI xq, vI xs, vR b2, vI jf, vI jv, vI jg, vI jh, vI 0, vI 1, vR b32, vR w1, vR b59, vR b79, vR b127, vR b133, vR b142, vR b158, vR b172] [(.int jh), (.int jg), (.int jf), (.int jv), (.ref b2), (.int 0), (.int 0), (.ref b172)] := by
    intro t k
    refine pc179 t ?_
    refine XS.ifNo X179.here hx rfl (hb hby at_317) rfl ((if0 _ _).trans (feq (show ¬ ((1 : Int32) = (0 : Int32)) from by decide)).1) ?_
    refine XS.aload X179.here hx rfl (hb hby at_320) rfl rfl ?_
    refine XS.iload X179.here hx rfl (hb hby at_322) rfl ?_
    refine XS.iconst X179.here hx rfl (hb hby at_324) ?_
    refine XS.aload X179.here hx rfl (hb hby at_325) rfl rfl ?_
    refine XS.iload X179.here hx rfl (hb hby at_327) rfl ?_
    refine XS.iload X179.here hx rfl (hb hby at_329) rfl ?_
    refine XS.iload X179.here hx rfl (hb hby at_331) rfl ?_
    refine XS.iload X179.here hx rfl (hb hby at_333) rfl ?_
    exact k
   obtain ⟨_, T181, Lc181, X181, hQ181, pc181⟩ := own_call X179 hx hZ hown (W 118 rfl) (W 119 rfl) (W 120 rfl) (W 121 rfl) (by decide) (rm_ck000 l Z a0 hw [] _ b2 jv jf jg jh _ _ _ k2 _ _ _ _ _ T172.heap n0 zz172 f172_0 (⟨by exact own_ck00 _, (own_mkQ (by decide) hle (by decide)).1.hb, rfl, rfl⟩) f178) e179 pre180 hml rfl (hb hby at_335) (lenOf pd35 rfl) rfl (W := 0) rfl (by decide)
   obtain ⟨rfl, M181, e181⟩ := hQ181
   have N181 := Fr.app N179 M181
   have X181 : Stand p l e _ _ m _ bw meth c T181 _ 26 231 := X181
   have pre182 : oP p e bw G T181 m 346 #[vJ xt, .second, vI xp, vI xq, vI xs, vR b2, vI jf, vI jv, vI jg, vI jh, vI 0, vI 1, vR b32, vR w1, vR b59, vR b79, vR b127, vR b133, vR b142, vR b158, vR b172] [(.int 1)] := by
    intro t k
    refine pc181 t ?_
    refine XS.ifNo X181.here hx rfl (hb hby at_338) rfl ((if0 _ _).trans (feq (show ¬ ((1 : Int32) = (0 : Int32)) from by decide)).1) ?_
    refine XS.iconst X181.here hx rfl (hb hby at_341) ?_
    refine XS.goto X181.here hx rfl (pc0 := 342) (pc' := 346) rfl (hb hby at_342) (by decide) (by decide) ?_
    exact k
   obtain ⟨fs, hr, hrun, hended, hRW⟩ := X181.leaveW hS40 (Nat.le_trans hk172 (Nat.le_of_eq (congrArg Array.size (show _ = T172.heap from e181)).symm)) (v := some (.int 1)) (fun h => by rw [Bd.returns] at h; cases h)
   subst hG
   have RE := CHr.trans RC172 (CHv.at X181 hZ hEL HC172)
   refine ⟨_, _, pre182 _ ?_, hrun, hended, _, _, rfl, ?_, (by rw [hh]; show CHr Z own_EL s.vm h0 T181.vm T181.heap; rw [show T181.heap = T172.heap from e181]; exact RE), hRW.1, hRW.2.1, hRW.2.2.1, hRW.2.2.2.mono (by decide) (by decide)⟩
   ·exact retN X181 hx (t := .boolean) Bd.returns (by simp) (hb hby at_346) hr
   ·show Q_rm0 Z xt xp xq xs xcs wu wc kc xr0 xr1 h0 n0 _ T181.heap _
    rw [e181]
    exact ⟨rfl, N181⟩
 ·have pre183 : oP p e bw G T74 m 201 #[vJ xt, .second, vI xp, vI xq, vI xs, vR b2, vI jf, vI jv, vI jg, vI jh, vI jk, vI jm, vR b32, vR w1, vR b59, vU, vU, vU, vU, vU, vU] [(.int 1), (.int jk)] := by
   intro t k
   refine pre76 t ?_
   refine XS.ifYes X74.here hx rfl (pc0 := 188) (pc' := 198) rfl (hb hby at_188) rfl ((if0 _ _).trans (feq hc188).2) (by decide) (by decide) ?_
   refine XS.iload X74.here hx rfl (hb hby at_198) rfl ?_
   refine XS.iconst X74.here hx rfl (hb hby at_200) ?_
   exact k
  by_cases hc201 : jk = (1 : Int32)
  ·have pre184 : oP p e bw G T74 m 204 #[vJ xt, .second, vI xp, vI xq, vI xs, vR b2, vI jf, vI jv, vI jg, vI jh, vI jk, vI jm, vR b32, vR w1, vR b59, vU, vU, vU, vU, vU, vU] [] := by
    intro t k
    refine pre183 t ?_
    refine XS.icmpNo X74.here hx rfl (hb hby at_201) rfl (teq hc201).2 ?_
    exact k
   rw [show jk = (1 : Int32) from hc201] at pre184
   have pre185 : oP p e bw G T74 m 205 #[vJ xt, .second, vI xp, vI xq, vI xs, vR b2, vI jf, vI jv, vI jg, vI jh, vI 1, vI jm, vR b32, vR w1, vR b59, vU, vU, vU, vU, vU, vU] [(.int 1)] := by
    intro t k
    refine pre184 t ?_
    refine XS.iconst X74.here hx rfl (hb hby at_204) ?_
    exact k
   obtain ⟨T186, h186, k186, X186, e186, E186, A186, O186, st186⟩ := newR X74 hx hZ hown (W 3 rfl) (W 46 rfl) rfl (g := (own_g pre185)) rfl (hb hby at_205) rfl (by decide) (cap := 1) (by decide) (by decide) (by decide) (by decide)
   obtain ⟨b186, g186⟩ := own_ex T74.heap.size
   rw [← g186] at A186 st186
   have g_b186 : n0 ≤ b186 := Nat.le_trans zz74 (Nat.le_of_eq g186.symm)
   have sz_b186 : h0.size ≤ b186 := Nat.le_trans K74.1 (Nat.le_of_eq g186.symm)
   have sf186_b186 := Safe.ext E186 HC74 (Safe.new (Nat.le_of_eq g186.symm))
   have RC186 := CHr.trans RC74 (CHr.ext E186 HC74)
   have HC186 := CHv.ext E186 HC74
   have hk186 := Nat.le_trans hk74 E186.1
   have K186 : Keep h0 h186 ([] : List Addr) := K74.ext E186
   have z186 : n0 ≤ h186.size := Nat.le_trans Z0 K186.1
   have V_b186 : Arv Z h186 b186 k186 (.object "java/lang/String") (1 : Int32) [.null] .null := (Arv.new A186 (by decide)).pad (pad_rep [] .null 1)
   have X186 : Stand p l e _ _ m _ bw meth c T186 _ 13 35 := X186
   have pre187 : oP p e bw G T186 m 212 #[vJ xt, .second, vI xp, vI xq, vI xs, vR b2, vI jf, vI jv, vI jg, vI jh, vI 1, vI jm, vR b32, vR w1, vR b59, vU, vU, vU, vU, vU, vU] [(.ref b32), (.int 0), (.ref b186), (.ref b186)] := by
    intro t k
    refine pre185 t (st186 t ?_)
    refine XS.dup X186.here hx rfl (hb hby at_208) rfl rfl ?_
    refine XS.iconst X186.here hx rfl (hb hby at_209) ?_
    refine XS.aload X186.here hx rfl (hb hby at_210) rfl rfl ?_
    exact k
   obtain ⟨c188, a188, q188, s188, m188, i188, u188⟩ := id V_b186
   have f189 := ((((((fr40_5.ext E59).ext E61).wr W64).wr W67).keep kp74).ext E186)
   obtain ⟨T190, h190, X190, e190, W190, st190⟩ := stR X186 hx hZ e186 a188 (j := (0 : Int32)) (inb_of s188 ⟨by decide, by decide⟩) rfl (Sto.ofV a188 q188 O186 (Ins.self f189)) (g := (own_g pre187)) rfl rfl (hb hby at_212)
   have so190 := sf186_b186
   have sf190_b186 := Safe.wr W190 so190 HC186 sf186_b186
   have RC190 := CHr.trans RC186 (CHr.wr W190 so190 HC186)
   have HC190 := CHv.wr W190 so190 HC186
   have hk190 := Nat.le_trans hk186 (Keep.of_wr W190).1
   have K190 : Keep h0 h190 ([] : List Addr) := K186.wr W190 (Or.inr sz_b186)
   have z190 : n0 ≤ h190.size := Nat.le_trans Z0 K190.1
   have N190 := Fr.snoc X190 N74 g_b186
   have V190 : Arv Z h190 b186 k186 (.object "java/lang/String") (1 : Int32) [(.ref b32)] .null := Arv.set a188 q188 s188 m188 i188 u188 rfl W190 0 rfl (Nat.le_of_ble_eq_true rfl)
   have f191 := (f189.wr W190)
   have ne192 := (Nat.ne_of_lt (Nat.lt_of_lt_of_le (fr40_5.ext E59).lt (Nat.le_of_eq g61.symm)))
   have ne193 := (Nat.ne_of_lt (Nat.lt_of_lt_of_le fr40_5.lt (Nat.le_of_eq g59.symm)))
   have ne194 := (Nat.ne_of_lt (Nat.lt_of_lt_of_le (((((fr40_5.ext E59).ext E61).wr W64).wr W67).keep kp74).lt (Nat.le_of_eq g186.symm)))
   have f195 := (((((((fr40_6.ext E59).ext E61).other W64 (Or.inl ne192)).other W67 (Or.inl ne192)).keep kp74 (ninS ne193 nin0)).ext E186).other W190 (Or.inl ne194))
   have f196 := (((((((fr40_7.ext E59).ext E61).other W64 (Or.inl ne192)).other W67 (Or.inl ne192)).keep kp74 (ninS ne193 nin0)).ext E186).other W190 (Or.inl ne194))
   have ne197 := (Nat.ne_of_lt (Nat.lt_of_lt_of_le (fr40_8.ext E59).lt (Nat.le_of_eq g61.symm)))
   have ne198 := (Nat.ne_of_lt (Nat.lt_of_lt_of_le fr40_8.lt (Nat.le_of_eq g59.symm)))
   have ne199 := (Nat.ne_of_lt (Nat.lt_of_lt_of_le (((((fr40_8.ext E59).ext E61).other W64 ne197).other W67 ne197).keep kp74 (ninS ne198 nin0)).lt (Nat.le_of_eq g186.symm)))
   have f200 := (((((((fr40_8.ext E59).ext E61).other W64 ne197).other W67 ne197).keep kp74 (ninS ne198 nin0)).ext E186).other W190 ne199)
   have f201 := (((((((fr40_9.ext E59).ext E61).wr W64).wr W67).keep kp74).ext E186).wr W190)
   have ne202 := (Nat.ne_of_lt (Nat.lt_of_lt_of_le (fr40_10.ext E59).lt (Nat.le_of_eq g61.symm)))
   have ne203 := (Nat.ne_of_lt (Nat.lt_of_lt_of_le fr40_10.lt (Nat.le_of_eq g59.symm)))
   have ne204 := (Nat.ne_of_lt (Nat.lt_of_lt_of_le (((((fr40_10.ext E59).ext E61).other W64 ne202).other W67 ne202).keep kp74 (ninS ne203 nin0)).lt (Nat.le_of_eq g186.symm)))
   have f205 := (((((((fr40_10.ext E59).ext E61).other W64 ne202).other W67 ne202).keep kp74 (ninS ne203 nin0)).ext E186).other W190 ne204)
   have f206 := ((f74_0.ext E186).wr W190)
   have ne207 := (Nat.ne_of_lt (Nat.lt_of_lt_of_le f74_0.lt (Nat.le_of_eq g186.symm)))
   have f208 := ((f74_2.ext E186).other W190 (Or.inl ne207))
   have f209 := ((f74_1.ext E186).other W190 (Or.inl ne207))
   have ne210 := (Nat.ne_of_lt (Nat.lt_of_lt_of_le V_lw2.lt (Nat.le_of_eq g186.symm)))
   have f211 := ((V_lw2.ext E186).other W190 ne210)
   have f212 := ((f74_4.ext E186).wr W190)
   have pre213 : oP p e bw G T190 m 234 #[vJ xt, .second, vI xp, vI xq, vI xs, vR b2, vI jf, vI jv, vI jg, vI jh, vI 1, vI jm, vR b32, vR w1, vR b59, vR b186, vU, vU, vU, vU, vU] [(.int jm)] := by
    intro t k
    refine pre187 t (st190 t ?_)
    refine XS.goto X190.here hx rfl (pc0 := 213) (pc' := 230) rfl (hb hby at_213) (by decide) (by decide) ?_
    refine XS.astore X190.here hx rfl (hb hby at_230) rfl rfl (l' := #[vJ xt, .second, vI xp, vI xq, vI xs, vR b2, vI jf, vI jv, vI jg, vI jh, vI 1, vI jm, vR b32, vR w1, vR b59, vR b186, vU, vU, vU, vU, vU]) rfl ?_
    refine XS.iload X190.here hx rfl (hb hby at_232) rfl ?_
    exact k
   by_cases hc234 : jm = (0 : Int32)
   ·have pre214 : oP p e bw G T190 m 237 #[vJ xt, .second, vI xp, vI xq, vI xs, vR b2, vI jf, vI jv, vI jg, vI jh, vI 1, vI jm, vR b32, vR w1, vR b59, vR b186, vU, vU, vU, vU, vU] [] := by
     intro t k
     refine pre213 t ?_
     refine XS.ifNo X190.here hx rfl (hb hby at_234) rfl ((if0 _ _).trans (teq hc234).2) ?_
     exact k
    rw [show jm = (0 : Int32) from hc234] at pre214
    have pre215 : oP p e bw G T190 m 238 #[vJ xt, .second, vI xp, vI xq, vI xs, vR b2, vI jf, vI jv, vI jg, vI jh, vI 1, vI 0, vR b32, vR w1, vR b59, vR b186, vU, vU, vU, vU, vU] [(.int 0)] := by
     intro t k
     refine pre214 t ?_
     refine XS.iconst X190.here hx rfl (hb hby at_237) ?_
     exact k
    obtain ⟨T216, h216, k216, X216, e216, E216, A216, O216, st216⟩ := newR X190 hx hZ hown (W 3 rfl) (W 46 rfl) e190 (g := (own_g pre215)) rfl (hb hby at_238) rfl (by decide) (cap := 0) (by decide) (by decide) (by decide) (by decide)
    obtain ⟨b216, g216⟩ := own_ex h190.size
    rw [← g216] at A216 st216
    have g_b216 : n0 ≤ b216 := Nat.le_trans z190 (Nat.le_of_eq g216.symm)
    have sz_b216 : h0.size ≤ b216 := Nat.le_trans K190.1 (Nat.le_of_eq g216.symm)
    have sf216_b186 := Safe.ext E216 HC190 sf190_b186
    have sf216_b216 := Safe.ext E216 HC190 (Safe.new (Nat.le_of_eq g216.symm))
    have RC216 := CHr.trans RC190 (CHr.ext E216 HC190)
    have HC216 := CHv.ext E216 HC190
    have hk216 := Nat.le_trans hk190 E216.1
    have K216 : Keep h0 h216 ([] : List Addr) := K190.ext E216
    have z216 : n0 ≤ h216.size := Nat.le_trans Z0 K216.1
    have V_b216 : Arv Z h216 b216 k216 (.object "java/lang/String") (0 : Int32) [] .null := (Arv.new A216 (by decide)).pad (pad_rep [] .null 0)
    have X216 : Stand p l e _ _ m _ bw meth c T216 _ 14 35 := X216
    have pre217 : oP p e bw G T216 m 256 #[vJ xt, .second, vI xp, vI xq, vI xs, vR b2, vI jf, vI jv, vI jg, vI jh, vI 1, vI 0, vR b32, vR w1, vR b59, vR b186, vR b216, vU, vU, vU, vU] [(.int 0)] := by
     intro t k
     refine pre215 t (st216 t ?_)
     refine XS.goto X216.here hx rfl (pc0 := 241) (pc' := 253) rfl (hb hby at_241) (by decide) (by decide) ?_
     refine XS.astore X216.here hx rfl (hb hby at_253) rfl rfl (l' := #[vJ xt, .second, vI xp, vI xq, vI xs, vR b2, vI jf, vI jv, vI jg, vI jh, vI 1, vI 0, vR b32, vR w1, vR b59, vR b186, vR b216, vU, vU, vU, vU]) rfl ?_
     refine XS.iconst X216.here hx rfl (hb hby at_255) ?_
     exact k
    obtain ⟨T218, h218, k218, X218, e218, E218, A218, O218, st218⟩ := newR X216 hx hZ hown (W 3 rfl) (W 46 rfl) e216 (g := (own_g pre217)) rfl (hb hby at_256) rfl (by decide) (cap := 0) (by decide) (by decide) (by decide) (by decide)
    obtain ⟨b218, g218⟩ := own_ex h216.size
    rw [← g218] at A218 st218
    have g_b218 : n0 ≤ b218 := Nat.le_trans z216 (Nat.le_of_eq g218.symm)
    have sz_b218 : h0.size ≤ b218 := Nat.le_trans K216.1 (Nat.le_of_eq g218.symm)
    have sf218_b186 := Safe.ext E218 HC216 sf216_b186
    have sf218_b216 := Safe.ext E218 HC216 sf216_b216
    have sf218_b218 := Safe.ext E218 HC216 (Safe.new (Nat.le_of_eq g218.symm))
    have RC218 := CHr.trans RC216 (CHr.ext E218 HC216)
    have HC218 := CHv.ext E218 HC216
    have hk218 := Nat.le_trans hk216 E218.1
    have K218 : Keep h0 h218 ([] : List Addr) := K216.ext E218
    have z218 : n0 ≤ h218.size := Nat.le_trans Z0 K218.1
    have V_b218 : Arv Z h218 b218 k218 (.object "java/lang/String") (0 : Int32) [] .null := (Arv.new A218 (by decide)).pad (pad_rep [] .null 0)
    have X218 : Stand p l e _ _ m _ bw meth c T218 _ 15 35 := X218
    have pre219 : oP p e bw G T218 m 263 #[vJ xt, .second, vI xp, vI xq, vI xs, vR b2, vI jf, vI jv, vI jg, vI jh, vI 1, vI 0, vR b32, vR w1, vR b59, vR b186, vR b216, vR b218, vU, vU, vU] [(.ref b186)] := by
     intro t k
     refine pre217 t (st218 t ?_)
     refine XS.astore X218.here hx rfl (hb hby at_259) rfl rfl (l' := #[vJ xt, .second, vI xp, vI xq, vI xs, vR b2, vI jf, vI jv, vI jg, vI jh, vI 1, vI 0, vR b32, vR w1, vR b59, vR b186, vR b216, vR b218, vU, vU, vU]) rfl ?_
     refine XS.aload X218.here hx rfl (hb hby at_261) rfl rfl ?_
     exact k
    have f220 := (((((own_sta_keep f73 kp74 f69).ext E186).wr W190).ext E216).ext E218)
    have f221 := (SI.ext (own_keep_ext K218))
    have f222 := (SU.ext (own_keep_ext K218))
    have f223 := (SR.ext (own_keep_ext K218))
    have f224 := (VR.ext (own_keep_ext K218))
    have f225 := ((V190.ext E216).ext E218)
    have f226 := ((f191.ext E216).ext E218)
    have f227 := ((f195.ext E216).ext E218)
    have f228 := ((f196.ext E216).ext E218)
    have f229 := ((f200.ext E216).ext E218)
    have f230 := ((f201.ext E216).ext E218)
    obtain ⟨_, T231, Lc231, X231, hQ231, pc231⟩ := own_call X218 hx hZ hown (W 47 rfl) (W 48 rfl) (W 49 rfl) (W 50 rfl) (by decide) (rm_hd1 l Z a0 hw [] _ xcs wu wc kc xr0 xr1 _ b32 _ _ lw0 h218 n0 z218 f220 (hcs) f221 f222 f223 f224 f225 f226 f227 f228 f229 f230 (hl_lw0) (hbs_lw0)) e218 pre219 hml rfl (hb hby at_263) (lenOf pd34 rfl) rfl (W := 0) rfl (by decide)
    obtain ⟨re_231, ke_231, b231, rfl, M231, g_b231, zs231, kp231, f231_0, f231_1, f231_2, f231_3, f231_4, f231_5⟩ := hQ231
    have sz_b231 : h0.size ≤ b231 := Nat.le_trans K218.1 zs231
    have hs231 : ∀ x ∈ ([] : List Addr), Safe Z own_EL vm40 h218 x := all0
    have RC231 := CHr.trans RC218 (CHr.keep kp231 hs231 HC218)
    have HC231 := CHv.keep kp231 hs231 HC218
    have hk231 := Nat.le_trans hk218 kp231.1
    have K231 : Keep h0 T231.heap ([] : List Addr) := K218.trans kp231 all0
    have zz231 : n0 ≤ T231.heap.size := Nat.le_trans Z0 K231.1
    have N231 := Fr.app N190 M231
    have X231 : Stand p l e _ _ m _ bw meth c T231 _ 20 99 := X231
    have pre232 : oP p e bw G T231 m 268 #[vJ xt, .second, vI xp, vI xq, vI xs, vR b2, vI jf, vI jv, vI jg, vI jh, vI 1, vI 0, vR b32, vR w1, vR b59, vR b186, vR b216, vR b218, vR b231, vU, vU] [] := by
     intro t k
     refine pc231 t ?_
     refine XS.astore X231.here hx rfl (hb hby at_266) rfl rfl (l' := #[vJ xt, .second, vI xp, vI xq, vI xs, vR b2, vI jf, vI jv, vI jg, vI jh, vI 1, vI 0, vR b32, vR w1, vR b59, vR b186, vR b216, vR b218, vR b231, vU, vU]) rfl ?_
     exact k
    have hle : (own_bulks [own_enc lw0]).length ≤ 40 := by have := own_bs1 (own_w99 hl_lw0); have := own_encL lw0; omega
    have hrs : (own_bulks []).length ≤ 18 := Nat.zero_le _
    have pre233 : oP p e bw G T231 m 272 #[vJ xt, .second, vI xp, vI xq, vI xs, vR b2, vI jf, vI jv, vI jg, vI jh, vI 1, vI 0, vR b32, vR w1, vR b59, vR b186, vR b216, vR b218, vR b231, vU, vU] [(.ref b216), (.ref b231)] := by
     intro t k
     refine pre232 t ?_
     refine XS.aload X231.here hx rfl (hb hby at_268) rfl rfl ?_
     refine XS.aload X231.here hx rfl (hb hby at_270) rfl rfl ?_
     exact k
    have f234 := (f220.ext (own_keep_ext kp231))
    have f235 := (f221.ext (own_keep_ext kp231))
    have f236 := (f222.ext (own_keep_ext kp231))
    have f237 := (f223.ext (own_keep_ext kp231))
    have f238 := (f224.keep kp231 nin0)
    have f239 := ((V_b216.ext E218).keep kp231 nin0)
    obtain ⟨cq240, kq240, q240a, q240b, q240c⟩ := isOf hZ rfl f231_0
    obtain ⟨_, _, ⟨T240, L240, k240, n240⟩, -, X240, ⟨Lc240, hQ240, l240, y240, z240⟩, st240⟩ := X231.virtualBack hx (y := oM0) (z := oM0) hown (mvT hZ (W 76 rfl)) (mvT hZ (W 77 rfl)) (notFace_of_selects (args := #[]) (mvT hZ (W 79 rfl))) (mvT hZ (W 79 rfl)) (mvT hZ (W 78 rfl)) (by decide) (backOf (W := 0) (rm_rqa0 l Z a0 hw [] _ _ xcs wu wc kc xr0 xr1 _ _ _ _ _ T231.heap n0 zz231 f234 (hcs) f235 f236 f237 f238 f231_0 (g_b231) f231_1 f231_2 f231_4 f231_5 f239 ((own_mkQ (by decide) hle hrs).1) ((own_mkQ (by decide) hle hrs).2) f231_3) hZ (W 80 rfl) (W 53 rfl) (by decide) (by decide)) q240a q240c (g := (own_g pre233)) rfl (by rw [hml]; rfl) (Steps.refl _) (argsL := [(.ref b216)]) (rest := []) (lenOf pd20 rfl) rfl (by show 2 * 0 + _ ≤ _; exact Nat.le_of_eq rfl) (hb hby at_272) (fun _ _ => ⟨rfl, rfl, (by decide : 20 + 3 ≤ _), (by decide : 99 + 66 ≤ _)⟩)
    dsimp only [Pt.U, Pt.locs, Pt.cells, Pt.slots] at X240 l240 y240 z240 st240 hQ240
    subst y240 z240
    obtain ⟨rt_240, kb_240, b240, rfl, M240, g_b240, zs240, kp240, f240_0, f240_1, f240_2, f240_3, f240_4, f240_5, f240_6, f240_7, f240_8⟩ := hQ240
    have sz_b240 : h0.size ≤ b240 := Nat.le_trans K231.1 zs240
    have hs240 : ∀ x ∈ [b231], Safe Z own_EL vm40 T231.heap x := (allS (Safe.exa (EL := own_EL) hZ.alike f231_0 (by decide) (by decide)) all0)
    have RC240 := CHr.trans RC231 (CHr.keep kp240 hs240 HC231)
    have HC240 := CHv.keep kp240 hs240 HC231
    have hk240 := Nat.le_trans hk231 kp240.1
    have K240 : Keep h0 T240.heap ([] : List Addr) := K231.trans kp240 (allS (P := fun x => x ∈ ([] : List Addr) ∨ h0.size ≤ x) (Or.inr sz_b231) all0)
    have zz240 : n0 ≤ T240.heap.size := Nat.le_trans Z0 K240.1
    have N240 : Fr n0 L240 := by rw [l240]; exact Fr.app N231 M240
    clear l240
    have X240 : Stand p l e _ _ m _ bw meth c T240 _ 23 165 := X240
    have pre241 : oP p e bw G T240 m 281 #[vJ xt, .second, vI xp, vI xq, vI xs, vR b2, vI jf, vI jv, vI jg, vI jh, vI 1, vI 0, vR b32, vR w1, vR b59, vR b186, vR b216, vR b218, vR b231, vR b240, vU] [(.ref b218), (.ref b231)] := by
     intro t k
     refine pre233 t (st240.trans ?_)
     refine XS.astore X240.here hx rfl (hb hby at_275) rfl rfl (l' := #[vJ xt, .second, vI xp, vI xq, vI xs, vR b2, vI jf, vI jv, vI jg, vI jh, vI 1, vI 0, vR b32, vR w1, vR b59, vR b186, vR b216, vR b218, vR b231, vR b240, vU]) rfl ?_
     refine XS.aload X240.here hx rfl (hb hby at_277) rfl rfl ?_
     refine XS.aload X240.here hx rfl (hb hby at_279) rfl rfl ?_
     exact k
    have ne242 := (Nat.ne_of_lt (Nat.lt_of_lt_of_le (V_b216.ext E218).lt zs231))
    have f243 := (f239.keep kp240 (ninS ne242 nin0))
    have ne244 := (Nat.ne_of_lt (Nat.lt_of_lt_of_le V_b218.lt zs231))
    have f245 := ((V_b218.keep kp231 nin0).keep kp240 (ninS ne244 nin0))
    have ne246 := (Nat.ne_of_lt (Nat.lt_of_lt_of_le V_b216.lt (Nat.le_of_eq g218.symm)))
    obtain ⟨cq247, kq247, q247a, q247b, q247c⟩ := isOf hZ rfl f240_1
    obtain ⟨_, _, ⟨T247, L247, k247, n247⟩, -, X247, ⟨Lc247, hQ247, l247, y247, z247⟩, st247⟩ := X240.virtualBack hx (y := oM0) (z := oM0) hown (mvT hZ (W 76 rfl)) (mvT hZ (W 77 rfl)) (notFace_of_selects (args := #[]) (mvT hZ (W 79 rfl))) (mvT hZ (W 79 rfl)) (mvT hZ (W 78 rfl)) (by decide) (backOf (W := 0) (rm_rqc l Z a0 hw [] _ _ _ _ _ _ _ T240.heap n0 zz240 f240_4 f240_7 f240_8 f243 f245 (ne246)) hZ (W 80 rfl) (W 53 rfl) (by decide) (by decide)) q247a q247c (g := (own_g pre241)) rfl (by rw [hml]; rfl) (Steps.refl _) (argsL := [(.ref b218)]) (rest := []) (lenOf pd20 rfl) rfl (by show 2 * 0 + _ ≤ _; exact Nat.le_of_eq rfl) (hb hby at_281) (fun _ _ => ⟨rfl, rfl, (by decide : 23 + 0 ≤ _), (by decide : 165 + 0 ≤ _)⟩)
    dsimp only [Pt.U, Pt.locs, Pt.cells, Pt.slots] at X247 l247 y247 z247 st247 hQ247
    subst y247 z247
    obtain ⟨rfl, M247, e247⟩ := hQ247
    have N247 : Fr n0 L247 := by rw [l247]; exact Fr.app N240 M247
    clear l247
    have X247 : Stand p l e _ _ m _ bw meth c T247 _ 23 165 := X247
    have pre248 : oP p e bw G T247 m 314 #[vJ xt, .second, vI xp, vI xq, vI xs, vR b2, vI jf, vI jv, vI jg, vI jh, vI 1, vI 0, vR b32, vR w1, vR b59, vR b186, vR b216, vR b218, vR b231, vR b240, vR b240] [(.int jh), (.int jg), (.int jf), (.int jv), (.ref b2), (.int 0), (.int 1), (.ref b240)] := by
     intro t k
     refine pre241 t (st247.trans ?_)
     refine XS.astore X247.here hx rfl (hb hby at_284) rfl rfl (l' := #[vJ xt, .second, vI xp, vI xq, vI xs, vR b2, vI jf, vI jv, vI jg, vI jh, vI 1, vI 0, vR b32, vR w1, vR b59, vR b186, vR b216, vR b218, vR b231, vR b240, vR b240]) rfl ?_
     refine XS.aload X247.here hx rfl (hb hby at_286) rfl rfl ?_
     refine XS.ifnullNo X247.here hx rfl (hb hby at_288) rfl ?_
     refine XS.aload X247.here hx rfl (hb hby at_291) rfl rfl ?_
     refine XS.ifnonnullYes X247.here hx rfl (pc0 := 293) (pc' := 298) rfl (hb hby at_293) rfl (by decide) (by decide) ?_
     refine XS.aload X247.here hx rfl (hb hby at_298) rfl rfl ?_
     refine XS.iload X247.here hx rfl (hb hby at_300) rfl ?_
     refine XS.iload X247.here hx rfl (hb hby at_302) rfl ?_
     refine XS.aload X247.here hx rfl (hb hby at_304) rfl rfl ?_
     refine XS.iload X247.here hx rfl (hb hby at_306) rfl ?_
     refine XS.iload X247.here hx rfl (hb hby at_308) rfl ?_
     refine XS.iload X247.here hx rfl (hb hby at_310) rfl ?_
     refine XS.iload X247.here hx rfl (hb hby at_312) rfl ?_
     exact k
    have ne249 := (Nat.ne_of_lt (Nat.lt_of_lt_of_le ((f205.ext E216).ext E218).lt zs231))
    have f250 := ((((f205.ext E216).ext E218).keep kp231 nin0).keep kp240 (ninS ne249 nin0))
    obtain ⟨_, T251, Lc251, X251, hQ251, pc251⟩ := own_call X247 hx hZ hown (W 118 rfl) (W 119 rfl) (W 120 rfl) (W 121 rfl) (by decide) (rm_ck100 l Z a0 hw [] _ b2 jv jf jg jh _ _ _ k2 _ _ _ _ _ T240.heap n0 zz240 f240_0 (⟨by rw [el0]; exact own_ck10 _ _, (own_mkQ (by decide) hle hrs).1.hb, rfl, rfl⟩) f250 (own_okn rja) (own_okn rjb) (own_okn rjc) (own_okn rjd) (own_okn rje)) e247 pre248 hml rfl (hb hby at_314) (lenOf pd35 rfl) rfl (W := 0) rfl (by decide)
    obtain ⟨rfl, M251, e251⟩ := hQ251
    have N251 := Fr.app N247 M251
    have X251 : Stand p l e _ _ m _ bw meth c T251 _ 23 165 := X251
    have pre252 : oP p e bw G T251 m 335 #[vJ xt, .second, vI xp, vI xq, vI xs, vR b2, vI jf, vI jv, vI jg, vI jh, vI 1, vI 0, vR b32, vR w1, vR b59, vR b186, vR b216, vR b218, vR b231, vR b240, vR b240] [(.int jh), (.int jg), (.int jf), (.int jv), (.ref b2), (.int 0), (.int 1), (.ref b240)] := by
     intro t k
     refine pc251 t ?_
     refine XS.ifNo X251.here hx rfl (hb hby at_317) rfl ((if0 _ _).trans (feq (show ¬ ((1 : Int32) = (0 : Int32)) from by decide)).1) ?_
     refine XS.aload X251.here hx rfl (hb hby at_320) rfl rfl ?_
     refine XS.iload X251.here hx rfl (hb hby at_322) rfl ?_
     refine XS.iconst X251.here hx rfl (hb hby at_324) ?_
     refine XS.aload X251.here hx rfl (hb hby at_325) rfl rfl ?_
     refine XS.iload X251.here hx rfl (hb hby at_327) rfl ?_
     refine XS.iload X251.here hx rfl (hb hby at_329) rfl ?_
     refine XS.iload X251.here hx rfl (hb hby at_331) rfl ?_
     refine XS.iload X251.here hx rfl (hb hby at_333) rfl ?_
     exact k
    obtain ⟨_, T253, Lc253, X253, hQ253, pc253⟩ := own_call X251 hx hZ hown (W 118 rfl) (W 119 rfl) (W 120 rfl) (W 121 rfl) (by decide) (rm_ck100 l Z a0 hw [] _ b2 jv jf jg jh _ _ _ k2 _ _ _ _ _ T240.heap n0 zz240 f240_0 (⟨by rw [el0]; exact own_ck10 _ _, (own_mkQ (by decide) hle (by decide)).1.hb, rfl, rfl⟩) f250 (own_okn rja) (own_okn rjb) (own_okn rjc) (own_okn rjd) (own_okn rje)) e251 pre252 hml rfl (hb hby at_335) (lenOf pd35 rfl) rfl (W := 0) rfl (by decide)
    obtain ⟨rfl, M253, e253⟩ := hQ253
    have N253 := Fr.app N251 M253
    have X253 : Stand p l e _ _ m _ bw meth c T253 _ 23 165 := X253
    have pre254 : oP p e bw G T253 m 346 #[vJ xt, .second, vI xp, vI xq, vI xs, vR b2, vI jf, vI jv, vI jg, vI jh, vI 1, vI 0, vR b32, vR w1, vR b59, vR b186, vR b216, vR b218, vR b231, vR b240, vR b240] [(.int 1)] := by
     intro t k
     refine pc253 t ?_
     refine XS.ifNo X253.here hx rfl (hb hby at_338) rfl ((if0 _ _).trans (feq (show ¬ ((1 : Int32) = (0 : Int32)) from by decide)).1) ?_
     refine XS.iconst X253.here hx rfl (hb hby at_341) ?_
     refine XS.goto X253.here hx rfl (pc0 := 342) (pc' := 346) rfl (hb hby at_342) (by decide) (by decide) ?_
     exact k
    obtain ⟨fs, hr, hrun, hended, hRW⟩ := X253.leaveW hS40 (Nat.le_trans hk240 (Nat.le_of_eq (congrArg Array.size (show _ = T240.heap from e253)).symm)) (v := some (.int 1)) (fun h => by rw [Bd.returns] at h; cases h)
    subst hG
    have RE := CHr.trans RC240 (CHv.at X253 hZ hEL HC240)
    refine ⟨_, _, pre254 _ ?_, hrun, hended, _, _, rfl, ?_, (by rw [hh]; show CHr Z own_EL s.vm h0 T253.vm T253.heap; rw [show T253.heap = T240.heap from e253]; exact RE), hRW.1, hRW.2.1, hRW.2.2.1, hRW.2.2.2.mono (by decide) (by decide)⟩
    ·exact retN X253 hx (t := .boolean) Bd.returns (by simp) (hb hby at_346) hr
    ·show Q_rm0 Z xt xp xq xs xcs wu wc kc xr0 xr1 h0 n0 _ T253.heap _
     rw [e253]
     exact ⟨rfl, N253⟩
   ·have pre255 : oP p e bw G T190 m 244 #[vJ xt, .second, vI xp, vI xq, vI xs, vR b2, vI jf, vI jv, vI jg, vI jh, vI 1, vI jm, vR b32, vR w1, vR b59, vR b186, vU, vU, vU, vU, vU] [] := by
     intro t k
     refine pre213 t ?_
     refine XS.ifYes X190.here hx rfl (pc0 := 234) (pc' := 244) rfl (hb hby at_234) rfl ((if0 _ _).trans (feq hc234).2) (by decide) (by decide) ?_
     exact k
    rw [show jm = (1 : Int32) from own_or rjm hc234] at pre255
    have pre256 : oP p e bw G T190 m 245 #[vJ xt, .second, vI xp, vI xq, vI xs, vR b2, vI jf, vI jv, vI jg, vI jh, vI 1, vI 1, vR b32, vR w1, vR b59, vR b186, vU, vU, vU, vU, vU] [(.int 1)] := by
     intro t k
     refine pre255 t ?_
     refine XS.iconst X190.here hx rfl (hb hby at_244) ?_
     exact k
    obtain ⟨T257, h257, k257, X257, e257, E257, A257, O257, st257⟩ := newR X190 hx hZ hown (W 3 rfl) (W 46 rfl) e190 (g := (own_g pre256)) rfl (hb hby at_245) rfl (by decide) (cap := 1) (by decide) (by decide) (by decide) (by decide)
    obtain ⟨b257, g257⟩ := own_ex h190.size
    rw [← g257] at A257 st257
    have g_b257 : n0 ≤ b257 := Nat.le_trans z190 (Nat.le_of_eq g257.symm)
    have sz_b257 : h0.size ≤ b257 := Nat.le_trans K190.1 (Nat.le_of_eq g257.symm)
    have sf257_b186 := Safe.ext E257 HC190 sf190_b186
    have sf257_b257 := Safe.ext E257 HC190 (Safe.new (Nat.le_of_eq g257.symm))
    have RC257 := CHr.trans RC190 (CHr.ext E257 HC190)
    have HC257 := CHv.ext E257 HC190
    have hk257 := Nat.le_trans hk190 E257.1
    have K257 : Keep h0 h257 ([] : List Addr) := K190.ext E257
    have z257 : n0 ≤ h257.size := Nat.le_trans Z0 K257.1
    have V_b257 : Arv Z h257 b257 k257 (.object "java/lang/String") (1 : Int32) [.null] .null := (Arv.new A257 (by decide)).pad (pad_rep [] .null 1)
    have X257 : Stand p l e _ _ m _ bw meth c T257 _ 14 36 := X257
    have pre258 : oP p e bw G T257 m 252 #[vJ xt, .second, vI xp, vI xq, vI xs, vR b2, vI jf, vI jv, vI jg, vI jh, vI 1, vI 1, vR b32, vR w1, vR b59, vR b186, vU, vU, vU, vU, vU] [(.ref b59), (.int 0), (.ref b257), (.ref b257)] := by
     intro t k
     refine pre256 t (st257 t ?_)
     refine XS.dup X257.here hx rfl (hb hby at_248) rfl rfl ?_
     refine XS.iconst X257.here hx rfl (hb hby at_249) ?_
     refine XS.aload X257.here hx rfl (hb hby at_250) rfl rfl ?_
     exact k
    obtain ⟨c259, a259, q259, s259, m259, i259, u259⟩ := id V_b257
    have f260 := (f206.ext E257)
    obtain ⟨T261, h261, X261, e261, W261, st261⟩ := stR X257 hx hZ e257 a259 (j := (0 : Int32)) (inb_of s259 ⟨by decide, by decide⟩) rfl (Sto.ofV a259 q259 O257 (Ins.self f260)) (g := (own_g pre258)) rfl rfl (hb hby at_252)
    have so261 := sf257_b257
    have sf261_b186 := Safe.wr W261 so261 HC257 sf257_b186
    have sf261_b257 := Safe.wr W261 so261 HC257 sf257_b257
    have RC261 := CHr.trans RC257 (CHr.wr W261 so261 HC257)
    have HC261 := CHv.wr W261 so261 HC257
    have hk261 := Nat.le_trans hk257 (Keep.of_wr W261).1
    have K261 : Keep h0 h261 ([] : List Addr) := K257.wr W261 (Or.inr sz_b257)
    have z261 : n0 ≤ h261.size := Nat.le_trans Z0 K261.1
    have N261 := Fr.snoc X261 N190 g_b257
    have V261 : Arv Z h261 b257 k257 (.object "java/lang/String") (1 : Int32) [(.ref b59)] .null := Arv.set a259 q259 s259 m259 i259 u259 rfl W261 0 rfl (Nat.le_of_ble_eq_true rfl)
    have pre262 : oP p e bw G T261 m 256 #[vJ xt, .second, vI xp, vI xq, vI xs, vR b2, vI jf, vI jv, vI jg, vI jh, vI 1, vI 1, vR b32, vR w1, vR b59, vR b186, vR b257, vU, vU, vU, vU] [(.int 0)] := by
     intro t k
     refine pre258 t (st261 t ?_)
     refine XS.astore X261.here hx rfl (hb hby at_253) rfl rfl (l' := #[vJ xt, .second, vI xp, vI xq, vI xs, vR b2, vI jf, vI jv, vI jg, vI jh, vI 1, vI 1, vR b32, vR w1, vR b59, vR b186, vR b257, vU, vU, vU, vU]) rfl ?_
     refine XS.iconst X261.here hx rfl (hb hby at_255) ?_
     exact k
    obtain ⟨T263, h263, k263, X263, e263, E263, A263, O263, st263⟩ := newR X261 hx hZ hown (W 3 rfl) (W 46 rfl) e261 (g := (own_g pre262)) rfl (hb hby at_256) rfl (by decide) (cap := 0) (by decide) (by decide) (by decide) (by decide)
    obtain ⟨b263, g263⟩ := own_ex h261.size
    rw [← g263] at A263 st263
    have g_b263 : n0 ≤ b263 := Nat.le_trans z261 (Nat.le_of_eq g263.symm)
    have sz_b263 : h0.size ≤ b263 := Nat.le_trans K261.1 (Nat.le_of_eq g263.symm)
    have sf263_b186 := Safe.ext E263 HC261 sf261_b186
    have sf263_b257 := Safe.ext E263 HC261 sf261_b257
    have sf263_b263 := Safe.ext E263 HC261 (Safe.new (Nat.le_of_eq g263.symm))
    have RC263 := CHr.trans RC261 (CHr.ext E263 HC261)
    have HC263 := CHv.ext E263 HC261
    have hk263 := Nat.le_trans hk261 E263.1
    have K263 : Keep h0 h263 ([] : List Addr) := K261.ext E263
    have z263 : n0 ≤ h263.size := Nat.le_trans Z0 K263.1
    have V_b263 : Arv Z h263 b263 k263 (.object "java/lang/String") (0 : Int32) [] .null := (Arv.new A263 (by decide)).pad (pad_rep [] .null 0)
    have X263 : Stand p l e _ _ m _ bw meth c T263 _ 15 36 := X263
    have pre264 : oP p e bw G T263 m 263 #[vJ xt, .second, vI xp, vI xq, vI xs, vR b2, vI jf, vI jv, vI jg, vI jh, vI 1, vI 1, vR b32, vR w1, vR b59, vR b186, vR b257, vR b263, vU, vU, vU] [(.ref b186)] := by
     intro t k
     refine pre262 t (st263 t ?_)
     refine XS.astore X263.here hx rfl (hb hby at_259) rfl rfl (l' := #[vJ xt, .second, vI xp, vI xq, vI xs, vR b2, vI jf, vI jv, vI jg, vI jh, vI 1, vI 1, vR b32, vR w1, vR b59, vR b186, vR b257, vR b263, vU, vU, vU]) rfl ?_
     refine XS.aload X263.here hx rfl (hb hby at_261) rfl rfl ?_
     exact k
    have f265 := ((((((own_sta_keep f73 kp74 f69).ext E186).wr W190).ext E257).wr W261).ext E263)
    have f266 := (SI.ext (own_keep_ext K263))
    have f267 := (SU.ext (own_keep_ext K263))
    have f268 := (SR.ext (own_keep_ext K263))
    have f269 := (VR.ext (own_keep_ext K263))
    have ne270 := (Nat.ne_of_lt (Nat.lt_of_lt_of_le V190.lt (Nat.le_of_eq g257.symm)))
    have f271 := (((V190.ext E257).other W261 ne270).ext E263)
    have f272 := (((f191.ext E257).wr W261).ext E263)
    have ne273 := (Nat.ne_of_lt (Nat.lt_of_lt_of_le f191.lt (Nat.le_of_eq g257.symm)))
    have f274 := (((f195.ext E257).other W261 (Or.inl ne273)).ext E263)
    have f275 := (((f196.ext E257).other W261 (Or.inl ne273)).ext E263)
    have ne276 := (Nat.ne_of_lt (Nat.lt_of_lt_of_le f200.lt (Nat.le_of_eq g257.symm)))
    have f277 := (((f200.ext E257).other W261 ne276).ext E263)
    have f278 := (((f201.ext E257).wr W261).ext E263)
    obtain ⟨_, T279, Lc279, X279, hQ279, pc279⟩ := own_call X263 hx hZ hown (W 47 rfl) (W 48 rfl) (W 49 rfl) (W 50 rfl) (by decide) (rm_hd1 l Z a0 hw [] _ xcs wu wc kc xr0 xr1 _ b32 _ _ lw0 h263 n0 z263 f265 (hcs) f266 f267 f268 f269 f271 f272 f274 f275 f277 f278 (hl_lw0) (hbs_lw0)) e263 pre264 hml rfl (hb hby at_263) (lenOf pd34 rfl) rfl (W := 0) rfl (by decide)
    obtain ⟨re_279, ke_279, b279, rfl, M279, g_b279, zs279, kp279, f279_0, f279_1, f279_2, f279_3, f279_4, f279_5⟩ := hQ279
    have sz_b279 : h0.size ≤ b279 := Nat.le_trans K263.1 zs279
    have hs279 : ∀ x ∈ ([] : List Addr), Safe Z own_EL vm40 h263 x := all0
    have RC279 := CHr.trans RC263 (CHr.keep kp279 hs279 HC263)
    have HC279 := CHv.keep kp279 hs279 HC263
    have hk279 := Nat.le_trans hk263 kp279.1
    have K279 : Keep h0 T279.heap ([] : List Addr) := K263.trans kp279 all0
    have zz279 : n0 ≤ T279.heap.size := Nat.le_trans Z0 K279.1
    have N279 := Fr.app N261 M279
    have X279 : Stand p l e _ _ m _ bw meth c T279 _ 20 100 := X279
    have pre280 : oP p e bw G T279 m 268 #[vJ xt, .second, vI xp, vI xq, vI xs, vR b2, vI jf, vI jv, vI jg, vI jh, vI 1, vI 1, vR b32, vR w1, vR b59, vR b186, vR b257, vR b263, vR b279, vU, vU] [] := by
     intro t k
     refine pc279 t ?_
     refine XS.astore X279.here hx rfl (hb hby at_266) rfl rfl (l' := #[vJ xt, .second, vI xp, vI xq, vI xs, vR b2, vI jf, vI jv, vI jg, vI jh, vI 1, vI 1, vR b32, vR w1, vR b59, vR b186, vR b257, vR b263, vR b279, vU, vU]) rfl ?_
     exact k
    have hle : (own_bulks [own_enc lw0]).length ≤ 40 := by have := own_bs1 (own_w99 hl_lw0); have := own_encL lw0; omega
    have hrs : (own_bulks [own_enc lw2]).length ≤ 18 := by have := own_bs1 (own_w99 hl_lw2); have := own_encL lw2; omega
    have pre281 : oP p e bw G T279 m 272 #[vJ xt, .second, vI xp, vI xq, vI xs, vR b2, vI jf, vI jv, vI jg, vI jh, vI 1, vI 1, vR b32, vR w1, vR b59, vR b186, vR b257, vR b263, vR b279, vU, vU] [(.ref b257), (.ref b279)] := by
     intro t k
     refine pre280 t ?_
     refine XS.aload X279.here hx rfl (hb hby at_268) rfl rfl ?_
     refine XS.aload X279.here hx rfl (hb hby at_270) rfl rfl ?_
     exact k
    have f282 := (f265.ext (own_keep_ext kp279))
    have f283 := (f266.ext (own_keep_ext kp279))
    have f284 := (f267.ext (own_keep_ext kp279))
    have f285 := (f268.ext (own_keep_ext kp279))
    have f286 := (f269.keep kp279 nin0)
    have f287 := ((V261.ext E263).keep kp279 nin0)
    have f288 := (((f260.wr W261).ext E263).keep kp279)
    have ne289 := (Nat.ne_of_lt (Nat.lt_of_lt_of_le f206.lt (Nat.le_of_eq g257.symm)))
    have f290 := ((((f209.ext E257).other W261 (Or.inl ne289)).ext E263).keep kp279 nin0)
    have f291 := ((((f208.ext E257).other W261 (Or.inl ne289)).ext E263).keep kp279 nin0)
    have ne292 := (Nat.ne_of_lt (Nat.lt_of_lt_of_le f211.lt (Nat.le_of_eq g257.symm)))
    have f293 := ((((f211.ext E257).other W261 ne292).ext E263).keep kp279 nin0)
    have f294 := ((((f212.ext E257).wr W261).ext E263).keep kp279)
    obtain ⟨cq295, kq295, q295a, q295b, q295c⟩ := isOf hZ rfl f279_0
    obtain ⟨_, _, ⟨T295, L295, k295, n295⟩, -, X295, ⟨Lc295, hQ295, l295, y295, z295⟩, st295⟩ := X279.virtualBack hx (y := oM0) (z := oM0) hown (mvT hZ (W 76 rfl)) (mvT hZ (W 77 rfl)) (notFace_of_selects (args := #[]) (mvT hZ (W 79 rfl))) (mvT hZ (W 79 rfl)) (mvT hZ (W 78 rfl)) (by decide) (backOf (W := 0) (rm_rqa1 l Z a0 hw [] _ _ xcs wu wc kc xr0 xr1 _ _ _ _ _ b59 _ _ lw2 T279.heap n0 zz279 f282 (hcs) f283 f284 f285 f286 f279_0 (g_b279) f279_1 f279_2 f279_4 f279_5 f287 f288 f290 f291 f293 f294 (hl_lw2) (hbs_lw2) ((own_mkQ (by decide) hle hrs).1) ((own_mkQ (by decide) hle hrs).2) f279_3) hZ (W 80 rfl) (W 53 rfl) (by decide) (by decide)) q295a q295c (g := (own_g pre281)) rfl (by rw [hml]; rfl) (Steps.refl _) (argsL := [(.ref b257)]) (rest := []) (lenOf pd20 rfl) rfl (by show 2 * 0 + _ ≤ _; exact Nat.le_of_eq rfl) (hb hby at_272) (fun _ _ => ⟨rfl, rfl, (by decide : 20 + 5 ≤ _), (by decide : 100 + 87 ≤ _)⟩)
    dsimp only [Pt.U, Pt.locs, Pt.cells, Pt.slots] at X295 l295 y295 z295 st295 hQ295
    subst y295 z295
    obtain ⟨rt_295, kb_295, b295, rfl, M295, g_b295, zs295, kp295, f295_0, f295_1, f295_2, f295_3, f295_4, f295_5, f295_6, f295_7, f295_8⟩ := hQ295
    have sz_b295 : h0.size ≤ b295 := Nat.le_trans K279.1 zs295
    have hs295 : ∀ x ∈ [b279], Safe Z own_EL vm40 T279.heap x := (allS (Safe.exa (EL := own_EL) hZ.alike f279_0 (by decide) (by decide)) all0)
    have RC295 := CHr.trans RC279 (CHr.keep kp295 hs295 HC279)
    have HC295 := CHv.keep kp295 hs295 HC279
    have hk295 := Nat.le_trans hk279 kp295.1
    have K295 : Keep h0 T295.heap ([] : List Addr) := K279.trans kp295 (allS (P := fun x => x ∈ ([] : List Addr) ∨ h0.size ≤ x) (Or.inr sz_b279) all0)
    have zz295 : n0 ≤ T295.heap.size := Nat.le_trans Z0 K295.1
    have N295 : Fr n0 L295 := by rw [l295]; exact Fr.app N279 M295
    clear l295
    have X295 : Stand p l e _ _ m _ bw meth c T295 _ 25 187 := X295
    have pre296 : oP p e bw G T295 m 281 #[vJ xt, .second, vI xp, vI xq, vI xs, vR b2, vI jf, vI jv, vI jg, vI jh, vI 1, vI 1, vR b32, vR w1, vR b59, vR b186, vR b257, vR b263, vR b279, vR b295, vU] [(.ref b263), (.ref b279)] := by
     intro t k
     refine pre281 t (st295.trans ?_)
     refine XS.astore X295.here hx rfl (hb hby at_275) rfl rfl (l' := #[vJ xt, .second, vI xp, vI xq, vI xs, vR b2, vI jf, vI jv, vI jg, vI jh, vI 1, vI 1, vR b32, vR w1, vR b59, vR b186, vR b257, vR b263, vR b279, vR b295, vU]) rfl ?_
     refine XS.aload X295.here hx rfl (hb hby at_277) rfl rfl ?_
     refine XS.aload X295.here hx rfl (hb hby at_279) rfl rfl ?_
     exact k
    have f297 := (own_sta_keep f282 kp295 f279_0)
    have f298 := (own_sta_keep f283 kp295 f279_0)
    have f299 := (own_sta_keep f284 kp295 f279_0)
    have f300 := (own_sta_keep f285 kp295 f279_0)
    have ne301 := (Nat.ne_of_lt (Nat.lt_of_lt_of_le f269.lt zs279))
    have f302 := (f286.keep kp295 (ninS ne301 nin0))
    have f303 := (f279_5.keep kp295)
    have ne304 := (Nat.ne_of_lt (Nat.lt_of_lt_of_le V_b263.lt zs279))
    have f305 := ((V_b263.keep kp279 nin0).keep kp295 (ninS ne304 nin0))
    have ne306 := (Nat.ne_of_lt (Nat.lt_of_lt_of_le (V261.ext E263).lt zs279))
    have f307 := (f287.keep kp295 (ninS ne306 nin0))
    have ne308 := (Nat.ne_of_lt (Nat.lt_of_lt_of_le V261.lt (Nat.le_of_eq g263.symm)))
    obtain ⟨cq309, kq309, q309a, q309b, q309c⟩ := isOf hZ rfl f295_1
    obtain ⟨_, _, ⟨T309, L309, k309, n309⟩, -, X309, ⟨Lc309, hQ309, l309, y309, z309⟩, st309⟩ := X295.virtualBack hx (y := oM0) (z := oM0) hown (mvT hZ (W 76 rfl)) (mvT hZ (W 77 rfl)) (notFace_of_selects (args := #[]) (mvT hZ (W 79 rfl))) (mvT hZ (W 79 rfl)) (mvT hZ (W 78 rfl)) (by decide) (backOf (W := 0) (rm_rqb0 l Z a0 hw [] _ _ xcs wu wc kc xr0 xr1 _ _ _ _ _ _ _ _ b59 T295.heap n0 zz295 f297 (hcs) f298 f299 f300 f302 f295_1 (g_b279) f295_2 f295_3 f295_5 f303 f305 ((own_mkQ (by decide) hle (by decide)).1) ((own_mkQ (by decide) hle (by decide)).2) f295_4 f295_7 f307 (ne308)) hZ (W 80 rfl) (W 53 rfl) (by decide) (by decide)) q309a q309c (g := (own_g pre296)) rfl (by rw [hml]; rfl) (Steps.refl _) (argsL := [(.ref b263)]) (rest := []) (lenOf pd20 rfl) rfl (by show 2 * 0 + _ ≤ _; exact Nat.le_of_eq rfl) (hb hby at_281) (fun _ _ => ⟨rfl, rfl, (by decide : 25 + 3 ≤ _), (by decide : 187 + 66 ≤ _)⟩)
    dsimp only [Pt.U, Pt.locs, Pt.cells, Pt.slots] at X309 l309 y309 z309 st309 hQ309
    subst y309 z309
    obtain ⟨kb_309, b309, rfl, M309, g_b309, zs309, kp309, f309_0⟩ := hQ309
    have sz_b309 : h0.size ≤ b309 := Nat.le_trans K295.1 zs309
    have hs309 : ∀ x ∈ [b279], Safe Z own_EL vm40 T295.heap x := (allS (Safe.exa (EL := own_EL) hZ.alike f295_1 (by decide) (by decide)) all0)
    have RC309 := CHr.trans RC295 (CHr.keep kp309 hs309 HC295)
    have HC309 := CHv.keep kp309 hs309 HC295
    have hk309 := Nat.le_trans hk295 kp309.1
    have K309 : Keep h0 T309.heap ([] : List Addr) := K295.trans kp309 (allS (P := fun x => x ∈ ([] : List Addr) ∨ h0.size ≤ x) (Or.inr sz_b279) all0)
    have zz309 : n0 ≤ T309.heap.size := Nat.le_trans Z0 K309.1
    have N309 : Fr n0 L309 := by rw [l309]; exact Fr.app N295 M309
    clear l309
    have X309 : Stand p l e _ _ m _ bw meth c T309 _ 28 253 := X309
    have pre310 : oP p e bw G T309 m 314 #[vJ xt, .second, vI xp, vI xq, vI xs, vR b2, vI jf, vI jv, vI jg, vI jh, vI 1, vI 1, vR b32, vR w1, vR b59, vR b186, vR b257, vR b263, vR b279, vR b295, vR b309] [(.int jh), (.int jg), (.int jf), (.int jv), (.ref b2), (.int 1), (.int 1), (.ref b295)] := by
     intro t k
     refine pre296 t (st309.trans ?_)
     refine XS.astore X309.here hx rfl (hb hby at_284) rfl rfl (l' := #[vJ xt, .second, vI xp, vI xq, vI xs, vR b2, vI jf, vI jv, vI jg, vI jh, vI 1, vI 1, vR b32, vR w1, vR b59, vR b186, vR b257, vR b263, vR b279, vR b295, vR b309]) rfl ?_
     refine XS.aload X309.here hx rfl (hb hby at_286) rfl rfl ?_
     refine XS.ifnullNo X309.here hx rfl (hb hby at_288) rfl ?_
     refine XS.aload X309.here hx rfl (hb hby at_291) rfl rfl ?_
     refine XS.ifnonnullYes X309.here hx rfl (pc0 := 293) (pc' := 298) rfl (hb hby at_293) rfl (by decide) (by decide) ?_
     refine XS.aload X309.here hx rfl (hb hby at_298) rfl rfl ?_
     refine XS.iload X309.here hx rfl (hb hby at_300) rfl ?_
     refine XS.iload X309.here hx rfl (hb hby at_302) rfl ?_
     refine XS.aload X309.here hx rfl (hb hby at_304) rfl rfl ?_
     refine XS.iload X309.here hx rfl (hb hby at_306) rfl ?_
     refine XS.iload X309.here hx rfl (hb hby at_308) rfl ?_
     refine XS.iload X309.here hx rfl (hb hby at_310) rfl ?_
     refine XS.iload X309.here hx rfl (hb hby at_312) rfl ?_
     exact k
    have ne311 := (Ne.symm (Nat.ne_of_lt (Nat.lt_of_lt_of_le f279_0.lt zs295)))
    have f312 := (f295_0.keep kp309 (ninS ne311 nin0))
    have ne313 := (Nat.ne_of_lt (Nat.lt_of_lt_of_le f205.lt (Nat.le_of_eq g257.symm)))
    have ne314 := (Nat.ne_of_lt (Nat.lt_of_lt_of_le (((f205.ext E257).other W261 ne313).ext E263).lt zs279))
    have f315 := ((((((f205.ext E257).other W261 ne313).ext E263).keep kp279 nin0).keep kp295 (ninS ne314 nin0)).keep kp309 (ninS ne314 nin0))
    obtain ⟨_, T316, Lc316, X316, hQ316, pc316⟩ := own_call X309 hx hZ hown (W 118 rfl) (W 119 rfl) (W 120 rfl) (W 121 rfl) (by decide) (rm_ck110 l Z a0 hw [] _ b2 jv jf jg jh _ _ _ k2 _ _ _ _ _ T309.heap n0 zz309 f312 (⟨by rw [el0, el2]; exact own_ck11 _ _ _, (own_mkQ (by decide) hle hrs).1.hb, rfl, rfl⟩) f315 (own_okn rja) (own_okn rjb) (own_okn rjc) (own_okn rjd) (own_okn rje) (rjg) (rjh)) rfl pre310 hml rfl (hb hby at_314) (lenOf pd35 rfl) rfl (W := 0) rfl (by decide)
    obtain ⟨rfl, M316, e316⟩ := hQ316
    have N316 := Fr.app N309 M316
    have X316 : Stand p l e _ _ m _ bw meth c T316 _ 28 253 := X316
    have pre317 : oP p e bw G T316 m 335 #[vJ xt, .second, vI xp, vI xq, vI xs, vR b2, vI jf, vI jv, vI jg, vI jh, vI 1, vI 1, vR b32, vR w1, vR b59, vR b186, vR b257, vR b263, vR b279, vR b295, vR b309] [(.int jh), (.int jg), (.int jf), (.int jv), (.ref b2), (.int 0), (.int 1), (.ref b309)] := by
     intro t k
     refine pc316 t ?_
     refine XS.ifNo X316.here hx rfl (hb hby at_317) rfl ((if0 _ _).trans (feq (show ¬ ((1 : Int32) = (0 : Int32)) from by decide)).1) ?_
     refine XS.aload X316.here hx rfl (hb hby at_320) rfl rfl ?_
     refine XS.iload X316.here hx rfl (hb hby at_322) rfl ?_
     refine XS.iconst X316.here hx rfl (hb hby at_324) ?_
     refine XS.aload X316.here hx rfl (hb hby at_325) rfl rfl ?_
     refine XS.iload X316.here hx rfl (hb hby at_327) rfl ?_
     refine XS.iload X316.here hx rfl (hb hby at_329) rfl ?_
     refine XS.iload X316.here hx rfl (hb hby at_331) rfl ?_
     refine XS.iload X316.here hx rfl (hb hby at_333) rfl ?_
     exact k
    obtain ⟨_, T318, Lc318, X318, hQ318, pc318⟩ := own_call X316 hx hZ hown (W 118 rfl) (W 119 rfl) (W 120 rfl) (W 121 rfl) (by decide) (rm_ck100 l Z a0 hw [] _ b2 jv jf jg jh _ _ _ k2 _ _ _ _ _ T309.heap n0 zz309 f309_0 (⟨by rw [el0]; exact own_ck10 _ _, (own_mkQ (by decide) hle (by decide)).1.hb, rfl, rfl⟩) f315 (own_okn rja) (own_okn rjb) (own_okn rjc) (own_okn rjd) (own_okn rje)) e316 pre317 hml rfl (hb hby at_335) (lenOf pd35 rfl) rfl (W := 0) rfl (by decide)
    obtain ⟨rfl, M318, e318⟩ := hQ318
    have N318 := Fr.app N316 M318
    have X318 : Stand p l e _ _ m _ bw meth c T318 _ 28 253 := X318
    have pre319 : oP p e bw G T318 m 346 #[vJ xt, .second, vI xp, vI xq, vI xs, vR b2, vI jf, vI jv, vI jg, vI jh, vI 1, vI 1, vR b32, vR w1, vR b59, vR b186, vR b257, vR b263, vR b279, vR b295, vR b309] [(.int 1)] := by
     intro t k
     refine pc318 t ?_
     refine XS.ifNo X318.here hx rfl (hb hby at_338) rfl ((if0 _ _).trans (feq (show ¬ ((1 : Int32) = (0 : Int32)) from by decide)).1) ?_
     refine XS.iconst X318.here hx rfl (hb hby at_341) ?_
     refine XS.goto X318.here hx rfl (pc0 := 342) (pc' := 346) rfl (hb hby at_342) (by decide) (by decide) ?_
     exact k
    obtain ⟨fs, hr, hrun, hended, hRW⟩ := X318.leaveW hS40 (Nat.le_trans hk309 (Nat.le_of_eq (congrArg Array.size (show _ = T309.heap from e318)).symm)) (v := some (.int 1)) (fun h => by rw [Bd.returns] at h; cases h)
    subst hG
    have RE := CHr.trans RC309 (CHv.at X318 hZ hEL HC309)
    refine ⟨_, _, pre319 _ ?_, hrun, hended, _, _, rfl, ?_, (by rw [hh]; show CHr Z own_EL s.vm h0 T318.vm T318.heap; rw [show T318.heap = T309.heap from e318]; exact RE), hRW.1, hRW.2.1, hRW.2.2.1, hRW.2.2.2.mono (by decide) (by decide)⟩
    ·exact retN X318 hx (t := .boolean) Bd.returns (by simp) (hb hby at_346) hr
    ·show Q_rm0 Z xt xp xq xs xcs wu wc kc xr0 xr1 h0 n0 _ T318.heap _
     rw [e318]
     exact ⟨rfl, N318⟩
  ·have pre320 : oP p e bw G T74 m 216 #[vJ xt, .second, vI xp, vI xq, vI xs, vR b2, vI jf, vI jv, vI jg, vI jh, vI jk, vI jm, vR b32, vR w1, vR b59, vU, vU, vU, vU, vU, vU] [] := by
    intro t k
    refine pre183 t ?_
    refine XS.icmpYes X74.here hx rfl (pc0 := 201) (pc' := 216) rfl (hb hby at_201) rfl (feq hc201).2 (by decide) (by decide) ?_
    exact k
   rw [show jk = (2 : Int32) from own_l2 rjk hc188 hc201] at pre320
   have pre321 : oP p e bw G T74 m 217 #[vJ xt, .second, vI xp, vI xq, vI xs, vR b2, vI jf, vI jv, vI jg, vI jh, vI 2, vI jm, vR b32, vR w1, vR b59, vU, vU, vU, vU, vU, vU] [(.int 2)] := by
    intro t k
    refine pre320 t ?_
    refine XS.iconst X74.here hx rfl (hb hby at_216) ?_
    exact k
   obtain ⟨T322, h322, k322, X322, e322, E322, A322, O322, st322⟩ := newR X74 hx hZ hown (W 3 rfl) (W 46 rfl) rfl (g := (own_g pre321)) rfl (hb hby at_217) rfl (by decide) (cap := 2) (by decide) (by decide) (by decide) (by decide)
   obtain ⟨b322, g322⟩ := own_ex T74.heap.size
   rw [← g322] at A322 st322
   have g_b322 : n0 ≤ b322 := Nat.le_trans zz74 (Nat.le_of_eq g322.symm)
   have sz_b322 : h0.size ≤ b322 := Nat.le_trans K74.1 (Nat.le_of_eq g322.symm)
   have sf322_b322 := Safe.ext E322 HC74 (Safe.new (Nat.le_of_eq g322.symm))
   have RC322 := CHr.trans RC74 (CHr.ext E322 HC74)
   have HC322 := CHv.ext E322 HC74
   have hk322 := Nat.le_trans hk74 E322.1
   have K322 : Keep h0 h322 ([] : List Addr) := K74.ext E322
   have z322 : n0 ≤ h322.size := Nat.le_trans Z0 K322.1
   have V_b322 : Arv Z h322 b322 k322 (.object "java/lang/String") (2 : Int32) [.null, .null] .null := (Arv.new A322 (by decide)).pad (pad_rep [] .null 2)
   have X322 : Stand p l e _ _ m _ bw meth c T322 _ 13 36 := X322
   have pre323 : oP p e bw G T322 m 224 #[vJ xt, .second, vI xp, vI xq, vI xs, vR b2, vI jf, vI jv, vI jg, vI jh, vI 2, vI jm, vR b32, vR w1, vR b59, vU, vU, vU, vU, vU, vU] [(.ref b32), (.int 0), (.ref b322), (.ref b322)] := by
    intro t k
    refine pre321 t (st322 t ?_)
    refine XS.dup X322.here hx rfl (hb hby at_220) rfl rfl ?_
    refine XS.iconst X322.here hx rfl (hb hby at_221) ?_
    refine XS.aload X322.here hx rfl (hb hby at_222) rfl rfl ?_
    exact k
   obtain ⟨c324, a324, q324, s324, m324, i324, u324⟩ := id V_b322
   have f325 := ((((((fr40_5.ext E59).ext E61).wr W64).wr W67).keep kp74).ext E322)
   obtain ⟨T326, h326, X326, e326, W326, st326⟩ := stR X322 hx hZ e322 a324 (j := (0 : Int32)) (inb_of s324 ⟨by decide, by decide⟩) rfl (Sto.ofV a324 q324 O322 (Ins.self f325)) (g := (own_g pre323)) rfl rfl (hb hby at_224)
   have so326 := sf322_b322
   have sf326_b322 := Safe.wr W326 so326 HC322 sf322_b322
   have RC326 := CHr.trans RC322 (CHr.wr W326 so326 HC322)
   have HC326 := CHv.wr W326 so326 HC322
   have hk326 := Nat.le_trans hk322 (Keep.of_wr W326).1
   have K326 : Keep h0 h326 ([] : List Addr) := K322.wr W326 (Or.inr sz_b322)
   have z326 : n0 ≤ h326.size := Nat.le_trans Z0 K326.1
   have N326 := Fr.snoc X326 N74 g_b322
   have V326 : Arv Z h326 b322 k322 (.object "java/lang/String") (2 : Int32) [(.ref b32), .null] .null := Arv.set a324 q324 s324 m324 i324 u324 rfl W326 0 rfl (Nat.le_of_ble_eq_true rfl)
   have pre327 : oP p e bw G T326 m 229 #[vJ xt, .second, vI xp, vI xq, vI xs, vR b2, vI jf, vI jv, vI jg, vI jh, vI 2, vI jm, vR b32, vR w1, vR b59, vU, vU, vU, vU, vU, vU] [(.ref w1), (.int 1), (.ref b322), (.ref b322)] := by
    intro t k
    refine pre323 t (st326 t ?_)
    refine XS.dup X326.here hx rfl (hb hby at_225) rfl rfl ?_
    refine XS.iconst X326.here hx rfl (hb hby at_226) ?_
    refine XS.aload X326.here hx rfl (hb hby at_227) rfl rfl ?_
    exact k
   obtain ⟨c328, a328, q328, s328, m328, i328, u328⟩ := id V326
   have f329 := (((((((fr40_0.ext E59).ext E61).wr W64).wr W67).keep kp74).ext E322).wr W326)
   obtain ⟨T330, h330, X330, e330, W330, st330⟩ := stR X326 hx hZ e326 a328 (j := (1 : Int32)) (inb_of s328 ⟨by decide, by decide⟩) rfl (Sto.ofV a328 q328 O322 (Ins.self f329)) (g := (own_g pre327)) rfl rfl (hb hby at_229)
   have so330 := sf326_b322
   have sf330_b322 := Safe.wr W330 so330 HC326 sf326_b322
   have RC330 := CHr.trans RC326 (CHr.wr W330 so330 HC326)
   have HC330 := CHv.wr W330 so330 HC326
   have hk330 := Nat.le_trans hk326 (Keep.of_wr W330).1
   have K330 : Keep h0 h330 ([] : List Addr) := K326.wr W330 (Or.inr sz_b322)
   have z330 : n0 ≤ h330.size := Nat.le_trans Z0 K330.1
   have N330 := Fr.snoc X330 N326 g_b322
   have V330 : Arv Z h330 b322 k322 (.object "java/lang/String") (2 : Int32) [(.ref b32), (.ref w1)] .null := Arv.set a328 q328 s328 m328 i328 u328 rfl W330 1 rfl (Nat.le_of_ble_eq_true rfl)
   have f331 := (f329.wr W330)
   have ne332 := (Nat.ne_of_lt (Nat.lt_of_lt_of_le (fr40_0.ext E59).lt (Nat.le_of_eq g61.symm)))
   have ne333 := (Nat.ne_of_lt (Nat.lt_of_lt_of_le fr40_0.lt (Nat.le_of_eq g59.symm)))
   have ne334 := (Nat.ne_of_lt (Nat.lt_of_lt_of_le (((((fr40_0.ext E59).ext E61).wr W64).wr W67).keep kp74).lt (Nat.le_of_eq g322.symm)))
   have f335 := ((((((((fr40_1.ext E59).ext E61).other W64 (Or.inl ne332)).other W67 (Or.inl ne332)).keep kp74 (ninS ne333 nin0)).ext E322).other W326 (Or.inl ne334)).other W330 (Or.inl ne334))
   have f336 := ((((((((fr40_2.ext E59).ext E61).other W64 (Or.inl ne332)).other W67 (Or.inl ne332)).keep kp74 (ninS ne333 nin0)).ext E322).other W326 (Or.inl ne334)).other W330 (Or.inl ne334))
   have ne337 := (Nat.ne_of_lt (Nat.lt_of_lt_of_le (fr40_3.ext E59).lt (Nat.le_of_eq g61.symm)))
   have ne338 := (Nat.ne_of_lt (Nat.lt_of_lt_of_le fr40_3.lt (Nat.le_of_eq g59.symm)))
   have ne339 := (Nat.ne_of_lt (Nat.lt_of_lt_of_le (((((fr40_3.ext E59).ext E61).other W64 ne337).other W67 ne337).keep kp74 (ninS ne338 nin0)).lt (Nat.le_of_eq g322.symm)))
   have f340 := ((((((((fr40_3.ext E59).ext E61).other W64 ne337).other W67 ne337).keep kp74 (ninS ne338 nin0)).ext E322).other W326 ne339).other W330 ne339)
   have f341 := ((((((((fr40_4.ext E59).ext E61).wr W64).wr W67).keep kp74).ext E322).wr W326).wr W330)
   have f342 := ((f325.wr W326).wr W330)
   have ne343 := (Nat.ne_of_lt (Nat.lt_of_lt_of_le (fr40_5.ext E59).lt (Nat.le_of_eq g61.symm)))
   have ne344 := (Nat.ne_of_lt (Nat.lt_of_lt_of_le fr40_5.lt (Nat.le_of_eq g59.symm)))
   have ne345 := (Nat.ne_of_lt (Nat.lt_of_lt_of_le (((((fr40_5.ext E59).ext E61).wr W64).wr W67).keep kp74).lt (Nat.le_of_eq g322.symm)))
   have f346 := ((((((((fr40_6.ext E59).ext E61).other W64 (Or.inl ne343)).other W67 (Or.inl ne343)).keep kp74 (ninS ne344 nin0)).ext E322).other W326 (Or.inl ne345)).other W330 (Or.inl ne345))
   have f347 := ((((((((fr40_7.ext E59).ext E61).other W64 (Or.inl ne343)).other W67 (Or.inl ne343)).keep kp74 (ninS ne344 nin0)).ext E322).other W326 (Or.inl ne345)).other W330 (Or.inl ne345))
   have ne348 := (Nat.ne_of_lt (Nat.lt_of_lt_of_le (fr40_8.ext E59).lt (Nat.le_of_eq g61.symm)))
   have ne349 := (Nat.ne_of_lt (Nat.lt_of_lt_of_le fr40_8.lt (Nat.le_of_eq g59.symm)))
   have ne350 := (Nat.ne_of_lt (Nat.lt_of_lt_of_le (((((fr40_8.ext E59).ext E61).other W64 ne348).other W67 ne348).keep kp74 (ninS ne349 nin0)).lt (Nat.le_of_eq g322.symm)))
   have f351 := ((((((((fr40_8.ext E59).ext E61).other W64 ne348).other W67 ne348).keep kp74 (ninS ne349 nin0)).ext E322).other W326 ne350).other W330 ne350)
   have f352 := ((((((((fr40_9.ext E59).ext E61).wr W64).wr W67).keep kp74).ext E322).wr W326).wr W330)
   have ne353 := (Nat.ne_of_lt (Nat.lt_of_lt_of_le (fr40_10.ext E59).lt (Nat.le_of_eq g61.symm)))
   have ne354 := (Nat.ne_of_lt (Nat.lt_of_lt_of_le fr40_10.lt (Nat.le_of_eq g59.symm)))
   have ne355 := (Nat.ne_of_lt (Nat.lt_of_lt_of_le (((((fr40_10.ext E59).ext E61).other W64 ne353).other W67 ne353).keep kp74 (ninS ne354 nin0)).lt (Nat.le_of_eq g322.symm)))
   have f356 := ((((((((fr40_10.ext E59).ext E61).other W64 ne353).other W67 ne353).keep kp74 (ninS ne354 nin0)).ext E322).other W326 ne355).other W330 ne355)
   have f357 := (((f74_0.ext E322).wr W326).wr W330)
   have ne358 := (Nat.ne_of_lt (Nat.lt_of_lt_of_le f74_0.lt (Nat.le_of_eq g322.symm)))
   have f359 := (((f74_2.ext E322).other W326 (Or.inl ne358)).other W330 (Or.inl ne358))
   have f360 := (((f74_1.ext E322).other W326 (Or.inl ne358)).other W330 (Or.inl ne358))
   have ne361 := (Nat.ne_of_lt (Nat.lt_of_lt_of_le V_lw2.lt (Nat.le_of_eq g322.symm)))
   have f362 := (((V_lw2.ext E322).other W326 ne361).other W330 ne361)
   have f363 := (((f74_4.ext E322).wr W326).wr W330)
   have pre364 : oP p e bw G T330 m 234 #[vJ xt, .second, vI xp, vI xq, vI xs, vR b2, vI jf, vI jv, vI jg, vI jh, vI 2, vI jm, vR b32, vR w1, vR b59, vR b322, vU, vU, vU, vU, vU] [(.int jm)] := by
    intro t k
    refine pre327 t (st330 t ?_)
    refine XS.astore X330.here hx rfl (hb hby at_230) rfl rfl (l' := #[vJ xt, .second, vI xp, vI xq, vI xs, vR b2, vI jf, vI jv, vI jg, vI jh, vI 2, vI jm, vR b32, vR w1, vR b59, vR b322, vU, vU, vU, vU, vU]) rfl ?_
    refine XS.iload X330.here hx rfl (hb hby at_232) rfl ?_
    exact k
   by_cases hc234 : jm = (0 : Int32)
   ·have pre365 : oP p e bw G T330 m 237 #[vJ xt, .second, vI xp, vI xq, vI xs, vR b2, vI jf, vI jv, vI jg, vI jh, vI 2, vI jm, vR b32, vR w1, vR b59, vR b322, vU, vU, vU, vU, vU] [] := by
     intro t k
     refine pre364 t ?_
     refine XS.ifNo X330.here hx rfl (hb hby at_234) rfl ((if0 _ _).trans (teq hc234).2) ?_
     exact k
    rw [show jm = (0 : Int32) from hc234] at pre365
    have pre366 : oP p e bw G T330 m 238 #[vJ xt, .second, vI xp, vI xq, vI xs, vR b2, vI jf, vI jv, vI jg, vI jh, vI 2, vI 0, vR b32, vR w1, vR b59, vR b322, vU, vU, vU, vU, vU] [(.int 0)] := by
     intro t k
     refine pre365 t ?_
     refine XS.iconst X330.here hx rfl (hb hby at_237) ?_
     exact k
    obtain ⟨T367, h367, k367, X367, e367, E367, A367, O367, st367⟩ := newR X330 hx hZ hown (W 3 rfl) (W 46 rfl) e330 (g := (own_g pre366)) rfl (hb hby at_238) rfl (by decide) (cap := 0) (by decide) (by decide) (by decide) (by decide)
    obtain ⟨b367, g367⟩ := own_ex h330.size
    rw [← g367] at A367 st367
    have g_b367 : n0 ≤ b367 := Nat.le_trans z330 (Nat.le_of_eq g367.symm)
    have sz_b367 : h0.size ≤ b367 := Nat.le_trans K330.1 (Nat.le_of_eq g367.symm)
    have sf367_b322 := Safe.ext E367 HC330 sf330_b322
    have sf367_b367 := Safe.ext E367 HC330 (Safe.new (Nat.le_of_eq g367.symm))
    have RC367 := CHr.trans RC330 (CHr.ext E367 HC330)
    have HC367 := CHv.ext E367 HC330
    have hk367 := Nat.le_trans hk330 E367.1
    have K367 : Keep h0 h367 ([] : List Addr) := K330.ext E367
    have z367 : n0 ≤ h367.size := Nat.le_trans Z0 K367.1
    have V_b367 : Arv Z h367 b367 k367 (.object "java/lang/String") (0 : Int32) [] .null := (Arv.new A367 (by decide)).pad (pad_rep [] .null 0)
    have X367 : Stand p l e _ _ m _ bw meth c T367 _ 14 36 := X367
    have pre368 : oP p e bw G T367 m 256 #[vJ xt, .second, vI xp, vI xq, vI xs, vR b2, vI jf, vI jv, vI jg, vI jh, vI 2, vI 0, vR b32, vR w1, vR b59, vR b322, vR b367, vU, vU, vU, vU] [(.int 0)] := by
     intro t k
     refine pre366 t (st367 t ?_)
     refine XS.goto X367.here hx rfl (pc0 := 241) (pc' := 253) rfl (hb hby at_241) (by decide) (by decide) ?_
     refine XS.astore X367.here hx rfl (hb hby at_253) rfl rfl (l' := #[vJ xt, .second, vI xp, vI xq, vI xs, vR b2, vI jf, vI jv, vI jg, vI jh, vI 2, vI 0, vR b32, vR w1, vR b59, vR b322, vR b367, vU, vU, vU, vU]) rfl ?_
     refine XS.iconst X367.here hx rfl (hb hby at_255) ?_
     exact k
    obtain ⟨T369, h369, k369, X369, e369, E369, A369, O369, st369⟩ := newR X367 hx hZ hown (W 3 rfl) (W 46 rfl) e367 (g := (own_g pre368)) rfl (hb hby at_256) rfl (by decide) (cap := 0) (by decide) (by decide) (by decide) (by decide)
    obtain ⟨b369, g369⟩ := own_ex h367.size
    rw [← g369] at A369 st369
    have g_b369 : n0 ≤ b369 := Nat.le_trans z367 (Nat.le_of_eq g369.symm)
    have sz_b369 : h0.size ≤ b369 := Nat.le_trans K367.1 (Nat.le_of_eq g369.symm)
    have sf369_b322 := Safe.ext E369 HC367 sf367_b322
    have sf369_b367 := Safe.ext E369 HC367 sf367_b367
    have sf369_b369 := Safe.ext E369 HC367 (Safe.new (Nat.le_of_eq g369.symm))
    have RC369 := CHr.trans RC367 (CHr.ext E369 HC367)
    have HC369 := CHv.ext E369 HC367
    have hk369 := Nat.le_trans hk367 E369.1
    have K369 : Keep h0 h369 ([] : List Addr) := K367.ext E369
    have z369 : n0 ≤ h369.size := Nat.le_trans Z0 K369.1
    have V_b369 : Arv Z h369 b369 k369 (.object "java/lang/String") (0 : Int32) [] .null := (Arv.new A369 (by decide)).pad (pad_rep [] .null 0)
    have X369 : Stand p l e _ _ m _ bw meth c T369 _ 15 36 := X369
    have pre370 : oP p e bw G T369 m 263 #[vJ xt, .second, vI xp, vI xq, vI xs, vR b2, vI jf, vI jv, vI jg, vI jh, vI 2, vI 0, vR b32, vR w1, vR b59, vR b322, vR b367, vR b369, vU, vU, vU] [(.ref b322)] := by
     intro t k
     refine pre368 t (st369 t ?_)
     refine XS.astore X369.here hx rfl (hb hby at_259) rfl rfl (l' := #[vJ xt, .second, vI xp, vI xq, vI xs, vR b2, vI jf, vI jv, vI jg, vI jh, vI 2, vI 0, vR b32, vR w1, vR b59, vR b322, vR b367, vR b369, vU, vU, vU]) rfl ?_
     refine XS.aload X369.here hx rfl (hb hby at_261) rfl rfl ?_
     exact k
    have f371 := ((((((own_sta_keep f73 kp74 f69).ext E322).wr W326).wr W330).ext E367).ext E369)
    have f372 := (SI.ext (own_keep_ext K369))
    have f373 := (SU.ext (own_keep_ext K369))
    have f374 := (SR.ext (own_keep_ext K369))
    have f375 := (VR.ext (own_keep_ext K369))
    have f376 := ((V330.ext E367).ext E369)
    have f377 := ((f342.ext E367).ext E369)
    have f378 := ((f346.ext E367).ext E369)
    have f379 := ((f347.ext E367).ext E369)
    have f380 := ((f351.ext E367).ext E369)
    have f381 := ((f352.ext E367).ext E369)
    have f382 := ((f331.ext E367).ext E369)
    have f383 := ((f335.ext E367).ext E369)
    have f384 := ((f336.ext E367).ext E369)
    have f385 := ((f340.ext E367).ext E369)
    have f386 := ((f341.ext E367).ext E369)
    obtain ⟨_, T387, Lc387, X387, hQ387, pc387⟩ := own_call X369 hx hZ hown (W 47 rfl) (W 48 rfl) (W 49 rfl) (W 50 rfl) (by decide) (rm_hd2 l Z a0 hw [] _ xcs wu wc kc xr0 xr1 _ b32 _ _ lw0 w1 ry1 ky1 lw1 h369 n0 z369 f371 (hcs) f372 f373 f374 f375 f376 f377 f378 f379 f380 f381 (hl_lw0) (hbs_lw0) f382 f383 f384 f385 f386 (hl_lw1) (hbs_lw1)) e369 pre370 hml rfl (hb hby at_263) (lenOf pd34 rfl) rfl (W := 0) rfl (by decide)
    obtain ⟨re_387, ke_387, b387, rfl, M387, g_b387, zs387, kp387, f387_0, f387_1, f387_2, f387_3, f387_4, f387_5⟩ := hQ387
    have sz_b387 : h0.size ≤ b387 := Nat.le_trans K369.1 zs387
    have hs387 : ∀ x ∈ ([] : List Addr), Safe Z own_EL vm40 h369 x := all0
    have RC387 := CHr.trans RC369 (CHr.keep kp387 hs387 HC369)
    have HC387 := CHv.keep kp387 hs387 HC369
    have hk387 := Nat.le_trans hk369 kp387.1
    have K387 : Keep h0 T387.heap ([] : List Addr) := K369.trans kp387 all0
    have zz387 : n0 ≤ T387.heap.size := Nat.le_trans Z0 K387.1
    have N387 := Fr.app N330 M387
    have X387 : Stand p l e _ _ m _ bw meth c T387 _ 22 121 := X387
    have pre388 : oP p e bw G T387 m 268 #[vJ xt, .second, vI xp, vI xq, vI xs, vR b2, vI jf, vI jv, vI jg, vI jh, vI 2, vI 0, vR b32, vR w1, vR b59, vR b322, vR b367, vR b369, vR b387, vU, vU] [] := by
     intro t k
     refine pc387 t ?_
     refine XS.astore X387.here hx rfl (hb hby at_266) rfl rfl (l' := #[vJ xt, .second, vI xp, vI xq, vI xs, vR b2, vI jf, vI jv, vI jg, vI jh, vI 2, vI 0, vR b32, vR w1, vR b59, vR b322, vR b367, vR b369, vR b387, vU, vU]) rfl ?_
     exact k
    have hle : (own_bulks [own_enc lw0, own_enc lw1]).length ≤ 40 := by have := own_bs2 (own_w99 hl_lw0) (own_w99 hl_lw1); have := own_encL lw0; have := own_encL lw1; omega
    have hrs : (own_bulks []).length ≤ 18 := Nat.zero_le _
    have pre389 : oP p e bw G T387 m 272 #[vJ xt, .second, vI xp, vI xq, vI xs, vR b2, vI jf, vI jv, vI jg, vI jh, vI 2, vI 0, vR b32, vR w1, vR b59, vR b322, vR b367, vR b369, vR b387, vU, vU] [(.ref b367), (.ref b387)] := by
     intro t k
     refine pre388 t ?_
     refine XS.aload X387.here hx rfl (hb hby at_268) rfl rfl ?_
     refine XS.aload X387.here hx rfl (hb hby at_270) rfl rfl ?_
     exact k
    have f390 := (f371.ext (own_keep_ext kp387))
    have f391 := (f372.ext (own_keep_ext kp387))
    have f392 := (f373.ext (own_keep_ext kp387))
    have f393 := (f374.ext (own_keep_ext kp387))
    have f394 := (f375.keep kp387 nin0)
    have f395 := ((V_b367.ext E369).keep kp387 nin0)
    obtain ⟨cq396, kq396, q396a, q396b, q396c⟩ := isOf hZ rfl f387_0
    obtain ⟨_, _, ⟨T396, L396, k396, n396⟩, -, X396, ⟨Lc396, hQ396, l396, y396, z396⟩, st396⟩ := X387.virtualBack hx (y := oM0) (z := oM0) hown (mvT hZ (W 76 rfl)) (mvT hZ (W 77 rfl)) (notFace_of_selects (args := #[]) (mvT hZ (W 79 rfl))) (mvT hZ (W 79 rfl)) (mvT hZ (W 78 rfl)) (by decide) (backOf (W := 0) (rm_rqa0 l Z a0 hw [] _ _ xcs wu wc kc xr0 xr1 _ _ _ _ _ T387.heap n0 zz387 f390 (hcs) f391 f392 f393 f394 f387_0 (g_b387) f387_1 f387_2 f387_4 f387_5 f395 ((own_mkQ (by decide) hle hrs).1) ((own_mkQ (by decide) hle hrs).2) f387_3) hZ (W 80 rfl) (W 53 rfl) (by decide) (by decide)) q396a q396c (g := (own_g pre389)) rfl (by rw [hml]; rfl) (Steps.refl _) (argsL := [(.ref b367)]) (rest := []) (lenOf pd20 rfl) rfl (by show 2 * 0 + _ ≤ _; exact Nat.le_of_eq rfl) (hb hby at_272) (fun _ _ => ⟨rfl, rfl, (by decide : 22 + 3 ≤ _), (by decide : 121 + 66 ≤ _)⟩)
    dsimp only [Pt.U, Pt.locs, Pt.cells, Pt.slots] at X396 l396 y396 z396 st396 hQ396
    subst y396 z396
    obtain ⟨rt_396, kb_396, b396, rfl, M396, g_b396, zs396, kp396, f396_0, f396_1, f396_2, f396_3, f396_4, f396_5, f396_6, f396_7, f396_8⟩ := hQ396
    have sz_b396 : h0.size ≤ b396 := Nat.le_trans K387.1 zs396
    have hs396 : ∀ x ∈ [b387], Safe Z own_EL vm40 T387.heap x := (allS (Safe.exa (EL := own_EL) hZ.alike f387_0 (by decide) (by decide)) all0)
    have RC396 := CHr.trans RC387 (CHr.keep kp396 hs396 HC387)
    have HC396 := CHv.keep kp396 hs396 HC387
    have hk396 := Nat.le_trans hk387 kp396.1
    have K396 : Keep h0 T396.heap ([] : List Addr) := K387.trans kp396 (allS (P := fun x => x ∈ ([] : List Addr) ∨ h0.size ≤ x) (Or.inr sz_b387) all0)
    have zz396 : n0 ≤ T396.heap.size := Nat.le_trans Z0 K396.1
    have N396 : Fr n0 L396 := by rw [l396]; exact Fr.app N387 M396
    clear l396
    have X396 : Stand p l e _ _ m _ bw meth c T396 _ 25 187 := X396
    have pre397 : oP p e bw G T396 m 281 #[vJ xt, .second, vI xp, vI xq, vI xs, vR b2, vI jf, vI jv, vI jg, vI jh, vI 2, vI 0, vR b32, vR w1, vR b59, vR b322, vR b367, vR b369, vR b387, vR b396, vU] [(.ref b369), (.ref b387)] := by
     intro t k
     refine pre389 t (st396.trans ?_)
     refine XS.astore X396.here hx rfl (hb hby at_275) rfl rfl (l' := #[vJ xt, .second, vI xp, vI xq, vI xs, vR b2, vI jf, vI jv, vI jg, vI jh, vI 2, vI 0, vR b32, vR w1, vR b59, vR b322, vR b367, vR b369, vR b387, vR b396, vU]) rfl ?_
     refine XS.aload X396.here hx rfl (hb hby at_277) rfl rfl ?_
     refine XS.aload X396.here hx rfl (hb hby at_279) rfl rfl ?_
     exact k
    have ne398 := (Nat.ne_of_lt (Nat.lt_of_lt_of_le (V_b367.ext E369).lt zs387))
    have f399 := (f395.keep kp396 (ninS ne398 nin0))
    have ne400 := (Nat.ne_of_lt (Nat.lt_of_lt_of_le V_b369.lt zs387))
    have f401 := ((V_b369.keep kp387 nin0).keep kp396 (ninS ne400 nin0))
    have ne402 := (Nat.ne_of_lt (Nat.lt_of_lt_of_le V_b367.lt (Nat.le_of_eq g369.symm)))
    obtain ⟨cq403, kq403, q403a, q403b, q403c⟩ := isOf hZ rfl f396_1
    obtain ⟨_, _, ⟨T403, L403, k403, n403⟩, -, X403, ⟨Lc403, hQ403, l403, y403, z403⟩, st403⟩ := X396.virtualBack hx (y := oM0) (z := oM0) hown (mvT hZ (W 76 rfl)) (mvT hZ (W 77 rfl)) (notFace_of_selects (args := #[]) (mvT hZ (W 79 rfl))) (mvT hZ (W 79 rfl)) (mvT hZ (W 78 rfl)) (by decide) (backOf (W := 0) (rm_rqc l Z a0 hw [] _ _ _ _ _ _ _ T396.heap n0 zz396 f396_4 f396_7 f396_8 f399 f401 (ne402)) hZ (W 80 rfl) (W 53 rfl) (by decide) (by decide)) q403a q403c (g := (own_g pre397)) rfl (by rw [hml]; rfl) (Steps.refl _) (argsL := [(.ref b369)]) (rest := []) (lenOf pd20 rfl) rfl (by show 2 * 0 + _ ≤ _; exact Nat.le_of_eq rfl) (hb hby at_281) (fun _ _ => ⟨rfl, rfl, (by decide : 25 + 0 ≤ _), (by decide : 187 + 0 ≤ _)⟩)
    dsimp only [Pt.U, Pt.locs, Pt.cells, Pt.slots] at X403 l403 y403 z403 st403 hQ403
    subst y403 z403
    obtain ⟨rfl, M403, e403⟩ := hQ403
    have N403 : Fr n0 L403 := by rw [l403]; exact Fr.app N396 M403
    clear l403
    have X403 : Stand p l e _ _ m _ bw meth c T403 _ 25 187 := X403
    have pre404 : oP p e bw G T403 m 298 #[vJ xt, .second, vI xp, vI xq, vI xs, vR b2, vI jf, vI jv, vI jg, vI jh, vI 2, vI 0, vR b32, vR w1, vR b59, vR b322, vR b367, vR b369, vR b387, vR b396, vR b396] [] := by
     intro t k
     refine pre397 t (st403.trans ?_)
     refine XS.astore X403.here hx rfl (hb hby at_284) rfl rfl (l' := #[vJ xt, .second, vI xp, vI xq, vI xs, vR b2, vI jf, vI jv, vI jg, vI jh, vI 2, vI 0, vR b32, vR w1, vR b59, vR b322, vR b367, vR b369, vR b387, vR b396, vR b396]) rfl ?_
     refine XS.aload X403.here hx rfl (hb hby at_286) rfl rfl ?_
     refine XS.ifnullNo X403.here hx rfl (hb hby at_288) rfl ?_
     refine XS.aload X403.here hx rfl (hb hby at_291) rfl rfl ?_
     refine XS.ifnonnullYes X403.here hx rfl (pc0 := 293) (pc' := 298) rfl (hb hby at_293) rfl (by decide) (by decide) ?_
     exact k
    by_cases hc141 : jv = (0 : Int32)
    ·have el1 : own_enc lw1 = own_enc [own_b jf] := by rw [hlw1, if_pos hc141]; rfl
     rw [show jv = (0 : Int32) from hc141] at pre404
     have pre405 : oP p e bw G T403 m 314 #[vJ xt, .second, vI xp, vI xq, vI xs, vR b2, vI jf, vI 0, vI jg, vI jh, vI 2, vI 0, vR b32, vR w1, vR b59, vR b322, vR b367, vR b369, vR b387, vR b396, vR b396] [(.int jh), (.int jg), (.int jf), (.int 0), (.ref b2), (.int 0), (.int 2), (.ref b396)] := by
      intro t k
      refine pre404 t ?_
      refine XS.aload X403.here hx rfl (hb hby at_298) rfl rfl ?_
      refine XS.iload X403.here hx rfl (hb hby at_300) rfl ?_
      refine XS.iload X403.here hx rfl (hb hby at_302) rfl ?_
      refine XS.aload X403.here hx rfl (hb hby at_304) rfl rfl ?_
      refine XS.iload X403.here hx rfl (hb hby at_306) rfl ?_
      refine XS.iload X403.here hx rfl (hb hby at_308) rfl ?_
      refine XS.iload X403.here hx rfl (hb hby at_310) rfl ?_
      refine XS.iload X403.here hx rfl (hb hby at_312) rfl ?_
      exact k
     have ne406 := (Nat.ne_of_lt (Nat.lt_of_lt_of_le ((f356.ext E367).ext E369).lt zs387))
     have f407 := ((((f356.ext E367).ext E369).keep kp387 nin0).keep kp396 (ninS ne406 nin0))
     obtain ⟨_, T408, Lc408, X408, hQ408, pc408⟩ := own_call X403 hx hZ hown (W 118 rfl) (W 119 rfl) (W 120 rfl) (W 121 rfl) (by decide) (rm_ck200 l Z a0 hw [] _ b2 jf jg jh _ _ _ k2 _ _ _ _ _ T396.heap n0 zz396 f396_0 (⟨by rw [el0, el1]; exact own_ck20 _ _ _, (own_mkQ (by decide) hle hrs).1.hb, rfl, rfl⟩) f407 (own_okn rja) (own_okn rjb) (own_okn rjc) (own_okn rjd) (own_okn rje) (rjf)) e403 pre405 hml rfl (hb hby at_314) (lenOf pd35 rfl) rfl (W := 0) rfl (by decide)
     obtain ⟨rfl, M408, e408⟩ := hQ408
     have N408 := Fr.app N403 M408
     have X408 : Stand p l e _ _ m _ bw meth c T408 _ 25 187 := X408
     have pre409 : oP p e bw G T408 m 335 #[vJ xt, .second, vI xp, vI xq, vI xs, vR b2, vI jf, vI 0, vI jg, vI jh, vI 2, vI 0, vR b32, vR w1, vR b59, vR b322, vR b367, vR b369, vR b387, vR b396, vR b396] [(.int jh), (.int jg), (.int jf), (.int 0), (.ref b2), (.int 0), (.int 2), (.ref b396)] := by
      intro t k
      refine pc408 t ?_
      refine XS.ifNo X408.here hx rfl (hb hby at_317) rfl ((if0 _ _).trans (feq (show ¬ ((1 : Int32) = (0 : Int32)) from by decide)).1) ?_
      refine XS.aload X408.here hx rfl (hb hby at_320) rfl rfl ?_
      refine XS.iload X408.here hx rfl (hb hby at_322) rfl ?_
      refine XS.iconst X408.here hx rfl (hb hby at_324) ?_
      refine XS.aload X408.here hx rfl (hb hby at_325) rfl rfl ?_
      refine XS.iload X408.here hx rfl (hb hby at_327) rfl ?_
      refine XS.iload X408.here hx rfl (hb hby at_329) rfl ?_
      refine XS.iload X408.here hx rfl (hb hby at_331) rfl ?_
      refine XS.iload X408.here hx rfl (hb hby at_333) rfl ?_
      exact k
     obtain ⟨_, T410, Lc410, X410, hQ410, pc410⟩ := own_call X408 hx hZ hown (W 118 rfl) (W 119 rfl) (W 120 rfl) (W 121 rfl) (by decide) (rm_ck200 l Z a0 hw [] _ b2 jf jg jh _ _ _ k2 _ _ _ _ _ T396.heap n0 zz396 f396_0 (⟨by rw [el0, el1]; exact own_ck20 _ _ _, (own_mkQ (by decide) hle (by decide)).1.hb, rfl, rfl⟩) f407 (own_okn rja) (own_okn rjb) (own_okn rjc) (own_okn rjd) (own_okn rje) (rjf)) e408 pre409 hml rfl (hb hby at_335) (lenOf pd35 rfl) rfl (W := 0) rfl (by decide)
     obtain ⟨rfl, M410, e410⟩ := hQ410
     have N410 := Fr.app N408 M410
     have X410 : Stand p l e _ _ m _ bw meth c T410 _ 25 187 := X410
     have pre411 : oP p e bw G T410 m 346 #[vJ xt, .second, vI xp, vI xq, vI xs, vR b2, vI jf, vI 0, vI jg, vI jh, vI 2, vI 0, vR b32, vR w1, vR b59, vR b322, vR b367, vR b369, vR b387, vR b396, vR b396] [(.int 1)] := by
      intro t k
      refine pc410 t ?_
      refine XS.ifNo X410.here hx rfl (hb hby at_338) rfl ((if0 _ _).trans (feq (show ¬ ((1 : Int32) = (0 : Int32)) from by decide)).1) ?_
      refine XS.iconst X410.here hx rfl (hb hby at_341) ?_
      refine XS.goto X410.here hx rfl (pc0 := 342) (pc' := 346) rfl (hb hby at_342) (by decide) (by decide) ?_
      exact k
     obtain ⟨fs, hr, hrun, hended, hRW⟩ := X410.leaveW hS40 (Nat.le_trans hk396 (Nat.le_of_eq (congrArg Array.size (show _ = T396.heap from e410)).symm)) (v := some (.int 1)) (fun h => by rw [Bd.returns] at h; cases h)
     subst hG
     have RE := CHr.trans RC396 (CHv.at X410 hZ hEL HC396)
     refine ⟨_, _, pre411 _ ?_, hrun, hended, _, _, rfl, ?_, (by rw [hh]; show CHr Z own_EL s.vm h0 T410.vm T410.heap; rw [show T410.heap = T396.heap from e410]; exact RE), hRW.1, hRW.2.1, hRW.2.2.1, hRW.2.2.2.mono (by decide) (by decide)⟩
     ·exact retN X410 hx (t := .boolean) Bd.returns (by simp) (hb hby at_346) hr
     ·show Q_rm0 Z xt xp xq xs xcs wu wc kc xr0 xr1 h0 n0 _ T410.heap _
      rw [e410]
      exact ⟨rfl, N410⟩
    ·have el1 : own_enc lw1 = own_enc [] := by rw [hlw1, if_neg hc141]; rfl
     rw [show jv = (1 : Int32) from own_or rjv hc141] at pre404
     have pre412 : oP p e bw G T403 m 314 #[vJ xt, .second, vI xp, vI xq, vI xs, vR b2, vI jf, vI 1, vI jg, vI jh, vI 2, vI 0, vR b32, vR w1, vR b59, vR b322, vR b367, vR b369, vR b387, vR b396, vR b396] [(.int jh), (.int jg), (.int jf), (.int 1), (.ref b2), (.int 0), (.int 2), (.ref b396)] := by
      intro t k
      refine pre404 t ?_
      refine XS.aload X403.here hx rfl (hb hby at_298) rfl rfl ?_
      refine XS.iload X403.here hx rfl (hb hby at_300) rfl ?_
      refine XS.iload X403.here hx rfl (hb hby at_302) rfl ?_
      refine XS.aload X403.here hx rfl (hb hby at_304) rfl rfl ?_
      refine XS.iload X403.here hx rfl (hb hby at_306) rfl ?_
      refine XS.iload X403.here hx rfl (hb hby at_308) rfl ?_
      refine XS.iload X403.here hx rfl (hb hby at_310) rfl ?_
      refine XS.iload X403.here hx rfl (hb hby at_312) rfl ?_
      exact k
     have ne413 := (Nat.ne_of_lt (Nat.lt_of_lt_of_le ((f356.ext E367).ext E369).lt zs387))
     have f414 := ((((f356.ext E367).ext E369).keep kp387 nin0).keep kp396 (ninS ne413 nin0))
     obtain ⟨_, T415, Lc415, X415, hQ415, pc415⟩ := own_call X403 hx hZ hown (W 118 rfl) (W 119 rfl) (W 120 rfl) (W 121 rfl) (by decide) (rm_ck201 l Z a0 hw [] _ b2 jf jg jh _ _ _ k2 _ _ _ _ _ T396.heap n0 zz396 f396_0 (⟨by rw [el0, el1]; exact own_ck20 _ _ _, (own_mkQ (by decide) hle hrs).1.hb, rfl, rfl⟩) f414 (own_okn rja) (own_okn rjb) (own_okn rjc) (own_okn rjd) (own_okn rje)) e403 pre412 hml rfl (hb hby at_314) (lenOf pd35 rfl) rfl (W := 0) rfl (by decide)
     obtain ⟨rfl, M415, e415⟩ := hQ415
     have N415 := Fr.app N403 M415
     have X415 : Stand p l e _ _ m _ bw meth c T415 _ 25 187 := X415
     have pre416 : oP p e bw G T415 m 335 #[vJ xt, .second, vI xp, vI xq, vI xs, vR b2, vI jf, vI 1, vI jg, vI jh, vI 2, vI 0, vR b32, vR w1, vR b59, vR b322, vR b367, vR b369, vR b387, vR b396, vR b396] [(.int jh), (.int jg), (.int jf), (.int 1), (.ref b2), (.int 0), (.int 2), (.ref b396)] := by
      intro t k
      refine pc415 t ?_
      refine XS.ifNo X415.here hx rfl (hb hby at_317) rfl ((if0 _ _).trans (feq (show ¬ ((1 : Int32) = (0 : Int32)) from by decide)).1) ?_
      refine XS.aload X415.here hx rfl (hb hby at_320) rfl rfl ?_
      refine XS.iload X415.here hx rfl (hb hby at_322) rfl ?_
      refine XS.iconst X415.here hx rfl (hb hby at_324) ?_
      refine XS.aload X415.here hx rfl (hb hby at_325) rfl rfl ?_
      refine XS.iload X415.here hx rfl (hb hby at_327) rfl ?_
      refine XS.iload X415.here hx rfl (hb hby at_329) rfl ?_
      refine XS.iload X415.here hx rfl (hb hby at_331) rfl ?_
      refine XS.iload X415.here hx rfl (hb hby at_333) rfl ?_
      exact k
     obtain ⟨_, T417, Lc417, X417, hQ417, pc417⟩ := own_call X415 hx hZ hown (W 118 rfl) (W 119 rfl) (W 120 rfl) (W 121 rfl) (by decide) (rm_ck201 l Z a0 hw [] _ b2 jf jg jh _ _ _ k2 _ _ _ _ _ T396.heap n0 zz396 f396_0 (⟨by rw [el0, el1]; exact own_ck20 _ _ _, (own_mkQ (by decide) hle (by decide)).1.hb, rfl, rfl⟩) f414 (own_okn rja) (own_okn rjb) (own_okn rjc) (own_okn rjd) (own_okn rje)) e415 pre416 hml rfl (hb hby at_335) (lenOf pd35 rfl) rfl (W := 0) rfl (by decide)
     obtain ⟨rfl, M417, e417⟩ := hQ417
     have N417 := Fr.app N415 M417
     have X417 : Stand p l e _ _ m _ bw meth c T417 _ 25 187 := X417
     have pre418 : oP p e bw G T417 m 346 #[vJ xt, .second, vI xp, vI xq, vI xs, vR b2, vI jf, vI 1, vI jg, vI jh, vI 2, vI 0, vR b32, vR w1, vR b59, vR b322, vR b367, vR b369, vR b387, vR b396, vR b396] [(.int 1)] := by
      intro t k
      refine pc417 t ?_
      refine XS.ifNo X417.here hx rfl (hb hby at_338) rfl ((if0 _ _).trans (feq (show ¬ ((1 : Int32) = (0 : Int32)) from by decide)).1) ?_
      refine XS.iconst X417.here hx rfl (hb hby at_341) ?_
      refine XS.goto X417.here hx rfl (pc0 := 342) (pc' := 346) rfl (hb hby at_342) (by decide) (by decide) ?_
      exact k
     obtain ⟨fs, hr, hrun, hended, hRW⟩ := X417.leaveW hS40 (Nat.le_trans hk396 (Nat.le_of_eq (congrArg Array.size (show _ = T396.heap from e417)).symm)) (v := some (.int 1)) (fun h => by rw [Bd.returns] at h; cases h)
     subst hG
     have RE := CHr.trans RC396 (CHv.at X417 hZ hEL HC396)
     refine ⟨_, _, pre418 _ ?_, hrun, hended, _, _, rfl, ?_, (by rw [hh]; show CHr Z own_EL s.vm h0 T417.vm T417.heap; rw [show T417.heap = T396.heap from e417]; exact RE), hRW.1, hRW.2.1, hRW.2.2.1, hRW.2.2.2.mono (by decide) (by decide)⟩
     ·exact retN X417 hx (t := .boolean) Bd.returns (by simp) (hb hby at_346) hr
     ·show Q_rm0 Z xt xp xq xs xcs wu wc kc xr0 xr1 h0 n0 _ T417.heap _
      rw [e417]
      exact ⟨rfl, N417⟩
   ·have pre419 : oP p e bw G T330 m 244 #[vJ xt, .second, vI xp, vI xq, vI xs, vR b2, vI jf, vI jv, vI jg, vI jh, vI 2, vI jm, vR b32, vR w1, vR b59, vR b322, vU, vU, vU, vU, vU] [] := by
     intro t k
     refine pre364 t ?_
     refine XS.ifYes X330.here hx rfl (pc0 := 234) (pc' := 244) rfl (hb hby at_234) rfl ((if0 _ _).trans (feq hc234).2) (by decide) (by decide) ?_
     exact k
    rw [show jm = (1 : Int32) from own_or rjm hc234] at pre419
    have pre420 : oP p e bw G T330 m 245 #[vJ xt, .second, vI xp, vI xq, vI xs, vR b2, vI jf, vI jv, vI jg, vI jh, vI 2, vI 1, vR b32, vR w1, vR b59, vR b322, vU, vU, vU, vU, vU] [(.int 1)] := by
     intro t k
     refine pre419 t ?_
     refine XS.iconst X330.here hx rfl (hb hby at_244) ?_
     exact k
    obtain ⟨T421, h421, k421, X421, e421, E421, A421, O421, st421⟩ := newR X330 hx hZ hown (W 3 rfl) (W 46 rfl) e330 (g := (own_g pre420)) rfl (hb hby at_245) rfl (by decide) (cap := 1) (by decide) (by decide) (by decide) (by decide)
    obtain ⟨b421, g421⟩ := own_ex h330.size
    rw [← g421] at A421 st421
    have g_b421 : n0 ≤ b421 := Nat.le_trans z330 (Nat.le_of_eq g421.symm)
    have sz_b421 : h0.size ≤ b421 := Nat.le_trans K330.1 (Nat.le_of_eq g421.symm)
    have sf421_b322 := Safe.ext E421 HC330 sf330_b322
    have sf421_b421 := Safe.ext E421 HC330 (Safe.new (Nat.le_of_eq g421.symm))
    have RC421 := CHr.trans RC330 (CHr.ext E421 HC330)
    have HC421 := CHv.ext E421 HC330
    have hk421 := Nat.le_trans hk330 E421.1
    have K421 : Keep h0 h421 ([] : List Addr) := K330.ext E421
    have z421 : n0 ≤ h421.size := Nat.le_trans Z0 K421.1
    have V_b421 : Arv Z h421 b421 k421 (.object "java/lang/String") (1 : Int32) [.null] .null := (Arv.new A421 (by decide)).pad (pad_rep [] .null 1)
    have X421 : Stand p l e _ _ m _ bw meth c T421 _ 14 37 := X421
    have pre422 : oP p e bw G T421 m 252 #[vJ xt, .second, vI xp, vI xq, vI xs, vR b2, vI jf, vI jv, vI jg, vI jh, vI 2, vI 1, vR b32, vR w1, vR b59, vR b322, vU, vU, vU, vU, vU] [(.ref b59), (.int 0), (.ref b421), (.ref b421)] := by
     intro t k
     refine pre420 t (st421 t ?_)
     refine XS.dup X421.here hx rfl (hb hby at_248) rfl rfl ?_
     refine XS.iconst X421.here hx rfl (hb hby at_249) ?_
     refine XS.aload X421.here hx rfl (hb hby at_250) rfl rfl ?_
     exact k
    obtain ⟨c423, a423, q423, s423, m423, i423, u423⟩ := id V_b421
    have f424 := (f357.ext E421)
    obtain ⟨T425, h425, X425, e425, W425, st425⟩ := stR X421 hx hZ e421 a423 (j := (0 : Int32)) (inb_of s423 ⟨by decide, by decide⟩) rfl (Sto.ofV a423 q423 O421 (Ins.self f424)) (g := (own_g pre422)) rfl rfl (hb hby at_252)
    have so425 := sf421_b421
    have sf425_b322 := Safe.wr W425 so425 HC421 sf421_b322
    have sf425_b421 := Safe.wr W425 so425 HC421 sf421_b421
    have RC425 := CHr.trans RC421 (CHr.wr W425 so425 HC421)
    have HC425 := CHv.wr W425 so425 HC421
    have hk425 := Nat.le_trans hk421 (Keep.of_wr W425).1
    have K425 : Keep h0 h425 ([] : List Addr) := K421.wr W425 (Or.inr sz_b421)
    have z425 : n0 ≤ h425.size := Nat.le_trans Z0 K425.1
    have N425 := Fr.snoc X425 N330 g_b421
    have V425 : Arv Z h425 b421 k421 (.object "java/lang/String") (1 : Int32) [(.ref b59)] .null := Arv.set a423 q423 s423 m423 i423 u423 rfl W425 0 rfl (Nat.le_of_ble_eq_true rfl)
    have pre426 : oP p e bw G T425 m 256 #[vJ xt, .second, vI xp, vI xq, vI xs, vR b2, vI jf, vI jv, vI jg, vI jh, vI 2, vI 1, vR b32, vR w1, vR b59, vR b322, vR b421, vU, vU, vU, vU] [(.int 0)] := by
     intro t k
     refine pre422 t (st425 t ?_)
     refine XS.astore X425.here hx rfl (hb hby at_253) rfl rfl (l' := #[vJ xt, .second, vI xp, vI xq, vI xs, vR b2, vI jf, vI jv, vI jg, vI jh, vI 2, vI 1, vR b32, vR w1, vR b59, vR b322, vR b421, vU, vU, vU, vU]) rfl ?_
     refine XS.iconst X425.here hx rfl (hb hby at_255) ?_
     exact k
    obtain ⟨T427, h427, k427, X427, e427, E427, A427, O427, st427⟩ := newR X425 hx hZ hown (W 3 rfl) (W 46 rfl) e425 (g := (own_g pre426)) rfl (hb hby at_256) rfl (by decide) (cap := 0) (by decide) (by decide) (by decide) (by decide)
    obtain ⟨b427, g427⟩ := own_ex h425.size
    rw [← g427] at A427 st427
    have g_b427 : n0 ≤ b427 := Nat.le_trans z425 (Nat.le_of_eq g427.symm)
    have sz_b427 : h0.size ≤ b427 := Nat.le_trans K425.1 (Nat.le_of_eq g427.symm)
    have sf427_b322 := Safe.ext E427 HC425 sf425_b322
    have sf427_b421 := Safe.ext E427 HC425 sf425_b421
    have sf427_b427 := Safe.ext E427 HC425 (Safe.new (Nat.le_of_eq g427.symm))
    have RC427 := CHr.trans RC425 (CHr.ext E427 HC425)
    have HC427 := CHv.ext E427 HC425
    have hk427 := Nat.le_trans hk425 E427.1
    have K427 : Keep h0 h427 ([] : List Addr) := K425.ext E427
    have z427 : n0 ≤ h427.size := Nat.le_trans Z0 K427.1
    have V_b427 : Arv Z h427 b427 k427 (.object "java/lang/String") (0 : Int32) [] .null := (Arv.new A427 (by decide)).pad (pad_rep [] .null 0)
    have X427 : Stand p l e _ _ m _ bw meth c T427 _ 15 37 := X427
    have pre428 : oP p e bw G T427 m 263 #[vJ xt, .second, vI xp, vI xq, vI xs, vR b2, vI jf, vI jv, vI jg, vI jh, vI 2, vI 1, vR b32, vR w1, vR b59, vR b322, vR b421, vR b427, vU, vU, vU] [(.ref b322)] := by
     intro t k
     refine pre426 t (st427 t ?_)
     refine XS.astore X427.here hx rfl (hb hby at_259) rfl rfl (l' := #[vJ xt, .second, vI xp, vI xq, vI xs, vR b2, vI jf, vI jv, vI jg, vI jh, vI 2, vI 1, vR b32, vR w1, vR b59, vR b322, vR b421, vR b427, vU, vU, vU]) rfl ?_
     refine XS.aload X427.here hx rfl (hb hby at_261) rfl rfl ?_
     exact k
    have f429 := (((((((own_sta_keep f73 kp74 f69).ext E322).wr W326).wr W330).ext E421).wr W425).ext E427)
    have f430 := (SI.ext (own_keep_ext K427))
    have f431 := (SU.ext (own_keep_ext K427))
    have f432 := (SR.ext (own_keep_ext K427))
    have f433 := (VR.ext (own_keep_ext K427))
    have ne434 := (Nat.ne_of_lt (Nat.lt_of_lt_of_le V330.lt (Nat.le_of_eq g421.symm)))
    have f435 := (((V330.ext E421).other W425 ne434).ext E427)
    have f436 := (((f342.ext E421).wr W425).ext E427)
    have ne437 := (Nat.ne_of_lt (Nat.lt_of_lt_of_le f342.lt (Nat.le_of_eq g421.symm)))
    have f438 := (((f346.ext E421).other W425 (Or.inl ne437)).ext E427)
    have f439 := (((f347.ext E421).other W425 (Or.inl ne437)).ext E427)
    have ne440 := (Nat.ne_of_lt (Nat.lt_of_lt_of_le f351.lt (Nat.le_of_eq g421.symm)))
    have f441 := (((f351.ext E421).other W425 ne440).ext E427)
    have f442 := (((f352.ext E421).wr W425).ext E427)
    have f443 := (((f331.ext E421).wr W425).ext E427)
    have ne444 := (Nat.ne_of_lt (Nat.lt_of_lt_of_le f331.lt (Nat.le_of_eq g421.symm)))
    have f445 := (((f335.ext E421).other W425 (Or.inl ne444)).ext E427)
    have f446 := (((f336.ext E421).other W425 (Or.inl ne444)).ext E427)
    have ne447 := (Nat.ne_of_lt (Nat.lt_of_lt_of_le f340.lt (Nat.le_of_eq g421.symm)))
    have f448 := (((f340.ext E421).other W425 ne447).ext E427)
    have f449 := (((f341.ext E421).wr W425).ext E427)
    obtain ⟨_, T450, Lc450, X450, hQ450, pc450⟩ := own_call X427 hx hZ hown (W 47 rfl) (W 48 rfl) (W 49 rfl) (W 50 rfl) (by decide) (rm_hd2 l Z a0 hw [] _ xcs wu wc kc xr0 xr1 _ b32 _ _ lw0 w1 ry1 ky1 lw1 h427 n0 z427 f429 (hcs) f430 f431 f432 f433 f435 f436 f438 f439 f441 f442 (hl_lw0) (hbs_lw0) f443 f445 f446 f448 f449 (hl_lw1) (hbs_lw1)) e427 pre428 hml rfl (hb hby at_263) (lenOf pd34 rfl) rfl (W := 0) rfl (by decide)
    obtain ⟨re_450, ke_450, b450, rfl, M450, g_b450, zs450, kp450, f450_0, f450_1, f450_2, f450_3, f450_4, f450_5⟩ := hQ450
    have sz_b450 : h0.size ≤ b450 := Nat.le_trans K427.1 zs450
    have hs450 : ∀ x ∈ ([] : List Addr), Safe Z own_EL vm40 h427 x := all0
    have RC450 := CHr.trans RC427 (CHr.keep kp450 hs450 HC427)
    have HC450 := CHv.keep kp450 hs450 HC427
    have hk450 := Nat.le_trans hk427 kp450.1
    have K450 : Keep h0 T450.heap ([] : List Addr) := K427.trans kp450 all0
    have zz450 : n0 ≤ T450.heap.size := Nat.le_trans Z0 K450.1
    have N450 := Fr.app N425 M450
    have X450 : Stand p l e _ _ m _ bw meth c T450 _ 22 122 := X450
    have pre451 : oP p e bw G T450 m 268 #[vJ xt, .second, vI xp, vI xq, vI xs, vR b2, vI jf, vI jv, vI jg, vI jh, vI 2, vI 1, vR b32, vR w1, vR b59, vR b322, vR b421, vR b427, vR b450, vU, vU] [] := by
     intro t k
     refine pc450 t ?_
     refine XS.astore X450.here hx rfl (hb hby at_266) rfl rfl (l' := #[vJ xt, .second, vI xp, vI xq, vI xs, vR b2, vI jf, vI jv, vI jg, vI jh, vI 2, vI 1, vR b32, vR w1, vR b59, vR b322, vR b421, vR b427, vR b450, vU, vU]) rfl ?_
     exact k
    have hle : (own_bulks [own_enc lw0, own_enc lw1]).length ≤ 40 := by have := own_bs2 (own_w99 hl_lw0) (own_w99 hl_lw1); have := own_encL lw0; have := own_encL lw1; omega
    have hrs : (own_bulks [own_enc lw2]).length ≤ 18 := by have := own_bs1 (own_w99 hl_lw2); have := own_encL lw2; omega
    have pre452 : oP p e bw G T450 m 272 #[vJ xt, .second, vI xp, vI xq, vI xs, vR b2, vI jf, vI jv, vI jg, vI jh, vI 2, vI 1, vR b32, vR w1, vR b59, vR b322, vR b421, vR b427, vR b450, vU, vU] [(.ref b421), (.ref b450)] := by
     intro t k
     refine pre451 t ?_
     refine XS.aload X450.here hx rfl (hb hby at_268) rfl rfl ?_
     refine XS.aload X450.here hx rfl (hb hby at_270) rfl rfl ?_
     exact k
    have f453 := (f429.ext (own_keep_ext kp450))
    have f454 := (f430.ext (own_keep_ext kp450))
    have f455 := (f431.ext (own_keep_ext kp450))
    have f456 := (f432.ext (own_keep_ext kp450))
    have f457 := (f433.keep kp450 nin0)
    have f458 := ((V425.ext E427).keep kp450 nin0)
    have f459 := (((f424.wr W425).ext E427).keep kp450)
    have ne460 := (Nat.ne_of_lt (Nat.lt_of_lt_of_le f357.lt (Nat.le_of_eq g421.symm)))
    have f461 := ((((f360.ext E421).other W425 (Or.inl ne460)).ext E427).keep kp450 nin0)
    have f462 := ((((f359.ext E421).other W425 (Or.inl ne460)).ext E427).keep kp450 nin0)
    have ne463 := (Nat.ne_of_lt (Nat.lt_of_lt_of_le f362.lt (Nat.le_of_eq g421.symm)))
    have f464 := ((((f362.ext E421).other W425 ne463).ext E427).keep kp450 nin0)
    have f465 := ((((f363.ext E421).wr W425).ext E427).keep kp450)
    obtain ⟨cq466, kq466, q466a, q466b, q466c⟩ := isOf hZ rfl f450_0
    obtain ⟨_, _, ⟨T466, L466, k466, n466⟩, -, X466, ⟨Lc466, hQ466, l466, y466, z466⟩, st466⟩ := X450.virtualBack hx (y := oM0) (z := oM0) hown (mvT hZ (W 76 rfl)) (mvT hZ (W 77 rfl)) (notFace_of_selects (args := #[]) (mvT hZ (W 79 rfl))) (mvT hZ (W 79 rfl)) (mvT hZ (W 78 rfl)) (by decide) (backOf (W := 0) (rm_rqa1 l Z a0 hw [] _ _ xcs wu wc kc xr0 xr1 _ _ _ _ _ b59 _ _ lw2 T450.heap n0 zz450 f453 (hcs) f454 f455 f456 f457 f450_0 (g_b450) f450_1 f450_2 f450_4 f450_5 f458 f459 f461 f462 f464 f465 (hl_lw2) (hbs_lw2) ((own_mkQ (by decide) hle hrs).1) ((own_mkQ (by decide) hle hrs).2) f450_3) hZ (W 80 rfl) (W 53 rfl) (by decide) (by decide)) q466a q466c (g := (own_g pre452)) rfl (by rw [hml]; rfl) (Steps.refl _) (argsL := [(.ref b421)]) (rest := []) (lenOf pd20 rfl) rfl (by show 2 * 0 + _ ≤ _; exact Nat.le_of_eq rfl) (hb hby at_272) (fun _ _ => ⟨rfl, rfl, (by decide : 22 + 5 ≤ _), (by decide : 122 + 87 ≤ _)⟩)
    dsimp only [Pt.U, Pt.locs, Pt.cells, Pt.slots] at X466 l466 y466 z466 st466 hQ466
    subst y466 z466
    obtain ⟨rt_466, kb_466, b466, rfl, M466, g_b466, zs466, kp466, f466_0, f466_1, f466_2, f466_3, f466_4, f466_5, f466_6, f466_7, f466_8⟩ := hQ466
    have sz_b466 : h0.size ≤ b466 := Nat.le_trans K450.1 zs466
    have hs466 : ∀ x ∈ [b450], Safe Z own_EL vm40 T450.heap x := (allS (Safe.exa (EL := own_EL) hZ.alike f450_0 (by decide) (by decide)) all0)
    have RC466 := CHr.trans RC450 (CHr.keep kp466 hs466 HC450)
    have HC466 := CHv.keep kp466 hs466 HC450
    have hk466 := Nat.le_trans hk450 kp466.1
    have K466 : Keep h0 T466.heap ([] : List Addr) := K450.trans kp466 (allS (P := fun x => x ∈ ([] : List Addr) ∨ h0.size ≤ x) (Or.inr sz_b450) all0)
    have zz466 : n0 ≤ T466.heap.size := Nat.le_trans Z0 K466.1
    have N466 : Fr n0 L466 := by rw [l466]; exact Fr.app N450 M466
    clear l466
    have X466 : Stand p l e _ _ m _ bw meth c T466 _ 27 209 := X466
    have pre467 : oP p e bw G T466 m 281 #[vJ xt, .second, vI xp, vI xq, vI xs, vR b2, vI jf, vI jv, vI jg, vI jh, vI 2, vI 1, vR b32, vR w1, vR b59, vR b322, vR b421, vR b427, vR b450, vR b466, vU] [(.ref b427), (.ref b450)] := by
     intro t k
     refine pre452 t (st466.trans ?_)
     refine XS.astore X466.here hx rfl (hb hby at_275) rfl rfl (l' := #[vJ xt, .second, vI xp, vI xq, vI xs, vR b2, vI jf, vI jv, vI jg, vI jh, vI 2, vI 1, vR b32, vR w1, vR b59, vR b322, vR b421, vR b427, vR b450, vR b466, vU]) rfl ?_
     refine XS.aload X466.here hx rfl (hb hby at_277) rfl rfl ?_
     refine XS.aload X466.here hx rfl (hb hby at_279) rfl rfl ?_
     exact k
    have f468 := (own_sta_keep f453 kp466 f450_0)
    have f469 := (own_sta_keep f454 kp466 f450_0)
    have f470 := (own_sta_keep f455 kp466 f450_0)
    have f471 := (own_sta_keep f456 kp466 f450_0)
    have ne472 := (Nat.ne_of_lt (Nat.lt_of_lt_of_le f433.lt zs450))
    have f473 := (f457.keep kp466 (ninS ne472 nin0))
    have f474 := (f450_5.keep kp466)
    have ne475 := (Nat.ne_of_lt (Nat.lt_of_lt_of_le V_b427.lt zs450))
    have f476 := ((V_b427.keep kp450 nin0).keep kp466 (ninS ne475 nin0))
    have ne477 := (Nat.ne_of_lt (Nat.lt_of_lt_of_le (V425.ext E427).lt zs450))
    have f478 := (f458.keep kp466 (ninS ne477 nin0))
    have ne479 := (Nat.ne_of_lt (Nat.lt_of_lt_of_le V425.lt (Nat.le_of_eq g427.symm)))
    obtain ⟨cq480, kq480, q480a, q480b, q480c⟩ := isOf hZ rfl f466_1
    obtain ⟨_, _, ⟨T480, L480, k480, n480⟩, -, X480, ⟨Lc480, hQ480, l480, y480, z480⟩, st480⟩ := X466.virtualBack hx (y := oM0) (z := oM0) hown (mvT hZ (W 76 rfl)) (mvT hZ (W 77 rfl)) (notFace_of_selects (args := #[]) (mvT hZ (W 79 rfl))) (mvT hZ (W 79 rfl)) (mvT hZ (W 78 rfl)) (by decide) (backOf (W := 0) (rm_rqb0 l Z a0 hw [] _ _ xcs wu wc kc xr0 xr1 _ _ _ _ _ _ _ _ b59 T466.heap n0 zz466 f468 (hcs) f469 f470 f471 f473 f466_1 (g_b450) f466_2 f466_3 f466_5 f474 f476 ((own_mkQ (by decide) hle (by decide)).1) ((own_mkQ (by decide) hle (by decide)).2) f466_4 f466_7 f478 (ne479)) hZ (W 80 rfl) (W 53 rfl) (by decide) (by decide)) q480a q480c (g := (own_g pre467)) rfl (by rw [hml]; rfl) (Steps.refl _) (argsL := [(.ref b427)]) (rest := []) (lenOf pd20 rfl) rfl (by show 2 * 0 + _ ≤ _; exact Nat.le_of_eq rfl) (hb hby at_281) (fun _ _ => ⟨rfl, rfl, (by decide : 27 + 3 ≤ _), (by decide : 209 + 66 ≤ _)⟩)
    dsimp only [Pt.U, Pt.locs, Pt.cells, Pt.slots] at X480 l480 y480 z480 st480 hQ480
    subst y480 z480
    obtain ⟨kb_480, b480, rfl, M480, g_b480, zs480, kp480, f480_0⟩ := hQ480
    have sz_b480 : h0.size ≤ b480 := Nat.le_trans K466.1 zs480
    have hs480 : ∀ x ∈ [b450], Safe Z own_EL vm40 T466.heap x := (allS (Safe.exa (EL := own_EL) hZ.alike f466_1 (by decide) (by decide)) all0)
    have RC480 := CHr.trans RC466 (CHr.keep kp480 hs480 HC466)
    have HC480 := CHv.keep kp480 hs480 HC466
    have hk480 := Nat.le_trans hk466 kp480.1
    have K480 : Keep h0 T480.heap ([] : List Addr) := K466.trans kp480 (allS (P := fun x => x ∈ ([] : List Addr) ∨ h0.size ≤ x) (Or.inr sz_b450) all0)
    have zz480 : n0 ≤ T480.heap.size := Nat.le_trans Z0 K480.1
    have N480 : Fr n0 L480 := by rw [l480]; exact Fr.app N466 M480
    clear l480
    have X480 : Stand p l e _ _ m _ bw meth c T480 _ 30 275 := X480
    have pre481 : oP p e bw G T480 m 298 #[vJ xt, .second, vI xp, vI xq, vI xs, vR b2, vI jf, vI jv, vI jg, vI jh, vI 2, vI 1, vR b32, vR w1, vR b59, vR b322, vR b421, vR b427, vR b450, vR b466, vR b480] [] := by
     intro t k
     refine pre467 t (st480.trans ?_)
     refine XS.astore X480.here hx rfl (hb hby at_284) rfl rfl (l' := #[vJ xt, .second, vI xp, vI xq, vI xs, vR b2, vI jf, vI jv, vI jg, vI jh, vI 2, vI 1, vR b32, vR w1, vR b59, vR b322, vR b421, vR b427, vR b450, vR b466, vR b480]) rfl ?_
     refine XS.aload X480.here hx rfl (hb hby at_286) rfl rfl ?_
     refine XS.ifnullNo X480.here hx rfl (hb hby at_288) rfl ?_
     refine XS.aload X480.here hx rfl (hb hby at_291) rfl rfl ?_
     refine XS.ifnonnullYes X480.here hx rfl (pc0 := 293) (pc' := 298) rfl (hb hby at_293) rfl (by decide) (by decide) ?_
     exact k
    by_cases hc141 : jv = (0 : Int32)
    ·have el1 : own_enc lw1 = own_enc [own_b jf] := by rw [hlw1, if_pos hc141]; rfl
     rw [show jv = (0 : Int32) from hc141] at pre481
     have pre482 : oP p e bw G T480 m 314 #[vJ xt, .second, vI xp, vI xq, vI xs, vR b2, vI jf, vI 0, vI jg, vI jh, vI 2, vI 1, vR b32, vR w1, vR b59, vR b322, vR b421, vR b427, vR b450, vR b466, vR b480] [(.int jh), (.int jg), (.int jf), (.int 0), (.ref b2), (.int 1), (.int 2), (.ref b466)] := by
      intro t k
      refine pre481 t ?_
      refine XS.aload X480.here hx rfl (hb hby at_298) rfl rfl ?_
      refine XS.iload X480.here hx rfl (hb hby at_300) rfl ?_
      refine XS.iload X480.here hx rfl (hb hby at_302) rfl ?_
      refine XS.aload X480.here hx rfl (hb hby at_304) rfl rfl ?_
      refine XS.iload X480.here hx rfl (hb hby at_306) rfl ?_
      refine XS.iload X480.here hx rfl (hb hby at_308) rfl ?_
      refine XS.iload X480.here hx rfl (hb hby at_310) rfl ?_
      refine XS.iload X480.here hx rfl (hb hby at_312) rfl ?_
      exact k
     have ne483 := (Ne.symm (Nat.ne_of_lt (Nat.lt_of_lt_of_le f450_0.lt zs466)))
     have f484 := (f466_0.keep kp480 (ninS ne483 nin0))
     have ne485 := (Nat.ne_of_lt (Nat.lt_of_lt_of_le f356.lt (Nat.le_of_eq g421.symm)))
     have ne486 := (Nat.ne_of_lt (Nat.lt_of_lt_of_le (((f356.ext E421).other W425 ne485).ext E427).lt zs450))
     have f487 := ((((((f356.ext E421).other W425 ne485).ext E427).keep kp450 nin0).keep kp466 (ninS ne486 nin0)).keep kp480 (ninS ne486 nin0))
     obtain ⟨_, T488, Lc488, X488, hQ488, pc488⟩ := own_call X480 hx hZ hown (W 118 rfl) (W 119 rfl) (W 120 rfl) (W 121 rfl) (by decide) (rm_ck210 l Z a0 hw [] _ b2 jf jg jh _ _ _ k2 _ _ _ _ _ T480.heap n0 zz480 f484 (⟨by rw [el0, el1, el2]; exact own_ck21 _ _ _ _, (own_mkQ (by decide) hle hrs).1.hb, rfl, rfl⟩) f487 (own_okn rja) (own_okn rjb) (own_okn rjc) (own_okn rjd) (own_okn rje) (rjf) (rjg) (rjh)) rfl pre482 hml rfl (hb hby at_314) (lenOf pd35 rfl) rfl (W := 0) rfl (by decide)
     obtain ⟨rfl, M488, e488⟩ := hQ488
     have N488 := Fr.app N480 M488
     have X488 : Stand p l e _ _ m _ bw meth c T488 _ 30 275 := X488
     have pre489 : oP p e bw G T488 m 335 #[vJ xt, .second, vI xp, vI xq, vI xs, vR b2, vI jf, vI 0, vI jg, vI jh, vI 2, vI 1, vR b32, vR w1, vR b59, vR b322, vR b421, vR b427, vR b450, vR b466, vR b480] [(.int jh), (.int jg), (.int jf), (.int 0), (.ref b2), (.int 0), (.int 2), (.ref b480)] := by
      intro t k
      refine pc488 t ?_
      refine XS.ifNo X488.here hx rfl (hb hby at_317) rfl ((if0 _ _).trans (feq (show ¬ ((1 : Int32) = (0 : Int32)) from by decide)).1) ?_
      refine XS.aload X488.here hx rfl (hb hby at_320) rfl rfl ?_
      refine XS.iload X488.here hx rfl (hb hby at_322) rfl ?_
      refine XS.iconst X488.here hx rfl (hb hby at_324) ?_
      refine XS.aload X488.here hx rfl (hb hby at_325) rfl rfl ?_
      refine XS.iload X488.here hx rfl (hb hby at_327) rfl ?_
      refine XS.iload X488.here hx rfl (hb hby at_329) rfl ?_
      refine XS.iload X488.here hx rfl (hb hby at_331) rfl ?_
      refine XS.iload X488.here hx rfl (hb hby at_333) rfl ?_
      exact k
     obtain ⟨_, T490, Lc490, X490, hQ490, pc490⟩ := own_call X488 hx hZ hown (W 118 rfl) (W 119 rfl) (W 120 rfl) (W 121 rfl) (by decide) (rm_ck200 l Z a0 hw [] _ b2 jf jg jh _ _ _ k2 _ _ _ _ _ T480.heap n0 zz480 f480_0 (⟨by rw [el0, el1]; exact own_ck20 _ _ _, (own_mkQ (by decide) hle (by decide)).1.hb, rfl, rfl⟩) f487 (own_okn rja) (own_okn rjb) (own_okn rjc) (own_okn rjd) (own_okn rje) (rjf)) e488 pre489 hml rfl (hb hby at_335) (lenOf pd35 rfl) rfl (W := 0) rfl (by decide)
     obtain ⟨rfl, M490, e490⟩ := hQ490
     have N490 := Fr.app N488 M490
     have X490 : Stand p l e _ _ m _ bw meth c T490 _ 30 275 := X490
     have pre491 : oP p e bw G T490 m 346 #[vJ xt, .second, vI xp, vI xq, vI xs, vR b2, vI jf, vI 0, vI jg, vI jh, vI 2, vI 1, vR b32, vR w1, vR b59, vR b322, vR b421, vR b427, vR b450, vR b466, vR b480] [(.int 1)] := by
      intro t k
      refine pc490 t ?_
      refine XS.ifNo X490.here hx rfl (hb hby at_338) rfl ((if0 _ _).trans (feq (show ¬ ((1 : Int32) = (0 : Int32)) from by decide)).1) ?_
      refine XS.iconst X490.here hx rfl (hb hby at_341) ?_
      refine XS.goto X490.here hx rfl (pc0 := 342) (pc' := 346) rfl (hb hby at_342) (by decide) (by decide) ?_
      exact k
     obtain ⟨fs, hr, hrun, hended, hRW⟩ := X490.leaveW hS40 (Nat.le_trans hk480 (Nat.le_of_eq (congrArg Array.size (show _ = T480.heap from e490)).symm)) (v := some (.int 1)) (fun h => by rw [Bd.returns] at h; cases h)
     subst hG
     have RE := CHr.trans RC480 (CHv.at X490 hZ hEL HC480)
     refine ⟨_, _, pre491 _ ?_, hrun, hended, _, _, rfl, ?_, (by rw [hh]; show CHr Z own_EL s.vm h0 T490.vm T490.heap; rw [show T490.heap = T480.heap from e490]; exact RE), hRW.1, hRW.2.1, hRW.2.2.1, hRW.2.2.2.mono (by decide) (by decide)⟩
     ·exact retN X490 hx (t := .boolean) Bd.returns (by simp) (hb hby at_346) hr
     ·show Q_rm0 Z xt xp xq xs xcs wu wc kc xr0 xr1 h0 n0 _ T490.heap _
      rw [e490]
      exact ⟨rfl, N490⟩
    ·have el1 : own_enc lw1 = own_enc [] := by rw [hlw1, if_neg hc141]; rfl
     rw [show jv = (1 : Int32) from own_or rjv hc141] at pre481
     have pre492 : oP p e bw G T480 m 314 #[vJ xt, .second, vI xp, vI xq, vI xs, vR b2, vI jf, vI 1, vI jg, vI jh, vI 2, vI 1, vR b32, vR w1, vR b59, vR b322, vR b421, vR b427, vR b450, vR b466, vR b480] [(.int jh), (.int jg), (.int jf), (.int 1), (.ref b2), (.int 1), (.int 2), (.ref b466)] := by
      intro t k
      refine pre481 t ?_
      refine XS.aload X480.here hx rfl (hb hby at_298) rfl rfl ?_
      refine XS.iload X480.here hx rfl (hb hby at_300) rfl ?_
      refine XS.iload X480.here hx rfl (hb hby at_302) rfl ?_
      refine XS.aload X480.here hx rfl (hb hby at_304) rfl rfl ?_
      refine XS.iload X480.here hx rfl (hb hby at_306) rfl ?_
      refine XS.iload X480.here hx rfl (hb hby at_308) rfl ?_
      refine XS.iload X480.here hx rfl (hb hby at_310) rfl ?_
      refine XS.iload X480.here hx rfl (hb hby at_312) rfl ?_
      exact k
     have ne493 := (Ne.symm (Nat.ne_of_lt (Nat.lt_of_lt_of_le f450_0.lt zs466)))
     have f494 := (f466_0.keep kp480 (ninS ne493 nin0))
     have ne495 := (Nat.ne_of_lt (Nat.lt_of_lt_of_le f356.lt (Nat.le_of_eq g421.symm)))
     have ne496 := (Nat.ne_of_lt (Nat.lt_of_lt_of_le (((f356.ext E421).other W425 ne495).ext E427).lt zs450))
     have f497 := ((((((f356.ext E421).other W425 ne495).ext E427).keep kp450 nin0).keep kp466 (ninS ne496 nin0)).keep kp480 (ninS ne496 nin0))
     obtain ⟨_, T498, Lc498, X498, hQ498, pc498⟩ := own_call X480 hx hZ hown (W 118 rfl) (W 119 rfl) (W 120 rfl) (W 121 rfl) (by decide) (rm_ck211 l Z a0 hw [] _ b2 jf jg jh _ _ _ k2 _ _ _ _ _ T480.heap n0 zz480 f494 (⟨by rw [el0, el1, el2]; exact own_ck21 _ _ _ _, (own_mkQ (by decide) hle hrs).1.hb, rfl, rfl⟩) f497 (own_okn rja) (own_okn rjb) (own_okn rjc) (own_okn rjd) (own_okn rje) (rjg) (rjh)) rfl pre492 hml rfl (hb hby at_314) (lenOf pd35 rfl) rfl (W := 0) rfl (by decide)
     obtain ⟨rfl, M498, e498⟩ := hQ498
     have N498 := Fr.app N480 M498
     have X498 : Stand p l e _ _ m _ bw meth c T498 _ 30 275 := X498
     have pre499 : oP p e bw G T498 m 335 #[vJ xt, .second, vI xp, vI xq, vI xs, vR b2, vI jf, vI 1, vI jg, vI jh, vI 2, vI 1, vR b32, vR w1, vR b59, vR b322, vR b421, vR b427, vR b450, vR b466, vR b480] [(.int jh), (.int jg), (.int jf), (.int 1), (.ref b2), (.int 0), (.int 2), (.ref b480)] := by
      intro t k
      refine pc498 t ?_
      refine XS.ifNo X498.here hx rfl (hb hby at_317) rfl ((if0 _ _).trans (feq (show ¬ ((1 : Int32) = (0 : Int32)) from by decide)).1) ?_
      refine XS.aload X498.here hx rfl (hb hby at_320) rfl rfl ?_
      refine XS.iload X498.here hx rfl (hb hby at_322) rfl ?_
      refine XS.iconst X498.here hx rfl (hb hby at_324) ?_
      refine XS.aload X498.here hx rfl (hb hby at_325) rfl rfl ?_
      refine XS.iload X498.here hx rfl (hb hby at_327) rfl ?_
      refine XS.iload X498.here hx rfl (hb hby at_329) rfl ?_
      refine XS.iload X498.here hx rfl (hb hby at_331) rfl ?_
      refine XS.iload X498.here hx rfl (hb hby at_333) rfl ?_
      exact k
     obtain ⟨_, T500, Lc500, X500, hQ500, pc500⟩ := own_call X498 hx hZ hown (W 118 rfl) (W 119 rfl) (W 120 rfl) (W 121 rfl) (by decide) (rm_ck201 l Z a0 hw [] _ b2 jf jg jh _ _ _ k2 _ _ _ _ _ T480.heap n0 zz480 f480_0 (⟨by rw [el0, el1]; exact own_ck20 _ _ _, (own_mkQ (by decide) hle (by decide)).1.hb, rfl, rfl⟩) f497 (own_okn rja) (own_okn rjb) (own_okn rjc) (own_okn rjd) (own_okn rje)) e498 pre499 hml rfl (hb hby at_335) (lenOf pd35 rfl) rfl (W := 0) rfl (by decide)
     obtain ⟨rfl, M500, e500⟩ := hQ500
     have N500 := Fr.app N498 M500
     have X500 : Stand p l e _ _ m _ bw meth c T500 _ 30 275 := X500
     have pre501 : oP p e bw G T500 m 346 #[vJ xt, .second, vI xp, vI xq, vI xs, vR b2, vI jf, vI 1, vI jg, vI jh, vI 2, vI 1, vR b32, vR w1, vR b59, vR b322, vR b421, vR b427, vR b450, vR b466, vR b480] [(.int 1)] := by
      intro t k
      refine pc500 t ?_
      refine XS.ifNo X500.here hx rfl (hb hby at_338) rfl ((if0 _ _).trans (feq (show ¬ ((1 : Int32) = (0 : Int32)) from by decide)).1) ?_
      refine XS.iconst X500.here hx rfl (hb hby at_341) ?_
      refine XS.goto X500.here hx rfl (pc0 := 342) (pc' := 346) rfl (hb hby at_342) (by decide) (by decide) ?_
      exact k
     obtain ⟨fs, hr, hrun, hended, hRW⟩ := X500.leaveW hS40 (Nat.le_trans hk480 (Nat.le_of_eq (congrArg Array.size (show _ = T480.heap from e500)).symm)) (v := some (.int 1)) (fun h => by rw [Bd.returns] at h; cases h)
     subst hG
     have RE := CHr.trans RC480 (CHv.at X500 hZ hEL HC480)
     refine ⟨_, _, pre501 _ ?_, hrun, hended, _, _, rfl, ?_, (by rw [hh]; show CHr Z own_EL s.vm h0 T500.vm T500.heap; rw [show T500.heap = T480.heap from e500]; exact RE), hRW.1, hRW.2.1, hRW.2.2.1, hRW.2.2.2.mono (by decide) (by decide)⟩
     ·exact retN X500 hx (t := .boolean) Bd.returns (by simp) (hb hby at_346) hr
     ·show Q_rm0 Z xt xp xq xs xcs wu wc kc xr0 xr1 h0 n0 _ T500.heap _
      rw [e500]
      exact ⟨rfl, N500⟩
theorem own_eqref {args : Array Value} {s : State} {t u : Term} {x y : Addr} (h : (Cond.eq t u).value args s none s [] = some true) (ht : t.eval args s none [] s = some (.ref x)) (hu : u.eval args s none [] s = some (.ref y)) : x = y := by
 simp only [Cond.value, ht, hu] at h
 simpa using h
theorem own_crlf {args : Array Value} {s : State} {t : Term} {a : Addr} (hf : Fit s) (ev : t.eval args s none [] s = some (.ref a)) (h1 : (Cond.arrayOf t .byte).value args s none s [] = some true) (h2 : (Cond.eq (Term.length t) (Term.int (2 : Int32))).value args s none s [] = some true) :
  ∃ (k : ClassId) (x0 x1 : Int32), Arv s s.heap a k .byte (2 : Int32) [.int x0, .int x1] (.int 0) := by
 obtain ⟨c, A⟩ := Arr.start ev h1
 have ha : s.arrayAt? a = some c := Arr.fin (Vm.Alike.refl _) A
 obtain ⟨x, b, ex, eb, K1, K2⟩ := cmp_v (Or.inl h2)
 have q : c.slots.size < 2 ^ 31 := by
  by_cases q : c.slots.size < 2 ^ 31
  ·exact q
  ·simp [Term.eval, ev, ha, q] at ex
 have e2 : c.slots.size.toInt32 = 2 := gotT (Cond.eq_ints (len_f ev ha q) (Term.int_eval (2))) h2
 have hn : c.slots.size = 2 := by
  have h3 := len_toInt q
  rw [e2, show (2 : Int32).toInt = 2 from rfl] at h3
  omega
 obtain ⟨v0, g0, f0⟩ := elem_fit (j := 0) hf A (by rw [hn]; decide)
 obtain ⟨v1, g1, f1⟩ := elem_fit (j := 1) hf A (by rw [hn]; decide)
 obtain ⟨x0, rfl⟩ := fit_I f0 (Or.inr (Or.inr (Or.inl rfl)))
 obtain ⟨x1, rfl⟩ := fit_I f1 (Or.inr (Or.inr (Or.inl rfl)))
 exact ⟨c.cls, x0, x1, Arv.start hf A q e2 (by decide) rfl ⟨g0, g1, trivial⟩⟩
set_option maxRecDepth 65536 in
set_option maxHeartbeats 40000000 in
theorem comes_1 {Post : Tables → Env → Array Value → State → Outcome → State → Prop} (hpost : ∀ tb e args s v u, (limb_1_1.after args s (.returned v) u = true ∧ limb_1_2.after args s (.returned v) u = true ∧ True) → ReturnedEndW s (.returned v) u (Jvm.fieldLocs frame_1_writes args s ++ Jvm.arrayLocs frame_1_arrays args s ++ Jvm.staticLocs frame_1_statics s) 64 1408 → Post tb e args s (.returned v) u) :
  ArmFor flags0 classFile x code maxLocals ret World_1 tables_1 room_1 Calls_1 rest_1 Pre_1 Post := by
 intro l hfl _ _ p e ha hc hk s m args bw hf hA hF happ hP
 obtain ⟨hcalls, hrest, hpre⟩ := hP
 obtain ⟨-, -, -, hnamed, -, -, -, hat⟩ := (Spec.applies_iff hf).mp happ
 obtain ⟨hg, hn⟩ := and_e (Cond.before_iff.mp (show (Jvm.Cond.and given_1 narrow_1).before args s = true from hpre))
 obtain ⟨ga1, gb1⟩ := and_e hg
 obtain ⟨ga2, gb2⟩ := and_e gb1
 obtain ⟨ga3, gb3⟩ := and_e gb2
 obtain ⟨ga4, gb4⟩ := and_e gb3
 obtain ⟨w0, w1, w2, w3, rfl⟩ : ∃ w0 w1 w2 w3 : Value, args = #[w0, w1, w2, w3] := by
  have hs : args.size = 4 := by simpa [Cond.value, given_1] using ga1
  obtain ⟨L⟩ := args
  match L, hs with
  | [w0, w1, w2, w3], _ => exact ⟨w0, w1, w2, w3, rfl⟩
 have hw := fun d (hd : d ∈ tables_1) => atoms_spec (ws := Jvm.Cond.code x code maxLocals ret :: tables_1) hat d (List.mem_cons_of_mem _ hd)
 have hfit : Fit s := fun {y c} hc i hi => by
  obtain ⟨ha, rfl⟩ := Array.getElem?_eq_some_iff.mp hc
  have q := List.all_eq_true.mp ((Array.all_eq_true_iff_forall_mem.mp hF) _ (Array.getElem_mem ha)) i (List.mem_range.mpr hi)
  simpa [Array.getElem?_eq_getElem hi] using q
 have W := own_W hw
 obtain ⟨hsets, hown0⟩ := atoms_of _ (rest_1_c_eq ▸ (show rest_1_c.before _ s = true from hrest))
 have hr0 := Cond.before_iff.mp hown0
 obtain ⟨i0, ei0⟩ := isL_v ga2
 obtain rfl : w0 = (.long i0) := Option.some.inj ei0
 obtain ⟨i1, ei1⟩ := is_v ga3
 obtain rfl : w1 = (.int i1) := Option.some.inj ei1
 obtain ⟨i2, ei2⟩ := is_v ga4
 obtain rfl : w2 = (.int i2) := Option.some.inj ei2
 obtain ⟨i3, ei3⟩ := is_v gb4
 obtain rfl : w3 = (.int i3) := Option.some.inj ei3
 obtain ⟨na1, nb1⟩ := and_e hn
 obtain ⟨xcs, ecs⟩ := is_v (Cond.before_iff.mp (hsets _ (List.mem_of_getElem? (i := 1) rfl)))
 have SC : Sta s s.heap "java/lang/String" "COMPACT_STRINGS" "Z" (.int xcs) := Sta.start ecs (Or.inl (hsets _ (List.mem_of_getElem? (i := 0) rfl)))
 have hcs : ¬ (xcs = (0 : Int32)) := gotF (Cond.eq_ints ecs (Term.int_eval (0))) (not_v (Cond.before_iff.mp (hsets _ (List.mem_of_getElem? (i := 2) rfl))))
 obtain ⟨wu, ewu⟩ := exa_v (Cond.before_iff.mp (hsets _ (List.mem_of_getElem? (i := 14) rfl)))
 obtain ⟨wi, ewi⟩ := exa_v (Cond.before_iff.mp (hsets _ (List.mem_of_getElem? (i := 17) rfl)))
 obtain rfl : wu = wi := own_eqref (Cond.before_iff.mp (hsets _ (List.mem_of_getElem? (i := 13) rfl))) ewu ewi
 have SU := Sta.start ewu (Or.inl (hsets _ (List.mem_of_getElem? (i := 10) rfl)))
 have SI := Sta.start ewi (Or.inl (hsets _ (List.mem_of_getElem? (i := 12) rfl)))
 obtain ⟨wc, ewc⟩ := arr_v na1
 have SR := Sta.start ewc (Or.inr ⟨(W 49 rfl), (W 91 rfl)⟩)
 obtain ⟨kc, xr0, xr1, VR⟩ := own_crlf hfit ewc na1 nb1
 have HC : CHv s own_EL s.vm s.heap := CHv.start (EW.cons (W 197 rfl) (by decide) EW.nil) (fun p hp => hcalls.1 p hp) (hsets _ (List.mem_of_getElem? (i := 2) rfl)) (W 21 rfl) (W 4 rfl)
 obtain ⟨n, o, h1, h2, h3, _, L, rfl, ⟨rfl, N⟩, hCR, hq⟩ := rm0 l s _ hw tables_1 i0 i1 i2 i3 xcs wu wc kc xr0 xr1 s.heap s.heap.size (Nat.le_refl _) SC hcs SI SU SR VR p e ha hc hk s m _ bw hf ((Spec.applies_iff_loose hf).mp happ).1 ⟨rfl, State.Warmed39.refl s, rfl, HC⟩ trivial
 refine ⟨n, _, h1, h2, h3, hpost _ _ _ _ _ _ ⟨Cond.after_iff.mpr rfl, Cond.after_iff.mpr (eq_i res_at (Term.int_eval (1)) rfl), trivial⟩ ⟨hq.1, hq.2.1, hq.2.2.1, (hq.2.2.2.sift fun y hy => Or.inr (N y hy)).mono (by decide) (by decide)⟩⟩
theorem main_1_1 : Claimed_1_1 := comes_1 fun _ _ _ _ _ _ h hF => ⟨h.1, hF⟩
theorem main_1_2 : Claimed_1_2 := comes_1 fun _ _ _ _ _ _ h hF => ⟨h.2.1, hF⟩
end Jvm.Pilot.@@N@@
namespace Jvm.Pilot.@@N@@
open Jvm Jvm.ClassFile Sem Op Lib Jvm.Free Jvm.Stand Jvm.Pilot.@@N@@.Jvm.D
/-! MADE BY PROGRAM (witnessworld.py) out of the Statement's table words and the real class files: 32 classes; the members and pool entries that the words name. The judged class is class 1, her method 1. -/
namespace start1
open Jvm.ClassFile
def u (s : String) : CpInfo := .utf8 (stringToUtf16 s)
/-- a pool by its gaps: so many unusable entries, then the entry; so many at the end -/
def gap : Nat → List CpInfo → List CpInfo
  | 0, r => r
  | n + 1, r => .unusable :: gap n r
def poolList (es : List (Nat × CpInfo)) (last : Nat) : List CpInfo := es.foldr (fun e r => gap e.1 (e.2 :: r)) (gap last [])
def pool (es : List (Nat × CpInfo)) (last : Nat) : Array CpInfo := ⟨poolList es last⟩
def fileOf (pool : Array CpInfo) (this : Nat) (attrs : Array Attribute := #[]) (ms : Array MethodInfo := #[]) (fl : Nat := 33) (sup : Nat := 0) (ifs : Array Nat := #[]) (fds : Array FieldInfo := #[]) : ClassFile where
  minorVersion := 0
  majorVersion := 65
  constantPool := pool
  accessFlags := fl
  thisClass := this
  superClass := sup
  interfaces := ifs
  fields := fds
  methods := ms
  attributes := attrs
def plain (name : String) (sup : Option ClassId) : Class where
  name := name
  kind := .ordinary
  loader := none
  accessFlags := 33
  super := sup
  interfaces := #[]
  cf := none
  fields := #[]
  methods := #[]
  instanceTypes := #[]
  staticTypes := #[]
  resolved := #[]
  callSites := []
  init := .initialized
  statics := none
  mirror := none

def pool0 : Array CpInfo := pool [(5, u "<init>"), (0, u "()V"), (1, .class_ 10), (1, u "java/lang/Object"), (85, u "clone"), (0, u "()Ljava/lang/Object;")] 26

def k0c0 : Code := { maxStack := 0, maxLocals := 1, code := object_method_1_code, exceptionTable := #[], attributes := #[] }
def k0m0 : Method := { name := "<init>", desc := "()V", sig := { parameters := [], returnType := none }, accessFlags := 1, code := some k0c0 }
def k0m1 : Method := { name := "clone", desc := "()Ljava/lang/Object;", sig := { parameters := [], returnType := some (.object "java/lang/Object") }, accessFlags := 260, code := none }
/-- java/lang/Object -/
def k0 : Class := { plain "java/lang/Object" none with
  accessFlags := 33
  interfaces := #[]
  cf := some (fileOf pool0 8 #[] #[{ accessFlags := 1, nameIndex := 5, descriptorIndex := 6, attributes := #[] }, { accessFlags := 260, nameIndex := 96, descriptorIndex := 97, attributes := #[] }] 33 0 #[] #[])
  fields := #[]
  methods := #[k0m0, k0m1]
  instanceTypes := #[]
  staticTypes := #[]
  resolved := Array.replicate 124 none
  statics := none }

def pool1 : Array CpInfo := pool [(2, .class_ 4), (1, u "java/lang/Object"), (0, u "<init>"), (0, u "()V"), (0, .long 255), (1, .integer 2147483647), (0, .class_ 11), (0, u "java/lang/String"), (0, .methodref 10 13), (0, .nameAndType 5 14), (0, u "([C)V"), (0, .methodref 10 16), (0, .nameAndType 17 18), (0, u "valueOf"), (0, u "(C)Ljava/lang/String;"), (0, .methodref 20 21), (0, .class_ 22), (0, .nameAndType 23 24), (0, u "com/example/quorum_lease/quorumlease/redis/Resp"), (0, u "head"), (0, u "([Ljava/lang/String;)Lcom/example/quorum_lease/quorumlease/redis/Resp$Head;"), (0, .methodref 26 27), (0, .class_ 28), (0, .nameAndType 29 30), (0, u "com/example/quorum_lease/quorumlease/redis/Resp$Head"), (0, u "request"), (0, u "([Ljava/lang/String;)[B"), (0, .methodref 32 33), (0, .class_ 34), (0, .nameAndType 35 36), (0, u "com/example/quorum_lease/quorumlease/redis/RespHeadPinLaw"), (0, u "check"), (0, u "([BII[CZCCC)Z"), (0, .methodref 32 38), (0, .nameAndType 39 40), (0, u "header"), (0, u "([BIII)I"), (0, .methodref 32 42), (0, .nameAndType 43 44), (0, u "word5"), (0, u "([BI[C)I"), (0, .methodref 32 46), (0, .nameAndType 47 48), (0, u "word1"), (0, u "([BIZC)I"), (0, .methodref 32 50), (0, .nameAndType 51 52), (0, u "word2"), (0, u "([BICC)I"), (0, .methodref 32 54), (0, .nameAndType 55 56), (0, u "len"), (0, u "(C)I"), (0, .methodref 32 58), (0, .nameAndType 59 60), (0, u "ch"), (0, u "([BIC)I"), (0, .methodref 32 62), (0, .nameAndType 63 64), (0, u "crlf"), (0, u "([BI)I"), (2, u "law"), (0, u "(JIII)Z")] 11

def k1m0 : Method := { name := "<init>", desc := "()V", sig := { parameters := [], returnType := none }, accessFlags := 2, code := none }
def k1c1 : Code := { maxStack := 8, maxLocals := 21, code := code, exceptionTable := #[], attributes := #[] }
def k1m1 : Method := { name := "law", desc := "(JIII)Z", sig := { parameters := [.long, .int, .int, .int], returnType := some .boolean }, accessFlags := 9, code := some k1c1 }
def k1c2 : Code := { maxStack := 5, maxLocals := 9, code := method_3_code, exceptionTable := #[], attributes := #[] }
def k1m2 : Method := { name := "check", desc := "([BII[CZCCC)Z", sig := { parameters := [(.array .byte), .int, .int, (.array .char), .boolean, .char, .char, .char], returnType := some .boolean }, accessFlags := 10, code := some k1c2 }
def k1c3 : Code := { maxStack := 2, maxLocals := 1, code := method_4_code, exceptionTable := #[], attributes := #[] }
def k1m3 : Method := { name := "len", desc := "(C)I", sig := { parameters := [.char], returnType := some .int }, accessFlags := 10, code := some k1c3 }
def k1c4 : Code := { maxStack := 4, maxLocals := 5, code := method_5_code, exceptionTable := #[], attributes := #[] }
def k1m4 : Method := { name := "word5", desc := "([BI[C)I", sig := { parameters := [(.array .byte), .int, (.array .char)], returnType := some .int }, accessFlags := 10, code := some k1c4 }
def k1c5 : Code := { maxStack := 4, maxLocals := 5, code := method_6_code, exceptionTable := #[], attributes := #[] }
def k1m5 : Method := { name := "word1", desc := "([BIZC)I", sig := { parameters := [(.array .byte), .int, .boolean, .char], returnType := some .int }, accessFlags := 10, code := some k1c5 }
def k1c6 : Code := { maxStack := 5, maxLocals := 5, code := method_7_code, exceptionTable := #[], attributes := #[] }
def k1m6 : Method := { name := "word2", desc := "([BICC)I", sig := { parameters := [(.array .byte), .int, .char, .char], returnType := some .int }, accessFlags := 10, code := some k1c6 }
def k1c7 : Code := { maxStack := 4, maxLocals := 5, code := method_8_code, exceptionTable := #[], attributes := #[] }
def k1m7 : Method := { name := "header", desc := "([BIII)I", sig := { parameters := [(.array .byte), .int, .int, .int], returnType := some .int }, accessFlags := 10, code := some k1c7 }
def k1c8 : Code := { maxStack := 4, maxLocals := 3, code := method_9_code, exceptionTable := #[], attributes := #[] }
def k1m8 : Method := { name := "ch", desc := "([BIC)I", sig := { parameters := [(.array .byte), .int, .char], returnType := some .int }, accessFlags := 10, code := some k1c8 }
def k1c9 : Code := { maxStack := 3, maxLocals := 2, code := method_10_code, exceptionTable := #[], attributes := #[] }
def k1m9 : Method := { name := "crlf", desc := "([BI)I", sig := { parameters := [(.array .byte), .int], returnType := some .int }, accessFlags := 10, code := some k1c9 }
/-- com/example/quorum_lease/quorumlease/redis/RespHeadPinLaw -/
def k1 : Class := { plain "com/example/quorum_lease/quorumlease/redis/RespHeadPinLaw" (some 0) with
  accessFlags := 49
  interfaces := #[]
  cf := some (fileOf pool1 32 #[] #[{ accessFlags := 2, nameIndex := 5, descriptorIndex := 6, attributes := #[] }, { accessFlags := 9, nameIndex := 67, descriptorIndex := 68, attributes := #[] }, { accessFlags := 10, nameIndex := 35, descriptorIndex := 36, attributes := #[] }, { accessFlags := 10, nameIndex := 55, descriptorIndex := 56, attributes := #[] }, { accessFlags := 10, nameIndex := 43, descriptorIndex := 44, attributes := #[] }, { accessFlags := 10, nameIndex := 47, descriptorIndex := 48, attributes := #[] }, { accessFlags := 10, nameIndex := 51, descriptorIndex := 52, attributes := #[] }, { accessFlags := 10, nameIndex := 39, descriptorIndex := 40, attributes := #[] }, { accessFlags := 10, nameIndex := 59, descriptorIndex := 60, attributes := #[] }, { accessFlags := 10, nameIndex := 63, descriptorIndex := 64, attributes := #[] }] 49 2 #[] #[])
  fields := #[]
  methods := #[k1m0, k1m1, k1m2, k1m3, k1m4, k1m5, k1m6, k1m7, k1m8, k1m9]
  instanceTypes := #[]
  staticTypes := #[]
  resolved := Array.replicate 80 none
  statics := none }

def pool2 : Array CpInfo := pool [(1, .class_ 2), (0, u "java/io/Serializable"), (0, .class_ 4), (0, u "java/lang/Object")] 2

/-- java/io/Serializable -/
def k2 : Class := { plain "java/io/Serializable" (some 0) with
  accessFlags := 1537
  interfaces := #[]
  cf := some (fileOf pool2 1 #[] #[] 1537 3 #[] #[])
  fields := #[]
  methods := #[]
  instanceTypes := #[]
  staticTypes := #[]
  resolved := Array.replicate 7 none
  statics := none }

def pool3 : Array CpInfo := pool [(1, .class_ 2), (0, u "java/lang/Comparable"), (0, .class_ 4), (0, u "java/lang/Object")] 7

/-- java/lang/Comparable -/
def k3 : Class := { plain "java/lang/Comparable" (some 0) with
  accessFlags := 1537
  interfaces := #[]
  cf := some (fileOf pool3 1 #[] #[] 1537 3 #[] #[])
  fields := #[]
  methods := #[]
  instanceTypes := #[]
  staticTypes := #[]
  resolved := Array.replicate 12 none
  statics := none }

def pool4 : Array CpInfo := pool [(2, .class_ 4), (1, u "java/lang/CharSequence"), (42, .class_ 48), (0, u "java/lang/CharSequence$1CodePointIterator"), (10, .class_ 60), (0, u "java/lang/CharSequence$1CharIterator"), (5, .class_ 67), (0, u "java/lang/Object")] 63

/-- java/lang/CharSequence -/
def k4 : Class := { plain "java/lang/CharSequence" (some 0) with
  accessFlags := 1537
  interfaces := #[]
  cf := some (fileOf pool4 2 #[.nestMembers #[47, 59]] #[] 1537 66 #[] #[])
  fields := #[]
  methods := #[]
  instanceTypes := #[]
  staticTypes := #[]
  resolved := Array.replicate 131 none
  statics := none }

def pool5 : Array CpInfo := pool [(1, .class_ 2), (0, u "java/lang/constant/Constable"), (0, .class_ 4), (0, u "java/lang/Object")] 6

/-- java/lang/constant/Constable -/
def k5 : Class := { plain "java/lang/constant/Constable" (some 0) with
  accessFlags := 1537
  interfaces := #[]
  cf := some (fileOf pool5 1 #[] #[] 1537 3 #[] #[])
  fields := #[]
  methods := #[]
  instanceTypes := #[]
  staticTypes := #[]
  resolved := Array.replicate 11 none
  statics := none }

def pool6 : Array CpInfo := pool [(1, .class_ 2), (0, u "java/lang/constant/ConstantDesc"), (0, .class_ 4), (0, u "java/lang/Object")] 32

/-- java/lang/constant/ConstantDesc -/
def k6 : Class := { plain "java/lang/constant/ConstantDesc" (some 0) with
  accessFlags := 1537
  interfaces := #[]
  cf := some (fileOf pool6 1 #[] #[] 1537 3 #[] #[])
  fields := #[]
  methods := #[]
  instanceTypes := #[]
  staticTypes := #[]
  resolved := Array.replicate 37 none
  statics := none }

def pool7 : Array CpInfo := pool [(1, .methodref 2 3), (0, .class_ 4), (0, .nameAndType 5 6), (0, u "java/lang/Object"), (0, u "<init>"), (0, u "()V"), (0, .string 8), (0, u ""), (0, .fieldref 10 11), (0, .class_ 12), (0, .nameAndType 13 14), (0, u "java/lang/String"), (0, u "value"), (0, u "[B"), (0, .fieldref 10 16), (0, .nameAndType 17 18), (0, u "coder"), (0, u "B"), (2, u "hash"), (0, u "I"), (2, u "hashIsZero"), (0, u "Z"), (0, .methodref 10 28), (0, .nameAndType 5 29), (0, u "([CIILjava/lang/Void;)V"), (8, .fieldref 10 39), (0, .nameAndType 40 26), (0, u "COMPACT_STRINGS"), (1, .class_ 44), (1, u "java/lang/StringUTF16"), (0, u "compress"), (1, .methodref 42 48), (0, .nameAndType 49 50), (0, u "coderFromArrayLen"), (0, u "([BI)B"), (2, u "toBytes"), (1, .class_ 57), (1, u "java/util/Arrays"), (2, .methodref 42 61), (0, .nameAndType 62 63), (0, u "newBytesFor"), (0, u "(I)[B"), (22, .fieldref 87 88), (0, .class_ 89), (0, .nameAndType 90 91), (0, u "sun/nio/cs/UTF_8"), (0, u "INSTANCE"), (0, u "Lsun/nio/cs/UTF_8;"), (1, .class_ 95), (1, u "java/lang/StringCoding"), (6, .methodref 55 103), (0, .nameAndType 104 105), (0, u "copyOf"), (0, u "([BI)[B"), (1, .class_ 109), (1, u "java/lang/StringLatin1"), (18, .methodref 93 129), (0, .nameAndType 130 131), (0, u "hasNegatives"), (0, u "([BII)Z"), (45, .methodref 42 178), (0, .nameAndType 45 179), (0, u "([CII)[B"), (29, .methodref 10 210), (0, .nameAndType 5 211), (0, u "([BB)V"), (40, .methodref 10 253), (0, .nameAndType 254 255), (0, u "encodeUTF8"), (0, u "(B[BZ)[B"), (23, .methodref 280 281), (0, .class_ 14), (0, .nameAndType 282 283), (0, u "clone"), (0, u "()Ljava/lang/Object;"), (33, u "encode"), (17, .methodref 10 336), (0, .nameAndType 17 337), (0, u "()B"), (31, u "(C)Z"), (162, u "getBytes"), (2, .methodref 10 536), (0, .nameAndType 317 537), (0, u "(Ljava/nio/charset/Charset;B[B)[B"), (37, .class_ 576), (0, u "java/lang/CharSequence"), (22, u "CASE_INSENSITIVE_ORDER"), (0, u "Ljava/util/Comparator;"), (181, u "valueOf"), (0, u "(C)Ljava/lang/String;"), (226, u "([C)V"), (4, .methodref 107 1016), (0, .nameAndType 1017 369), (0, u "canEncode"), (0, .methodref 107 1019), (0, .nameAndType 53 1020), (0, u "(C)[B"), (80, u "serialPersistentFields"), (0, u "[Ljava/io/ObjectStreamField;"), (0, .class_ 1104), (0, u "java/lang/String$CaseInsensitiveComparator"), (1, .class_ 1107), (0, u "java/io/Serializable"), (0, .class_ 1109), (0, u "java/lang/Comparable"), (0, .class_ 1111), (0, u "java/lang/constant/Constable"), (0, .class_ 1113), (0, u "java/lang/constant/ConstantDesc"), (2, u "serialVersionUID"), (0, u "J"), (3, u "REPL"), (0, u "C"), (2, u "LATIN1"), (1, u "UTF16"), (117, u "(Ljava/nio/charset/Charset;)[B")] 205

def k7m0 : Method := { name := "<init>", desc := "()V", sig := { parameters := [], returnType := none }, accessFlags := 1, code := none }
def k7c1 : Code := { maxStack := 5, maxLocals := 2, code := jdk_42_method_3_code, exceptionTable := #[], attributes := #[] }
def k7m1 : Method := { name := "<init>", desc := "([C)V", sig := { parameters := [(.array .char)], returnType := none }, accessFlags := 1, code := some k7c1 }
def k7c2 : Code := { maxStack := 4, maxLocals := 3, code := jdk_42_method_18_code, exceptionTable := #[], attributes := #[] }
def k7m2 : Method := { name := "encode", desc := "(Ljava/nio/charset/Charset;B[B)[B", sig := { parameters := [(.object "java/nio/charset/Charset"), .byte, (.array .byte)], returnType := some (.array .byte) }, accessFlags := 10, code := some k7c2 }
def k7c3 : Code := { maxStack := 5, maxLocals := 9, code := jdk_42_method_46_code, exceptionTable := #[], attributes := #[] }
def k7m3 : Method := { name := "encodeUTF8", desc := "(B[BZ)[B", sig := { parameters := [.byte, (.array .byte), .boolean], returnType := some (.array .byte) }, accessFlags := 10, code := some k7c3 }
def k7c4 : Code := { maxStack := 3, maxLocals := 2, code := jdk_42_method_64_code, exceptionTable := #[], attributes := #[] }
def k7m4 : Method := { name := "getBytes", desc := "(Ljava/nio/charset/Charset;)[B", sig := { parameters := [(.object "java/nio/charset/Charset")], returnType := some (.array .byte) }, accessFlags := 1, code := some k7c4 }
def k7c5 : Code := { maxStack := 4, maxLocals := 1, code := jdk_42_method_139_code, exceptionTable := #[], attributes := #[] }
def k7m5 : Method := { name := "valueOf", desc := "(C)Ljava/lang/String;", sig := { parameters := [.char], returnType := some (.object "java/lang/String") }, accessFlags := 9, code := some k7c5 }
def k7c6 : Code := { maxStack := 4, maxLocals := 6, code := jdk_42_method_149_code, exceptionTable := #[], attributes := #[] }
def k7m6 : Method := { name := "<init>", desc := "([CIILjava/lang/Void;)V", sig := { parameters := [(.array .char), .int, .int, (.object "java/lang/Void")], returnType := none }, accessFlags := 2, code := some k7c6 }
def k7c7 : Code := { maxStack := 2, maxLocals := 3, code := jdk_42_method_151_code, exceptionTable := #[], attributes := #[] }
def k7m7 : Method := { name := "<init>", desc := "([BB)V", sig := { parameters := [(.array .byte), .byte], returnType := none }, accessFlags := 0, code := some k7c7 }
def k7c8 : Code := { maxStack := 1, maxLocals := 1, code := jdk_42_method_152_code, exceptionTable := #[], attributes := #[] }
def k7m8 : Method := { name := "coder", desc := "()B", sig := { parameters := [], returnType := some .byte }, accessFlags := 0, code := some k7c8 }
/-- java/lang/String -/
def k7 : Class := { plain "java/lang/String" (some 0) with
  accessFlags := 49
  interfaces := #[2, 3, 4, 5, 6]
  cf := some (fileOf pool7 10 #[.nestMembers #[1103]] #[{ accessFlags := 1, nameIndex := 5, descriptorIndex := 6, attributes := #[] }, { accessFlags := 1, nameIndex := 5, descriptorIndex := 1010, attributes := #[] }, { accessFlags := 10, nameIndex := 317, descriptorIndex := 537, attributes := #[] }, { accessFlags := 10, nameIndex := 254, descriptorIndex := 255, attributes := #[] }, { accessFlags := 1, nameIndex := 532, descriptorIndex := 1245, attributes := #[] }, { accessFlags := 9, nameIndex := 782, descriptorIndex := 783, attributes := #[] }, { accessFlags := 2, nameIndex := 5, descriptorIndex := 29, attributes := #[] }, { accessFlags := 0, nameIndex := 5, descriptorIndex := 211, attributes := #[] }, { accessFlags := 0, nameIndex := 17, descriptorIndex := 337, attributes := #[] }] 49 2 #[1106, 1108, 575, 1110, 1112] #[{ accessFlags := 18, nameIndex := 13, descriptorIndex := 14, attributes := #[] }, { accessFlags := 18, nameIndex := 17, descriptorIndex := 18, attributes := #[] }, { accessFlags := 2, nameIndex := 21, descriptorIndex := 22, attributes := #[] }, { accessFlags := 2, nameIndex := 25, descriptorIndex := 26, attributes := #[] }, { accessFlags := 26, nameIndex := 1116, descriptorIndex := 1117, attributes := #[] }, { accessFlags := 24, nameIndex := 40, descriptorIndex := 26, attributes := #[] }, { accessFlags := 26, nameIndex := 1101, descriptorIndex := 1102, attributes := #[] }, { accessFlags := 26, nameIndex := 1121, descriptorIndex := 1122, attributes := #[] }, { accessFlags := 25, nameIndex := 599, descriptorIndex := 600, attributes := #[] }, { accessFlags := 24, nameIndex := 1125, descriptorIndex := 18, attributes := #[] }, { accessFlags := 24, nameIndex := 1127, descriptorIndex := 18, attributes := #[] }])
  fields := #[{ name := "value", type := (.array .byte), accessFlags := 18, slot := 0, constantValue := 0 }, { name := "coder", type := .byte, accessFlags := 18, slot := 1, constantValue := 0 }, { name := "hash", type := .int, accessFlags := 2, slot := 2, constantValue := 0 }, { name := "hashIsZero", type := .boolean, accessFlags := 2, slot := 3, constantValue := 0 }, { name := "serialVersionUID", type := .long, accessFlags := 26, slot := 0, constantValue := 0 }, { name := "COMPACT_STRINGS", type := .boolean, accessFlags := 24, slot := 1, constantValue := 0 }, { name := "serialPersistentFields", type := (.array (.object "java/io/ObjectStreamField")), accessFlags := 26, slot := 2, constantValue := 0 }, { name := "REPL", type := .char, accessFlags := 26, slot := 3, constantValue := 0 }, { name := "CASE_INSENSITIVE_ORDER", type := (.object "java/util/Comparator"), accessFlags := 25, slot := 4, constantValue := 0 }, { name := "LATIN1", type := .byte, accessFlags := 24, slot := 5, constantValue := 0 }, { name := "UTF16", type := .byte, accessFlags := 24, slot := 6, constantValue := 0 }]
  methods := #[k7m0, k7m1, k7m2, k7m3, k7m4, k7m5, k7m6, k7m7, k7m8]
  instanceTypes := #[(.array .byte), .byte, .int, .boolean]
  staticTypes := #[.long, .boolean, (.array (.object "java/io/ObjectStreamField")), .char, (.object "java/util/Comparator"), .byte, .byte]
  resolved := Array.replicate 1451 none
  statics := some 0 }

def pool8 : Array CpInfo := pool [(6, .class_ 8), (1, u "java/lang/Object"), (0, u "<init>"), (0, u "()V"), (0, .methodref 12 13), (0, .class_ 14), (0, .nameAndType 15 16), (0, u "java/lang/StringUTF16"), (0, u "newBytesLength"), (0, u "(I)I"), (3, .integer 1073741823), (25, u "$assertionsDisabled"), (0, u "Z"), (13, u "HI_BYTE_SHIFT"), (0, u "I"), (2, u "LO_BYTE_SHIFT"), (43, u "newBytesFor"), (0, u "(I)[B"), (4, .methodref 12 116), (0, .nameAndType 117 118), (0, u "compress"), (0, u "([CI[BII)I"), (3, u "([CII)[B"), (138, u "coderFromArrayLen"), (0, u "([BI)B"), (106, .class_ 371), (1, u "java/lang/StringUTF16$LinesSpliterator"), (58, u "MAX_LENGTH"), (196, .class_ 628), (0, u "java/lang/StringUTF16$CodePointsSpliterator"), (0, .class_ 630), (0, u "java/lang/StringUTF16$CharsSpliterator")] 4

def k8m0 : Method := { name := "<init>", desc := "()V", sig := { parameters := [], returnType := none }, accessFlags := 0, code := none }
def k8c1 : Code := { maxStack := 1, maxLocals := 1, code := jdk_52_method_2_code, exceptionTable := #[], attributes := #[] }
def k8m1 : Method := { name := "newBytesFor", desc := "(I)[B", sig := { parameters := [.int], returnType := some (.array .byte) }, accessFlags := 9, code := some k8c1 }
def k8c2 : Code := { maxStack := 4, maxLocals := 1, code := jdk_52_method_3_code, exceptionTable := #[], attributes := #[] }
def k8m2 : Method := { name := "newBytesLength", desc := "(I)I", sig := { parameters := [.int], returnType := some .int }, accessFlags := 9, code := some k8c2 }
def k8c3 : Code := { maxStack := 2, maxLocals := 2, code := jdk_52_method_15_code, exceptionTable := #[], attributes := #[] }
def k8m3 : Method := { name := "coderFromArrayLen", desc := "([BI)B", sig := { parameters := [(.array .byte), .int], returnType := some .byte }, accessFlags := 8, code := some k8c3 }
def k8c4 : Code := { maxStack := 5, maxLocals := 6, code := jdk_52_method_16_code, exceptionTable := #[], attributes := #[] }
def k8m4 : Method := { name := "compress", desc := "([CII)[B", sig := { parameters := [(.array .char), .int, .int], returnType := some (.array .byte) }, accessFlags := 9, code := some k8c4 }
def k8c5 : Code := { maxStack := 3, maxLocals := 7, code := jdk_52_method_21_code, exceptionTable := #[], attributes := #[] }
def k8m5 : Method := { name := "compress", desc := "([CI[BII)I", sig := { parameters := [(.array .char), .int, (.array .byte), .int, .int], returnType := some .int }, accessFlags := 9, code := some k8c5 }
/-- java/lang/StringUTF16 -/
def k8 : Class := { plain "java/lang/StringUTF16" (some 0) with
  accessFlags := 48
  interfaces := #[]
  cf := some (fileOf pool8 12 #[.nestMembers #[627, 629, 369]] #[{ accessFlags := 0, nameIndex := 9, descriptorIndex := 10, attributes := #[] }, { accessFlags := 9, nameIndex := 109, descriptorIndex := 110, attributes := #[] }, { accessFlags := 9, nameIndex := 15, descriptorIndex := 16, attributes := #[] }, { accessFlags := 8, nameIndex := 261, descriptorIndex := 262, attributes := #[] }, { accessFlags := 9, nameIndex := 117, descriptorIndex := 122, attributes := #[] }, { accessFlags := 9, nameIndex := 117, descriptorIndex := 118, attributes := #[] }] 48 6 #[] #[{ accessFlags := 26, nameIndex := 61, descriptorIndex := 62, attributes := #[] }, { accessFlags := 26, nameIndex := 65, descriptorIndex := 62, attributes := #[] }, { accessFlags := 24, nameIndex := 430, descriptorIndex := 62, attributes := #[] }, { accessFlags := 4120, nameIndex := 46, descriptorIndex := 47, attributes := #[] }])
  fields := #[{ name := "HI_BYTE_SHIFT", type := .int, accessFlags := 26, slot := 0, constantValue := 0 }, { name := "LO_BYTE_SHIFT", type := .int, accessFlags := 26, slot := 1, constantValue := 0 }, { name := "MAX_LENGTH", type := .int, accessFlags := 24, slot := 2, constantValue := 0 }, { name := "$assertionsDisabled", type := .boolean, accessFlags := 4120, slot := 3, constantValue := 0 }]
  methods := #[k8m0, k8m1, k8m2, k8m3, k8m4, k8m5]
  instanceTypes := #[]
  staticTypes := #[.int, .int, .int, .boolean]
  resolved := Array.replicate 635 none
  statics := none }

def pool9 : Array CpInfo := pool [(4, .class_ 6), (1, u "java/lang/Object"), (0, u "<init>"), (0, u "()V"), (5, .class_ 16), (1, u "java/lang/StringLatin1"), (73, u "canEncode"), (14, u "(C)Z"), (15, u "$assertionsDisabled"), (0, u "Z"), (98, .class_ 223), (1, u "java/lang/StringLatin1$LinesSpliterator"), (156, u "toBytes"), (1, u "(C)[B"), (7, .class_ 391), (0, u "java/lang/StringLatin1$CharsSpliterator")] 3

def k9m0 : Method := { name := "<init>", desc := "()V", sig := { parameters := [], returnType := none }, accessFlags := 0, code := none }
def k9c1 : Code := { maxStack := 2, maxLocals := 1, code := jdk_43_method_3_code, exceptionTable := #[], attributes := #[] }
def k9m1 : Method := { name := "canEncode", desc := "(C)Z", sig := { parameters := [.char], returnType := some .boolean }, accessFlags := 9, code := some k9c1 }
def k9c2 : Code := { maxStack := 4, maxLocals := 1, code := jdk_43_method_46_code, exceptionTable := #[], attributes := #[] }
def k9m2 : Method := { name := "toBytes", desc := "(C)[B", sig := { parameters := [.char], returnType := some (.array .byte) }, accessFlags := 9, code := some k9c2 }
/-- java/lang/StringLatin1 -/
def k9 : Class := { plain "java/lang/StringLatin1" (some 0) with
  accessFlags := 48
  interfaces := #[]
  cf := some (fileOf pool9 14 #[.nestMembers #[390, 221]] #[{ accessFlags := 0, nameIndex := 7, descriptorIndex := 8, attributes := #[] }, { accessFlags := 9, nameIndex := 90, descriptorIndex := 105, attributes := #[] }, { accessFlags := 9, nameIndex := 380, descriptorIndex := 382, attributes := #[] }] 48 4 #[] #[{ accessFlags := 4120, nameIndex := 121, descriptorIndex := 122, attributes := #[] }])
  fields := #[{ name := "$assertionsDisabled", type := .boolean, accessFlags := 4120, slot := 0, constantValue := 0 }]
  methods := #[k9m0, k9m1, k9m2]
  instanceTypes := #[]
  staticTypes := #[.boolean]
  resolved := Array.replicate 395 none
  statics := none }

def pool10 : Array CpInfo := pool [(2, .class_ 4), (1, u "java/lang/Object"), (0, u "<init>"), (0, u "()V"), (1, .class_ 10), (1, u "com/example/quorum_lease/quorumlease/redis/Resp"), (0, u "head"), (0, u "([Ljava/lang/String;)Lcom/example/quorum_lease/quorumlease/redis/Resp$Head;"), (0, .class_ 14), (0, u "java/lang/String"), (1, .class_ 18), (1, u "com/example/quorum_lease/quorumlease/redis/Resp$Head"), (1, u "([Ljava/lang/String;)[B"), (0, .methodref 8 22), (0, .nameAndType 23 20), (0, u "bulkStrings"), (0, .methodref 16 25), (0, .nameAndType 5 26), (0, u "(I[B)V"), (12, u "INCOMPLETE"), (0, u "Ljava/lang/Object;"), (7, .fieldref 8 49), (0, .nameAndType 50 51), (0, u "CRLF"), (0, u "[B"), (65, .fieldref 118 119), (0, .class_ 120), (0, .nameAndType 121 122), (0, u "java/nio/charset/StandardCharsets"), (0, u "UTF_8"), (0, u "Ljava/nio/charset/Charset;"), (26, .methodref 8 150), (0, .nameAndType 151 152), (0, u "utf8"), (0, u "([Ljava/lang/String;)[[B"), (0, .methodref 8 154), (0, .nameAndType 155 156), (0, u "bulkStringsLength"), (0, u "([[B)I"), (0, .methodref 8 158), (0, .nameAndType 159 160), (0, u "putBulkStrings"), (0, u "([BI[[B)V"), (0, .class_ 51), (0, .methodref 13 163), (0, .nameAndType 164 165), (0, u "getBytes"), (0, u "(Ljava/nio/charset/Charset;)[B"), (0, .methodref 8 167), (0, .nameAndType 168 169), (0, u "headerLength"), (0, u "(I)I"), (0, .methodref 8 171), (0, .nameAndType 172 173), (0, u "putHeader"), (0, u "([BICI)I"), (0, .methodref 175 176), (0, .class_ 177), (0, .nameAndType 178 179), (0, u "java/lang/System"), (0, u "arraycopy"), (0, u "(Ljava/lang/Object;ILjava/lang/Object;II)V"), (0, .methodref 8 181), (0, .nameAndType 182 169), (0, u "digits"), (11, .class_ 195), (0, u "com/example/quorum_lease/quorumlease/redis/Resp$Built")] 23

def k10m0 : Method := { name := "<init>", desc := "()V", sig := { parameters := [], returnType := none }, accessFlags := 2, code := none }
def k10c1 : Code := { maxStack := 4, maxLocals := 1, code := prog_10_method_3_code, exceptionTable := #[], attributes := #[] }
def k10m1 : Method := { name := "head", desc := "([Ljava/lang/String;)Lcom/example/quorum_lease/quorumlease/redis/Resp$Head;", sig := { parameters := [(.array (.object "java/lang/String"))], returnType := some (.object "com/example/quorum_lease/quorumlease/redis/Resp$Head") }, accessFlags := 136, code := some k10c1 }
def k10c2 : Code := { maxStack := 3, maxLocals := 3, code := prog_10_method_12_code, exceptionTable := #[], attributes := #[] }
def k10m2 : Method := { name := "bulkStrings", desc := "([Ljava/lang/String;)[B", sig := { parameters := [(.array (.object "java/lang/String"))], returnType := some (.array .byte) }, accessFlags := 138, code := some k10c2 }
def k10c3 : Code := { maxStack := 4, maxLocals := 3, code := prog_10_method_13_code, exceptionTable := #[], attributes := #[] }
def k10m3 : Method := { name := "utf8", desc := "([Ljava/lang/String;)[[B", sig := { parameters := [(.array (.object "java/lang/String"))], returnType := some (.array (.array .byte)) }, accessFlags := 138, code := some k10c3 }
def k10c4 : Code := { maxStack := 3, maxLocals := 6, code := prog_10_method_14_code, exceptionTable := #[], attributes := #[] }
def k10m4 : Method := { name := "bulkStringsLength", desc := "([[B)I", sig := { parameters := [(.array (.array .byte))], returnType := some .int }, accessFlags := 10, code := some k10c4 }
def k10c5 : Code := { maxStack := 5, maxLocals := 8, code := prog_10_method_15_code, exceptionTable := #[], attributes := #[] }
def k10m5 : Method := { name := "putBulkStrings", desc := "([BI[[B)V", sig := { parameters := [(.array .byte), .int, (.array (.array .byte))], returnType := none }, accessFlags := 10, code := some k10c5 }
def k10c6 : Code := { maxStack := 2, maxLocals := 1, code := prog_10_method_16_code, exceptionTable := #[], attributes := #[] }
def k10m6 : Method := { name := "headerLength", desc := "(I)I", sig := { parameters := [.int], returnType := some .int }, accessFlags := 10, code := some k10c6 }
def k10c7 : Code := { maxStack := 5, maxLocals := 7, code := prog_10_method_17_code, exceptionTable := #[], attributes := #[] }
def k10m7 : Method := { name := "putHeader", desc := "([BICI)I", sig := { parameters := [(.array .byte), .int, .char, .int], returnType := some .int }, accessFlags := 10, code := some k10c7 }
def k10c8 : Code := { maxStack := 2, maxLocals := 3, code := prog_10_method_18_code, exceptionTable := #[], attributes := #[] }
def k10m8 : Method := { name := "digits", desc := "(I)I", sig := { parameters := [.int], returnType := some .int }, accessFlags := 10, code := some k10c8 }
/-- com/example/quorum_lease/quorumlease/redis/Resp -/
def k10 : Class := { plain "com/example/quorum_lease/quorumlease/redis/Resp" (some 0) with
  accessFlags := 48
  interfaces := #[]
  cf := some (fileOf pool10 8 #[.nestMembers #[194, 16]] #[{ accessFlags := 2, nameIndex := 5, descriptorIndex := 6, attributes := #[] }, { accessFlags := 136, nameIndex := 11, descriptorIndex := 12, attributes := #[] }, { accessFlags := 138, nameIndex := 23, descriptorIndex := 20, attributes := #[] }, { accessFlags := 138, nameIndex := 151, descriptorIndex := 152, attributes := #[] }, { accessFlags := 10, nameIndex := 155, descriptorIndex := 156, attributes := #[] }, { accessFlags := 10, nameIndex := 159, descriptorIndex := 160, attributes := #[] }, { accessFlags := 10, nameIndex := 168, descriptorIndex := 169, attributes := #[] }, { accessFlags := 10, nameIndex := 172, descriptorIndex := 173, attributes := #[] }, { accessFlags := 10, nameIndex := 182, descriptorIndex := 169, attributes := #[] }] 48 2 #[] #[{ accessFlags := 24, nameIndex := 39, descriptorIndex := 40, attributes := #[] }, { accessFlags := 26, nameIndex := 50, descriptorIndex := 51, attributes := #[] }])
  fields := #[{ name := "INCOMPLETE", type := (.object "java/lang/Object"), accessFlags := 24, slot := 0, constantValue := 0 }, { name := "CRLF", type := (.array .byte), accessFlags := 26, slot := 1, constantValue := 0 }]
  methods := #[k10m0, k10m1, k10m2, k10m3, k10m4, k10m5, k10m6, k10m7, k10m8]
  instanceTypes := #[]
  staticTypes := #[(.object "java/lang/Object"), (.array .byte)]
  resolved := ((Array.replicate 219 none).setIfInBounds 16 (some (.cls 11))).setIfInBounds 24 (some (.method ⟨11, 0⟩))
  statics := some 1 }

def pool11 : Array CpInfo := pool [(1, .methodref 2 3), (0, .class_ 4), (0, .nameAndType 5 6), (0, u "java/lang/Object"), (0, u "<init>"), (0, u "()V"), (0, .fieldref 8 9), (0, .class_ 10), (0, .nameAndType 11 12), (0, u "com/example/quorum_lease/quorumlease/redis/Resp$Head"), (0, u "count"), (0, u "I"), (0, .fieldref 8 14), (0, .nameAndType 15 16), (0, u "encoded"), (0, u "[B"), (0, .fieldref 8 18), (0, .nameAndType 19 20), (0, u "last"), (0, u "Lcom/example/quorum_lease/quorumlease/redis/Resp$Built;"), (0, .fieldref 22 23), (0, .class_ 24), (0, .nameAndType 25 26), (0, u "com/example/quorum_lease/quorumlease/redis/Resp$Built"), (0, u "rest"), (0, u "[Ljava/lang/String;"), (0, .methodref 28 29), (0, .class_ 30), (0, .nameAndType 31 32), (0, u "java/util/Arrays"), (0, u "equals"), (0, u "([Ljava/lang/Object;[Ljava/lang/Object;)Z"), (0, .fieldref 22 34), (0, .nameAndType 35 16), (0, u "request"), (0, .methodref 37 38), (0, .class_ 39), (0, .nameAndType 40 41), (0, u "com/example/quorum_lease/quorumlease/redis/Resp"), (0, u "utf8"), (0, u "([Ljava/lang/String;)[[B"), (0, .methodref 37 43), (0, .nameAndType 44 45), (0, u "headerLength"), (0, u "(I)I"), (0, .methodref 37 47), (0, .nameAndType 48 49), (0, u "bulkStringsLength"), (0, u "([[B)I"), (0, .methodref 37 51), (0, .nameAndType 52 53), (0, u "putHeader"), (0, u "([BICI)I"), (0, .methodref 55 56), (0, .class_ 57), (0, .nameAndType 58 59), (0, u "java/lang/System"), (0, u "arraycopy"), (0, u "(Ljava/lang/Object;ILjava/lang/Object;II)V"), (0, .methodref 37 61), (0, .nameAndType 62 63), (0, u "putBulkStrings"), (0, u "([BI[[B)V"), (0, .methodref 22 65), (0, .nameAndType 5 66), (0, u "([Ljava/lang/String;[B)V"), (0, u "(I[B)V"), (2, u "([Ljava/lang/String;)[B")] 8

def k11c0 : Code := { maxStack := 2, maxLocals := 3, code := prog_12_method_1_code, exceptionTable := #[], attributes := #[] }
def k11m0 : Method := { name := "<init>", desc := "(I[B)V", sig := { parameters := [.int, (.array .byte)], returnType := none }, accessFlags := 2, code := some k11c0 }
def k11c1 : Code := { maxStack := 5, maxLocals := 7, code := prog_12_method_2_code, exceptionTable := #[], attributes := #[] }
def k11m1 : Method := { name := "request", desc := "([Ljava/lang/String;)[B", sig := { parameters := [(.array (.object "java/lang/String"))], returnType := some (.array .byte) }, accessFlags := 128, code := some k11c1 }
/-- com/example/quorum_lease/quorumlease/redis/Resp$Head -/
def k11 : Class := { plain "com/example/quorum_lease/quorumlease/redis/Resp$Head" (some 0) with
  accessFlags := 48
  interfaces := #[]
  cf := some (fileOf pool11 8 #[.nestHost 37] #[{ accessFlags := 2, nameIndex := 5, descriptorIndex := 67, attributes := #[] }, { accessFlags := 128, nameIndex := 35, descriptorIndex := 70, attributes := #[] }] 48 2 #[] #[{ accessFlags := 18, nameIndex := 11, descriptorIndex := 12, attributes := #[] }, { accessFlags := 18, nameIndex := 15, descriptorIndex := 16, attributes := #[] }, { accessFlags := 66, nameIndex := 19, descriptorIndex := 20, attributes := #[] }])
  fields := #[{ name := "count", type := .int, accessFlags := 18, slot := 0, constantValue := 0 }, { name := "encoded", type := (.array .byte), accessFlags := 18, slot := 1, constantValue := 0 }, { name := "last", type := (.object "com/example/quorum_lease/quorumlease/redis/Resp$Built"), accessFlags := 66, slot := 2, constantValue := 0 }]
  methods := #[k11m0, k11m1]
  instanceTypes := #[.int, (.array .byte), (.object "com/example/quorum_lease/quorumlease/redis/Resp$Built")]
  staticTypes := #[]
  resolved := Array.replicate 79 none
  statics := none }

def pool12 : Array CpInfo := pool [(2, .class_ 4), (1, u "java/lang/Object"), (0, u "<init>"), (0, u "()V"), (1, .class_ 10), (1, u "java/lang/System"), (0, u "allowSecurityManager"), (0, u "I"), (16, u "cons"), (0, u "Ljava/io/Console;"), (77, .class_ 110), (1, u "java/lang/System$CallersHolder"), (43, u "initialErrStream"), (0, u "Ljava/io/PrintStream;"), (19, u "security"), (0, u "Ljava/lang/SecurityManager;"), (31, .class_ 209), (0, u "java/lang/System$1"), (7, u "props"), (0, u "Ljava/util/Properties;"), (2, u "lineSeparator"), (0, u "Ljava/lang/String;"), (96, .class_ 321), (1, u "java/lang/System$LoggerFinder"), (5, .class_ 328), (0, u "java/lang/System$Logger"), (67, u "err"), (2, u "out"), (91, u "notSupportedJnuEncoding"), (15, u "in"), (17, u "initialIn"), (0, u "Ljava/io/InputStream;"), (35, u "bootLayer"), (0, u "Ljava/lang/ModuleLayer;"), (99, .class_ 664), (0, u "java/lang/System$2"), (9, u "NEVER"), (2, u "MAYBE"), (49, u "arraycopy"), (0, u "(Ljava/lang/Object;ILjava/lang/Object;II)V"), (72, .class_ 802), (0, u "java/lang/System$Logger$Level")] 31

def k12m0 : Method := { name := "<init>", desc := "()V", sig := { parameters := [], returnType := none }, accessFlags := 2, code := none }
def k12m1 : Method := { name := "arraycopy", desc := "(Ljava/lang/Object;ILjava/lang/Object;II)V", sig := { parameters := [(.object "java/lang/Object"), .int, (.object "java/lang/Object"), .int, .int], returnType := none }, accessFlags := 265, code := none }
/-- java/lang/System -/
def k12 : Class := { plain "java/lang/System" (some 0) with
  accessFlags := 49
  interfaces := #[]
  cf := some (fileOf pool12 8 #[.nestMembers #[319, 327, 801, 108, 663, 208]] #[{ accessFlags := 2, nameIndex := 5, descriptorIndex := 6, attributes := #[] }, { accessFlags := 265, nameIndex := 727, descriptorIndex := 728, attributes := #[] }] 49 2 #[] #[{ accessFlags := 25, nameIndex := 507, descriptorIndex := 526, attributes := #[] }, { accessFlags := 25, nameIndex := 399, descriptorIndex := 155, attributes := #[] }, { accessFlags := 25, nameIndex := 396, descriptorIndex := 155, attributes := #[] }, { accessFlags := 10, nameIndex := 525, descriptorIndex := 526, attributes := #[] }, { accessFlags := 26, nameIndex := 674, descriptorIndex := 12, attributes := #[] }, { accessFlags := 26, nameIndex := 677, descriptorIndex := 12, attributes := #[] }, { accessFlags := 10, nameIndex := 11, descriptorIndex := 12, attributes := #[] }, { accessFlags := 74, nameIndex := 175, descriptorIndex := 176, attributes := #[] }, { accessFlags := 10, nameIndex := 491, descriptorIndex := 222, attributes := #[] }, { accessFlags := 74, nameIndex := 29, descriptorIndex := 30, attributes := #[] }, { accessFlags := 74, nameIndex := 154, descriptorIndex := 155, attributes := #[] }, { accessFlags := 10, nameIndex := 217, descriptorIndex := 218, attributes := #[] }, { accessFlags := 10, nameIndex := 221, descriptorIndex := 222, attributes := #[] }, { accessFlags := 8, nameIndex := 562, descriptorIndex := 563, attributes := #[] }])
  fields := #[{ name := "in", type := (.object "java/io/InputStream"), accessFlags := 25, slot := 0, constantValue := 0 }, { name := "out", type := (.object "java/io/PrintStream"), accessFlags := 25, slot := 1, constantValue := 0 }, { name := "err", type := (.object "java/io/PrintStream"), accessFlags := 25, slot := 2, constantValue := 0 }, { name := "initialIn", type := (.object "java/io/InputStream"), accessFlags := 10, slot := 3, constantValue := 0 }, { name := "NEVER", type := .int, accessFlags := 26, slot := 4, constantValue := 0 }, { name := "MAYBE", type := .int, accessFlags := 26, slot := 5, constantValue := 0 }, { name := "allowSecurityManager", type := .int, accessFlags := 10, slot := 6, constantValue := 0 }, { name := "security", type := (.object "java/lang/SecurityManager"), accessFlags := 74, slot := 7, constantValue := 0 }, { name := "notSupportedJnuEncoding", type := (.object "java/lang/String"), accessFlags := 10, slot := 8, constantValue := 0 }, { name := "cons", type := (.object "java/io/Console"), accessFlags := 74, slot := 9, constantValue := 0 }, { name := "initialErrStream", type := (.object "java/io/PrintStream"), accessFlags := 74, slot := 10, constantValue := 0 }, { name := "props", type := (.object "java/util/Properties"), accessFlags := 10, slot := 11, constantValue := 0 }, { name := "lineSeparator", type := (.object "java/lang/String"), accessFlags := 10, slot := 12, constantValue := 0 }, { name := "bootLayer", type := (.object "java/lang/ModuleLayer"), accessFlags := 8, slot := 13, constantValue := 0 }]
  methods := #[k12m0, k12m1]
  instanceTypes := #[]
  staticTypes := #[(.object "java/io/InputStream"), (.object "java/io/PrintStream"), (.object "java/io/PrintStream"), (.object "java/io/InputStream"), .int, .int, .int, (.object "java/lang/SecurityManager"), (.object "java/lang/String"), (.object "java/io/Console"), (.object "java/io/PrintStream"), (.object "java/util/Properties"), (.object "java/lang/String"), (.object "java/lang/ModuleLayer")]
  resolved := Array.replicate 834 none
  statics := none }

def pool13 : Array CpInfo := pool [(1, .methodref 2 3), (0, .class_ 4), (0, .nameAndType 5 6), (0, u "java/lang/Object"), (0, u "<init>"), (0, u "()V"), (0, .fieldref 8 9), (0, .class_ 10), (0, .nameAndType 11 12), (0, u "com/example/quorum_lease/quorumlease/redis/Resp$Built"), (0, u "rest"), (0, u "[Ljava/lang/String;"), (0, .fieldref 8 14), (0, .nameAndType 15 16), (0, u "request"), (0, u "[B"), (0, u "([Ljava/lang/String;[B)V"), (5, .class_ 24), (0, u "com/example/quorum_lease/quorumlease/redis/Resp")] 2

def k13c0 : Code := { maxStack := 2, maxLocals := 3, code := prog_11_method_1_code, exceptionTable := #[], attributes := #[] }
def k13m0 : Method := { name := "<init>", desc := "([Ljava/lang/String;[B)V", sig := { parameters := [(.array (.object "java/lang/String")), (.array .byte)], returnType := none }, accessFlags := 2, code := some k13c0 }
/-- com/example/quorum_lease/quorumlease/redis/Resp$Built -/
def k13 : Class := { plain "com/example/quorum_lease/quorumlease/redis/Resp$Built" (some 0) with
  accessFlags := 48
  interfaces := #[]
  cf := some (fileOf pool13 8 #[.nestHost 23] #[{ accessFlags := 2, nameIndex := 5, descriptorIndex := 17, attributes := #[] }] 48 2 #[] #[{ accessFlags := 18, nameIndex := 11, descriptorIndex := 12, attributes := #[] }, { accessFlags := 18, nameIndex := 15, descriptorIndex := 16, attributes := #[] }])
  fields := #[{ name := "rest", type := (.array (.object "java/lang/String")), accessFlags := 18, slot := 0, constantValue := 0 }, { name := "request", type := (.array .byte), accessFlags := 18, slot := 1, constantValue := 0 }]
  methods := #[k13m0]
  instanceTypes := #[(.array (.object "java/lang/String")), (.array .byte)]
  staticTypes := #[]
  resolved := Array.replicate 27 none
  statics := none }

def pool14 : Array CpInfo := pool [(2, .class_ 4), (1, u "java/lang/Object"), (0, u "<init>"), (0, u "()V"), (7, .class_ 16), (1, u "java/util/Arrays"), (57, .class_ 76), (1, u "java/util/Arrays$NaturalOrder"), (36, .class_ 115), (1, u "java/util/Arrays$LegacyMergeSort"), (1, u "Z"), (32, .methodref 151 152), (0, .class_ 153), (0, .nameAndType 154 155), (0, u "java/lang/System"), (0, u "arraycopy"), (0, u "(Ljava/lang/Object;ILjava/lang/Object;II)V"), (142, u "equals"), (3, u "copyOf"), (1, .methodref 305 306), (0, .class_ 307), (0, .nameAndType 308 309), (0, u "java/lang/Math"), (0, u "min"), (0, u "(II)I"), (65, .class_ 376), (0, u "java/util/Arrays$ArrayList"), (68, u "$assertionsDisabled"), (6, u "([Ljava/lang/Object;[Ljava/lang/Object;)Z"), (262, u "MIN_ARRAY_SORT_GRAN"), (0, u "I"), (2, u "INSERTIONSORT_THRESHOLD"), (149, u "([BI)[B"), (105, .class_ 976), (0, u "java/util/Arrays$ArrayItr")] 52

def k14m0 : Method := { name := "<init>", desc := "()V", sig := { parameters := [], returnType := none }, accessFlags := 2, code := none }
def k14c1 : Code := { maxStack := 3, maxLocals := 4, code := jdk_65_method_97_code, exceptionTable := #[], attributes := #[] }
def k14m1 : Method := { name := "equals", desc := "([Ljava/lang/Object;[Ljava/lang/Object;)Z", sig := { parameters := [(.array (.object "java/lang/Object")), (.array (.object "java/lang/Object"))], returnType := some .boolean }, accessFlags := 9, code := some k14c1 }
def k14c2 : Code := { maxStack := 6, maxLocals := 3, code := jdk_65_method_121_code, exceptionTable := #[], attributes := #[] }
def k14m2 : Method := { name := "copyOf", desc := "([BI)[B", sig := { parameters := [(.array .byte), .int], returnType := some (.array .byte) }, accessFlags := 9, code := some k14c2 }
/-- java/util/Arrays -/
def k14 : Class := { plain "java/util/Arrays" (some 0) with
  accessFlags := 49
  interfaces := #[]
  cf := some (fileOf pool14 14 #[.nestMembers #[975, 375, 113, 74]] #[{ accessFlags := 2, nameIndex := 5, descriptorIndex := 6, attributes := #[] }, { accessFlags := 9, nameIndex := 298, descriptorIndex := 452, attributes := #[] }, { accessFlags := 9, nameIndex := 302, descriptorIndex := 869, attributes := #[] }] 49 2 #[] #[{ accessFlags := 26, nameIndex := 715, descriptorIndex := 716, attributes := #[] }, { accessFlags := 26, nameIndex := 719, descriptorIndex := 716, attributes := #[] }, { accessFlags := 4120, nameIndex := 445, descriptorIndex := 117, attributes := #[] }])
  fields := #[{ name := "MIN_ARRAY_SORT_GRAN", type := .int, accessFlags := 26, slot := 0, constantValue := 0 }, { name := "INSERTIONSORT_THRESHOLD", type := .int, accessFlags := 26, slot := 1, constantValue := 0 }, { name := "$assertionsDisabled", type := .boolean, accessFlags := 4120, slot := 2, constantValue := 0 }]
  methods := #[k14m0, k14m1, k14m2]
  instanceTypes := #[]
  staticTypes := #[.int, .int, .boolean]
  resolved := Array.replicate 1029 none
  statics := none }

def pool15 : Array CpInfo := pool [(2, .class_ 4), (1, u "java/lang/Object"), (0, u "<init>"), (0, u "()V"), (14, .class_ 23), (1, u "java/nio/charset/StandardCharsets"), (0, u "US_ASCII"), (0, u "Ljava/nio/charset/Charset;"), (7, u "ISO_8859_1"), (7, u "UTF_8"), (5, u "UTF_16BE"), (5, u "UTF_16LE"), (5, u "UTF_16")] 8

def k15m0 : Method := { name := "<init>", desc := "()V", sig := { parameters := [], returnType := none }, accessFlags := 2, code := none }
/-- java/nio/charset/StandardCharsets -/
def k15 : Class := { plain "java/nio/charset/StandardCharsets" (some 0) with
  accessFlags := 49
  interfaces := #[]
  cf := some (fileOf pool15 21 #[] #[{ accessFlags := 2, nameIndex := 5, descriptorIndex := 6, attributes := #[] }] 49 2 #[] #[{ accessFlags := 25, nameIndex := 24, descriptorIndex := 25, attributes := #[] }, { accessFlags := 25, nameIndex := 33, descriptorIndex := 25, attributes := #[] }, { accessFlags := 25, nameIndex := 41, descriptorIndex := 25, attributes := #[] }, { accessFlags := 25, nameIndex := 47, descriptorIndex := 25, attributes := #[] }, { accessFlags := 25, nameIndex := 53, descriptorIndex := 25, attributes := #[] }, { accessFlags := 25, nameIndex := 59, descriptorIndex := 25, attributes := #[] }])
  fields := #[{ name := "US_ASCII", type := (.object "java/nio/charset/Charset"), accessFlags := 25, slot := 0, constantValue := 0 }, { name := "ISO_8859_1", type := (.object "java/nio/charset/Charset"), accessFlags := 25, slot := 1, constantValue := 0 }, { name := "UTF_8", type := (.object "java/nio/charset/Charset"), accessFlags := 25, slot := 2, constantValue := 0 }, { name := "UTF_16BE", type := (.object "java/nio/charset/Charset"), accessFlags := 25, slot := 3, constantValue := 0 }, { name := "UTF_16LE", type := (.object "java/nio/charset/Charset"), accessFlags := 25, slot := 4, constantValue := 0 }, { name := "UTF_16", type := (.object "java/nio/charset/Charset"), accessFlags := 25, slot := 5, constantValue := 0 }]
  methods := #[k15m0]
  instanceTypes := #[]
  staticTypes := #[(.object "java/nio/charset/Charset"), (.object "java/nio/charset/Charset"), (.object "java/nio/charset/Charset"), (.object "java/nio/charset/Charset"), (.object "java/nio/charset/Charset"), (.object "java/nio/charset/Charset")]
  resolved := Array.replicate 68 none
  statics := some 2 }

def pool16 : Array CpInfo := pool [(18, .class_ 20), (1, u "java/nio/charset/Charset"), (0, u "cache1"), (0, u "[Ljava/lang/Object;"), (2, u "cache2"), (0, .class_ 27), (0, u "java/lang/Object"), (0, .class_ 29), (0, u "java/nio/charset/Charset$1"), (4, .class_ 36), (1, u "java/nio/charset/Charset$ThreadTrackHolder"), (21, .class_ 59), (0, u "java/nio/charset/Charset$2"), (11, .class_ 73), (1, u "java/nio/charset/Charset$ExtendedProviderHolder"), (22, u "standardProvider"), (0, u "Ljava/nio/charset/spi/CharsetProvider;"), (29, u "name"), (7, .class_ 136), (0, u "java/nio/charset/Charset$3"), (5, u "defaultCharset"), (0, u "Ljava/nio/charset/Charset;"), (14, u "zeroAliases"), (0, u "[Ljava/lang/String;"), (29, u "Ljava/lang/String;"), (2, u "aliases"), (2, u "aliasSet"), (0, u "Ljava/util/Set;"), (82, .class_ 280), (0, u "java/lang/Comparable"), (84, .class_ 366), (0, u "java/nio/charset/Charset$ExtendedProviderHolder$1")] 3

/-- java/nio/charset/Charset -/
def k16 : Class := { plain "java/nio/charset/Charset" (some 0) with
  accessFlags := 1057
  interfaces := #[3]
  cf := some (fileOf pool16 18 #[.nestMembers #[71, 365, 34, 135, 58, 28]] #[] 1057 26 #[279] #[{ accessFlags := 26, nameIndex := 96, descriptorIndex := 97, attributes := #[] }, { accessFlags := 26, nameIndex := 158, descriptorIndex := 159, attributes := #[] }, { accessFlags := 74, nameIndex := 21, descriptorIndex := 22, attributes := #[] }, { accessFlags := 74, nameIndex := 25, descriptorIndex := 22, attributes := #[] }, { accessFlags := 10, nameIndex := 142, descriptorIndex := 143, attributes := #[] }, { accessFlags := 18, nameIndex := 127, descriptorIndex := 189, attributes := #[] }, { accessFlags := 18, nameIndex := 192, descriptorIndex := 159, attributes := #[] }, { accessFlags := 2, nameIndex := 195, descriptorIndex := 196, attributes := #[] }])
  fields := #[{ name := "standardProvider", type := (.object "java/nio/charset/spi/CharsetProvider"), accessFlags := 26, slot := 0, constantValue := 0 }, { name := "zeroAliases", type := (.array (.object "java/lang/String")), accessFlags := 26, slot := 1, constantValue := 0 }, { name := "cache1", type := (.array (.object "java/lang/Object")), accessFlags := 74, slot := 2, constantValue := 0 }, { name := "cache2", type := (.array (.object "java/lang/Object")), accessFlags := 74, slot := 3, constantValue := 0 }, { name := "defaultCharset", type := (.object "java/nio/charset/Charset"), accessFlags := 10, slot := 4, constantValue := 0 }, { name := "name", type := (.object "java/lang/String"), accessFlags := 18, slot := 0, constantValue := 0 }, { name := "aliases", type := (.array (.object "java/lang/String")), accessFlags := 18, slot := 1, constantValue := 0 }, { name := "aliasSet", type := (.object "java/util/Set"), accessFlags := 2, slot := 2, constantValue := 0 }]
  methods := #[]
  instanceTypes := #[(.object "java/lang/String"), (.array (.object "java/lang/String")), (.object "java/util/Set")]
  staticTypes := #[(.object "java/nio/charset/spi/CharsetProvider"), (.array (.object "java/lang/String")), (.array (.object "java/lang/Object")), (.array (.object "java/lang/Object")), (.object "java/nio/charset/Charset")]
  resolved := Array.replicate 370 none
  statics := none }

def pool17 : Array CpInfo := pool [(1, .class_ 2), (0, u "sun/nio/cs/HistoricallyNamedCharset"), (0, .class_ 4), (0, u "java/lang/Object")] 4

/-- sun/nio/cs/HistoricallyNamedCharset -/
def k17 : Class := { plain "sun/nio/cs/HistoricallyNamedCharset" (some 0) with
  accessFlags := 1537
  interfaces := #[]
  cf := some (fileOf pool17 1 #[] #[] 1537 3 #[] #[])
  fields := #[]
  methods := #[]
  instanceTypes := #[]
  staticTypes := #[]
  resolved := Array.replicate 9 none
  statics := none }

def pool18 : Array CpInfo := pool [(2, .class_ 4), (1, u "java/nio/charset/Charset"), (130, .class_ 136), (0, u "sun/nio/cs/Unicode"), (0, .class_ 138), (0, u "sun/nio/cs/HistoricallyNamedCharset")] 15

/-- sun/nio/cs/Unicode -/
def k18 : Class := { plain "sun/nio/cs/Unicode" (some 16) with
  accessFlags := 1056
  interfaces := #[17]
  cf := some (fileOf pool18 135 #[] #[] 1056 2 #[137] #[])
  fields := #[]
  methods := #[]
  instanceTypes := #[(.object "java/lang/String"), (.array (.object "java/lang/String")), (.object "java/util/Set")]
  staticTypes := #[]
  resolved := Array.replicate 154 none
  statics := none }

def pool19 : Array CpInfo := pool [(10, .class_ 12), (1, u "sun/nio/cs/Unicode"), (0, u "<init>"), (3, .class_ 18), (0, u "sun/nio/cs/UTF_8$Decoder"), (3, .class_ 23), (0, u "sun/nio/cs/UTF_8$Encoder"), (15, .class_ 40), (0, u "sun/nio/cs/UTF_8"), (2, u "()V"), (2, u "INSTANCE"), (0, u "Lsun/nio/cs/UTF_8;"), (8, u "JLA"), (0, u "Ljdk/internal/access/JavaLangAccess;")] 26

def k19m0 : Method := { name := "<init>", desc := "()V", sig := { parameters := [], returnType := none }, accessFlags := 1, code := none }
/-- sun/nio/cs/UTF_8 -/
def k19 : Class := { plain "sun/nio/cs/UTF_8" (some 18) with
  accessFlags := 49
  interfaces := #[]
  cf := some (fileOf pool19 39 #[.nestMembers #[22, 17]] #[{ accessFlags := 1, nameIndex := 13, descriptorIndex := 43, attributes := #[] }] 49 10 #[] #[{ accessFlags := 25, nameIndex := 46, descriptorIndex := 47, attributes := #[] }, { accessFlags := 26, nameIndex := 56, descriptorIndex := 57, attributes := #[] }])
  fields := #[{ name := "INSTANCE", type := (.object "sun/nio/cs/UTF_8"), accessFlags := 25, slot := 0, constantValue := 0 }, { name := "JLA", type := (.object "jdk/internal/access/JavaLangAccess"), accessFlags := 26, slot := 1, constantValue := 0 }]
  methods := #[k19m0]
  instanceTypes := #[(.object "java/lang/String"), (.array (.object "java/lang/String")), (.object "java/util/Set")]
  staticTypes := #[(.object "sun/nio/cs/UTF_8"), (.object "jdk/internal/access/JavaLangAccess")]
  resolved := Array.replicate 84 none
  statics := some 3 }

def pool20 : Array CpInfo := pool [(2, .class_ 4), (1, u "java/lang/Object"), (0, u "<init>"), (0, u "()V"), (0, .methodref 8 9), (0, .class_ 10), (0, .nameAndType 11 12), (0, u "java/lang/StringCoding"), (0, u "countPositives"), (0, u "([BII)I"), (11, u "hasNegatives"), (0, u "([BII)Z")] 23

def k20m0 : Method := { name := "<init>", desc := "()V", sig := { parameters := [], returnType := none }, accessFlags := 2, code := none }
def k20c1 : Code := { maxStack := 3, maxLocals := 3, code := jdk_123_method_2_code, exceptionTable := #[], attributes := #[] }
def k20m1 : Method := { name := "hasNegatives", desc := "([BII)Z", sig := { parameters := [(.array .byte), .int, .int], returnType := some .boolean }, accessFlags := 9, code := some k20c1 }
def k20c2 : Code := { maxStack := 2, maxLocals := 5, code := jdk_123_method_3_code, exceptionTable := #[], attributes := #[] }
def k20m2 : Method := { name := "countPositives", desc := "([BII)I", sig := { parameters := [(.array .byte), .int, .int], returnType := some .int }, accessFlags := 9, code := some k20c2 }
/-- java/lang/StringCoding -/
def k20 : Class := { plain "java/lang/StringCoding" (some 0) with
  accessFlags := 32
  interfaces := #[]
  cf := some (fileOf pool20 8 #[] #[{ accessFlags := 2, nameIndex := 5, descriptorIndex := 6, attributes := #[] }, { accessFlags := 9, nameIndex := 24, descriptorIndex := 25, attributes := #[] }, { accessFlags := 9, nameIndex := 11, descriptorIndex := 12, attributes := #[] }] 32 2 #[] #[])
  fields := #[]
  methods := #[k20m0, k20m1, k20m2]
  instanceTypes := #[]
  staticTypes := #[]
  resolved := Array.replicate 49 none
  statics := none }

def pool21 : Array CpInfo := pool [(1, .class_ 2), (0, u "java/lang/Cloneable"), (0, .class_ 4), (0, u "java/lang/Object")] 2

/-- java/lang/Cloneable -/
def k21 : Class := { plain "java/lang/Cloneable" (some 0) with
  accessFlags := 1537
  interfaces := #[]
  cf := some (fileOf pool21 1 #[] #[] 1537 3 #[] #[])
  fields := #[]
  methods := #[]
  instanceTypes := #[]
  staticTypes := #[]
  resolved := Array.replicate 7 none
  statics := none }

def pool22 : Array CpInfo := pool [(1, .class_ 2), (0, u "java/lang/Math"), (1, .class_ 6), (1, u "java/lang/Object"), (0, u "<init>"), (0, u "()V"), (89, .class_ 100), (1, u "java/lang/Math$RandomNumberGeneratorHolder"), (71, u "negativeZeroFloatBits"), (0, u "J"), (2, u "negativeZeroDoubleBits"), (24, u "min"), (43, u "$assertionsDisabled"), (0, u "Z"), (88, u "(II)I"), (2, u "twoToTheDoubleScaleDown"), (0, u "D"), (4, u "twoToTheDoubleScaleUp"), (9, u "E"), (3, u "PI"), (2, u "TAU"), (2, u "DEGREES_TO_RADIANS"), (0, u "RADIANS_TO_DEGREES")] 94

def k22m0 : Method := { name := "<init>", desc := "()V", sig := { parameters := [], returnType := none }, accessFlags := 2, code := none }
def k22c1 : Code := { maxStack := 2, maxLocals := 2, code := jdk_29_method_69_code, exceptionTable := #[], attributes := #[] }
def k22m1 : Method := { name := "min", desc := "(II)I", sig := { parameters := [.int, .int], returnType := some .int }, accessFlags := 9, code := some k22c1 }
/-- java/lang/Math -/
def k22 : Class := { plain "java/lang/Math" (some 0) with
  accessFlags := 49
  interfaces := #[]
  cf := some (fileOf pool22 1 #[.nestMembers #[98]] #[{ accessFlags := 2, nameIndex := 7, descriptorIndex := 8, attributes := #[] }, { accessFlags := 9, nameIndex := 201, descriptorIndex := 335, attributes := #[] }] 49 4 #[] #[{ accessFlags := 25, nameIndex := 354, descriptorIndex := 339, attributes := #[] }, { accessFlags := 25, nameIndex := 358, descriptorIndex := 339, attributes := #[] }, { accessFlags := 25, nameIndex := 361, descriptorIndex := 339, attributes := #[] }, { accessFlags := 26, nameIndex := 364, descriptorIndex := 339, attributes := #[] }, { accessFlags := 26, nameIndex := 365, descriptorIndex := 339, attributes := #[] }, { accessFlags := 26, nameIndex := 172, descriptorIndex := 173, attributes := #[] }, { accessFlags := 26, nameIndex := 176, descriptorIndex := 173, attributes := #[] }, { accessFlags := 8, nameIndex := 344, descriptorIndex := 339, attributes := #[] }, { accessFlags := 8, nameIndex := 338, descriptorIndex := 339, attributes := #[] }, { accessFlags := 4120, nameIndex := 245, descriptorIndex := 246, attributes := #[] }])
  fields := #[{ name := "E", type := .double, accessFlags := 25, slot := 0, constantValue := 0 }, { name := "PI", type := .double, accessFlags := 25, slot := 1, constantValue := 0 }, { name := "TAU", type := .double, accessFlags := 25, slot := 2, constantValue := 0 }, { name := "DEGREES_TO_RADIANS", type := .double, accessFlags := 26, slot := 3, constantValue := 0 }, { name := "RADIANS_TO_DEGREES", type := .double, accessFlags := 26, slot := 4, constantValue := 0 }, { name := "negativeZeroFloatBits", type := .long, accessFlags := 26, slot := 5, constantValue := 0 }, { name := "negativeZeroDoubleBits", type := .long, accessFlags := 26, slot := 6, constantValue := 0 }, { name := "twoToTheDoubleScaleUp", type := .double, accessFlags := 8, slot := 7, constantValue := 0 }, { name := "twoToTheDoubleScaleDown", type := .double, accessFlags := 8, slot := 8, constantValue := 0 }, { name := "$assertionsDisabled", type := .boolean, accessFlags := 4120, slot := 9, constantValue := 0 }]
  methods := #[k22m0, k22m1]
  instanceTypes := #[]
  staticTypes := #[.double, .double, .double, .double, .double, .long, .long, .double, .double, .boolean]
  resolved := Array.replicate 460 none
  statics := none }

def pool23 : Array CpInfo := pool [(2, .class_ 4), (1, u "java/lang/Object"), (0, u "<init>"), (0, u "()V"), (17, .class_ 26), (1, u "jdk/internal/util/Preconditions"), (28, .class_ 56), (0, u "jdk/internal/util/Preconditions$4"), (57, .class_ 115), (0, u "jdk/internal/util/Preconditions$1"), (7, u "SIOOBE_FORMATTER"), (0, u "Ljava/util/function/BiFunction;"), (0, .class_ 126), (0, u "jdk/internal/util/Preconditions$2"), (3, u "AIOOBE_FORMATTER"), (0, .class_ 132), (0, u "jdk/internal/util/Preconditions$3"), (3, u "IOOBE_FORMATTER")] 57

def k23m0 : Method := { name := "<init>", desc := "()V", sig := { parameters := [], returnType := none }, accessFlags := 1, code := none }
/-- jdk/internal/util/Preconditions -/
def k23 : Class := { plain "jdk/internal/util/Preconditions" (some 0) with
  accessFlags := 33
  interfaces := #[]
  cf := some (fileOf pool23 24 #[.nestMembers #[55, 131, 125, 114]] #[{ accessFlags := 1, nameIndex := 5, descriptorIndex := 6, attributes := #[] }] 33 2 #[] #[{ accessFlags := 25, nameIndex := 123, descriptorIndex := 124, attributes := #[] }, { accessFlags := 25, nameIndex := 130, descriptorIndex := 124, attributes := #[] }, { accessFlags := 25, nameIndex := 136, descriptorIndex := 124, attributes := #[] }])
  fields := #[{ name := "SIOOBE_FORMATTER", type := (.object "java/util/function/BiFunction"), accessFlags := 25, slot := 0, constantValue := 0 }, { name := "AIOOBE_FORMATTER", type := (.object "java/util/function/BiFunction"), accessFlags := 25, slot := 1, constantValue := 0 }, { name := "IOOBE_FORMATTER", type := (.object "java/util/function/BiFunction"), accessFlags := 25, slot := 2, constantValue := 0 }]
  methods := #[k23m0]
  instanceTypes := #[]
  staticTypes := #[(.object "java/util/function/BiFunction"), (.object "java/util/function/BiFunction"), (.object "java/util/function/BiFunction")]
  resolved := Array.replicate 194 none
  statics := some 4 }

def pool24 : Array CpInfo := pool [(9, u "<init>"), (6, .class_ 18), (1, u "java/lang/Object"), (0, u "()V"), (1, .class_ 23), (1, u "jdk/internal/util/ArraysSupport"), (0, u "LOG2_ARRAY_LONG_INDEX_SCALE"), (0, u "I"), (2, u "U"), (0, u "Ljdk/internal/misc/Unsafe;"), (8, u "BIG_ENDIAN"), (0, u "Z"), (8, u "LOG2_BYTE_BIT_SIZE"), (4, u "LOG2_ARRAY_INT_INDEX_SCALE"), (54, u "JLA"), (0, u "Ljdk/internal/access/JavaLangAccess;"), (11, u "LOG2_ARRAY_BOOLEAN_INDEX_SCALE"), (9, u "LOG2_ARRAY_BYTE_INDEX_SCALE"), (5, u "LOG2_ARRAY_CHAR_INDEX_SCALE"), (5, u "LOG2_ARRAY_SHORT_INDEX_SCALE"), (18, u "LOG2_ARRAY_FLOAT_INDEX_SCALE"), (24, u "LOG2_ARRAY_DOUBLE_INDEX_SCALE"), (89, u "T_BOOLEAN"), (2, u "T_CHAR"), (1, u "T_FLOAT"), (1, u "T_DOUBLE"), (1, u "T_BYTE"), (1, u "T_SHORT"), (1, u "T_INT"), (1, u "T_LONG"), (1, u "SOFT_MAX_ARRAY_LENGTH")] 83

def k24m0 : Method := { name := "<init>", desc := "()V", sig := { parameters := [], returnType := none }, accessFlags := 2, code := none }
/-- jdk/internal/util/ArraysSupport -/
def k24 : Class := { plain "jdk/internal/util/ArraysSupport" (some 0) with
  accessFlags := 33
  interfaces := #[]
  cf := some (fileOf pool24 21 #[] #[{ accessFlags := 2, nameIndex := 9, descriptorIndex := 19, attributes := #[] }] 33 16 #[] #[{ accessFlags := 24, nameIndex := 28, descriptorIndex := 29, attributes := #[] }, { accessFlags := 26, nameIndex := 38, descriptorIndex := 39, attributes := #[] }, { accessFlags := 25, nameIndex := 121, descriptorIndex := 25, attributes := #[] }, { accessFlags := 25, nameIndex := 131, descriptorIndex := 25, attributes := #[] }, { accessFlags := 25, nameIndex := 137, descriptorIndex := 25, attributes := #[] }, { accessFlags := 25, nameIndex := 143, descriptorIndex := 25, attributes := #[] }, { accessFlags := 25, nameIndex := 53, descriptorIndex := 25, attributes := #[] }, { accessFlags := 25, nameIndex := 24, descriptorIndex := 25, attributes := #[] }, { accessFlags := 25, nameIndex := 162, descriptorIndex := 25, attributes := #[] }, { accessFlags := 25, nameIndex := 187, descriptorIndex := 25, attributes := #[] }, { accessFlags := 26, nameIndex := 48, descriptorIndex := 25, attributes := #[] }, { accessFlags := 25, nameIndex := 277, descriptorIndex := 25, attributes := #[] }, { accessFlags := 25, nameIndex := 280, descriptorIndex := 25, attributes := #[] }, { accessFlags := 25, nameIndex := 282, descriptorIndex := 25, attributes := #[] }, { accessFlags := 25, nameIndex := 284, descriptorIndex := 25, attributes := #[] }, { accessFlags := 25, nameIndex := 286, descriptorIndex := 25, attributes := #[] }, { accessFlags := 25, nameIndex := 288, descriptorIndex := 25, attributes := #[] }, { accessFlags := 25, nameIndex := 290, descriptorIndex := 25, attributes := #[] }, { accessFlags := 25, nameIndex := 292, descriptorIndex := 25, attributes := #[] }, { accessFlags := 26, nameIndex := 108, descriptorIndex := 109, attributes := #[] }, { accessFlags := 25, nameIndex := 294, descriptorIndex := 25, attributes := #[] }])
  fields := #[{ name := "U", type := (.object "jdk/internal/misc/Unsafe"), accessFlags := 24, slot := 0, constantValue := 0 }, { name := "BIG_ENDIAN", type := .boolean, accessFlags := 26, slot := 1, constantValue := 0 }, { name := "LOG2_ARRAY_BOOLEAN_INDEX_SCALE", type := .int, accessFlags := 25, slot := 2, constantValue := 0 }, { name := "LOG2_ARRAY_BYTE_INDEX_SCALE", type := .int, accessFlags := 25, slot := 3, constantValue := 0 }, { name := "LOG2_ARRAY_CHAR_INDEX_SCALE", type := .int, accessFlags := 25, slot := 4, constantValue := 0 }, { name := "LOG2_ARRAY_SHORT_INDEX_SCALE", type := .int, accessFlags := 25, slot := 5, constantValue := 0 }, { name := "LOG2_ARRAY_INT_INDEX_SCALE", type := .int, accessFlags := 25, slot := 6, constantValue := 0 }, { name := "LOG2_ARRAY_LONG_INDEX_SCALE", type := .int, accessFlags := 25, slot := 7, constantValue := 0 }, { name := "LOG2_ARRAY_FLOAT_INDEX_SCALE", type := .int, accessFlags := 25, slot := 8, constantValue := 0 }, { name := "LOG2_ARRAY_DOUBLE_INDEX_SCALE", type := .int, accessFlags := 25, slot := 9, constantValue := 0 }, { name := "LOG2_BYTE_BIT_SIZE", type := .int, accessFlags := 26, slot := 10, constantValue := 0 }, { name := "T_BOOLEAN", type := .int, accessFlags := 25, slot := 11, constantValue := 0 }, { name := "T_CHAR", type := .int, accessFlags := 25, slot := 12, constantValue := 0 }, { name := "T_FLOAT", type := .int, accessFlags := 25, slot := 13, constantValue := 0 }, { name := "T_DOUBLE", type := .int, accessFlags := 25, slot := 14, constantValue := 0 }, { name := "T_BYTE", type := .int, accessFlags := 25, slot := 15, constantValue := 0 }, { name := "T_SHORT", type := .int, accessFlags := 25, slot := 16, constantValue := 0 }, { name := "T_INT", type := .int, accessFlags := 25, slot := 17, constantValue := 0 }, { name := "T_LONG", type := .int, accessFlags := 25, slot := 18, constantValue := 0 }, { name := "JLA", type := (.object "jdk/internal/access/JavaLangAccess"), accessFlags := 26, slot := 19, constantValue := 0 }, { name := "SOFT_MAX_ARRAY_LENGTH", type := .int, accessFlags := 25, slot := 20, constantValue := 0 }]
  methods := #[k24m0]
  instanceTypes := #[]
  staticTypes := #[(.object "jdk/internal/misc/Unsafe"), .boolean, .int, .int, .int, .int, .int, .int, .int, .int, .int, .int, .int, .int, .int, .int, .int, .int, .int, (.object "jdk/internal/access/JavaLangAccess"), .int]
  resolved := Array.replicate 378 none
  statics := none }

/-- the primitive byte -/
def k25 : Class := { plain "byte" none with kind := .primitive 'B', accessFlags := 0x411 }
/-- [B -/
def k26 : Class := { plain "[B" (some 0) with kind := .array 25 .byte, interfaces := #[21, 2], accessFlags := 1041 }

/-- the primitive char -/
def k27 : Class := { plain "char" none with kind := .primitive 'C', accessFlags := 0x411 }
/-- [C -/
def k28 : Class := { plain "[C" (some 0) with kind := .array 27 .char, interfaces := #[21, 2], accessFlags := 1041 }

/-- the primitive int -/
def k29 : Class := { plain "int" none with kind := .primitive 'I', accessFlags := 0x411 }
/-- [I -/
def k30 : Class := { plain "[I" (some 0) with kind := .array 29 .int, interfaces := #[21, 2], accessFlags := 1041 }

/-- [Ljava/lang/String; -/
def k31 : Class := { plain "[Ljava/lang/String;" (some 0) with kind := .array 7 (.object "java/lang/String"), interfaces := #[21, 2], accessFlags := 1041 }
/-- [[B -/
def k32 : Class := { plain "[[B" (some 0) with kind := .array 26 (.array .byte), interfaces := #[21, 2], accessFlags := 1041 }

def heap : Heap := #[{ cls := 7, slots := #[.long 0, .int 1, .null, .int 0, .null, .int 0, .int 0], vm := .statics 7 },
  { cls := 10, slots := #[.null, .ref 5], vm := .statics 10 },
  { cls := 15, slots := #[.null, .null, .ref 6, .null, .null, .null], vm := .statics 15 },
  { cls := 19, slots := #[.ref 6, .null], vm := .statics 19 },
  { cls := 23, slots := #[.null, .null, .null], vm := .statics 23 },
  { cls := 26, slots := #[.int 13, .int 10], vm := .none },
  { cls := 19, slots := #[.null, .null, .null], vm := .none }]
def classes : Array Class := #[k0, k1, k2, k3, k4, k5, k6, k7, k8, k9, k10, k11, k12, k13, k14, k15, k16, k17, k18, k19, k20, k21, k22, k23, k24, k25, k26, k27, k28, k29, k30, k31, k32]
def interned : List (Array UInt16 × Addr) := []
def slotsUsed : Nat := 25
def theMethod : MethodId := ⟨1, 1⟩
def args0 : Array Value := #[.long 5, .int 5, .int 5, .int 5]
def aboutOver (below : List Frame) : State where
  vm := { classes := classes, interned := interned.toArray }
  heap := heap
  slotsUsed := slotsUsed
  threads := #[{ frames := .invoking theMethod args0 :: below }]
def below0 : List Frame := [.native { method := ⟨0, 0⟩, args := #[] }]
def about1 : State := aboutOver below0
def p0 : Program := .bare "" "" ""
def e0 : Env := launch0.env 0 0 0
theorem w_frames : about1.frames = Frame.invoking theMethod args0 :: below0 := rfl
set_option maxRecDepth 65536 in
theorem w_args : argsFit about1.vm theMethod args0 = true := by decide +kernel
set_option maxRecDepth 65536 in
theorem w_heap : heapFits about1 = true := by decide +kernel
set_option maxRecDepth 65536 in
theorem w_runnable : about1.curStatus? = some .runnable := by decide +kernel
set_option maxRecDepth 65536 in
theorem w_alone : about1.alone = true := by decide +kernel
set_option maxRecDepth 65536 in
theorem w_named : about1.methodNamed? x = some theMethod := by decide +kernel
set_option maxRecDepth 65536 in
theorem w_hears : about1.hears theMethod below0 = true := by decide +kernel
set_option maxRecDepth 65536 in
theorem w_ripe : about1.ripe theMethod args0 below0 = true := by decide +kernel
theorem w_running : about1.status = .running := rfl
set_option maxRecDepth 65536 in
theorem w_room : about1.hasRoom e0.platform room_1 = true :=
  launch0.hasRoom_least _ room_1 (by decide +kernel) (by decide +kernel) (by decide +kernel) (by decide +kernel) (by decide +kernel) (by decide +kernel)
theorem allAtoms_all (ts : List Jvm.Cond) (a : Array Jvm.Value) (st : Jvm.State) : (allAtoms ts).before a st = ts.all (fun c => c.before a st) := by
  induction ts with
  | nil => rfl
  | cons c t ih =>
    show (Jvm.Cond.and c (allAtoms t)).before a st = _
    rw [Jvm.Cond.before_and, ih, List.all_cons]
def words1 : List Jvm.Cond := Jvm.Cond.code x code maxLocals ret :: tables_1
/-- a 'code' word, met by the world's own term for the bytes: nothing is compared byte by byte -/
theorem code_word {y : MethodName} {bytes : ByteArray} {mx : Nat} {rt : Option FieldType} {a : Array Value} {s : State} {m : MethodId} {meth : Method} {c : Code} (h1 : s.methodNamed? y = some m) (h2 : s.vm.method? m = some meth) (h3 : meth.code = some c) (h4 : c.code = bytes)
    (h5 : (c.maxLocals == mx && c.exceptionTable.isEmpty && decide (c.maxStack ≤ mostOperands) && decide (meth.sig.returnType = rt) && !meth.locks && decide (parseMethodDescriptor y.desc = some meth.sig)) = true) : (Jvm.Cond.code y bytes mx rt).before a s = true := by
  simp only [Bool.and_eq_true, beq_iff_eq, Bool.not_eq_true', decide_eq_true_eq] at h5
  obtain ⟨⟨⟨⟨⟨g1, g2⟩, g3⟩, g4⟩, g5⟩, g6⟩ := h5
  simp [Cond.before, Cond.holds, Cond.value, h1, h2, h3, h4, g1, g2, g3, g4, g5, g6]
def isCode : Jvm.Cond → Bool
  | .code _ _ _ _ => true
  | _ => false
theorem all_split {L : List Jvm.Cond} {P : Jvm.Cond → Bool} (h1 : L.all (fun c => isCode c || P c) = true) (h2 : ∀ c ∈ L.filter isCode, P c = true) : L.all P = true := by
  refine List.all_eq_true.mpr fun c hc => ?_
  have h := List.all_eq_true.mp h1 c hc
  rcases Bool.eq_false_or_eq_true (isCode c) with hi | hi
  · exact h2 c (List.mem_filter.mpr ⟨hc, hi⟩)
  · simpa [hi] using h
set_option maxRecDepth 65536 in
theorem w_c0 : (Jvm.Cond.code x code maxLocals ret).before args0 about1 = true := code_word (m := ⟨1, 1⟩) (meth := k1m1) (c := k1c1) (by decide +kernel) rfl rfl rfl (by decide +kernel)
set_option maxRecDepth 65536 in
theorem w_c1 : (Jvm.Cond.code ({ cls := "java/lang/String", name := "<init>", desc := "([C)V" } : Jvm.MethodName) jdk_42_method_3_code (2 : Nat) (Option.none : Option Jvm.ClassFile.FieldType)).before args0 about1 = true := code_word (m := ⟨7, 1⟩) (meth := k7m1) (c := k7c1) (by decide +kernel) rfl rfl rfl (by decide +kernel)
set_option maxRecDepth 65536 in
theorem w_c2 : (Jvm.Cond.code ({ cls := "java/lang/String", name := "<init>", desc := "([CIILjava/lang/Void;)V" } : Jvm.MethodName) jdk_42_method_149_code (6 : Nat) (Option.none : Option Jvm.ClassFile.FieldType)).before args0 about1 = true := code_word (m := ⟨7, 6⟩) (meth := k7m6) (c := k7c6) (by decide +kernel) rfl rfl rfl (by decide +kernel)
set_option maxRecDepth 65536 in
theorem w_c3 : (Jvm.Cond.code ({ cls := "java/lang/Object", name := "<init>", desc := "()V" } : Jvm.MethodName) object_method_1_code (1 : Nat) (Option.none : Option Jvm.ClassFile.FieldType)).before args0 about1 = true := code_word (m := ⟨0, 0⟩) (meth := k0m0) (c := k0c0) (by decide +kernel) rfl rfl rfl (by decide +kernel)
set_option maxRecDepth 65536 in
theorem w_c4 : (Jvm.Cond.code ({ cls := "java/lang/StringUTF16", name := "compress", desc := "([CII)[B" } : Jvm.MethodName) jdk_52_method_16_code (6 : Nat) (Option.some (Jvm.ClassFile.FieldType.array Jvm.ClassFile.FieldType.byte))).before args0 about1 = true := code_word (m := ⟨8, 4⟩) (meth := k8m4) (c := k8c4) (by decide +kernel) rfl rfl rfl (by decide +kernel)
set_option maxRecDepth 65536 in
theorem w_c5 : (Jvm.Cond.code ({ cls := "java/lang/StringUTF16", name := "compress", desc := "([CI[BII)I" } : Jvm.MethodName) jdk_52_method_21_code (7 : Nat) (Option.some Jvm.ClassFile.FieldType.int)).before args0 about1 = true := code_word (m := ⟨8, 5⟩) (meth := k8m5) (c := k8c5) (by decide +kernel) rfl rfl rfl (by decide +kernel)
set_option maxRecDepth 65536 in
theorem w_c6 : (Jvm.Cond.code ({ cls := "java/lang/StringUTF16", name := "coderFromArrayLen", desc := "([BI)B" } : Jvm.MethodName) jdk_52_method_15_code (2 : Nat) (Option.some Jvm.ClassFile.FieldType.byte)).before args0 about1 = true := code_word (m := ⟨8, 3⟩) (meth := k8m3) (c := k8c3) (by decide +kernel) rfl rfl rfl (by decide +kernel)
set_option maxRecDepth 65536 in
theorem w_c7 : (Jvm.Cond.code ({ cls := "java/lang/String", name := "valueOf", desc := "(C)Ljava/lang/String;" } : Jvm.MethodName) jdk_42_method_139_code (1 : Nat) (Option.some (Jvm.ClassFile.FieldType.object "java/lang/String"))).before args0 about1 = true := code_word (m := ⟨7, 5⟩) (meth := k7m5) (c := k7c5) (by decide +kernel) rfl rfl rfl (by decide +kernel)
set_option maxRecDepth 65536 in
theorem w_c8 : (Jvm.Cond.code ({ cls := "java/lang/StringLatin1", name := "canEncode", desc := "(C)Z" } : Jvm.MethodName) jdk_43_method_3_code (1 : Nat) (Option.some Jvm.ClassFile.FieldType.boolean)).before args0 about1 = true := code_word (m := ⟨9, 1⟩) (meth := k9m1) (c := k9c1) (by decide +kernel) rfl rfl rfl (by decide +kernel)
set_option maxRecDepth 65536 in
theorem w_c9 : (Jvm.Cond.code ({ cls := "java/lang/StringLatin1", name := "toBytes", desc := "(C)[B" } : Jvm.MethodName) jdk_43_method_46_code (1 : Nat) (Option.some (Jvm.ClassFile.FieldType.array Jvm.ClassFile.FieldType.byte))).before args0 about1 = true := code_word (m := ⟨9, 2⟩) (meth := k9m2) (c := k9c2) (by decide +kernel) rfl rfl rfl (by decide +kernel)
set_option maxRecDepth 65536 in
theorem w_c10 : (Jvm.Cond.code ({ cls := "java/lang/String", name := "<init>", desc := "([BB)V" } : Jvm.MethodName) jdk_42_method_151_code (3 : Nat) (Option.none : Option Jvm.ClassFile.FieldType)).before args0 about1 = true := code_word (m := ⟨7, 7⟩) (meth := k7m7) (c := k7c7) (by decide +kernel) rfl rfl rfl (by decide +kernel)
set_option maxRecDepth 65536 in
theorem w_c11 : (Jvm.Cond.code ({ cls := "com/example/quorum_lease/quorumlease/redis/Resp", name := "head", desc := "([Ljava/lang/String;)Lcom/example/quorum_lease/quorumlease/redis/Resp$Head;" } : Jvm.MethodName) prog_10_method_3_code (1 : Nat) (Option.some (Jvm.ClassFile.FieldType.object "com/example/quorum_lease/quorumlease/redis/Resp$Head"))).before args0 about1 = true := code_word (m := ⟨10, 1⟩) (meth := k10m1) (c := k10c1) (by decide +kernel) rfl rfl rfl (by decide +kernel)
set_option maxRecDepth 65536 in
theorem w_c12 : (Jvm.Cond.code ({ cls := "com/example/quorum_lease/quorumlease/redis/Resp", name := "bulkStrings", desc := "([Ljava/lang/String;)[B" } : Jvm.MethodName) prog_10_method_12_code (3 : Nat) (Option.some (Jvm.ClassFile.FieldType.array Jvm.ClassFile.FieldType.byte))).before args0 about1 = true := code_word (m := ⟨10, 2⟩) (meth := k10m2) (c := k10c2) (by decide +kernel) rfl rfl rfl (by decide +kernel)
set_option maxRecDepth 65536 in
theorem w_c13 : (Jvm.Cond.code ({ cls := "com/example/quorum_lease/quorumlease/redis/Resp", name := "utf8", desc := "([Ljava/lang/String;)[[B" } : Jvm.MethodName) prog_10_method_13_code (3 : Nat) (Option.some (Jvm.ClassFile.FieldType.array (Jvm.ClassFile.FieldType.array Jvm.ClassFile.FieldType.byte)))).before args0 about1 = true := code_word (m := ⟨10, 3⟩) (meth := k10m3) (c := k10c3) (by decide +kernel) rfl rfl rfl (by decide +kernel)
set_option maxRecDepth 65536 in
theorem w_c14 : (Jvm.Cond.code ({ cls := "com/example/quorum_lease/quorumlease/redis/Resp", name := "bulkStringsLength", desc := "([[B)I" } : Jvm.MethodName) prog_10_method_14_code (6 : Nat) (Option.some Jvm.ClassFile.FieldType.int)).before args0 about1 = true := code_word (m := ⟨10, 4⟩) (meth := k10m4) (c := k10c4) (by decide +kernel) rfl rfl rfl (by decide +kernel)
set_option maxRecDepth 65536 in
theorem w_c15 : (Jvm.Cond.code ({ cls := "com/example/quorum_lease/quorumlease/redis/Resp", name := "putBulkStrings", desc := "([BI[[B)V" } : Jvm.MethodName) prog_10_method_15_code (8 : Nat) (Option.none : Option Jvm.ClassFile.FieldType)).before args0 about1 = true := code_word (m := ⟨10, 5⟩) (meth := k10m5) (c := k10c5) (by decide +kernel) rfl rfl rfl (by decide +kernel)
set_option maxRecDepth 65536 in
theorem w_c16 : (Jvm.Cond.code ({ cls := "com/example/quorum_lease/quorumlease/redis/Resp$Head", name := "<init>", desc := "(I[B)V" } : Jvm.MethodName) prog_12_method_1_code (3 : Nat) (Option.none : Option Jvm.ClassFile.FieldType)).before args0 about1 = true := code_word (m := ⟨11, 0⟩) (meth := k11m0) (c := k11c0) (by decide +kernel) rfl rfl rfl (by decide +kernel)
set_option maxRecDepth 65536 in
theorem w_c17 : (Jvm.Cond.code ({ cls := "com/example/quorum_lease/quorumlease/redis/Resp$Head", name := "request", desc := "([Ljava/lang/String;)[B" } : Jvm.MethodName) prog_12_method_2_code (7 : Nat) (Option.some (Jvm.ClassFile.FieldType.array Jvm.ClassFile.FieldType.byte))).before args0 about1 = true := code_word (m := ⟨11, 1⟩) (meth := k11m1) (c := k11c1) (by decide +kernel) rfl rfl rfl (by decide +kernel)
set_option maxRecDepth 65536 in
theorem w_c18 : (Jvm.Cond.code ({ cls := "com/example/quorum_lease/quorumlease/redis/Resp", name := "headerLength", desc := "(I)I" } : Jvm.MethodName) prog_10_method_16_code (1 : Nat) (Option.some Jvm.ClassFile.FieldType.int)).before args0 about1 = true := code_word (m := ⟨10, 6⟩) (meth := k10m6) (c := k10c6) (by decide +kernel) rfl rfl rfl (by decide +kernel)
set_option maxRecDepth 65536 in
theorem w_c19 : (Jvm.Cond.code ({ cls := "com/example/quorum_lease/quorumlease/redis/Resp", name := "digits", desc := "(I)I" } : Jvm.MethodName) prog_10_method_18_code (3 : Nat) (Option.some Jvm.ClassFile.FieldType.int)).before args0 about1 = true := code_word (m := ⟨10, 8⟩) (meth := k10m8) (c := k10c8) (by decide +kernel) rfl rfl rfl (by decide +kernel)
set_option maxRecDepth 65536 in
theorem w_c20 : (Jvm.Cond.code ({ cls := "com/example/quorum_lease/quorumlease/redis/Resp", name := "putHeader", desc := "([BICI)I" } : Jvm.MethodName) prog_10_method_17_code (7 : Nat) (Option.some Jvm.ClassFile.FieldType.int)).before args0 about1 = true := code_word (m := ⟨10, 7⟩) (meth := k10m7) (c := k10c7) (by decide +kernel) rfl rfl rfl (by decide +kernel)
set_option maxRecDepth 65536 in
theorem w_c21 : (Jvm.Cond.code ({ cls := "com/example/quorum_lease/quorumlease/redis/Resp$Built", name := "<init>", desc := "([Ljava/lang/String;[B)V" } : Jvm.MethodName) prog_11_method_1_code (3 : Nat) (Option.none : Option Jvm.ClassFile.FieldType)).before args0 about1 = true := code_word (m := ⟨13, 0⟩) (meth := k13m0) (c := k13c0) (by decide +kernel) rfl rfl rfl (by decide +kernel)
set_option maxRecDepth 65536 in
theorem w_c22 : (Jvm.Cond.code ({ cls := "java/util/Arrays", name := "equals", desc := "([Ljava/lang/Object;[Ljava/lang/Object;)Z" } : Jvm.MethodName) jdk_65_method_97_code (4 : Nat) (Option.some Jvm.ClassFile.FieldType.boolean)).before args0 about1 = true := code_word (m := ⟨14, 1⟩) (meth := k14m1) (c := k14c1) (by decide +kernel) rfl rfl rfl (by decide +kernel)
set_option maxRecDepth 65536 in
theorem w_c23 : (Jvm.Cond.code ({ cls := "com/example/quorum_lease/quorumlease/redis/RespHeadPinLaw", name := "check", desc := "([BII[CZCCC)Z" } : Jvm.MethodName) method_3_code (9 : Nat) (Option.some Jvm.ClassFile.FieldType.boolean)).before args0 about1 = true := code_word (m := ⟨1, 2⟩) (meth := k1m2) (c := k1c2) (by decide +kernel) rfl rfl rfl (by decide +kernel)
set_option maxRecDepth 65536 in
theorem w_c24 : (Jvm.Cond.code ({ cls := "com/example/quorum_lease/quorumlease/redis/RespHeadPinLaw", name := "header", desc := "([BIII)I" } : Jvm.MethodName) method_8_code (5 : Nat) (Option.some Jvm.ClassFile.FieldType.int)).before args0 about1 = true := code_word (m := ⟨1, 7⟩) (meth := k1m7) (c := k1c7) (by decide +kernel) rfl rfl rfl (by decide +kernel)
set_option maxRecDepth 65536 in
theorem w_c25 : (Jvm.Cond.code ({ cls := "java/lang/String", name := "getBytes", desc := "(Ljava/nio/charset/Charset;)[B" } : Jvm.MethodName) jdk_42_method_64_code (2 : Nat) (Option.some (Jvm.ClassFile.FieldType.array Jvm.ClassFile.FieldType.byte))).before args0 about1 = true := code_word (m := ⟨7, 4⟩) (meth := k7m4) (c := k7c4) (by decide +kernel) rfl rfl rfl (by decide +kernel)
set_option maxRecDepth 65536 in
theorem w_c26 : (Jvm.Cond.code ({ cls := "java/lang/String", name := "coder", desc := "()B" } : Jvm.MethodName) jdk_42_method_152_code (1 : Nat) (Option.some Jvm.ClassFile.FieldType.byte)).before args0 about1 = true := code_word (m := ⟨7, 8⟩) (meth := k7m8) (c := k7c8) (by decide +kernel) rfl rfl rfl (by decide +kernel)
set_option maxRecDepth 65536 in
theorem w_c27 : (Jvm.Cond.code ({ cls := "java/lang/String", name := "encode", desc := "(Ljava/nio/charset/Charset;B[B)[B" } : Jvm.MethodName) jdk_42_method_18_code (3 : Nat) (Option.some (Jvm.ClassFile.FieldType.array Jvm.ClassFile.FieldType.byte))).before args0 about1 = true := code_word (m := ⟨7, 2⟩) (meth := k7m2) (c := k7c2) (by decide +kernel) rfl rfl rfl (by decide +kernel)
set_option maxRecDepth 65536 in
theorem w_c28 : (Jvm.Cond.code ({ cls := "java/lang/String", name := "encodeUTF8", desc := "(B[BZ)[B" } : Jvm.MethodName) jdk_42_method_46_code (9 : Nat) (Option.some (Jvm.ClassFile.FieldType.array Jvm.ClassFile.FieldType.byte))).before args0 about1 = true := code_word (m := ⟨7, 3⟩) (meth := k7m3) (c := k7c3) (by decide +kernel) rfl rfl rfl (by decide +kernel)
set_option maxRecDepth 65536 in
theorem w_c29 : (Jvm.Cond.code ({ cls := "java/lang/StringCoding", name := "hasNegatives", desc := "([BII)Z" } : Jvm.MethodName) jdk_123_method_2_code (3 : Nat) (Option.some Jvm.ClassFile.FieldType.boolean)).before args0 about1 = true := code_word (m := ⟨20, 1⟩) (meth := k20m1) (c := k20c1) (by decide +kernel) rfl rfl rfl (by decide +kernel)
set_option maxRecDepth 65536 in
theorem w_c30 : (Jvm.Cond.code ({ cls := "java/lang/StringCoding", name := "countPositives", desc := "([BII)I" } : Jvm.MethodName) jdk_123_method_3_code (5 : Nat) (Option.some Jvm.ClassFile.FieldType.int)).before args0 about1 = true := code_word (m := ⟨20, 2⟩) (meth := k20m2) (c := k20c2) (by decide +kernel) rfl rfl rfl (by decide +kernel)
set_option maxRecDepth 65536 in
theorem w_c31 : (Jvm.Cond.code ({ cls := "com/example/quorum_lease/quorumlease/redis/RespHeadPinLaw", name := "word5", desc := "([BI[C)I" } : Jvm.MethodName) method_5_code (5 : Nat) (Option.some Jvm.ClassFile.FieldType.int)).before args0 about1 = true := code_word (m := ⟨1, 4⟩) (meth := k1m4) (c := k1c4) (by decide +kernel) rfl rfl rfl (by decide +kernel)
set_option maxRecDepth 65536 in
theorem w_c32 : (Jvm.Cond.code ({ cls := "com/example/quorum_lease/quorumlease/redis/RespHeadPinLaw", name := "len", desc := "(C)I" } : Jvm.MethodName) method_4_code (1 : Nat) (Option.some Jvm.ClassFile.FieldType.int)).before args0 about1 = true := code_word (m := ⟨1, 3⟩) (meth := k1m3) (c := k1c3) (by decide +kernel) rfl rfl rfl (by decide +kernel)
set_option maxRecDepth 65536 in
theorem w_c33 : (Jvm.Cond.code ({ cls := "com/example/quorum_lease/quorumlease/redis/RespHeadPinLaw", name := "ch", desc := "([BIC)I" } : Jvm.MethodName) method_9_code (3 : Nat) (Option.some Jvm.ClassFile.FieldType.int)).before args0 about1 = true := code_word (m := ⟨1, 8⟩) (meth := k1m8) (c := k1c8) (by decide +kernel) rfl rfl rfl (by decide +kernel)
set_option maxRecDepth 65536 in
theorem w_c34 : (Jvm.Cond.code ({ cls := "com/example/quorum_lease/quorumlease/redis/RespHeadPinLaw", name := "crlf", desc := "([BI)I" } : Jvm.MethodName) method_10_code (2 : Nat) (Option.some Jvm.ClassFile.FieldType.int)).before args0 about1 = true := code_word (m := ⟨1, 9⟩) (meth := k1m9) (c := k1c9) (by decide +kernel) rfl rfl rfl (by decide +kernel)
set_option maxRecDepth 65536 in
theorem w_c35 : (Jvm.Cond.code ({ cls := "java/lang/StringUTF16", name := "newBytesFor", desc := "(I)[B" } : Jvm.MethodName) jdk_52_method_2_code (1 : Nat) (Option.some (Jvm.ClassFile.FieldType.array Jvm.ClassFile.FieldType.byte))).before args0 about1 = true := code_word (m := ⟨8, 1⟩) (meth := k8m1) (c := k8c1) (by decide +kernel) rfl rfl rfl (by decide +kernel)
set_option maxRecDepth 65536 in
theorem w_c36 : (Jvm.Cond.code ({ cls := "java/lang/StringUTF16", name := "newBytesLength", desc := "(I)I" } : Jvm.MethodName) jdk_52_method_3_code (1 : Nat) (Option.some Jvm.ClassFile.FieldType.int)).before args0 about1 = true := code_word (m := ⟨8, 2⟩) (meth := k8m2) (c := k8c2) (by decide +kernel) rfl rfl rfl (by decide +kernel)
set_option maxRecDepth 65536 in
theorem w_c37 : (Jvm.Cond.code ({ cls := "java/util/Arrays", name := "copyOf", desc := "([BI)[B" } : Jvm.MethodName) jdk_65_method_121_code (3 : Nat) (Option.some (Jvm.ClassFile.FieldType.array Jvm.ClassFile.FieldType.byte))).before args0 about1 = true := code_word (m := ⟨14, 2⟩) (meth := k14m2) (c := k14c2) (by decide +kernel) rfl rfl rfl (by decide +kernel)
set_option maxRecDepth 65536 in
theorem w_c38 : (Jvm.Cond.code ({ cls := "java/lang/Math", name := "min", desc := "(II)I" } : Jvm.MethodName) jdk_29_method_69_code (2 : Nat) (Option.some Jvm.ClassFile.FieldType.int)).before args0 about1 = true := code_word (m := ⟨22, 1⟩) (meth := k22m1) (c := k22c1) (by decide +kernel) rfl rfl rfl (by decide +kernel)
set_option maxRecDepth 65536 in
theorem w_c39 : (Jvm.Cond.code ({ cls := "com/example/quorum_lease/quorumlease/redis/RespHeadPinLaw", name := "word1", desc := "([BIZC)I" } : Jvm.MethodName) method_6_code (5 : Nat) (Option.some Jvm.ClassFile.FieldType.int)).before args0 about1 = true := code_word (m := ⟨1, 5⟩) (meth := k1m5) (c := k1c5) (by decide +kernel) rfl rfl rfl (by decide +kernel)
set_option maxRecDepth 65536 in
theorem w_c40 : (Jvm.Cond.code ({ cls := "com/example/quorum_lease/quorumlease/redis/RespHeadPinLaw", name := "word2", desc := "([BICC)I" } : Jvm.MethodName) method_7_code (5 : Nat) (Option.some Jvm.ClassFile.FieldType.int)).before args0 about1 = true := code_word (m := ⟨1, 6⟩) (meth := k1m6) (c := k1c6) (by decide +kernel) rfl rfl rfl (by decide +kernel)
def codes1 : List Jvm.Cond := [Jvm.Cond.code x code maxLocals ret, Jvm.Cond.code ({ cls := "java/lang/String", name := "<init>", desc := "([C)V" } : Jvm.MethodName) jdk_42_method_3_code (2 : Nat) (Option.none : Option Jvm.ClassFile.FieldType), Jvm.Cond.code ({ cls := "java/lang/String", name := "<init>", desc := "([CIILjava/lang/Void;)V" } : Jvm.MethodName) jdk_42_method_149_code (6 : Nat) (Option.none : Option Jvm.ClassFile.FieldType), Jvm.Cond.code ({ cls := "java/lang/Object", name := "<init>", desc := "()V" } : Jvm.MethodName) object_method_1_code (1 : Nat) (Option.none : Option Jvm.ClassFile.FieldType), Jvm.Cond.code ({ cls := "java/lang/StringUTF16", name := "compress", desc := "([CII)[B" } : Jvm.MethodName) jdk_52_method_16_code (6 : Nat) (Option.some (Jvm.ClassFile.FieldType.array Jvm.ClassFile.FieldType.byte)), Jvm.Cond.code ({ cls := "java/lang/StringUTF16", name := "compress", desc := "([CI[BII)I" } : Jvm.MethodName) jdk_52_method_21_code (7 : Nat) (Option.some Jvm.ClassFile.FieldType.int), Jvm.Cond.code ({ cls := "java/lang/StringUTF16", name := "coderFromArrayLen", desc := "([BI)B" } : Jvm.MethodName) jdk_52_method_15_code (2 : Nat) (Option.some Jvm.ClassFile.FieldType.byte), Jvm.Cond.code ({ cls := "java/lang/String", name := "valueOf", desc := "(C)Ljava/lang/String;" } : Jvm.MethodName) jdk_42_method_139_code (1 : Nat) (Option.some (Jvm.ClassFile.FieldType.object "java/lang/String")), Jvm.Cond.code ({ cls := "java/lang/StringLatin1", name := "canEncode", desc := "(C)Z" } : Jvm.MethodName) jdk_43_method_3_code (1 : Nat) (Option.some Jvm.ClassFile.FieldType.boolean), Jvm.Cond.code ({ cls := "java/lang/StringLatin1", name := "toBytes", desc := "(C)[B" } : Jvm.MethodName) jdk_43_method_46_code (1 : Nat) (Option.some (Jvm.ClassFile.FieldType.array Jvm.ClassFile.FieldType.byte)), Jvm.Cond.code ({ cls := "java/lang/String", name := "<init>", desc := "([BB)V" } : Jvm.MethodName) jdk_42_method_151_code (3 : Nat) (Option.none : Option Jvm.ClassFile.FieldType), Jvm.Cond.code ({ cls := "com/example/quorum_lease/quorumlease/redis/Resp", name := "head", desc := "([Ljava/lang/String;)Lcom/example/quorum_lease/quorumlease/redis/Resp$Head;" } : Jvm.MethodName) prog_10_method_3_code (1 : Nat) (Option.some (Jvm.ClassFile.FieldType.object "com/example/quorum_lease/quorumlease/redis/Resp$Head")), Jvm.Cond.code ({ cls := "com/example/quorum_lease/quorumlease/redis/Resp", name := "bulkStrings", desc := "([Ljava/lang/String;)[B" } : Jvm.MethodName) prog_10_method_12_code (3 : Nat) (Option.some (Jvm.ClassFile.FieldType.array Jvm.ClassFile.FieldType.byte)), Jvm.Cond.code ({ cls := "com/example/quorum_lease/quorumlease/redis/Resp", name := "utf8", desc := "([Ljava/lang/String;)[[B" } : Jvm.MethodName) prog_10_method_13_code (3 : Nat) (Option.some (Jvm.ClassFile.FieldType.array (Jvm.ClassFile.FieldType.array Jvm.ClassFile.FieldType.byte))), Jvm.Cond.code ({ cls := "com/example/quorum_lease/quorumlease/redis/Resp", name := "bulkStringsLength", desc := "([[B)I" } : Jvm.MethodName) prog_10_method_14_code (6 : Nat) (Option.some Jvm.ClassFile.FieldType.int), Jvm.Cond.code ({ cls := "com/example/quorum_lease/quorumlease/redis/Resp", name := "putBulkStrings", desc := "([BI[[B)V" } : Jvm.MethodName) prog_10_method_15_code (8 : Nat) (Option.none : Option Jvm.ClassFile.FieldType), Jvm.Cond.code ({ cls := "com/example/quorum_lease/quorumlease/redis/Resp$Head", name := "<init>", desc := "(I[B)V" } : Jvm.MethodName) prog_12_method_1_code (3 : Nat) (Option.none : Option Jvm.ClassFile.FieldType), Jvm.Cond.code ({ cls := "com/example/quorum_lease/quorumlease/redis/Resp$Head", name := "request", desc := "([Ljava/lang/String;)[B" } : Jvm.MethodName) prog_12_method_2_code (7 : Nat) (Option.some (Jvm.ClassFile.FieldType.array Jvm.ClassFile.FieldType.byte)), Jvm.Cond.code ({ cls := "com/example/quorum_lease/quorumlease/redis/Resp", name := "headerLength", desc := "(I)I" } : Jvm.MethodName) prog_10_method_16_code (1 : Nat) (Option.some Jvm.ClassFile.FieldType.int), Jvm.Cond.code ({ cls := "com/example/quorum_lease/quorumlease/redis/Resp", name := "digits", desc := "(I)I" } : Jvm.MethodName) prog_10_method_18_code (3 : Nat) (Option.some Jvm.ClassFile.FieldType.int), Jvm.Cond.code ({ cls := "com/example/quorum_lease/quorumlease/redis/Resp", name := "putHeader", desc := "([BICI)I" } : Jvm.MethodName) prog_10_method_17_code (7 : Nat) (Option.some Jvm.ClassFile.FieldType.int), Jvm.Cond.code ({ cls := "com/example/quorum_lease/quorumlease/redis/Resp$Built", name := "<init>", desc := "([Ljava/lang/String;[B)V" } : Jvm.MethodName) prog_11_method_1_code (3 : Nat) (Option.none : Option Jvm.ClassFile.FieldType), Jvm.Cond.code ({ cls := "java/util/Arrays", name := "equals", desc := "([Ljava/lang/Object;[Ljava/lang/Object;)Z" } : Jvm.MethodName) jdk_65_method_97_code (4 : Nat) (Option.some Jvm.ClassFile.FieldType.boolean), Jvm.Cond.code ({ cls := "com/example/quorum_lease/quorumlease/redis/RespHeadPinLaw", name := "check", desc := "([BII[CZCCC)Z" } : Jvm.MethodName) method_3_code (9 : Nat) (Option.some Jvm.ClassFile.FieldType.boolean), Jvm.Cond.code ({ cls := "com/example/quorum_lease/quorumlease/redis/RespHeadPinLaw", name := "header", desc := "([BIII)I" } : Jvm.MethodName) method_8_code (5 : Nat) (Option.some Jvm.ClassFile.FieldType.int), Jvm.Cond.code ({ cls := "java/lang/String", name := "getBytes", desc := "(Ljava/nio/charset/Charset;)[B" } : Jvm.MethodName) jdk_42_method_64_code (2 : Nat) (Option.some (Jvm.ClassFile.FieldType.array Jvm.ClassFile.FieldType.byte)), Jvm.Cond.code ({ cls := "java/lang/String", name := "coder", desc := "()B" } : Jvm.MethodName) jdk_42_method_152_code (1 : Nat) (Option.some Jvm.ClassFile.FieldType.byte), Jvm.Cond.code ({ cls := "java/lang/String", name := "encode", desc := "(Ljava/nio/charset/Charset;B[B)[B" } : Jvm.MethodName) jdk_42_method_18_code (3 : Nat) (Option.some (Jvm.ClassFile.FieldType.array Jvm.ClassFile.FieldType.byte)), Jvm.Cond.code ({ cls := "java/lang/String", name := "encodeUTF8", desc := "(B[BZ)[B" } : Jvm.MethodName) jdk_42_method_46_code (9 : Nat) (Option.some (Jvm.ClassFile.FieldType.array Jvm.ClassFile.FieldType.byte)), Jvm.Cond.code ({ cls := "java/lang/StringCoding", name := "hasNegatives", desc := "([BII)Z" } : Jvm.MethodName) jdk_123_method_2_code (3 : Nat) (Option.some Jvm.ClassFile.FieldType.boolean), Jvm.Cond.code ({ cls := "java/lang/StringCoding", name := "countPositives", desc := "([BII)I" } : Jvm.MethodName) jdk_123_method_3_code (5 : Nat) (Option.some Jvm.ClassFile.FieldType.int), Jvm.Cond.code ({ cls := "com/example/quorum_lease/quorumlease/redis/RespHeadPinLaw", name := "word5", desc := "([BI[C)I" } : Jvm.MethodName) method_5_code (5 : Nat) (Option.some Jvm.ClassFile.FieldType.int), Jvm.Cond.code ({ cls := "com/example/quorum_lease/quorumlease/redis/RespHeadPinLaw", name := "len", desc := "(C)I" } : Jvm.MethodName) method_4_code (1 : Nat) (Option.some Jvm.ClassFile.FieldType.int), Jvm.Cond.code ({ cls := "com/example/quorum_lease/quorumlease/redis/RespHeadPinLaw", name := "ch", desc := "([BIC)I" } : Jvm.MethodName) method_9_code (3 : Nat) (Option.some Jvm.ClassFile.FieldType.int), Jvm.Cond.code ({ cls := "com/example/quorum_lease/quorumlease/redis/RespHeadPinLaw", name := "crlf", desc := "([BI)I" } : Jvm.MethodName) method_10_code (2 : Nat) (Option.some Jvm.ClassFile.FieldType.int), Jvm.Cond.code ({ cls := "java/lang/StringUTF16", name := "newBytesFor", desc := "(I)[B" } : Jvm.MethodName) jdk_52_method_2_code (1 : Nat) (Option.some (Jvm.ClassFile.FieldType.array Jvm.ClassFile.FieldType.byte)), Jvm.Cond.code ({ cls := "java/lang/StringUTF16", name := "newBytesLength", desc := "(I)I" } : Jvm.MethodName) jdk_52_method_3_code (1 : Nat) (Option.some Jvm.ClassFile.FieldType.int), Jvm.Cond.code ({ cls := "java/util/Arrays", name := "copyOf", desc := "([BI)[B" } : Jvm.MethodName) jdk_65_method_121_code (3 : Nat) (Option.some (Jvm.ClassFile.FieldType.array Jvm.ClassFile.FieldType.byte)), Jvm.Cond.code ({ cls := "java/lang/Math", name := "min", desc := "(II)I" } : Jvm.MethodName) jdk_29_method_69_code (2 : Nat) (Option.some Jvm.ClassFile.FieldType.int), Jvm.Cond.code ({ cls := "com/example/quorum_lease/quorumlease/redis/RespHeadPinLaw", name := "word1", desc := "([BIZC)I" } : Jvm.MethodName) method_6_code (5 : Nat) (Option.some Jvm.ClassFile.FieldType.int), Jvm.Cond.code ({ cls := "com/example/quorum_lease/quorumlease/redis/RespHeadPinLaw", name := "word2", desc := "([BICC)I" } : Jvm.MethodName) method_7_code (5 : Nat) (Option.some Jvm.ClassFile.FieldType.int)]
set_option maxRecDepth 65536 in
theorem codes_eq : words1.filter isCode = codes1 := rfl
theorem w_codes : ∀ c ∈ words1.filter isCode, c.before args0 about1 = true := by
  rw [codes_eq]
  intro c hc
  simp only [codes1, List.mem_cons, List.not_mem_nil, or_false] at hc
  rcases hc with rfl | rfl | rfl | rfl | rfl | rfl | rfl | rfl | rfl | rfl | rfl | rfl | rfl | rfl | rfl | rfl | rfl | rfl | rfl | rfl | rfl | rfl | rfl | rfl | rfl | rfl | rfl | rfl | rfl | rfl | rfl | rfl | rfl | rfl | rfl | rfl | rfl | rfl | rfl | rfl | rfl
  · exact w_c0
  · exact w_c1
  · exact w_c2
  · exact w_c3
  · exact w_c4
  · exact w_c5
  · exact w_c6
  · exact w_c7
  · exact w_c8
  · exact w_c9
  · exact w_c10
  · exact w_c11
  · exact w_c12
  · exact w_c13
  · exact w_c14
  · exact w_c15
  · exact w_c16
  · exact w_c17
  · exact w_c18
  · exact w_c19
  · exact w_c20
  · exact w_c21
  · exact w_c22
  · exact w_c23
  · exact w_c24
  · exact w_c25
  · exact w_c26
  · exact w_c27
  · exact w_c28
  · exact w_c29
  · exact w_c30
  · exact w_c31
  · exact w_c32
  · exact w_c33
  · exact w_c34
  · exact w_c35
  · exact w_c36
  · exact w_c37
  · exact w_c38
  · exact w_c39
  · exact w_c40
set_option maxRecDepth 65536 in
theorem w_t1 : (words1.take 24).all (fun c => isCode c || c.before args0 about1) = true := by decide +kernel
set_option maxRecDepth 65536 in
theorem w_t2 : ((words1.drop 24).take 24).all (fun c => isCode c || c.before args0 about1) = true := by decide +kernel
set_option maxRecDepth 65536 in
theorem w_t3 : (((words1.drop 24).drop 24).take 24).all (fun c => isCode c || c.before args0 about1) = true := by decide +kernel
set_option maxRecDepth 65536 in
theorem w_t4 : ((((words1.drop 24).drop 24).drop 24).take 24).all (fun c => isCode c || c.before args0 about1) = true := by decide +kernel
set_option maxRecDepth 65536 in
theorem w_t5 : (((((words1.drop 24).drop 24).drop 24).drop 24).take 24).all (fun c => isCode c || c.before args0 about1) = true := by decide +kernel
set_option maxRecDepth 65536 in
theorem w_t6 : ((((((words1.drop 24).drop 24).drop 24).drop 24).drop 24).take 24).all (fun c => isCode c || c.before args0 about1) = true := by decide +kernel
set_option maxRecDepth 65536 in
theorem w_t7 : (((((((words1.drop 24).drop 24).drop 24).drop 24).drop 24).drop 24).take 24).all (fun c => isCode c || c.before args0 about1) = true := by decide +kernel
set_option maxRecDepth 65536 in
theorem w_t8 : ((((((((words1.drop 24).drop 24).drop 24).drop 24).drop 24).drop 24).drop 24).take 24).all (fun c => isCode c || c.before args0 about1) = true := by decide +kernel
set_option maxRecDepth 65536 in
theorem w_t9 : ((((((((words1.drop 24).drop 24).drop 24).drop 24).drop 24).drop 24).drop 24).drop 24).all (fun c => isCode c || c.before args0 about1) = true := by decide +kernel
theorem w_tables : (allAtoms (Jvm.Cond.code x code maxLocals ret :: tables_1)).before args0 about1 = true := by
  rw [allAtoms_all]
  show words1.all (fun c => c.before args0 about1) = true
  refine all_split ?_ w_codes
  rw [← List.take_append_drop 24 words1, List.all_append, w_t1, ← List.take_append_drop 24 (words1.drop 24), List.all_append, w_t2, ← List.take_append_drop 24 ((words1.drop 24).drop 24), List.all_append, w_t3, ← List.take_append_drop 24 (((words1.drop 24).drop 24).drop 24), List.all_append, w_t4, ← List.take_append_drop 24 ((((words1.drop 24).drop 24).drop 24).drop 24), List.all_append, w_t5, ← List.take_append_drop 24 (((((words1.drop 24).drop 24).drop 24).drop 24).drop 24), List.all_append, w_t6, ← List.take_append_drop 24 ((((((words1.drop 24).drop 24).drop 24).drop 24).drop 24).drop 24), List.all_append, w_t7, ← List.take_append_drop 24 (((((((words1.drop 24).drop 24).drop 24).drop 24).drop 24).drop 24).drop 24), List.all_append, w_t8, w_t9]
  rfl
set_option maxRecDepth 65536 in
theorem w_rest : rest_1_c.before args0 about1 = true := by decide +kernel
set_option maxRecDepth 65536 in
theorem w_case : (Jvm.Cond.and given_1 narrow_1).before args0 about1 = true := by decide +kernel
set_option maxRecDepth 65536 in
theorem w_consts : constsHeld consts_1 about1 := Jvm.Lit.constsHeldB_iff.mp (by decide +kernel)
theorem w_applies : (headSpec (Jvm.Cond.code x code maxLocals ret :: tables_1) room_1).applies x e0.platform about1 = true :=
  (Spec.applies_iff w_frames).mpr ⟨w_running, w_runnable, w_alone, w_named, w_hears, w_ripe, w_room, w_tables⟩
theorem atStart : AtStart classFile x code maxLocals ret World_1 tables_1 room_1 Calls_1 rest_1 Pre_1 launch0 p0 e0 about1 theMethod args0 below0 :=
  ⟨lists_1, trivial, launch0.admits_env _ _ _, launch0.least_env, fairChoices_fair.cas, fairChoices_fair.clock, w_frames, w_args, w_heap, w_applies, ⟨w_consts, trivial⟩, w_rest, w_case⟩
end start1
theorem witness_1 : WitnessClaimed_1 := ⟨start1.p0, start1.e0, start1.about1, start1.theMethod, start1.args0, start1.below0, start1.atStart⟩
end Jvm.Pilot.@@N@@
