import JvmDerived
import JvmDerived.Pilot.@@N@@Statement
import JvmDerived.Pilot.@@N@@Code
set_option linter.unusedVariables false
set_option linter.unusedSimpArgs false
namespace Jvm.RoadKit
open Sem ClassFile Op Lib Jvm.Stand Jvm.Free Jvm.LawKit
section New
variable {p : Program} {l : Launch} {e : Env} {R : Room} {s : State} {m : MethodId} {args : Array Value} {below : List Frame} {meth : Method} {c : Code} {T : State} {locs : List Loc} {cells slots : Nat}
theorem retI (X : Stand p l e R s m args below meth c T locs cells slots) (hx : p.tables.exec = Jvm.exec) {pc : Nat} {Ls : Array Slot} {z : Int32} {rest : List Value} (hret : meth.sig.returnType = some .int) (hd : decode c.code pc = .ok (.ireturn, 1)) {fs : List Frame}
    (hl : ∀ (f : JFrame) (acts : List Action), f.method = m → f.locked = none → f.entered = [] → (doReturn e (T.setTop f) acts (some (.int z))).1 = T.setFrames fs) : Steps p.tables e below (T.setTop (mkF m pc Ls (.int z :: rest))) (T.setFrames fs) := by
  have hm' : T.vm.method? m = some meth := X.method'
  have hn : narrow .int (.int z) = .int z := rfl
  show Steps p.tables e below (T.setTop { method := m, pc := pc, locals := Ls, stack := _ :: rest, locked := none }) _
  jvm_step X.here [X.here.top, hx, hd, hm', hret, hn]
  first | (intro acts; rw [hl _ acts rfl rfl rfl]) | rw [hl _ _ rfl rfl rfl]
  exact Steps.refl _
end New
end Jvm.RoadKit
namespace Jvm.Pilot.@@N@@
open Jvm Jvm.ClassFile Sem Op Lib Jvm.Free Jvm.Stand Jvm.LawKit Jvm.RoadKit Bundle Jvm.Pilot.@@N@@.Jvm.D
theorem own_keep_ext {h h' : Heap} (K : Keep h h' []) : Ext h h' := ⟨K.1, fun a c q => K.2.1 a c q nin0⟩
theorem own_sta_keep {Z : State} {h h' : Heap} {C n d K : String} {a : Addr} {v : Value} (F : Sta Z h C n d v) (Kp : Keep h h' [a]) (E : Exa Z h a K) : Sta Z h' C n d v := by
  obtain ⟨cf, i, k, f, st, cell, h1, h2, h3, h4, h5, h6, h7⟩ := F
  obtain ⟨cell', k', g1, -, -, g4, -⟩ := E
  have ne : st ≠ a := by
    intro q
    subst q
    rw [h5] at g1
    cases g1
    rw [h6] at g4
    cases g4
  exact ⟨cf, i, k, f, st, cell, h1, h2, h3, h4, Kp.2.1 st cell h5 (ninS ne nin0), h6, h7⟩
def own_EL : List (String × Nat) := [("com/example/problems_as_payloads/problemsaspayloads/PercentEncoding", 9), ("com/example/problems_as_payloads/problemsaspayloads/PercentEncoding", 17)]
theorem d8_0 : decode jdk_43_method_4_code 0 = .ok (.iload_n 0, 1) := by decide +kernel
theorem d8_1 : decode jdk_43_method_4_code 1 = .ok (.ifCond .lt 14, 3) := by decide +kernel
theorem d8_15 : decode jdk_43_method_4_code 15 = .ok (.iconst 0, 1) := by decide +kernel
theorem d8_16 : decode jdk_43_method_4_code 16 = .ok (.ireturn, 1) := by decide +kernel
theorem d8_4 : decode jdk_43_method_4_code 4 = .ok (.iload_n 0, 1) := by decide +kernel
theorem d8_5 : decode jdk_43_method_4_code 5 = .ok (.sipush 255, 3) := by decide +kernel
theorem d8_8 : decode jdk_43_method_4_code 8 = .ok (.if_icmp .gt 7, 3) := by decide +kernel
theorem d8_11 : decode jdk_43_method_4_code 11 = .ok (.iconst 1, 1) := by decide +kernel
theorem d8_12 : decode jdk_43_method_4_code 12 = .ok (.goto 4, 3) := by decide +kernel
theorem pn0 : plainName "java/lang/StringLatin1" = true := by first | (simp [plainName, overriddenIn]; done) | decide +kernel
def F_rm_can (xc : Int32) : Int32 := (if xc < (0 : Int32) then (0 : Int32) else (if (255 : Int32) < xc then (0 : Int32) else (1 : Int32)))
theorem ef_rm_can (m : MethodId) (xc : Int32) : entryFrame m #[(.int xc)] 1 = mkF m 0 #[.val (.int xc)] [] := by first | (simp [entryFrame, mkF, argsToLocals, Value.category]; done) | rfl
def Q_rm_can (Z : State) (xc : Int32) (h0 : Heap) (n0 : Nat) (v : Option Value) (h : Heap) (L : List Loc) : Prop := v = some (.int (F_rm_can xc)) ∧ Fr n0 L ∧ h = h0
set_option maxRecDepth 65536 in
set_option maxHeartbeats 40000000 in
theorem rm_can (l : Launch) (Z : State) (a0 : Array Value) (hw : ∀ d ∈ tables_1, d.before a0 Z = true) (ws : List Jvm.Cond) (xc : Int32) (h0 : Heap) (n0 : Nat) (Z0 : n0 ≤ h0.size) :
    MetFree l (⟨"java/lang/StringLatin1", "canEncode", "(I)Z"⟩ : MethodName) (head1 (Jvm.Cond.code (⟨"java/lang/StringLatin1", "canEncode", "(I)Z"⟩ : MethodName) jdk_43_method_4_code 1 (some .boolean) :: ws) ({ frames := 0, cells := 0, slots := 0, locals := 0 } : Room)) (fun a U => a = #[(.int xc)] ∧ Z.Warmed39 U.vm ∧ U.heap = h0) (fun _ _ _ _ _ => True) (fun _ U o U' => ∃ v L, o = .returned v ∧ Q_rm_can Z xc h0 n0 v U'.heap L ∧ FrameEnd U o U' L ({ frames := 0, cells := 0, slots := 0, locals := 0 } : Room).cells ({ frames := 0, cells := 0, slots := 0, locals := 0 } : Room).slots) := by
  refine MetFree.of_bodySF (plainFor_of_name pn0) hisR ?_
  intro p e s m args below meth c s₁ Bd hml0 hP hK
  obtain ⟨rfl, hZ, hh⟩ := hP
  have hx := Bd.exec
  have hby := Bd.bytes
  have hml : c.maxLocals = 1 := hml0
  have hown : s.vm.findClass "java/lang/StringLatin1" = some m.cls := findClass_of_methodNamed Bd.named
  have hnm := (name_of_methodNamed Bd.named Bd.method).1
  have X0 : Stand p l e ({ frames := 0, cells := 0, slots := 0, locals := 0 } : Room) s m #[(.int xc)] below meth c s₁ [] 0 0 := Stand.of_body Bd
  have e0 : s₁.heap = h0 := by rw [← hh, Bd.state]; rfl
  have N0 := Fr.nil n0
  have pre0 : ∀ t, Steps p.tables e below (s₁.setTop (mkF m 0 #[.val (.int xc)] [])) t → Steps p.tables e below (s₁.setTop (entryFrame m #[(.int xc)] 1)) t := fun t k => castTop (ef_rm_can m xc) k
  have pre1 : ∀ t, Steps p.tables e below (s₁.setTop (mkF m 1 #[.val (.int xc)] [(.int xc)])) t → Steps p.tables e below (s₁.setTop (entryFrame m #[(.int xc)] 1)) t := by
    intro t k
    refine pre0 t ?_
    refine XS.iloadN X0.here hx rfl (hb hby d8_0) rfl ?_
    show Steps p.tables e below (s₁.setTop (mkF m 1 #[.val (.int xc)] [(.int xc)])) _
    exact k
  by_cases hc1 : xc < (0 : Int32)
  · have pre2 : ∀ t, Steps p.tables e below (s₁.setTop (mkF m 16 #[.val (.int xc)] [(.int (0 : Int32))])) t → Steps p.tables e below (s₁.setTop (entryFrame m #[(.int xc)] 1)) t := by
      intro t k
      refine pre1 t ?_
      refine XS.ifYes X0.here hx rfl (pc0 := 1) (pc' := 15) rfl (hb hby d8_1) rfl ((if0 _ _).trans (tlt hc1).1) (by decide) (by decide) ?_
      show Steps p.tables e below (s₁.setTop (mkF m 15 #[.val (.int xc)] [])) _
      refine XS.iconst X0.here hx rfl (hb hby d8_15) ?_
      show Steps p.tables e below (s₁.setTop (mkF m 16 #[.val (.int xc)] [(.int (0 : Int32))])) _
      exact k
    obtain ⟨fs, hr, hrun, hended, hW, hsame⟩ := X0.leave (v := some (.int (0 : Int32))) (fun h => by rw [Bd.returns] at h; cases h)
    refine ⟨_, _, pre2 _ ?_, hrun, hended, _, _, rfl, ?_, ⟨_, rfl⟩, hW, hsame.mono (by decide) (by decide)⟩
    · exact retN X0 hx (t := .boolean) Bd.returns (by simp) (hb hby d8_16) hr
    · show Q_rm_can Z xc h0 n0 _ s₁.heap _
      rw [e0]
      exact ⟨congrArg (fun z => some (Value.int z)) (show (0 : Int32) = (F_rm_can xc) from by rw [F_rm_can, if_pos hc1]), N0, rfl⟩
  · have pre3 : ∀ t, Steps p.tables e below (s₁.setTop (mkF m 8 #[.val (.int xc)] [(.int (255 : Int32)), (.int xc)])) t → Steps p.tables e below (s₁.setTop (entryFrame m #[(.int xc)] 1)) t := by
      intro t k
      refine pre1 t ?_
      refine XS.ifNo X0.here hx rfl (hb hby d8_1) rfl ((if0 _ _).trans (flt hc1).1) ?_
      show Steps p.tables e below (s₁.setTop (mkF m 4 #[.val (.int xc)] [])) _
      refine XS.iloadN X0.here hx rfl (hb hby d8_4) rfl ?_
      show Steps p.tables e below (s₁.setTop (mkF m 5 #[.val (.int xc)] [(.int xc)])) _
      refine XS.sipush X0.here hx rfl (hb hby d8_5) ?_
      show Steps p.tables e below (s₁.setTop (mkF m 8 #[.val (.int xc)] [(.int (255 : Int32)), (.int xc)])) _
      exact k
    by_cases hc8 : (255 : Int32) < xc
    · have pre4 : ∀ t, Steps p.tables e below (s₁.setTop (mkF m 16 #[.val (.int xc)] [(.int (0 : Int32))])) t → Steps p.tables e below (s₁.setTop (entryFrame m #[(.int xc)] 1)) t := by
        intro t k
        refine pre3 t ?_
        refine XS.icmpYes X0.here hx rfl (pc0 := 8) (pc' := 15) rfl (hb hby d8_8) rfl (tlt hc8).2.2.1 (by decide) (by decide) ?_
        show Steps p.tables e below (s₁.setTop (mkF m 15 #[.val (.int xc)] [])) _
        refine XS.iconst X0.here hx rfl (hb hby d8_15) ?_
        show Steps p.tables e below (s₁.setTop (mkF m 16 #[.val (.int xc)] [(.int (0 : Int32))])) _
        exact k
      obtain ⟨fs, hr, hrun, hended, hW, hsame⟩ := X0.leave (v := some (.int (0 : Int32))) (fun h => by rw [Bd.returns] at h; cases h)
      refine ⟨_, _, pre4 _ ?_, hrun, hended, _, _, rfl, ?_, ⟨_, rfl⟩, hW, hsame.mono (by decide) (by decide)⟩
      · exact retN X0 hx (t := .boolean) Bd.returns (by simp) (hb hby d8_16) hr
      · show Q_rm_can Z xc h0 n0 _ s₁.heap _
        rw [e0]
        exact ⟨congrArg (fun z => some (Value.int z)) (show (0 : Int32) = (F_rm_can xc) from by rw [F_rm_can, if_neg hc1, if_pos hc8]), N0, rfl⟩
    · have pre5 : ∀ t, Steps p.tables e below (s₁.setTop (mkF m 16 #[.val (.int xc)] [(.int (1 : Int32))])) t → Steps p.tables e below (s₁.setTop (entryFrame m #[(.int xc)] 1)) t := by
        intro t k
        refine pre3 t ?_
        refine XS.icmpNo X0.here hx rfl (hb hby d8_8) rfl (flt hc8).2.2.1 ?_
        show Steps p.tables e below (s₁.setTop (mkF m 11 #[.val (.int xc)] [])) _
        refine XS.iconst X0.here hx rfl (hb hby d8_11) ?_
        show Steps p.tables e below (s₁.setTop (mkF m 12 #[.val (.int xc)] [(.int (1 : Int32))])) _
        refine XS.goto X0.here hx rfl (pc0 := 12) (pc' := 16) rfl (hb hby d8_12) (by decide) (by decide) ?_
        show Steps p.tables e below (s₁.setTop (mkF m 16 #[.val (.int xc)] [(.int (1 : Int32))])) _
        exact k
      obtain ⟨fs, hr, hrun, hended, hW, hsame⟩ := X0.leave (v := some (.int (1 : Int32))) (fun h => by rw [Bd.returns] at h; cases h)
      refine ⟨_, _, pre5 _ ?_, hrun, hended, _, _, rfl, ?_, ⟨_, rfl⟩, hW, hsame.mono (by decide) (by decide)⟩
      · exact retN X0 hx (t := .boolean) Bd.returns (by simp) (hb hby d8_16) hr
      · show Q_rm_can Z xc h0 n0 _ s₁.heap _
        rw [e0]
        exact ⟨congrArg (fun z => some (Value.int z)) (show (1 : Int32) = (F_rm_can xc) from by rw [F_rm_can, if_neg hc1, if_neg hc8]), N0, rfl⟩
theorem d4_0 : decode jdk_42_method_154_code 0 = .ok (.getstatic 38, 3) := by decide +kernel
theorem d4_3 : decode jdk_42_method_154_code 3 = .ok (.ifCond .eq 14, 3) := by decide +kernel
theorem d4_6 : decode jdk_42_method_154_code 6 = .ok (.aload_n 0, 1) := by decide +kernel
theorem d4_7 : decode jdk_42_method_154_code 7 = .ok (.getfield 15, 3) := by decide +kernel
theorem d4_10 : decode jdk_42_method_154_code 10 = .ok (.ifCond .ne 7, 3) := by decide +kernel
theorem d4_13 : decode jdk_42_method_154_code 13 = .ok (.iconst 1, 1) := by decide +kernel
theorem d4_14 : decode jdk_42_method_154_code 14 = .ok (.goto 4, 3) := by decide +kernel
theorem d4_18 : decode jdk_42_method_154_code 18 = .ok (.ireturn, 1) := by decide +kernel
theorem pn1 : plainName "java/lang/String" = true := by first | (simp [plainName, overriddenIn]; done) | decide +kernel
theorem ef_rm_lat (m : MethodId) (ra : Addr) : entryFrame m #[(.ref ra)] 1 = mkF m 0 #[.val (.ref ra)] [] := by first | (simp [entryFrame, mkF, argsToLocals, Value.category]; done) | rfl
def Q_rm_lat (Z : State) (ra : Addr) (xcs : Int32) (h0 : Heap) (n0 : Nat) (v : Option Value) (h : Heap) (L : List Loc) : Prop := v = some (.int (1 : Int32)) ∧ Fr n0 L ∧ h = h0
set_option maxRecDepth 65536 in
set_option maxHeartbeats 40000000 in
theorem rm_lat (l : Launch) (Z : State) (a0 : Array Value) (hw : ∀ d ∈ tables_1, d.before a0 Z = true) (ws : List Jvm.Cond) (ra : Addr) (xcs : Int32) (h0 : Heap) (n0 : Nat) (Z0 : n0 ≤ h0.size) (SC : Sta Z h0 "java/lang/String" "COMPACT_STRINGS" "Z" (.int xcs)) (FC : Fld Z h0 ra "java/lang/String" "coder" "B" (.int (0 : Int32))) (hcs : ¬ (xcs = (0 : Int32))) :
    MetFree l (⟨"java/lang/String", "isLatin1", "()Z"⟩ : MethodName) (head1 (Jvm.Cond.code (⟨"java/lang/String", "isLatin1", "()Z"⟩ : MethodName) jdk_42_method_154_code 1 (some .boolean) :: ws) ({ frames := 0, cells := 0, slots := 0, locals := 0 } : Room)) (fun a U => a = #[(.ref ra)] ∧ Z.Warmed39 U.vm ∧ U.heap = h0) (fun _ _ _ _ _ => True) (fun _ U o U' => ∃ v L, o = .returned v ∧ Q_rm_lat Z ra xcs h0 n0 v U'.heap L ∧ FrameEnd U o U' L ({ frames := 0, cells := 0, slots := 0, locals := 0 } : Room).cells ({ frames := 0, cells := 0, slots := 0, locals := 0 } : Room).slots) := by
  refine MetFree.of_bodySF (plainFor_of_name pn1) hisR ?_
  intro p e s m args below meth c s₁ Bd hml0 hP hK
  obtain ⟨rfl, hZ, hh⟩ := hP
  have hx := Bd.exec
  have hby := Bd.bytes
  have hml : c.maxLocals = 1 := hml0
  have hown : s.vm.findClass "java/lang/String" = some m.cls := findClass_of_methodNamed Bd.named
  have hnm := (name_of_methodNamed Bd.named Bd.method).1
  have X0 : Stand p l e ({ frames := 0, cells := 0, slots := 0, locals := 0 } : Room) s m #[(.ref ra)] below meth c s₁ [] 0 0 := Stand.of_body Bd
  have e0 : s₁.heap = h0 := by rw [← hh, Bd.state]; rfl
  have N0 := Fr.nil n0
  have pre0 : ∀ t, Steps p.tables e below (s₁.setTop (mkF m 0 #[.val (.ref ra)] [])) t → Steps p.tables e below (s₁.setTop (entryFrame m #[(.ref ra)] 1)) t := fun t k => castTop (ef_rm_lat m ra) k
  obtain ⟨T1, X1, e1, st1⟩ := getS2 X0 hx hZ hown (host := "") (Or.inl (hw _ (List.mem_of_getElem? (i := 27) rfl))) Via.refl e0 SC (g := (mkF m 0 #[.val (.ref ra)] [])) rfl (hb hby d4_0)
  have pre2 : ∀ t, Steps p.tables e below (T1.setTop (mkF m 3 #[.val (.ref ra)] [(.int xcs)])) t → Steps p.tables e below (s₁.setTop (entryFrame m #[(.ref ra)] 1)) t := fun t k => pre0 t (st1 t k)
  have pre3 : ∀ t, Steps p.tables e below (T1.setTop (mkF m 7 #[.val (.ref ra)] [(.ref ra)])) t → Steps p.tables e below (s₁.setTop (entryFrame m #[(.ref ra)] 1)) t := by
    intro t k
    refine pre2 t ?_
    refine XS.ifNo X1.here hx rfl (hb hby d4_3) rfl ((if0 _ _).trans (feq (show ¬ (xcs = (0 : Int32)) from hcs)).1) ?_
    show Steps p.tables e below (T1.setTop (mkF m 6 #[.val (.ref ra)] [])) _
    refine XS.aloadN X1.here hx rfl (hb hby d4_6) rfl rfl ?_
    show Steps p.tables e below (T1.setTop (mkF m 7 #[.val (.ref ra)] [(.ref ra)])) _
    exact k
  obtain ⟨T4, X4, e4, st4⟩ := getF X1 hx hZ hown (host := "") (Or.inl (hw _ (List.mem_of_getElem? (i := 28) rfl))) Via.refl e1 FC (g := (mkF m 7 #[.val (.ref ra)] [(.ref ra)])) rfl rfl (hb hby d4_7)
  have pre5 : ∀ t, Steps p.tables e below (T4.setTop (mkF m 10 #[.val (.ref ra)] [(.int (0 : Int32))])) t → Steps p.tables e below (s₁.setTop (entryFrame m #[(.ref ra)] 1)) t := fun t k => pre3 t (st4 t k)
  have pre6 : ∀ t, Steps p.tables e below (T4.setTop (mkF m 18 #[.val (.ref ra)] [(.int (1 : Int32))])) t → Steps p.tables e below (s₁.setTop (entryFrame m #[(.ref ra)] 1)) t := by
    intro t k
    refine pre5 t ?_
    refine XS.ifNo X4.here hx rfl (hb hby d4_10) rfl ((if0 _ _).trans (teq (show (0 : Int32) = (0 : Int32) from rfl)).2) ?_
    show Steps p.tables e below (T4.setTop (mkF m 13 #[.val (.ref ra)] [])) _
    refine XS.iconst X4.here hx rfl (hb hby d4_13) ?_
    show Steps p.tables e below (T4.setTop (mkF m 14 #[.val (.ref ra)] [(.int (1 : Int32))])) _
    refine XS.goto X4.here hx rfl (pc0 := 14) (pc' := 18) rfl (hb hby d4_14) (by decide) (by decide) ?_
    show Steps p.tables e below (T4.setTop (mkF m 18 #[.val (.ref ra)] [(.int (1 : Int32))])) _
    exact k
  obtain ⟨fs, hr, hrun, hended, hW, hsame⟩ := X4.leave (v := some (.int (1 : Int32))) (fun h => by rw [Bd.returns] at h; cases h)
  refine ⟨_, _, pre6 _ ?_, hrun, hended, _, _, rfl, ?_, ⟨_, rfl⟩, hW, hsame.mono (by decide) (by decide)⟩
  · exact retN X4 hx (t := .boolean) Bd.returns (by simp) (hb hby d4_18) hr
  · show Q_rm_lat Z ra xcs h0 n0 _ T4.heap _
    rw [e4]
    exact ⟨rfl, N0, rfl⟩
theorem d6_0 : decode jdk_42_method_152_code 0 = .ok (.getstatic 38, 3) := by decide +kernel
theorem d6_3 : decode jdk_42_method_152_code 3 = .ok (.ifCond .eq 10, 3) := by decide +kernel
theorem d6_6 : decode jdk_42_method_152_code 6 = .ok (.aload_n 0, 1) := by decide +kernel
theorem d6_7 : decode jdk_42_method_152_code 7 = .ok (.getfield 15, 3) := by decide +kernel
theorem d6_10 : decode jdk_42_method_152_code 10 = .ok (.goto 4, 3) := by decide +kernel
theorem d6_14 : decode jdk_42_method_152_code 14 = .ok (.ireturn, 1) := by decide +kernel
theorem ef_rm_cod (m : MethodId) (ra : Addr) : entryFrame m #[(.ref ra)] 1 = mkF m 0 #[.val (.ref ra)] [] := by first | (simp [entryFrame, mkF, argsToLocals, Value.category]; done) | rfl
def Q_rm_cod (Z : State) (ra : Addr) (xcs : Int32) (h0 : Heap) (n0 : Nat) (v : Option Value) (h : Heap) (L : List Loc) : Prop := v = some (.int (0 : Int32)) ∧ Fr n0 L ∧ h = h0
set_option maxRecDepth 65536 in
set_option maxHeartbeats 40000000 in
theorem rm_cod (l : Launch) (Z : State) (a0 : Array Value) (hw : ∀ d ∈ tables_1, d.before a0 Z = true) (ws : List Jvm.Cond) (ra : Addr) (xcs : Int32) (h0 : Heap) (n0 : Nat) (Z0 : n0 ≤ h0.size) (SC : Sta Z h0 "java/lang/String" "COMPACT_STRINGS" "Z" (.int xcs)) (FC : Fld Z h0 ra "java/lang/String" "coder" "B" (.int (0 : Int32))) (hcs : ¬ (xcs = (0 : Int32))) :
    MetFree l (⟨"java/lang/String", "coder", "()B"⟩ : MethodName) (head1 (Jvm.Cond.code (⟨"java/lang/String", "coder", "()B"⟩ : MethodName) jdk_42_method_152_code 1 (some .byte) :: ws) ({ frames := 0, cells := 0, slots := 0, locals := 0 } : Room)) (fun a U => a = #[(.ref ra)] ∧ Z.Warmed39 U.vm ∧ U.heap = h0) (fun _ _ _ _ _ => True) (fun _ U o U' => ∃ v L, o = .returned v ∧ Q_rm_cod Z ra xcs h0 n0 v U'.heap L ∧ FrameEnd U o U' L ({ frames := 0, cells := 0, slots := 0, locals := 0 } : Room).cells ({ frames := 0, cells := 0, slots := 0, locals := 0 } : Room).slots) := by
  refine MetFree.of_bodySF (plainFor_of_name pn1) hisR ?_
  intro p e s m args below meth c s₁ Bd hml0 hP hK
  obtain ⟨rfl, hZ, hh⟩ := hP
  have hx := Bd.exec
  have hby := Bd.bytes
  have hml : c.maxLocals = 1 := hml0
  have hown : s.vm.findClass "java/lang/String" = some m.cls := findClass_of_methodNamed Bd.named
  have hnm := (name_of_methodNamed Bd.named Bd.method).1
  have X0 : Stand p l e ({ frames := 0, cells := 0, slots := 0, locals := 0 } : Room) s m #[(.ref ra)] below meth c s₁ [] 0 0 := Stand.of_body Bd
  have e0 : s₁.heap = h0 := by rw [← hh, Bd.state]; rfl
  have N0 := Fr.nil n0
  have pre0 : ∀ t, Steps p.tables e below (s₁.setTop (mkF m 0 #[.val (.ref ra)] [])) t → Steps p.tables e below (s₁.setTop (entryFrame m #[(.ref ra)] 1)) t := fun t k => castTop (ef_rm_cod m ra) k
  obtain ⟨T1, X1, e1, st1⟩ := getS2 X0 hx hZ hown (host := "") (Or.inl (hw _ (List.mem_of_getElem? (i := 27) rfl))) Via.refl e0 SC (g := (mkF m 0 #[.val (.ref ra)] [])) rfl (hb hby d6_0)
  have pre2 : ∀ t, Steps p.tables e below (T1.setTop (mkF m 3 #[.val (.ref ra)] [(.int xcs)])) t → Steps p.tables e below (s₁.setTop (entryFrame m #[(.ref ra)] 1)) t := fun t k => pre0 t (st1 t k)
  have pre3 : ∀ t, Steps p.tables e below (T1.setTop (mkF m 7 #[.val (.ref ra)] [(.ref ra)])) t → Steps p.tables e below (s₁.setTop (entryFrame m #[(.ref ra)] 1)) t := by
    intro t k
    refine pre2 t ?_
    refine XS.ifNo X1.here hx rfl (hb hby d6_3) rfl ((if0 _ _).trans (feq (show ¬ (xcs = (0 : Int32)) from hcs)).1) ?_
    show Steps p.tables e below (T1.setTop (mkF m 6 #[.val (.ref ra)] [])) _
    refine XS.aloadN X1.here hx rfl (hb hby d6_6) rfl rfl ?_
    show Steps p.tables e below (T1.setTop (mkF m 7 #[.val (.ref ra)] [(.ref ra)])) _
    exact k
  obtain ⟨T4, X4, e4, st4⟩ := getF X1 hx hZ hown (host := "") (Or.inl (hw _ (List.mem_of_getElem? (i := 28) rfl))) Via.refl e1 FC (g := (mkF m 7 #[.val (.ref ra)] [(.ref ra)])) rfl rfl (hb hby d6_7)
  have pre5 : ∀ t, Steps p.tables e below (T4.setTop (mkF m 10 #[.val (.ref ra)] [(.int (0 : Int32))])) t → Steps p.tables e below (s₁.setTop (entryFrame m #[(.ref ra)] 1)) t := fun t k => pre3 t (st4 t k)
  have pre6 : ∀ t, Steps p.tables e below (T4.setTop (mkF m 14 #[.val (.ref ra)] [(.int (0 : Int32))])) t → Steps p.tables e below (s₁.setTop (entryFrame m #[(.ref ra)] 1)) t := by
    intro t k
    refine pre5 t ?_
    refine XS.goto X4.here hx rfl (pc0 := 10) (pc' := 14) rfl (hb hby d6_10) (by decide) (by decide) ?_
    show Steps p.tables e below (T4.setTop (mkF m 14 #[.val (.ref ra)] [(.int (0 : Int32))])) _
    exact k
  obtain ⟨fs, hr, hrun, hended, hW, hsame⟩ := X4.leave (v := some (.int (0 : Int32))) (fun h => by rw [Bd.returns] at h; cases h)
  refine ⟨_, _, pre6 _ ?_, hrun, hended, _, _, rfl, ?_, ⟨_, rfl⟩, hW, hsame.mono (by decide) (by decide)⟩
  · exact retN X4 hx (t := .byte) Bd.returns (by simp) (hb hby d6_14) hr
  · show Q_rm_cod Z ra xcs h0 n0 _ T4.heap _
    rw [e4]
    exact ⟨rfl, N0, rfl⟩
theorem d9_0 : decode jdk_29_method_65_code 0 = .ok (.iload_n 0, 1) := by decide +kernel
theorem d9_1 : decode jdk_29_method_65_code 1 = .ok (.iload_n 1, 1) := by decide +kernel
theorem d9_2 : decode jdk_29_method_65_code 2 = .ok (.if_icmp .lt 7, 3) := by decide +kernel
theorem d9_5 : decode jdk_29_method_65_code 5 = .ok (.iload_n 0, 1) := by decide +kernel
theorem d9_6 : decode jdk_29_method_65_code 6 = .ok (.goto 4, 3) := by decide +kernel
theorem d9_10 : decode jdk_29_method_65_code 10 = .ok (.ireturn, 1) := by decide +kernel
theorem ef_rm_max (m : MethodId)  : entryFrame m #[(.int (0 : Int32)), (.int (0 : Int32))] 2 = mkF m 0 #[.val (.int (0 : Int32)), .val (.int (0 : Int32))] [] := by first | (simp [entryFrame, mkF, argsToLocals, Value.category]; done) | rfl
def Q_rm_max (Z : State)  (h0 : Heap) (n0 : Nat) (v : Option Value) (h : Heap) (L : List Loc) : Prop := v = some (.int (0 : Int32)) ∧ Fr n0 L ∧ h = h0
set_option maxRecDepth 65536 in
set_option maxHeartbeats 40000000 in
theorem rm_max (l : Launch) (Z : State) (a0 : Array Value) (hw : ∀ d ∈ tables_1, d.before a0 Z = true) (ws : List Jvm.Cond)  (h0 : Heap) (n0 : Nat) (Z0 : n0 ≤ h0.size) :
    MetFree l (⟨"java/lang/Math", "max", "(II)I"⟩ : MethodName) (head1 (Jvm.Cond.code (⟨"java/lang/Math", "max", "(II)I"⟩ : MethodName) jdk_29_method_65_code 2 (some .int) :: ws) ({ frames := 0, cells := 0, slots := 0, locals := 0 } : Room)) (fun a U => a = #[(.int (0 : Int32)), (.int (0 : Int32))] ∧ Z.Warmed39 U.vm ∧ U.heap = h0) (fun _ _ _ _ _ => True) (fun _ U o U' => ∃ v L, o = .returned v ∧ Q_rm_max Z  h0 n0 v U'.heap L ∧ FrameEnd U o U' L ({ frames := 0, cells := 0, slots := 0, locals := 0 } : Room).cells ({ frames := 0, cells := 0, slots := 0, locals := 0 } : Room).slots) := by
  refine MetFree.of_bodySF (Jvm.Free.JP.mathPlain rfl (by decide +kernel)) hisR ?_
  intro p e s m args below meth c s₁ Bd hml0 hP hK
  obtain ⟨rfl, hZ, hh⟩ := hP
  have hx := Bd.exec
  have hby := Bd.bytes
  have hml : c.maxLocals = 2 := hml0
  have hown : s.vm.findClass "java/lang/Math" = some m.cls := findClass_of_methodNamed Bd.named
  have hnm := (name_of_methodNamed Bd.named Bd.method).1
  have X0 : Stand p l e ({ frames := 0, cells := 0, slots := 0, locals := 0 } : Room) s m #[(.int (0 : Int32)), (.int (0 : Int32))] below meth c s₁ [] 0 0 := Stand.of_body Bd
  have e0 : s₁.heap = h0 := by rw [← hh, Bd.state]; rfl
  have N0 := Fr.nil n0
  have pre0 : ∀ t, Steps p.tables e below (s₁.setTop (mkF m 0 #[.val (.int (0 : Int32)), .val (.int (0 : Int32))] [])) t → Steps p.tables e below (s₁.setTop (entryFrame m #[(.int (0 : Int32)), (.int (0 : Int32))] 2)) t := fun t k => castTop (ef_rm_max m ) k
  have pre1 : ∀ t, Steps p.tables e below (s₁.setTop (mkF m 10 #[.val (.int (0 : Int32)), .val (.int (0 : Int32))] [(.int (0 : Int32))])) t → Steps p.tables e below (s₁.setTop (entryFrame m #[(.int (0 : Int32)), (.int (0 : Int32))] 2)) t := by
    intro t k
    refine pre0 t ?_
    refine XS.iloadN X0.here hx rfl (hb hby d9_0) rfl ?_
    show Steps p.tables e below (s₁.setTop (mkF m 1 #[.val (.int (0 : Int32)), .val (.int (0 : Int32))] [(.int (0 : Int32))])) _
    refine XS.iloadN X0.here hx rfl (hb hby d9_1) rfl ?_
    show Steps p.tables e below (s₁.setTop (mkF m 2 #[.val (.int (0 : Int32)), .val (.int (0 : Int32))] [(.int (0 : Int32)), (.int (0 : Int32))])) _
    refine XS.icmpNo X0.here hx rfl (hb hby d9_2) rfl (flt (show ¬ ((0 : Int32) < (0 : Int32)) from by decide)).1 ?_
    show Steps p.tables e below (s₁.setTop (mkF m 5 #[.val (.int (0 : Int32)), .val (.int (0 : Int32))] [])) _
    refine XS.iloadN X0.here hx rfl (hb hby d9_5) rfl ?_
    show Steps p.tables e below (s₁.setTop (mkF m 6 #[.val (.int (0 : Int32)), .val (.int (0 : Int32))] [(.int (0 : Int32))])) _
    refine XS.goto X0.here hx rfl (pc0 := 6) (pc' := 10) rfl (hb hby d9_6) (by decide) (by decide) ?_
    show Steps p.tables e below (s₁.setTop (mkF m 10 #[.val (.int (0 : Int32)), .val (.int (0 : Int32))] [(.int (0 : Int32))])) _
    exact k
  obtain ⟨fs, hr, hrun, hended, hW, hsame⟩ := X0.leave (v := some (.int (0 : Int32))) (fun h => by rw [Bd.returns] at h; cases h)
  refine ⟨_, _, pre1 _ ?_, hrun, hended, _, _, rfl, ?_, ⟨_, rfl⟩, hW, hsame.mono (by decide) (by decide)⟩
  · exact retI X0 hx Bd.returns (hb hby d9_10) hr
  · show Q_rm_max Z  h0 n0 _ s₁.heap _
    rw [e0]
    exact ⟨rfl, N0, rfl⟩
theorem d10_0 : decode jdk_29_method_69_code 0 = .ok (.iload_n 0, 1) := by decide +kernel
theorem d10_1 : decode jdk_29_method_69_code 1 = .ok (.iload_n 1, 1) := by decide +kernel
theorem d10_2 : decode jdk_29_method_69_code 2 = .ok (.if_icmp .gt 7, 3) := by decide +kernel
theorem d10_5 : decode jdk_29_method_69_code 5 = .ok (.iload_n 0, 1) := by decide +kernel
theorem d10_6 : decode jdk_29_method_69_code 6 = .ok (.goto 4, 3) := by decide +kernel
theorem d10_10 : decode jdk_29_method_69_code 10 = .ok (.ireturn, 1) := by decide +kernel
theorem ef_rm_minA (m : MethodId)  : entryFrame m #[(.int (4 : Int32)), (.int (4 : Int32))] 2 = mkF m 0 #[.val (.int (4 : Int32)), .val (.int (4 : Int32))] [] := by first | (simp [entryFrame, mkF, argsToLocals, Value.category]; done) | rfl
def Q_rm_minA (Z : State)  (h0 : Heap) (n0 : Nat) (v : Option Value) (h : Heap) (L : List Loc) : Prop := v = some (.int (4 : Int32)) ∧ Fr n0 L ∧ h = h0
set_option maxRecDepth 65536 in
set_option maxHeartbeats 40000000 in
theorem rm_minA (l : Launch) (Z : State) (a0 : Array Value) (hw : ∀ d ∈ tables_1, d.before a0 Z = true) (ws : List Jvm.Cond)  (h0 : Heap) (n0 : Nat) (Z0 : n0 ≤ h0.size) :
    MetFree l (⟨"java/lang/Math", "min", "(II)I"⟩ : MethodName) (head1 (Jvm.Cond.code (⟨"java/lang/Math", "min", "(II)I"⟩ : MethodName) jdk_29_method_69_code 2 (some .int) :: ws) ({ frames := 0, cells := 0, slots := 0, locals := 0 } : Room)) (fun a U => a = #[(.int (4 : Int32)), (.int (4 : Int32))] ∧ Z.Warmed39 U.vm ∧ U.heap = h0) (fun _ _ _ _ _ => True) (fun _ U o U' => ∃ v L, o = .returned v ∧ Q_rm_minA Z  h0 n0 v U'.heap L ∧ FrameEnd U o U' L ({ frames := 0, cells := 0, slots := 0, locals := 0 } : Room).cells ({ frames := 0, cells := 0, slots := 0, locals := 0 } : Room).slots) := by
  refine MetFree.of_bodySF (Jvm.Free.JP.mathPlain rfl (by decide +kernel)) hisR ?_
  intro p e s m args below meth c s₁ Bd hml0 hP hK
  obtain ⟨rfl, hZ, hh⟩ := hP
  have hx := Bd.exec
  have hby := Bd.bytes
  have hml : c.maxLocals = 2 := hml0
  have hown : s.vm.findClass "java/lang/Math" = some m.cls := findClass_of_methodNamed Bd.named
  have hnm := (name_of_methodNamed Bd.named Bd.method).1
  have X0 : Stand p l e ({ frames := 0, cells := 0, slots := 0, locals := 0 } : Room) s m #[(.int (4 : Int32)), (.int (4 : Int32))] below meth c s₁ [] 0 0 := Stand.of_body Bd
  have e0 : s₁.heap = h0 := by rw [← hh, Bd.state]; rfl
  have N0 := Fr.nil n0
  have pre0 : ∀ t, Steps p.tables e below (s₁.setTop (mkF m 0 #[.val (.int (4 : Int32)), .val (.int (4 : Int32))] [])) t → Steps p.tables e below (s₁.setTop (entryFrame m #[(.int (4 : Int32)), (.int (4 : Int32))] 2)) t := fun t k => castTop (ef_rm_minA m ) k
  have pre1 : ∀ t, Steps p.tables e below (s₁.setTop (mkF m 10 #[.val (.int (4 : Int32)), .val (.int (4 : Int32))] [(.int (4 : Int32))])) t → Steps p.tables e below (s₁.setTop (entryFrame m #[(.int (4 : Int32)), (.int (4 : Int32))] 2)) t := by
    intro t k
    refine pre0 t ?_
    refine XS.iloadN X0.here hx rfl (hb hby d10_0) rfl ?_
    show Steps p.tables e below (s₁.setTop (mkF m 1 #[.val (.int (4 : Int32)), .val (.int (4 : Int32))] [(.int (4 : Int32))])) _
    refine XS.iloadN X0.here hx rfl (hb hby d10_1) rfl ?_
    show Steps p.tables e below (s₁.setTop (mkF m 2 #[.val (.int (4 : Int32)), .val (.int (4 : Int32))] [(.int (4 : Int32)), (.int (4 : Int32))])) _
    refine XS.icmpNo X0.here hx rfl (hb hby d10_2) rfl (flt (show ¬ ((4 : Int32) < (4 : Int32)) from by decide)).2.2.1 ?_
    show Steps p.tables e below (s₁.setTop (mkF m 5 #[.val (.int (4 : Int32)), .val (.int (4 : Int32))] [])) _
    refine XS.iloadN X0.here hx rfl (hb hby d10_5) rfl ?_
    show Steps p.tables e below (s₁.setTop (mkF m 6 #[.val (.int (4 : Int32)), .val (.int (4 : Int32))] [(.int (4 : Int32))])) _
    refine XS.goto X0.here hx rfl (pc0 := 6) (pc' := 10) rfl (hb hby d10_6) (by decide) (by decide) ?_
    show Steps p.tables e below (s₁.setTop (mkF m 10 #[.val (.int (4 : Int32)), .val (.int (4 : Int32))] [(.int (4 : Int32))])) _
    exact k
  obtain ⟨fs, hr, hrun, hended, hW, hsame⟩ := X0.leave (v := some (.int (4 : Int32))) (fun h => by rw [Bd.returns] at h; cases h)
  refine ⟨_, _, pre1 _ ?_, hrun, hended, _, _, rfl, ?_, ⟨_, rfl⟩, hW, hsame.mono (by decide) (by decide)⟩
  · exact retI X0 hx Bd.returns (hb hby d10_10) hr
  · show Q_rm_minA Z  h0 n0 _ s₁.heap _
    rw [e0]
    exact ⟨rfl, N0, rfl⟩
theorem d11_0 : decode jdk_43_method_23_code 0 = .ok (.iload_n 1, 1) := by decide +kernel
theorem d11_1 : decode jdk_43_method_23_code 1 = .ok (.i2b, 1) := by decide +kernel
theorem d11_2 : decode jdk_43_method_23_code 2 = .ok (.istore 4, 2) := by decide +kernel
theorem d11_4 : decode jdk_43_method_23_code 4 = .ok (.iload_n 2, 1) := by decide +kernel
theorem d11_5 : decode jdk_43_method_23_code 5 = .ok (.istore 5, 2) := by decide +kernel
theorem d11_7 : decode jdk_43_method_23_code 7 = .ok (.iload 5, 2) := by decide +kernel
theorem d11_9 : decode jdk_43_method_23_code 9 = .ok (.iload_n 3, 1) := by decide +kernel
theorem d11_10 : decode jdk_43_method_23_code 10 = .ok (.if_icmp .ge 21, 3) := by decide +kernel
theorem d11_13 : decode jdk_43_method_23_code 13 = .ok (.aload_n 0, 1) := by decide +kernel
theorem d11_14 : decode jdk_43_method_23_code 14 = .ok (.iload 5, 2) := by decide +kernel
theorem d11_16 : decode jdk_43_method_23_code 16 = .ok (.baload, 1) := by decide +kernel
theorem d11_17 : decode jdk_43_method_23_code 17 = .ok (.iload 4, 2) := by decide +kernel
theorem d11_19 : decode jdk_43_method_23_code 19 = .ok (.if_icmp .ne 6, 3) := by decide +kernel
theorem d11_22 : decode jdk_43_method_23_code 22 = .ok (.iload 5, 2) := by decide +kernel
theorem d11_24 : decode jdk_43_method_23_code 24 = .ok (.ireturn, 1) := by decide +kernel
theorem d11_25 : decode jdk_43_method_23_code 25 = .ok (.iinc 5 1, 3) := by decide +kernel
theorem d11_28 : decode jdk_43_method_23_code 28 = .ok (.goto (-21), 3) := by decide +kernel
theorem d11_31 : decode jdk_43_method_23_code 31 = .ok (.iconst (-1), 1) := by decide +kernel
theorem d11_32 : decode jdk_43_method_23_code 32 = .ok (.ireturn, 1) := by decide +kernel
def F_rm_iocA (xc : Int32) : Int32 := (if (45 : Int32) = (xc.toInt8.toInt32) then (0 : Int32) else (if (46 : Int32) = (xc.toInt8.toInt32) then (1 : Int32) else (if (95 : Int32) = (xc.toInt8.toInt32) then (2 : Int32) else (if (126 : Int32) = (xc.toInt8.toInt32) then (3 : Int32) else (-1 : Int32)))))
theorem ef_rm_iocA (m : MethodId) (rb : Addr) (xc : Int32) : entryFrame m #[(.ref rb), (.int xc), (.int (0 : Int32)), (.int (4 : Int32))] 6 = mkF m 0 #[.val (.ref rb), .val (.int xc), .val (.int (0 : Int32)), .val (.int (4 : Int32)), .unset, .unset] [] := by first | (simp [entryFrame, mkF, argsToLocals, Value.category]; done) | rfl
def Q_rm_iocA (Z : State) (rb : Addr) (xc : Int32) (kb : ClassId) (h0 : Heap) (n0 : Nat) (v : Option Value) (h : Heap) (L : List Loc) : Prop := v = some (.int (F_rm_iocA xc)) ∧ Fr n0 L ∧ h = h0
set_option maxRecDepth 65536 in
set_option maxHeartbeats 40000000 in
theorem rm_iocA (l : Launch) (Z : State) (a0 : Array Value) (hw : ∀ d ∈ tables_1, d.before a0 Z = true) (ws : List Jvm.Cond) (rb : Addr) (xc : Int32) (kb : ClassId) (h0 : Heap) (n0 : Nat) (Z0 : n0 ≤ h0.size) (VB : Arv Z h0 rb kb .byte (4 : Int32) [(.int (45 : Int32)), (.int (46 : Int32)), (.int (95 : Int32)), (.int (126 : Int32))] (.int (0 : Int32))) :
    MetFree l (⟨"java/lang/StringLatin1", "indexOfChar", "([BIII)I"⟩ : MethodName) (head1 (Jvm.Cond.code (⟨"java/lang/StringLatin1", "indexOfChar", "([BIII)I"⟩ : MethodName) jdk_43_method_23_code 6 (some .int) :: ws) ({ frames := 0, cells := 0, slots := 0, locals := 0 } : Room)) (fun a U => a = #[(.ref rb), (.int xc), (.int (0 : Int32)), (.int (4 : Int32))] ∧ Z.Warmed39 U.vm ∧ U.heap = h0) (fun _ _ _ _ _ => True) (fun _ U o U' => ∃ v L, o = .returned v ∧ Q_rm_iocA Z rb xc kb h0 n0 v U'.heap L ∧ FrameEnd U o U' L ({ frames := 0, cells := 0, slots := 0, locals := 0 } : Room).cells ({ frames := 0, cells := 0, slots := 0, locals := 0 } : Room).slots) := by
  refine MetFree.of_bodySF (plainFor_of_name pn0) hisR ?_
  intro p e s m args below meth c s₁ Bd hml0 hP hK
  obtain ⟨rfl, hZ, hh⟩ := hP
  have hx := Bd.exec
  have hby := Bd.bytes
  have hml : c.maxLocals = 6 := hml0
  have hown : s.vm.findClass "java/lang/StringLatin1" = some m.cls := findClass_of_methodNamed Bd.named
  have hnm := (name_of_methodNamed Bd.named Bd.method).1
  have X0 : Stand p l e ({ frames := 0, cells := 0, slots := 0, locals := 0 } : Room) s m #[(.ref rb), (.int xc), (.int (0 : Int32)), (.int (4 : Int32))] below meth c s₁ [] 0 0 := Stand.of_body Bd
  have e0 : s₁.heap = h0 := by rw [← hh, Bd.state]; rfl
  have N0 := Fr.nil n0
  have pre0 : ∀ t, Steps p.tables e below (s₁.setTop (mkF m 0 #[.val (.ref rb), .val (.int xc), .val (.int (0 : Int32)), .val (.int (4 : Int32)), .unset, .unset] [])) t → Steps p.tables e below (s₁.setTop (entryFrame m #[(.ref rb), (.int xc), (.int (0 : Int32)), (.int (4 : Int32))] 6)) t := fun t k => castTop (ef_rm_iocA m rb xc) k
  have pre2 : ∀ t, Steps p.tables e below (s₁.setTop (mkF m 19 #[.val (.ref rb), .val (.int xc), .val (.int (0 : Int32)), .val (.int (4 : Int32)), .val (.int (xc.toInt8.toInt32)), .val (.int (0 : Int32))] [(.int (xc.toInt8.toInt32)), (.int (45 : Int32))])) t → Steps p.tables e below (s₁.setTop (entryFrame m #[(.ref rb), (.int xc), (.int (0 : Int32)), (.int (4 : Int32))] 6)) t := by
    intro t k
    refine pre0 t ?_
    refine XS.iloadN X0.here hx rfl (hb hby d11_0) rfl ?_
    show Steps p.tables e below (s₁.setTop (mkF m 1 #[.val (.ref rb), .val (.int xc), .val (.int (0 : Int32)), .val (.int (4 : Int32)), .unset, .unset] [(.int xc)])) _
    refine XS.i2b X0.here hx rfl (hb hby d11_1) rfl ?_
    show Steps p.tables e below (s₁.setTop (mkF m 2 #[.val (.ref rb), .val (.int xc), .val (.int (0 : Int32)), .val (.int (4 : Int32)), .unset, .unset] [(.int (xc.toInt8.toInt32))])) _
    refine XS.istore X0.here hx rfl (hb hby d11_2) rfl (l' := #[.val (.ref rb), .val (.int xc), .val (.int (0 : Int32)), .val (.int (4 : Int32)), .val (.int (xc.toInt8.toInt32)), .unset]) rfl ?_
    show Steps p.tables e below (s₁.setTop (mkF m 4 #[.val (.ref rb), .val (.int xc), .val (.int (0 : Int32)), .val (.int (4 : Int32)), .val (.int (xc.toInt8.toInt32)), .unset] [])) _
    refine XS.iloadN X0.here hx rfl (hb hby d11_4) rfl ?_
    show Steps p.tables e below (s₁.setTop (mkF m 5 #[.val (.ref rb), .val (.int xc), .val (.int (0 : Int32)), .val (.int (4 : Int32)), .val (.int (xc.toInt8.toInt32)), .unset] [(.int (0 : Int32))])) _
    refine XS.istore X0.here hx rfl (hb hby d11_5) rfl (l' := #[.val (.ref rb), .val (.int xc), .val (.int (0 : Int32)), .val (.int (4 : Int32)), .val (.int (xc.toInt8.toInt32)), .val (.int (0 : Int32))]) rfl ?_
    show Steps p.tables e below (s₁.setTop (mkF m 7 #[.val (.ref rb), .val (.int xc), .val (.int (0 : Int32)), .val (.int (4 : Int32)), .val (.int (xc.toInt8.toInt32)), .val (.int (0 : Int32))] [])) _
    refine XS.iload X0.here hx rfl (hb hby d11_7) rfl ?_
    show Steps p.tables e below (s₁.setTop (mkF m 9 #[.val (.ref rb), .val (.int xc), .val (.int (0 : Int32)), .val (.int (4 : Int32)), .val (.int (xc.toInt8.toInt32)), .val (.int (0 : Int32))] [(.int (0 : Int32))])) _
    refine XS.iloadN X0.here hx rfl (hb hby d11_9) rfl ?_
    show Steps p.tables e below (s₁.setTop (mkF m 10 #[.val (.ref rb), .val (.int xc), .val (.int (0 : Int32)), .val (.int (4 : Int32)), .val (.int (xc.toInt8.toInt32)), .val (.int (0 : Int32))] [(.int (4 : Int32)), (.int (0 : Int32))])) _
    refine XS.icmpNo X0.here hx rfl (hb hby d11_10) rfl (tlt (show (0 : Int32) < (4 : Int32) from by decide)).2.1 ?_
    show Steps p.tables e below (s₁.setTop (mkF m 13 #[.val (.ref rb), .val (.int xc), .val (.int (0 : Int32)), .val (.int (4 : Int32)), .val (.int (xc.toInt8.toInt32)), .val (.int (0 : Int32))] [])) _
    refine XS.aloadN X0.here hx rfl (hb hby d11_13) rfl rfl ?_
    show Steps p.tables e below (s₁.setTop (mkF m 14 #[.val (.ref rb), .val (.int xc), .val (.int (0 : Int32)), .val (.int (4 : Int32)), .val (.int (xc.toInt8.toInt32)), .val (.int (0 : Int32))] [(.ref rb)])) _
    refine XS.iload X0.here hx rfl (hb hby d11_14) rfl ?_
    show Steps p.tables e below (s₁.setTop (mkF m 16 #[.val (.ref rb), .val (.int xc), .val (.int (0 : Int32)), .val (.int (4 : Int32)), .val (.int (xc.toInt8.toInt32)), .val (.int (0 : Int32))] [(.int (0 : Int32)), (.ref rb)])) _
    obtain ⟨c1, a1, q1, s1, m1, i1, u1⟩ := id VB
    have hin1 := inb_of (j := (0 : Int32)) s1 ⟨by decide, by decide⟩
    refine X0.baloadBytes hx (j := (0 : Int32)) (v := (.int (45 : Int32))) (by rw [e0]; exact a1.1) (State.isArrayOf_alike hZ.alike a1.2.1) a1.2.2 hin1 (i1.at hin1 rfl) (g := (mkF m 16 #[.val (.ref rb), .val (.int xc), .val (.int (0 : Int32)), .val (.int (4 : Int32)), .val (.int (xc.toInt8.toInt32)), .val (.int (0 : Int32))] [(.int (0 : Int32)), (.ref rb)])) rfl rfl (hb hby d11_16) _ ?_
    show Steps p.tables e below (s₁.setTop (mkF m 17 #[.val (.ref rb), .val (.int xc), .val (.int (0 : Int32)), .val (.int (4 : Int32)), .val (.int (xc.toInt8.toInt32)), .val (.int (0 : Int32))] [(.int (45 : Int32))])) _
    refine XS.iload X0.here hx rfl (hb hby d11_17) rfl ?_
    show Steps p.tables e below (s₁.setTop (mkF m 19 #[.val (.ref rb), .val (.int xc), .val (.int (0 : Int32)), .val (.int (4 : Int32)), .val (.int (xc.toInt8.toInt32)), .val (.int (0 : Int32))] [(.int (xc.toInt8.toInt32)), (.int (45 : Int32))])) _
    exact k
  by_cases hc19 : (45 : Int32) = (xc.toInt8.toInt32)
  · have pre3 : ∀ t, Steps p.tables e below (s₁.setTop (mkF m 24 #[.val (.ref rb), .val (.int xc), .val (.int (0 : Int32)), .val (.int (4 : Int32)), .val (.int (xc.toInt8.toInt32)), .val (.int (0 : Int32))] [(.int (0 : Int32))])) t → Steps p.tables e below (s₁.setTop (entryFrame m #[(.ref rb), (.int xc), (.int (0 : Int32)), (.int (4 : Int32))] 6)) t := by
      intro t k
      refine pre2 t ?_
      refine XS.icmpNo X0.here hx rfl (hb hby d11_19) rfl (teq hc19).2 ?_
      show Steps p.tables e below (s₁.setTop (mkF m 22 #[.val (.ref rb), .val (.int xc), .val (.int (0 : Int32)), .val (.int (4 : Int32)), .val (.int (xc.toInt8.toInt32)), .val (.int (0 : Int32))] [])) _
      refine XS.iload X0.here hx rfl (hb hby d11_22) rfl ?_
      show Steps p.tables e below (s₁.setTop (mkF m 24 #[.val (.ref rb), .val (.int xc), .val (.int (0 : Int32)), .val (.int (4 : Int32)), .val (.int (xc.toInt8.toInt32)), .val (.int (0 : Int32))] [(.int (0 : Int32))])) _
      exact k
    obtain ⟨fs, hr, hrun, hended, hW, hsame⟩ := X0.leave (v := some (.int (0 : Int32))) (fun h => by rw [Bd.returns] at h; cases h)
    refine ⟨_, _, pre3 _ ?_, hrun, hended, _, _, rfl, ?_, ⟨_, rfl⟩, hW, hsame.mono (by decide) (by decide)⟩
    · exact retI X0 hx Bd.returns (hb hby d11_24) hr
    · show Q_rm_iocA Z rb xc kb h0 n0 _ s₁.heap _
      rw [e0]
      exact ⟨congrArg (fun z => some (Value.int z)) (show (0 : Int32) = (F_rm_iocA xc) from by rw [F_rm_iocA, if_pos hc19]), N0, rfl⟩
  · have pre5 : ∀ t, Steps p.tables e below (s₁.setTop (mkF m 19 #[.val (.ref rb), .val (.int xc), .val (.int (0 : Int32)), .val (.int (4 : Int32)), .val (.int (xc.toInt8.toInt32)), .val (.int (1 : Int32))] [(.int (xc.toInt8.toInt32)), (.int (46 : Int32))])) t → Steps p.tables e below (s₁.setTop (entryFrame m #[(.ref rb), (.int xc), (.int (0 : Int32)), (.int (4 : Int32))] 6)) t := by
      intro t k
      refine pre2 t ?_
      refine XS.icmpYes X0.here hx rfl (pc0 := 19) (pc' := 25) rfl (hb hby d11_19) rfl (feq hc19).2 (by decide) (by decide) ?_
      show Steps p.tables e below (s₁.setTop (mkF m 25 #[.val (.ref rb), .val (.int xc), .val (.int (0 : Int32)), .val (.int (4 : Int32)), .val (.int (xc.toInt8.toInt32)), .val (.int (0 : Int32))] [])) _
      refine XS.iinc X0.here hx rfl (hb hby d11_25) rfl (l' := #[.val (.ref rb), .val (.int xc), .val (.int (0 : Int32)), .val (.int (4 : Int32)), .val (.int (xc.toInt8.toInt32)), .val (.int (1 : Int32))]) rfl ?_
      show Steps p.tables e below (s₁.setTop (mkF m 28 #[.val (.ref rb), .val (.int xc), .val (.int (0 : Int32)), .val (.int (4 : Int32)), .val (.int (xc.toInt8.toInt32)), .val (.int (1 : Int32))] [])) _
      refine XS.goto X0.here hx rfl (pc0 := 28) (pc' := 7) rfl (hb hby d11_28) (by decide) (by decide) ?_
      show Steps p.tables e below (s₁.setTop (mkF m 7 #[.val (.ref rb), .val (.int xc), .val (.int (0 : Int32)), .val (.int (4 : Int32)), .val (.int (xc.toInt8.toInt32)), .val (.int (1 : Int32))] [])) _
      refine XS.iload X0.here hx rfl (hb hby d11_7) rfl ?_
      show Steps p.tables e below (s₁.setTop (mkF m 9 #[.val (.ref rb), .val (.int xc), .val (.int (0 : Int32)), .val (.int (4 : Int32)), .val (.int (xc.toInt8.toInt32)), .val (.int (1 : Int32))] [(.int (1 : Int32))])) _
      refine XS.iloadN X0.here hx rfl (hb hby d11_9) rfl ?_
      show Steps p.tables e below (s₁.setTop (mkF m 10 #[.val (.ref rb), .val (.int xc), .val (.int (0 : Int32)), .val (.int (4 : Int32)), .val (.int (xc.toInt8.toInt32)), .val (.int (1 : Int32))] [(.int (4 : Int32)), (.int (1 : Int32))])) _
      refine XS.icmpNo X0.here hx rfl (hb hby d11_10) rfl (tlt (show (1 : Int32) < (4 : Int32) from by decide)).2.1 ?_
      show Steps p.tables e below (s₁.setTop (mkF m 13 #[.val (.ref rb), .val (.int xc), .val (.int (0 : Int32)), .val (.int (4 : Int32)), .val (.int (xc.toInt8.toInt32)), .val (.int (1 : Int32))] [])) _
      refine XS.aloadN X0.here hx rfl (hb hby d11_13) rfl rfl ?_
      show Steps p.tables e below (s₁.setTop (mkF m 14 #[.val (.ref rb), .val (.int xc), .val (.int (0 : Int32)), .val (.int (4 : Int32)), .val (.int (xc.toInt8.toInt32)), .val (.int (1 : Int32))] [(.ref rb)])) _
      refine XS.iload X0.here hx rfl (hb hby d11_14) rfl ?_
      show Steps p.tables e below (s₁.setTop (mkF m 16 #[.val (.ref rb), .val (.int xc), .val (.int (0 : Int32)), .val (.int (4 : Int32)), .val (.int (xc.toInt8.toInt32)), .val (.int (1 : Int32))] [(.int (1 : Int32)), (.ref rb)])) _
      obtain ⟨c4, a4, q4, s4, m4, i4, u4⟩ := id VB
      have hin4 := inb_of (j := (1 : Int32)) s4 ⟨by decide, by decide⟩
      refine X0.baloadBytes hx (j := (1 : Int32)) (v := (.int (46 : Int32))) (by rw [e0]; exact a4.1) (State.isArrayOf_alike hZ.alike a4.2.1) a4.2.2 hin4 (i4.at hin4 rfl) (g := (mkF m 16 #[.val (.ref rb), .val (.int xc), .val (.int (0 : Int32)), .val (.int (4 : Int32)), .val (.int (xc.toInt8.toInt32)), .val (.int (1 : Int32))] [(.int (1 : Int32)), (.ref rb)])) rfl rfl (hb hby d11_16) _ ?_
      show Steps p.tables e below (s₁.setTop (mkF m 17 #[.val (.ref rb), .val (.int xc), .val (.int (0 : Int32)), .val (.int (4 : Int32)), .val (.int (xc.toInt8.toInt32)), .val (.int (1 : Int32))] [(.int (46 : Int32))])) _
      refine XS.iload X0.here hx rfl (hb hby d11_17) rfl ?_
      show Steps p.tables e below (s₁.setTop (mkF m 19 #[.val (.ref rb), .val (.int xc), .val (.int (0 : Int32)), .val (.int (4 : Int32)), .val (.int (xc.toInt8.toInt32)), .val (.int (1 : Int32))] [(.int (xc.toInt8.toInt32)), (.int (46 : Int32))])) _
      exact k
    by_cases hc19_2 : (46 : Int32) = (xc.toInt8.toInt32)
    · have pre6 : ∀ t, Steps p.tables e below (s₁.setTop (mkF m 24 #[.val (.ref rb), .val (.int xc), .val (.int (0 : Int32)), .val (.int (4 : Int32)), .val (.int (xc.toInt8.toInt32)), .val (.int (1 : Int32))] [(.int (1 : Int32))])) t → Steps p.tables e below (s₁.setTop (entryFrame m #[(.ref rb), (.int xc), (.int (0 : Int32)), (.int (4 : Int32))] 6)) t := by
        intro t k
        refine pre5 t ?_
        refine XS.icmpNo X0.here hx rfl (hb hby d11_19) rfl (teq hc19_2).2 ?_
        show Steps p.tables e below (s₁.setTop (mkF m 22 #[.val (.ref rb), .val (.int xc), .val (.int (0 : Int32)), .val (.int (4 : Int32)), .val (.int (xc.toInt8.toInt32)), .val (.int (1 : Int32))] [])) _
        refine XS.iload X0.here hx rfl (hb hby d11_22) rfl ?_
        show Steps p.tables e below (s₁.setTop (mkF m 24 #[.val (.ref rb), .val (.int xc), .val (.int (0 : Int32)), .val (.int (4 : Int32)), .val (.int (xc.toInt8.toInt32)), .val (.int (1 : Int32))] [(.int (1 : Int32))])) _
        exact k
      obtain ⟨fs, hr, hrun, hended, hW, hsame⟩ := X0.leave (v := some (.int (1 : Int32))) (fun h => by rw [Bd.returns] at h; cases h)
      refine ⟨_, _, pre6 _ ?_, hrun, hended, _, _, rfl, ?_, ⟨_, rfl⟩, hW, hsame.mono (by decide) (by decide)⟩
      · exact retI X0 hx Bd.returns (hb hby d11_24) hr
      · show Q_rm_iocA Z rb xc kb h0 n0 _ s₁.heap _
        rw [e0]
        exact ⟨congrArg (fun z => some (Value.int z)) (show (1 : Int32) = (F_rm_iocA xc) from by rw [F_rm_iocA, if_neg hc19, if_pos hc19_2]), N0, rfl⟩
    · have pre8 : ∀ t, Steps p.tables e below (s₁.setTop (mkF m 19 #[.val (.ref rb), .val (.int xc), .val (.int (0 : Int32)), .val (.int (4 : Int32)), .val (.int (xc.toInt8.toInt32)), .val (.int (2 : Int32))] [(.int (xc.toInt8.toInt32)), (.int (95 : Int32))])) t → Steps p.tables e below (s₁.setTop (entryFrame m #[(.ref rb), (.int xc), (.int (0 : Int32)), (.int (4 : Int32))] 6)) t := by
        intro t k
        refine pre5 t ?_
        refine XS.icmpYes X0.here hx rfl (pc0 := 19) (pc' := 25) rfl (hb hby d11_19) rfl (feq hc19_2).2 (by decide) (by decide) ?_
        show Steps p.tables e below (s₁.setTop (mkF m 25 #[.val (.ref rb), .val (.int xc), .val (.int (0 : Int32)), .val (.int (4 : Int32)), .val (.int (xc.toInt8.toInt32)), .val (.int (1 : Int32))] [])) _
        refine XS.iinc X0.here hx rfl (hb hby d11_25) rfl (l' := #[.val (.ref rb), .val (.int xc), .val (.int (0 : Int32)), .val (.int (4 : Int32)), .val (.int (xc.toInt8.toInt32)), .val (.int (2 : Int32))]) rfl ?_
        show Steps p.tables e below (s₁.setTop (mkF m 28 #[.val (.ref rb), .val (.int xc), .val (.int (0 : Int32)), .val (.int (4 : Int32)), .val (.int (xc.toInt8.toInt32)), .val (.int (2 : Int32))] [])) _
        refine XS.goto X0.here hx rfl (pc0 := 28) (pc' := 7) rfl (hb hby d11_28) (by decide) (by decide) ?_
        show Steps p.tables e below (s₁.setTop (mkF m 7 #[.val (.ref rb), .val (.int xc), .val (.int (0 : Int32)), .val (.int (4 : Int32)), .val (.int (xc.toInt8.toInt32)), .val (.int (2 : Int32))] [])) _
        refine XS.iload X0.here hx rfl (hb hby d11_7) rfl ?_
        show Steps p.tables e below (s₁.setTop (mkF m 9 #[.val (.ref rb), .val (.int xc), .val (.int (0 : Int32)), .val (.int (4 : Int32)), .val (.int (xc.toInt8.toInt32)), .val (.int (2 : Int32))] [(.int (2 : Int32))])) _
        refine XS.iloadN X0.here hx rfl (hb hby d11_9) rfl ?_
        show Steps p.tables e below (s₁.setTop (mkF m 10 #[.val (.ref rb), .val (.int xc), .val (.int (0 : Int32)), .val (.int (4 : Int32)), .val (.int (xc.toInt8.toInt32)), .val (.int (2 : Int32))] [(.int (4 : Int32)), (.int (2 : Int32))])) _
        refine XS.icmpNo X0.here hx rfl (hb hby d11_10) rfl (tlt (show (2 : Int32) < (4 : Int32) from by decide)).2.1 ?_
        show Steps p.tables e below (s₁.setTop (mkF m 13 #[.val (.ref rb), .val (.int xc), .val (.int (0 : Int32)), .val (.int (4 : Int32)), .val (.int (xc.toInt8.toInt32)), .val (.int (2 : Int32))] [])) _
        refine XS.aloadN X0.here hx rfl (hb hby d11_13) rfl rfl ?_
        show Steps p.tables e below (s₁.setTop (mkF m 14 #[.val (.ref rb), .val (.int xc), .val (.int (0 : Int32)), .val (.int (4 : Int32)), .val (.int (xc.toInt8.toInt32)), .val (.int (2 : Int32))] [(.ref rb)])) _
        refine XS.iload X0.here hx rfl (hb hby d11_14) rfl ?_
        show Steps p.tables e below (s₁.setTop (mkF m 16 #[.val (.ref rb), .val (.int xc), .val (.int (0 : Int32)), .val (.int (4 : Int32)), .val (.int (xc.toInt8.toInt32)), .val (.int (2 : Int32))] [(.int (2 : Int32)), (.ref rb)])) _
        obtain ⟨c7, a7, q7, s7, m7, i7, u7⟩ := id VB
        have hin7 := inb_of (j := (2 : Int32)) s7 ⟨by decide, by decide⟩
        refine X0.baloadBytes hx (j := (2 : Int32)) (v := (.int (95 : Int32))) (by rw [e0]; exact a7.1) (State.isArrayOf_alike hZ.alike a7.2.1) a7.2.2 hin7 (i7.at hin7 rfl) (g := (mkF m 16 #[.val (.ref rb), .val (.int xc), .val (.int (0 : Int32)), .val (.int (4 : Int32)), .val (.int (xc.toInt8.toInt32)), .val (.int (2 : Int32))] [(.int (2 : Int32)), (.ref rb)])) rfl rfl (hb hby d11_16) _ ?_
        show Steps p.tables e below (s₁.setTop (mkF m 17 #[.val (.ref rb), .val (.int xc), .val (.int (0 : Int32)), .val (.int (4 : Int32)), .val (.int (xc.toInt8.toInt32)), .val (.int (2 : Int32))] [(.int (95 : Int32))])) _
        refine XS.iload X0.here hx rfl (hb hby d11_17) rfl ?_
        show Steps p.tables e below (s₁.setTop (mkF m 19 #[.val (.ref rb), .val (.int xc), .val (.int (0 : Int32)), .val (.int (4 : Int32)), .val (.int (xc.toInt8.toInt32)), .val (.int (2 : Int32))] [(.int (xc.toInt8.toInt32)), (.int (95 : Int32))])) _
        exact k
      by_cases hc19_3 : (95 : Int32) = (xc.toInt8.toInt32)
      · have pre9 : ∀ t, Steps p.tables e below (s₁.setTop (mkF m 24 #[.val (.ref rb), .val (.int xc), .val (.int (0 : Int32)), .val (.int (4 : Int32)), .val (.int (xc.toInt8.toInt32)), .val (.int (2 : Int32))] [(.int (2 : Int32))])) t → Steps p.tables e below (s₁.setTop (entryFrame m #[(.ref rb), (.int xc), (.int (0 : Int32)), (.int (4 : Int32))] 6)) t := by
          intro t k
          refine pre8 t ?_
          refine XS.icmpNo X0.here hx rfl (hb hby d11_19) rfl (teq hc19_3).2 ?_
          show Steps p.tables e below (s₁.setTop (mkF m 22 #[.val (.ref rb), .val (.int xc), .val (.int (0 : Int32)), .val (.int (4 : Int32)), .val (.int (xc.toInt8.toInt32)), .val (.int (2 : Int32))] [])) _
          refine XS.iload X0.here hx rfl (hb hby d11_22) rfl ?_
          show Steps p.tables e below (s₁.setTop (mkF m 24 #[.val (.ref rb), .val (.int xc), .val (.int (0 : Int32)), .val (.int (4 : Int32)), .val (.int (xc.toInt8.toInt32)), .val (.int (2 : Int32))] [(.int (2 : Int32))])) _
          exact k
        obtain ⟨fs, hr, hrun, hended, hW, hsame⟩ := X0.leave (v := some (.int (2 : Int32))) (fun h => by rw [Bd.returns] at h; cases h)
        refine ⟨_, _, pre9 _ ?_, hrun, hended, _, _, rfl, ?_, ⟨_, rfl⟩, hW, hsame.mono (by decide) (by decide)⟩
        · exact retI X0 hx Bd.returns (hb hby d11_24) hr
        · show Q_rm_iocA Z rb xc kb h0 n0 _ s₁.heap _
          rw [e0]
          exact ⟨congrArg (fun z => some (Value.int z)) (show (2 : Int32) = (F_rm_iocA xc) from by rw [F_rm_iocA, if_neg hc19, if_neg hc19_2, if_pos hc19_3]), N0, rfl⟩
      · have pre11 : ∀ t, Steps p.tables e below (s₁.setTop (mkF m 19 #[.val (.ref rb), .val (.int xc), .val (.int (0 : Int32)), .val (.int (4 : Int32)), .val (.int (xc.toInt8.toInt32)), .val (.int (3 : Int32))] [(.int (xc.toInt8.toInt32)), (.int (126 : Int32))])) t → Steps p.tables e below (s₁.setTop (entryFrame m #[(.ref rb), (.int xc), (.int (0 : Int32)), (.int (4 : Int32))] 6)) t := by
          intro t k
          refine pre8 t ?_
          refine XS.icmpYes X0.here hx rfl (pc0 := 19) (pc' := 25) rfl (hb hby d11_19) rfl (feq hc19_3).2 (by decide) (by decide) ?_
          show Steps p.tables e below (s₁.setTop (mkF m 25 #[.val (.ref rb), .val (.int xc), .val (.int (0 : Int32)), .val (.int (4 : Int32)), .val (.int (xc.toInt8.toInt32)), .val (.int (2 : Int32))] [])) _
          refine XS.iinc X0.here hx rfl (hb hby d11_25) rfl (l' := #[.val (.ref rb), .val (.int xc), .val (.int (0 : Int32)), .val (.int (4 : Int32)), .val (.int (xc.toInt8.toInt32)), .val (.int (3 : Int32))]) rfl ?_
          show Steps p.tables e below (s₁.setTop (mkF m 28 #[.val (.ref rb), .val (.int xc), .val (.int (0 : Int32)), .val (.int (4 : Int32)), .val (.int (xc.toInt8.toInt32)), .val (.int (3 : Int32))] [])) _
          refine XS.goto X0.here hx rfl (pc0 := 28) (pc' := 7) rfl (hb hby d11_28) (by decide) (by decide) ?_
          show Steps p.tables e below (s₁.setTop (mkF m 7 #[.val (.ref rb), .val (.int xc), .val (.int (0 : Int32)), .val (.int (4 : Int32)), .val (.int (xc.toInt8.toInt32)), .val (.int (3 : Int32))] [])) _
          refine XS.iload X0.here hx rfl (hb hby d11_7) rfl ?_
          show Steps p.tables e below (s₁.setTop (mkF m 9 #[.val (.ref rb), .val (.int xc), .val (.int (0 : Int32)), .val (.int (4 : Int32)), .val (.int (xc.toInt8.toInt32)), .val (.int (3 : Int32))] [(.int (3 : Int32))])) _
          refine XS.iloadN X0.here hx rfl (hb hby d11_9) rfl ?_
          show Steps p.tables e below (s₁.setTop (mkF m 10 #[.val (.ref rb), .val (.int xc), .val (.int (0 : Int32)), .val (.int (4 : Int32)), .val (.int (xc.toInt8.toInt32)), .val (.int (3 : Int32))] [(.int (4 : Int32)), (.int (3 : Int32))])) _
          refine XS.icmpNo X0.here hx rfl (hb hby d11_10) rfl (tlt (show (3 : Int32) < (4 : Int32) from by decide)).2.1 ?_
          show Steps p.tables e below (s₁.setTop (mkF m 13 #[.val (.ref rb), .val (.int xc), .val (.int (0 : Int32)), .val (.int (4 : Int32)), .val (.int (xc.toInt8.toInt32)), .val (.int (3 : Int32))] [])) _
          refine XS.aloadN X0.here hx rfl (hb hby d11_13) rfl rfl ?_
          show Steps p.tables e below (s₁.setTop (mkF m 14 #[.val (.ref rb), .val (.int xc), .val (.int (0 : Int32)), .val (.int (4 : Int32)), .val (.int (xc.toInt8.toInt32)), .val (.int (3 : Int32))] [(.ref rb)])) _
          refine XS.iload X0.here hx rfl (hb hby d11_14) rfl ?_
          show Steps p.tables e below (s₁.setTop (mkF m 16 #[.val (.ref rb), .val (.int xc), .val (.int (0 : Int32)), .val (.int (4 : Int32)), .val (.int (xc.toInt8.toInt32)), .val (.int (3 : Int32))] [(.int (3 : Int32)), (.ref rb)])) _
          obtain ⟨c10, a10, q10, s10, m10, i10, u10⟩ := id VB
          have hin10 := inb_of (j := (3 : Int32)) s10 ⟨by decide, by decide⟩
          refine X0.baloadBytes hx (j := (3 : Int32)) (v := (.int (126 : Int32))) (by rw [e0]; exact a10.1) (State.isArrayOf_alike hZ.alike a10.2.1) a10.2.2 hin10 (i10.at hin10 rfl) (g := (mkF m 16 #[.val (.ref rb), .val (.int xc), .val (.int (0 : Int32)), .val (.int (4 : Int32)), .val (.int (xc.toInt8.toInt32)), .val (.int (3 : Int32))] [(.int (3 : Int32)), (.ref rb)])) rfl rfl (hb hby d11_16) _ ?_
          show Steps p.tables e below (s₁.setTop (mkF m 17 #[.val (.ref rb), .val (.int xc), .val (.int (0 : Int32)), .val (.int (4 : Int32)), .val (.int (xc.toInt8.toInt32)), .val (.int (3 : Int32))] [(.int (126 : Int32))])) _
          refine XS.iload X0.here hx rfl (hb hby d11_17) rfl ?_
          show Steps p.tables e below (s₁.setTop (mkF m 19 #[.val (.ref rb), .val (.int xc), .val (.int (0 : Int32)), .val (.int (4 : Int32)), .val (.int (xc.toInt8.toInt32)), .val (.int (3 : Int32))] [(.int (xc.toInt8.toInt32)), (.int (126 : Int32))])) _
          exact k
        by_cases hc19_4 : (126 : Int32) = (xc.toInt8.toInt32)
        · have pre12 : ∀ t, Steps p.tables e below (s₁.setTop (mkF m 24 #[.val (.ref rb), .val (.int xc), .val (.int (0 : Int32)), .val (.int (4 : Int32)), .val (.int (xc.toInt8.toInt32)), .val (.int (3 : Int32))] [(.int (3 : Int32))])) t → Steps p.tables e below (s₁.setTop (entryFrame m #[(.ref rb), (.int xc), (.int (0 : Int32)), (.int (4 : Int32))] 6)) t := by
            intro t k
            refine pre11 t ?_
            refine XS.icmpNo X0.here hx rfl (hb hby d11_19) rfl (teq hc19_4).2 ?_
            show Steps p.tables e below (s₁.setTop (mkF m 22 #[.val (.ref rb), .val (.int xc), .val (.int (0 : Int32)), .val (.int (4 : Int32)), .val (.int (xc.toInt8.toInt32)), .val (.int (3 : Int32))] [])) _
            refine XS.iload X0.here hx rfl (hb hby d11_22) rfl ?_
            show Steps p.tables e below (s₁.setTop (mkF m 24 #[.val (.ref rb), .val (.int xc), .val (.int (0 : Int32)), .val (.int (4 : Int32)), .val (.int (xc.toInt8.toInt32)), .val (.int (3 : Int32))] [(.int (3 : Int32))])) _
            exact k
          obtain ⟨fs, hr, hrun, hended, hW, hsame⟩ := X0.leave (v := some (.int (3 : Int32))) (fun h => by rw [Bd.returns] at h; cases h)
          refine ⟨_, _, pre12 _ ?_, hrun, hended, _, _, rfl, ?_, ⟨_, rfl⟩, hW, hsame.mono (by decide) (by decide)⟩
          · exact retI X0 hx Bd.returns (hb hby d11_24) hr
          · show Q_rm_iocA Z rb xc kb h0 n0 _ s₁.heap _
            rw [e0]
            exact ⟨congrArg (fun z => some (Value.int z)) (show (3 : Int32) = (F_rm_iocA xc) from by rw [F_rm_iocA, if_neg hc19, if_neg hc19_2, if_neg hc19_3, if_pos hc19_4]), N0, rfl⟩
        · have pre13 : ∀ t, Steps p.tables e below (s₁.setTop (mkF m 32 #[.val (.ref rb), .val (.int xc), .val (.int (0 : Int32)), .val (.int (4 : Int32)), .val (.int (xc.toInt8.toInt32)), .val (.int (4 : Int32))] [(.int (-1 : Int32))])) t → Steps p.tables e below (s₁.setTop (entryFrame m #[(.ref rb), (.int xc), (.int (0 : Int32)), (.int (4 : Int32))] 6)) t := by
            intro t k
            refine pre11 t ?_
            refine XS.icmpYes X0.here hx rfl (pc0 := 19) (pc' := 25) rfl (hb hby d11_19) rfl (feq hc19_4).2 (by decide) (by decide) ?_
            show Steps p.tables e below (s₁.setTop (mkF m 25 #[.val (.ref rb), .val (.int xc), .val (.int (0 : Int32)), .val (.int (4 : Int32)), .val (.int (xc.toInt8.toInt32)), .val (.int (3 : Int32))] [])) _
            refine XS.iinc X0.here hx rfl (hb hby d11_25) rfl (l' := #[.val (.ref rb), .val (.int xc), .val (.int (0 : Int32)), .val (.int (4 : Int32)), .val (.int (xc.toInt8.toInt32)), .val (.int (4 : Int32))]) rfl ?_
            show Steps p.tables e below (s₁.setTop (mkF m 28 #[.val (.ref rb), .val (.int xc), .val (.int (0 : Int32)), .val (.int (4 : Int32)), .val (.int (xc.toInt8.toInt32)), .val (.int (4 : Int32))] [])) _
            refine XS.goto X0.here hx rfl (pc0 := 28) (pc' := 7) rfl (hb hby d11_28) (by decide) (by decide) ?_
            show Steps p.tables e below (s₁.setTop (mkF m 7 #[.val (.ref rb), .val (.int xc), .val (.int (0 : Int32)), .val (.int (4 : Int32)), .val (.int (xc.toInt8.toInt32)), .val (.int (4 : Int32))] [])) _
            refine XS.iload X0.here hx rfl (hb hby d11_7) rfl ?_
            show Steps p.tables e below (s₁.setTop (mkF m 9 #[.val (.ref rb), .val (.int xc), .val (.int (0 : Int32)), .val (.int (4 : Int32)), .val (.int (xc.toInt8.toInt32)), .val (.int (4 : Int32))] [(.int (4 : Int32))])) _
            refine XS.iloadN X0.here hx rfl (hb hby d11_9) rfl ?_
            show Steps p.tables e below (s₁.setTop (mkF m 10 #[.val (.ref rb), .val (.int xc), .val (.int (0 : Int32)), .val (.int (4 : Int32)), .val (.int (xc.toInt8.toInt32)), .val (.int (4 : Int32))] [(.int (4 : Int32)), (.int (4 : Int32))])) _
            refine XS.icmpYes X0.here hx rfl (pc0 := 10) (pc' := 31) rfl (hb hby d11_10) rfl (flt (show ¬ ((4 : Int32) < (4 : Int32)) from by decide)).2.1 (by decide) (by decide) ?_
            show Steps p.tables e below (s₁.setTop (mkF m 31 #[.val (.ref rb), .val (.int xc), .val (.int (0 : Int32)), .val (.int (4 : Int32)), .val (.int (xc.toInt8.toInt32)), .val (.int (4 : Int32))] [])) _
            refine XS.iconst X0.here hx rfl (hb hby d11_31) ?_
            show Steps p.tables e below (s₁.setTop (mkF m 32 #[.val (.ref rb), .val (.int xc), .val (.int (0 : Int32)), .val (.int (4 : Int32)), .val (.int (xc.toInt8.toInt32)), .val (.int (4 : Int32))] [(.int (-1 : Int32))])) _
            exact k
          obtain ⟨fs, hr, hrun, hended, hW, hsame⟩ := X0.leave (v := some (.int (-1 : Int32))) (fun h => by rw [Bd.returns] at h; cases h)
          refine ⟨_, _, pre13 _ ?_, hrun, hended, _, _, rfl, ?_, ⟨_, rfl⟩, hW, hsame.mono (by decide) (by decide)⟩
          · exact retI X0 hx Bd.returns (hb hby d11_32) hr
          · show Q_rm_iocA Z rb xc kb h0 n0 _ s₁.heap _
            rw [e0]
            exact ⟨congrArg (fun z => some (Value.int z)) (show (-1 : Int32) = (F_rm_iocA xc) from by rw [F_rm_iocA, if_neg hc19, if_neg hc19_2, if_neg hc19_3, if_neg hc19_4]), N0, rfl⟩
theorem d7_0 : decode jdk_43_method_22_code 0 = .ok (.iload_n 1, 1) := by decide +kernel
theorem d7_1 : decode jdk_43_method_22_code 1 = .ok (.invokestatic 88, 3) := by decide +kernel
theorem pd0 : parseMethodDescriptor "(I)Z" = some ⟨[.int], some .boolean⟩ := by decide +kernel
theorem d7_4 : decode jdk_43_method_22_code 4 = .ok (.ifCond .ne 5, 3) := by decide +kernel
theorem d7_7 : decode jdk_43_method_22_code 7 = .ok (.iconst (-1), 1) := by decide +kernel
theorem d7_8 : decode jdk_43_method_22_code 8 = .ok (.ireturn, 1) := by decide +kernel
theorem d7_9 : decode jdk_43_method_22_code 9 = .ok (.iload_n 2, 1) := by decide +kernel
theorem d7_10 : decode jdk_43_method_22_code 10 = .ok (.iconst 0, 1) := by decide +kernel
theorem d7_11 : decode jdk_43_method_22_code 11 = .ok (.invokestatic 92, 3) := by decide +kernel
theorem pd1 : parseMethodDescriptor "(II)I" = some ⟨[.int, .int], some .int⟩ := by decide +kernel
theorem d7_14 : decode jdk_43_method_22_code 14 = .ok (.istore_n 2, 1) := by decide +kernel
theorem d7_15 : decode jdk_43_method_22_code 15 = .ok (.iload_n 3, 1) := by decide +kernel
theorem d7_16 : decode jdk_43_method_22_code 16 = .ok (.aload_n 0, 1) := by decide +kernel
theorem d7_17 : decode jdk_43_method_22_code 17 = .ok (.arraylength, 1) := by decide +kernel
theorem d7_18 : decode jdk_43_method_22_code 18 = .ok (.invokestatic 38, 3) := by decide +kernel
theorem d7_21 : decode jdk_43_method_22_code 21 = .ok (.istore_n 3, 1) := by decide +kernel
theorem d7_22 : decode jdk_43_method_22_code 22 = .ok (.iload_n 2, 1) := by decide +kernel
theorem d7_23 : decode jdk_43_method_22_code 23 = .ok (.iload_n 3, 1) := by decide +kernel
theorem d7_24 : decode jdk_43_method_22_code 24 = .ok (.if_icmp .lt 5, 3) := by decide +kernel
theorem d7_29 : decode jdk_43_method_22_code 29 = .ok (.aload_n 0, 1) := by decide +kernel
theorem d7_30 : decode jdk_43_method_22_code 30 = .ok (.iload_n 1, 1) := by decide +kernel
theorem d7_31 : decode jdk_43_method_22_code 31 = .ok (.iload_n 2, 1) := by decide +kernel
theorem d7_32 : decode jdk_43_method_22_code 32 = .ok (.iload_n 3, 1) := by decide +kernel
theorem d7_33 : decode jdk_43_method_22_code 33 = .ok (.invokestatic 95, 3) := by decide +kernel
theorem pd2 : parseMethodDescriptor "([BIII)I" = some ⟨[(.array .byte), .int, .int, .int], some .int⟩ := by decide +kernel
theorem d7_36 : decode jdk_43_method_22_code 36 = .ok (.ireturn, 1) := by decide +kernel
def F_rm_lioA (xc : Int32) : Int32 := (if (F_rm_can xc) = (0 : Int32) then (-1 : Int32) else (F_rm_iocA xc))
theorem ef_rm_lioA (m : MethodId) (rb : Addr) (xc : Int32) : entryFrame m #[(.ref rb), (.int xc), (.int (0 : Int32)), (.int (4 : Int32))] 4 = mkF m 0 #[.val (.ref rb), .val (.int xc), .val (.int (0 : Int32)), .val (.int (4 : Int32))] [] := by first | (simp [entryFrame, mkF, argsToLocals, Value.category]; done) | rfl
def Q_rm_lioA (Z : State) (rb : Addr) (xc : Int32) (kb : ClassId) (h0 : Heap) (n0 : Nat) (v : Option Value) (h : Heap) (L : List Loc) : Prop := v = some (.int (F_rm_lioA xc)) ∧ Fr n0 L ∧ h = h0
set_option maxRecDepth 65536 in
set_option maxHeartbeats 40000000 in
theorem rm_lioA (l : Launch) (Z : State) (a0 : Array Value) (hw : ∀ d ∈ tables_1, d.before a0 Z = true) (ws : List Jvm.Cond) (rb : Addr) (xc : Int32) (kb : ClassId) (h0 : Heap) (n0 : Nat) (Z0 : n0 ≤ h0.size) (VB : Arv Z h0 rb kb .byte (4 : Int32) [(.int (45 : Int32)), (.int (46 : Int32)), (.int (95 : Int32)), (.int (126 : Int32))] (.int (0 : Int32))) :
    MetFree l (⟨"java/lang/StringLatin1", "indexOf", "([BIII)I"⟩ : MethodName) (head1 (Jvm.Cond.code (⟨"java/lang/StringLatin1", "indexOf", "([BIII)I"⟩ : MethodName) jdk_43_method_22_code 4 (some .int) :: ws) ({ frames := 1, cells := 0, slots := 0, locals := 17 } : Room)) (fun a U => a = #[(.ref rb), (.int xc), (.int (0 : Int32)), (.int (4 : Int32))] ∧ Z.Warmed39 U.vm ∧ U.heap = h0) (fun _ _ _ _ _ => True) (fun _ U o U' => ∃ v L, o = .returned v ∧ Q_rm_lioA Z rb xc kb h0 n0 v U'.heap L ∧ FrameEnd U o U' L ({ frames := 1, cells := 0, slots := 0, locals := 17 } : Room).cells ({ frames := 1, cells := 0, slots := 0, locals := 17 } : Room).slots) := by
  refine MetFree.of_bodySF (plainFor_of_name pn0) hisR ?_
  intro p e s m args below meth c s₁ Bd hml0 hP hK
  obtain ⟨rfl, hZ, hh⟩ := hP
  have hx := Bd.exec
  have hby := Bd.bytes
  have hml : c.maxLocals = 4 := hml0
  have hown : s.vm.findClass "java/lang/StringLatin1" = some m.cls := findClass_of_methodNamed Bd.named
  have hnm := (name_of_methodNamed Bd.named Bd.method).1
  have X0 : Stand p l e ({ frames := 1, cells := 0, slots := 0, locals := 17 } : Room) s m #[(.ref rb), (.int xc), (.int (0 : Int32)), (.int (4 : Int32))] below meth c s₁ [] 0 0 := Stand.of_body Bd
  have e0 : s₁.heap = h0 := by rw [← hh, Bd.state]; rfl
  have N0 := Fr.nil n0
  have pre0 : ∀ t, Steps p.tables e below (s₁.setTop (mkF m 0 #[.val (.ref rb), .val (.int xc), .val (.int (0 : Int32)), .val (.int (4 : Int32))] [])) t → Steps p.tables e below (s₁.setTop (entryFrame m #[(.ref rb), (.int xc), (.int (0 : Int32)), (.int (4 : Int32))] 4)) t := fun t k => castTop (ef_rm_lioA m rb xc) k
  have pre1 : ∀ t, Steps p.tables e below (s₁.setTop (mkF m 1 #[.val (.ref rb), .val (.int xc), .val (.int (0 : Int32)), .val (.int (4 : Int32))] [(.int xc)])) t → Steps p.tables e below (s₁.setTop (entryFrame m #[(.ref rb), (.int xc), (.int (0 : Int32)), (.int (4 : Int32))] 4)) t := by
    intro t k
    refine pre0 t ?_
    refine XS.iloadN X0.here hx rfl (hb hby d7_0) rfl ?_
    show Steps p.tables e below (s₁.setTop (mkF m 1 #[.val (.ref rb), .val (.int xc), .val (.int (0 : Int32)), .val (.int (4 : Int32))] [(.int xc)])) _
    exact k
  obtain ⟨_, _, ⟨T2, L2, k2, n2⟩, -, X2, ⟨Lc2, hQ2, l2, y2, z2⟩, st2⟩ := Jvm.LawKit.callS X0 hx (y := (⟨"java/lang/StringLatin1", "canEncode", "(I)Z"⟩ : MethodName)) hown (mvT hZ (hw _ (List.mem_of_getElem? (i := 44) rfl))) (mvT hZ (hw _ (List.mem_of_getElem? (i := 45) rfl))) (mvT hZ (hw _ (List.mem_of_getElem? (i := 42) rfl))) (mvT hZ (hw _ (List.mem_of_getElem? (i := 46) rfl))) (by decide) (backOf (W := 0) (rm_can l Z a0 hw [] xc h0 n0 Z0 ) hZ (hw _ (List.mem_of_getElem? (i := 46) rfl)) (hw _ (List.mem_of_getElem? (i := 42) rfl)) (by decide) (by decide)) (g := (mkF m 1 #[.val (.ref rb), .val (.int xc), .val (.int (0 : Int32)), .val (.int (4 : Int32))] [(.int xc)])) rfl (by rw [hml]; rfl) (argsL := [(.int xc)]) (rest := []) (lenOf pd0 rfl) rfl (by show 2 * 0 + _ ≤ _; exact Nat.le_of_eq rfl) (hb hby d7_1) (fun _ _ => ⟨rfl, e0, (by decide : 0 + 0 ≤ _), (by decide : 0 + 0 ≤ _)⟩)
  dsimp only [Pt.U, Pt.locs, Pt.cells, Pt.slots] at X2 l2 y2 z2 st2 hQ2
  subst y2 z2
  obtain ⟨rfl, M2, e2⟩ := hQ2
  have N2 : Fr n0 L2 := by rw [l2]; exact Fr.app N0 M2
  clear l2
  have X2 : Stand p l e _ _ m _ below meth c T2 _ 0 0 := X2
  have pre3 : ∀ t, Steps p.tables e below (T2.setTop (mkF m 4 #[.val (.ref rb), .val (.int xc), .val (.int (0 : Int32)), .val (.int (4 : Int32))] [(.int (F_rm_can xc))])) t → Steps p.tables e below (s₁.setTop (entryFrame m #[(.ref rb), (.int xc), (.int (0 : Int32)), (.int (4 : Int32))] 4)) t := fun t k => pre1 t (st2 t k)
  by_cases hc4 : (F_rm_can xc) = (0 : Int32)
  · have pre4 : ∀ t, Steps p.tables e below (T2.setTop (mkF m 8 #[.val (.ref rb), .val (.int xc), .val (.int (0 : Int32)), .val (.int (4 : Int32))] [(.int (-1 : Int32))])) t → Steps p.tables e below (s₁.setTop (entryFrame m #[(.ref rb), (.int xc), (.int (0 : Int32)), (.int (4 : Int32))] 4)) t := by
      intro t k
      refine pre3 t ?_
      refine XS.ifNo X2.here hx rfl (hb hby d7_4) rfl ((if0 _ _).trans (teq hc4).2) ?_
      show Steps p.tables e below (T2.setTop (mkF m 7 #[.val (.ref rb), .val (.int xc), .val (.int (0 : Int32)), .val (.int (4 : Int32))] [])) _
      refine XS.iconst X2.here hx rfl (hb hby d7_7) ?_
      show Steps p.tables e below (T2.setTop (mkF m 8 #[.val (.ref rb), .val (.int xc), .val (.int (0 : Int32)), .val (.int (4 : Int32))] [(.int (-1 : Int32))])) _
      exact k
    obtain ⟨fs, hr, hrun, hended, hW, hsame⟩ := X2.leave (v := some (.int (-1 : Int32))) (fun h => by rw [Bd.returns] at h; cases h)
    refine ⟨_, _, pre4 _ ?_, hrun, hended, _, _, rfl, ?_, ⟨_, rfl⟩, hW, hsame.mono (by decide) (by decide)⟩
    · exact retI X2 hx Bd.returns (hb hby d7_8) hr
    · show Q_rm_lioA Z rb xc kb h0 n0 _ T2.heap _
      rw [e2]
      exact ⟨congrArg (fun z => some (Value.int z)) (show (-1 : Int32) = (F_rm_lioA xc) from by rw [F_rm_lioA, if_pos hc4]), N2, rfl⟩
  · have pre5 : ∀ t, Steps p.tables e below (T2.setTop (mkF m 11 #[.val (.ref rb), .val (.int xc), .val (.int (0 : Int32)), .val (.int (4 : Int32))] [(.int (0 : Int32)), (.int (0 : Int32))])) t → Steps p.tables e below (s₁.setTop (entryFrame m #[(.ref rb), (.int xc), (.int (0 : Int32)), (.int (4 : Int32))] 4)) t := by
      intro t k
      refine pre3 t ?_
      refine XS.ifYes X2.here hx rfl (pc0 := 4) (pc' := 9) rfl (hb hby d7_4) rfl ((if0 _ _).trans (feq hc4).2) (by decide) (by decide) ?_
      show Steps p.tables e below (T2.setTop (mkF m 9 #[.val (.ref rb), .val (.int xc), .val (.int (0 : Int32)), .val (.int (4 : Int32))] [])) _
      refine XS.iloadN X2.here hx rfl (hb hby d7_9) rfl ?_
      show Steps p.tables e below (T2.setTop (mkF m 10 #[.val (.ref rb), .val (.int xc), .val (.int (0 : Int32)), .val (.int (4 : Int32))] [(.int (0 : Int32))])) _
      refine XS.iconst X2.here hx rfl (hb hby d7_10) ?_
      show Steps p.tables e below (T2.setTop (mkF m 11 #[.val (.ref rb), .val (.int xc), .val (.int (0 : Int32)), .val (.int (4 : Int32))] [(.int (0 : Int32)), (.int (0 : Int32))])) _
      exact k
    obtain ⟨_, _, ⟨T6, L6, k6, n6⟩, -, X6, ⟨Lc6, hQ6, l6, y6, z6⟩, st6⟩ := Jvm.LawKit.callS X2 hx (y := (⟨"java/lang/Math", "max", "(II)I"⟩ : MethodName)) hown (mvT hZ (hw _ (List.mem_of_getElem? (i := 47) rfl))) (mvT hZ (hw _ (List.mem_of_getElem? (i := 48) rfl))) (mvT hZ (hw _ (List.mem_of_getElem? (i := 49) rfl))) (mvT hZ (hw _ (List.mem_of_getElem? (i := 50) rfl))) (by decide) (backOf (W := 0) (rm_max l Z a0 hw []  h0 n0 Z0 ) hZ (hw _ (List.mem_of_getElem? (i := 50) rfl)) (hw _ (List.mem_of_getElem? (i := 49) rfl)) (by decide) (by decide)) (g := (mkF m 11 #[.val (.ref rb), .val (.int xc), .val (.int (0 : Int32)), .val (.int (4 : Int32))] [(.int (0 : Int32)), (.int (0 : Int32))])) rfl (by rw [hml]; rfl) (argsL := [(.int (0 : Int32)), (.int (0 : Int32))]) (rest := []) (lenOf pd1 rfl) rfl (by show 2 * 0 + _ ≤ _; exact Nat.le_of_eq rfl) (hb hby d7_11) (fun _ _ => ⟨rfl, e2, (by decide : 0 + 0 ≤ _), (by decide : 0 + 0 ≤ _)⟩)
    dsimp only [Pt.U, Pt.locs, Pt.cells, Pt.slots] at X6 l6 y6 z6 st6 hQ6
    subst y6 z6
    obtain ⟨rfl, M6, e6⟩ := hQ6
    have N6 : Fr n0 L6 := by rw [l6]; exact Fr.app N2 M6
    clear l6
    have X6 : Stand p l e _ _ m _ below meth c T6 _ 0 0 := X6
    have pre7 : ∀ t, Steps p.tables e below (T6.setTop (mkF m 14 #[.val (.ref rb), .val (.int xc), .val (.int (0 : Int32)), .val (.int (4 : Int32))] [(.int (0 : Int32))])) t → Steps p.tables e below (s₁.setTop (entryFrame m #[(.ref rb), (.int xc), (.int (0 : Int32)), (.int (4 : Int32))] 4)) t := fun t k => pre5 t (st6 t k)
    have pre9 : ∀ t, Steps p.tables e below (T6.setTop (mkF m 18 #[.val (.ref rb), .val (.int xc), .val (.int (0 : Int32)), .val (.int (4 : Int32))] [(.int (4 : Int32)), (.int (4 : Int32))])) t → Steps p.tables e below (s₁.setTop (entryFrame m #[(.ref rb), (.int xc), (.int (0 : Int32)), (.int (4 : Int32))] 4)) t := by
      intro t k
      refine pre7 t ?_
      refine XS.istoreN X6.here hx rfl (hb hby d7_14) rfl (l' := #[.val (.ref rb), .val (.int xc), .val (.int (0 : Int32)), .val (.int (4 : Int32))]) rfl ?_
      show Steps p.tables e below (T6.setTop (mkF m 15 #[.val (.ref rb), .val (.int xc), .val (.int (0 : Int32)), .val (.int (4 : Int32))] [])) _
      refine XS.iloadN X6.here hx rfl (hb hby d7_15) rfl ?_
      show Steps p.tables e below (T6.setTop (mkF m 16 #[.val (.ref rb), .val (.int xc), .val (.int (0 : Int32)), .val (.int (4 : Int32))] [(.int (4 : Int32))])) _
      refine XS.aloadN X6.here hx rfl (hb hby d7_16) rfl rfl ?_
      show Steps p.tables e below (T6.setTop (mkF m 17 #[.val (.ref rb), .val (.int xc), .val (.int (0 : Int32)), .val (.int (4 : Int32))] [(.ref rb), (.int (4 : Int32))])) _
      obtain ⟨c8, a8, q8, s8, m8, i8, u8⟩ := id VB
      refine X6.arraylength hx (by rw [e6]; exact a8.1) (State.isArrayOf_alike hZ.alike a8.2.1) (g := (mkF m 17 #[.val (.ref rb), .val (.int xc), .val (.int (0 : Int32)), .val (.int (4 : Int32))] [(.ref rb), (.int (4 : Int32))])) rfl rfl (hb hby d7_17) _ ?_
      rw [len_of s8 m8]
      show Steps p.tables e below (T6.setTop (mkF m 18 #[.val (.ref rb), .val (.int xc), .val (.int (0 : Int32)), .val (.int (4 : Int32))] [(.int (4 : Int32)), (.int (4 : Int32))])) _
      exact k
    obtain ⟨_, _, ⟨T10, L10, k10, n10⟩, -, X10, ⟨Lc10, hQ10, l10, y10, z10⟩, st10⟩ := Jvm.LawKit.callS X6 hx (y := (⟨"java/lang/Math", "min", "(II)I"⟩ : MethodName)) hown (mvT hZ (hw _ (List.mem_of_getElem? (i := 51) rfl))) (mvT hZ (hw _ (List.mem_of_getElem? (i := 52) rfl))) (mvT hZ (hw _ (List.mem_of_getElem? (i := 49) rfl))) (mvT hZ (hw _ (List.mem_of_getElem? (i := 53) rfl))) (by decide) (backOf (W := 0) (rm_minA l Z a0 hw []  h0 n0 Z0 ) hZ (hw _ (List.mem_of_getElem? (i := 53) rfl)) (hw _ (List.mem_of_getElem? (i := 49) rfl)) (by decide) (by decide)) (g := (mkF m 18 #[.val (.ref rb), .val (.int xc), .val (.int (0 : Int32)), .val (.int (4 : Int32))] [(.int (4 : Int32)), (.int (4 : Int32))])) rfl (by rw [hml]; rfl) (argsL := [(.int (4 : Int32)), (.int (4 : Int32))]) (rest := []) (lenOf pd1 rfl) rfl (by show 2 * 0 + _ ≤ _; exact Nat.le_of_eq rfl) (hb hby d7_18) (fun _ _ => ⟨rfl, e6, (by decide : 0 + 0 ≤ _), (by decide : 0 + 0 ≤ _)⟩)
    dsimp only [Pt.U, Pt.locs, Pt.cells, Pt.slots] at X10 l10 y10 z10 st10 hQ10
    subst y10 z10
    obtain ⟨rfl, M10, e10⟩ := hQ10
    have N10 : Fr n0 L10 := by rw [l10]; exact Fr.app N6 M10
    clear l10
    have X10 : Stand p l e _ _ m _ below meth c T10 _ 0 0 := X10
    have pre11 : ∀ t, Steps p.tables e below (T10.setTop (mkF m 21 #[.val (.ref rb), .val (.int xc), .val (.int (0 : Int32)), .val (.int (4 : Int32))] [(.int (4 : Int32))])) t → Steps p.tables e below (s₁.setTop (entryFrame m #[(.ref rb), (.int xc), (.int (0 : Int32)), (.int (4 : Int32))] 4)) t := fun t k => pre9 t (st10 t k)
    have pre12 : ∀ t, Steps p.tables e below (T10.setTop (mkF m 33 #[.val (.ref rb), .val (.int xc), .val (.int (0 : Int32)), .val (.int (4 : Int32))] [(.int (4 : Int32)), (.int (0 : Int32)), (.int xc), (.ref rb)])) t → Steps p.tables e below (s₁.setTop (entryFrame m #[(.ref rb), (.int xc), (.int (0 : Int32)), (.int (4 : Int32))] 4)) t := by
      intro t k
      refine pre11 t ?_
      refine XS.istoreN X10.here hx rfl (hb hby d7_21) rfl (l' := #[.val (.ref rb), .val (.int xc), .val (.int (0 : Int32)), .val (.int (4 : Int32))]) rfl ?_
      show Steps p.tables e below (T10.setTop (mkF m 22 #[.val (.ref rb), .val (.int xc), .val (.int (0 : Int32)), .val (.int (4 : Int32))] [])) _
      refine XS.iloadN X10.here hx rfl (hb hby d7_22) rfl ?_
      show Steps p.tables e below (T10.setTop (mkF m 23 #[.val (.ref rb), .val (.int xc), .val (.int (0 : Int32)), .val (.int (4 : Int32))] [(.int (0 : Int32))])) _
      refine XS.iloadN X10.here hx rfl (hb hby d7_23) rfl ?_
      show Steps p.tables e below (T10.setTop (mkF m 24 #[.val (.ref rb), .val (.int xc), .val (.int (0 : Int32)), .val (.int (4 : Int32))] [(.int (4 : Int32)), (.int (0 : Int32))])) _
      refine XS.icmpYes X10.here hx rfl (pc0 := 24) (pc' := 29) rfl (hb hby d7_24) rfl (tlt (show (0 : Int32) < (4 : Int32) from by decide)).1 (by decide) (by decide) ?_
      show Steps p.tables e below (T10.setTop (mkF m 29 #[.val (.ref rb), .val (.int xc), .val (.int (0 : Int32)), .val (.int (4 : Int32))] [])) _
      refine XS.aloadN X10.here hx rfl (hb hby d7_29) rfl rfl ?_
      show Steps p.tables e below (T10.setTop (mkF m 30 #[.val (.ref rb), .val (.int xc), .val (.int (0 : Int32)), .val (.int (4 : Int32))] [(.ref rb)])) _
      refine XS.iloadN X10.here hx rfl (hb hby d7_30) rfl ?_
      show Steps p.tables e below (T10.setTop (mkF m 31 #[.val (.ref rb), .val (.int xc), .val (.int (0 : Int32)), .val (.int (4 : Int32))] [(.int xc), (.ref rb)])) _
      refine XS.iloadN X10.here hx rfl (hb hby d7_31) rfl ?_
      show Steps p.tables e below (T10.setTop (mkF m 32 #[.val (.ref rb), .val (.int xc), .val (.int (0 : Int32)), .val (.int (4 : Int32))] [(.int (0 : Int32)), (.int xc), (.ref rb)])) _
      refine XS.iloadN X10.here hx rfl (hb hby d7_32) rfl ?_
      show Steps p.tables e below (T10.setTop (mkF m 33 #[.val (.ref rb), .val (.int xc), .val (.int (0 : Int32)), .val (.int (4 : Int32))] [(.int (4 : Int32)), (.int (0 : Int32)), (.int xc), (.ref rb)])) _
      exact k
    obtain ⟨_, _, ⟨T13, L13, k13, n13⟩, -, X13, ⟨Lc13, hQ13, l13, y13, z13⟩, st13⟩ := Jvm.LawKit.callS X10 hx (y := (⟨"java/lang/StringLatin1", "indexOfChar", "([BIII)I"⟩ : MethodName)) hown (mvT hZ (hw _ (List.mem_of_getElem? (i := 54) rfl))) (mvT hZ (hw _ (List.mem_of_getElem? (i := 55) rfl))) (mvT hZ (hw _ (List.mem_of_getElem? (i := 42) rfl))) (mvT hZ (hw _ (List.mem_of_getElem? (i := 56) rfl))) (by decide) (backOf (W := 0) (rm_iocA l Z a0 hw [] rb xc kb h0 n0 Z0 VB) hZ (hw _ (List.mem_of_getElem? (i := 56) rfl)) (hw _ (List.mem_of_getElem? (i := 42) rfl)) (by decide) (by decide)) (g := (mkF m 33 #[.val (.ref rb), .val (.int xc), .val (.int (0 : Int32)), .val (.int (4 : Int32))] [(.int (4 : Int32)), (.int (0 : Int32)), (.int xc), (.ref rb)])) rfl (by rw [hml]; rfl) (argsL := [(.ref rb), (.int xc), (.int (0 : Int32)), (.int (4 : Int32))]) (rest := []) (lenOf pd2 rfl) rfl (by show 2 * 0 + _ ≤ _; exact Nat.le_of_eq rfl) (hb hby d7_33) (fun _ _ => ⟨rfl, e10, (by decide : 0 + 0 ≤ _), (by decide : 0 + 0 ≤ _)⟩)
    dsimp only [Pt.U, Pt.locs, Pt.cells, Pt.slots] at X13 l13 y13 z13 st13 hQ13
    subst y13 z13
    obtain ⟨rfl, M13, e13⟩ := hQ13
    have N13 : Fr n0 L13 := by rw [l13]; exact Fr.app N10 M13
    clear l13
    have X13 : Stand p l e _ _ m _ below meth c T13 _ 0 0 := X13
    have pre14 : ∀ t, Steps p.tables e below (T13.setTop (mkF m 36 #[.val (.ref rb), .val (.int xc), .val (.int (0 : Int32)), .val (.int (4 : Int32))] [(.int (F_rm_iocA xc))])) t → Steps p.tables e below (s₁.setTop (entryFrame m #[(.ref rb), (.int xc), (.int (0 : Int32)), (.int (4 : Int32))] 4)) t := fun t k => pre12 t (st13 t k)
    obtain ⟨fs, hr, hrun, hended, hW, hsame⟩ := X13.leave (v := some (.int (F_rm_iocA xc))) (fun h => by rw [Bd.returns] at h; cases h)
    refine ⟨_, _, pre14 _ ?_, hrun, hended, _, _, rfl, ?_, ⟨_, rfl⟩, hW, hsame.mono (by decide) (by decide)⟩
    · exact retI X13 hx Bd.returns (hb hby d7_36) hr
    · show Q_rm_lioA Z rb xc kb h0 n0 _ T13.heap _
      rw [e13]
      exact ⟨congrArg (fun z => some (Value.int z)) (show (F_rm_iocA xc) = (F_rm_lioA xc) from by rw [F_rm_lioA, if_neg hc4]), N13, rfl⟩
theorem d5_0 : decode jdk_42_method_54_code 0 = .ok (.aload_n 0, 1) := by decide +kernel
theorem d5_1 : decode jdk_42_method_54_code 1 = .ok (.getfield 9, 3) := by decide +kernel
theorem d5_4 : decode jdk_42_method_54_code 4 = .ok (.arraylength, 1) := by decide +kernel
theorem d5_5 : decode jdk_42_method_54_code 5 = .ok (.aload_n 0, 1) := by decide +kernel
theorem d5_6 : decode jdk_42_method_54_code 6 = .ok (.invokevirtual 335, 3) := by decide +kernel
theorem pd3 : parseMethodDescriptor "()B" = some ⟨[], some .byte⟩ := by decide +kernel
theorem d5_9 : decode jdk_42_method_54_code 9 = .ok (.ishr, 1) := by decide +kernel
theorem d5_10 : decode jdk_42_method_54_code 10 = .ok (.ireturn, 1) := by decide +kernel
theorem ef_rm_lenA (m : MethodId) (ra : Addr) : entryFrame m #[(.ref ra)] 1 = mkF m 0 #[.val (.ref ra)] [] := by first | (simp [entryFrame, mkF, argsToLocals, Value.category]; done) | rfl
def Q_rm_lenA (Z : State) (ra : Addr) (xcs : Int32) (rb : Addr) (kb : ClassId) (h0 : Heap) (n0 : Nat) (v : Option Value) (h : Heap) (L : List Loc) : Prop := v = some (.int (4 : Int32)) ∧ Fr n0 L ∧ h = h0
set_option maxRecDepth 65536 in
set_option maxHeartbeats 40000000 in
theorem rm_lenA (l : Launch) (Z : State) (a0 : Array Value) (hw : ∀ d ∈ tables_1, d.before a0 Z = true) (ws : List Jvm.Cond) (ra : Addr) (xcs : Int32) (rb : Addr) (kb : ClassId) (h0 : Heap) (n0 : Nat) (Z0 : n0 ≤ h0.size) (SC : Sta Z h0 "java/lang/String" "COMPACT_STRINGS" "Z" (.int xcs)) (FC : Fld Z h0 ra "java/lang/String" "coder" "B" (.int (0 : Int32))) (FV : Fld Z h0 ra "java/lang/String" "value" "[B" (.ref rb)) (VB : Arv Z h0 rb kb .byte (4 : Int32) [(.int (45 : Int32)), (.int (46 : Int32)), (.int (95 : Int32)), (.int (126 : Int32))] (.int (0 : Int32))) (EA : Exa Z h0 ra "java/lang/String") (hcs : ¬ (xcs = (0 : Int32))) :
    MetFree l (⟨"java/lang/String", "length", "()I"⟩ : MethodName) (head1 (Jvm.Cond.code (⟨"java/lang/String", "length", "()I"⟩ : MethodName) jdk_42_method_54_code 1 (some .int) :: ws) ({ frames := 1, cells := 0, slots := 0, locals := 13 } : Room)) (fun a U => a = #[(.ref ra)] ∧ Z.Warmed39 U.vm ∧ U.heap = h0) (fun _ _ _ _ _ => True) (fun _ U o U' => ∃ v L, o = .returned v ∧ Q_rm_lenA Z ra xcs rb kb h0 n0 v U'.heap L ∧ FrameEnd U o U' L ({ frames := 1, cells := 0, slots := 0, locals := 13 } : Room).cells ({ frames := 1, cells := 0, slots := 0, locals := 13 } : Room).slots) := by
  refine MetFree.of_bodySF (plainFor_of_name pn1) hisR ?_
  intro p e s m args below meth c s₁ Bd hml0 hP hK
  obtain ⟨rfl, hZ, hh⟩ := hP
  have hx := Bd.exec
  have hby := Bd.bytes
  have hml : c.maxLocals = 1 := hml0
  have hown : s.vm.findClass "java/lang/String" = some m.cls := findClass_of_methodNamed Bd.named
  have hnm := (name_of_methodNamed Bd.named Bd.method).1
  have X0 : Stand p l e ({ frames := 1, cells := 0, slots := 0, locals := 13 } : Room) s m #[(.ref ra)] below meth c s₁ [] 0 0 := Stand.of_body Bd
  have e0 : s₁.heap = h0 := by rw [← hh, Bd.state]; rfl
  have N0 := Fr.nil n0
  have pre0 : ∀ t, Steps p.tables e below (s₁.setTop (mkF m 0 #[.val (.ref ra)] [])) t → Steps p.tables e below (s₁.setTop (entryFrame m #[(.ref ra)] 1)) t := fun t k => castTop (ef_rm_lenA m ra) k
  have pre1 : ∀ t, Steps p.tables e below (s₁.setTop (mkF m 1 #[.val (.ref ra)] [(.ref ra)])) t → Steps p.tables e below (s₁.setTop (entryFrame m #[(.ref ra)] 1)) t := by
    intro t k
    refine pre0 t ?_
    refine XS.aloadN X0.here hx rfl (hb hby d5_0) rfl rfl ?_
    show Steps p.tables e below (s₁.setTop (mkF m 1 #[.val (.ref ra)] [(.ref ra)])) _
    exact k
  obtain ⟨T2, X2, e2, st2⟩ := getF X0 hx hZ hown (host := "") (Or.inl (hw _ (List.mem_of_getElem? (i := 29) rfl))) Via.refl e0 FV (g := (mkF m 1 #[.val (.ref ra)] [(.ref ra)])) rfl rfl (hb hby d5_1)
  have pre3 : ∀ t, Steps p.tables e below (T2.setTop (mkF m 4 #[.val (.ref ra)] [(.ref rb)])) t → Steps p.tables e below (s₁.setTop (entryFrame m #[(.ref ra)] 1)) t := fun t k => pre1 t (st2 t k)
  have pre5 : ∀ t, Steps p.tables e below (T2.setTop (mkF m 6 #[.val (.ref ra)] [(.ref ra), (.int (4 : Int32))])) t → Steps p.tables e below (s₁.setTop (entryFrame m #[(.ref ra)] 1)) t := by
    intro t k
    refine pre3 t ?_
    obtain ⟨c4, a4, q4, s4, m4, i4, u4⟩ := id VB
    refine X2.arraylength hx (by rw [e2]; exact a4.1) (State.isArrayOf_alike hZ.alike a4.2.1) (g := (mkF m 4 #[.val (.ref ra)] [(.ref rb)])) rfl rfl (hb hby d5_4) _ ?_
    rw [len_of s4 m4]
    show Steps p.tables e below (T2.setTop (mkF m 5 #[.val (.ref ra)] [(.int (4 : Int32))])) _
    refine XS.aloadN X2.here hx rfl (hb hby d5_5) rfl rfl ?_
    show Steps p.tables e below (T2.setTop (mkF m 6 #[.val (.ref ra)] [(.ref ra), (.int (4 : Int32))])) _
    exact k
  obtain ⟨cq6, kq6, q6a, q6b, q6c⟩ := isOf hZ e2 EA
  obtain ⟨_, _, ⟨T6, L6, k6, n6⟩, -, X6, ⟨Lc6, hQ6, l6, y6, z6⟩, st6⟩ := X2.virtualBack hx (y := (⟨"java/lang/String", "coder", "()B"⟩ : MethodName)) (z := (⟨"java/lang/String", "coder", "()B"⟩ : MethodName)) hown (mvT hZ (hw _ (List.mem_of_getElem? (i := 35) rfl))) (mvT hZ (hw _ (List.mem_of_getElem? (i := 36) rfl))) (notFace_of_selects (args := #[]) (mvT hZ (hw _ (List.mem_of_getElem? (i := 38) rfl)))) (mvT hZ (hw _ (List.mem_of_getElem? (i := 38) rfl))) (mvT hZ (hw _ (List.mem_of_getElem? (i := 37) rfl))) (by decide) (backOf (W := 1) (rm_cod l Z a0 hw [] ra xcs h0 n0 Z0 SC FC (hcs)) hZ (hw _ (List.mem_of_getElem? (i := 39) rfl)) (hw _ (List.mem_of_getElem? (i := 5) rfl)) (by decide) (by decide)) q6a q6c (g := (mkF m 6 #[.val (.ref ra)] [(.ref ra), (.int (4 : Int32))])) rfl (by rw [hml]; rfl) (Steps.refl _) (argsL := []) (rest := [(.int (4 : Int32))]) (lenOf pd3 rfl) rfl (by show 2 * 0 + _ ≤ _; exact Nat.le_of_eq rfl) (hb hby d5_6) (fun _ _ => ⟨rfl, e2, (by decide : 0 + 0 ≤ _), (by decide : 0 + 0 ≤ _)⟩)
  dsimp only [Pt.U, Pt.locs, Pt.cells, Pt.slots] at X6 l6 y6 z6 st6 hQ6
  subst y6 z6
  obtain ⟨rfl, M6, e6⟩ := hQ6
  have N6 : Fr n0 L6 := by rw [l6]; exact Fr.app N0 M6
  clear l6
  have X6 : Stand p l e _ _ m _ below meth c T6 _ 0 0 := X6
  have pre7 : ∀ t, Steps p.tables e below (T6.setTop (mkF m 9 #[.val (.ref ra)] [(.int (0 : Int32)), (.int (4 : Int32))])) t → Steps p.tables e below (s₁.setTop (entryFrame m #[(.ref ra)] 1)) t := fun t k => pre5 t (st6.trans k)
  have pre8 : ∀ t, Steps p.tables e below (T6.setTop (mkF m 10 #[.val (.ref ra)] [(.int ((4 : Int32) >>> ((0 : Int32) &&& 31)))])) t → Steps p.tables e below (s₁.setTop (entryFrame m #[(.ref ra)] 1)) t := by
    intro t k
    refine pre7 t ?_
    refine XS.ishr X6.here hx rfl (hb hby d5_9) rfl ?_
    show Steps p.tables e below (T6.setTop (mkF m 10 #[.val (.ref ra)] [(.int ((4 : Int32) >>> ((0 : Int32) &&& 31)))])) _
    exact k
  obtain ⟨fs, hr, hrun, hended, hW, hsame⟩ := X6.leave (v := some (.int ((4 : Int32) >>> ((0 : Int32) &&& 31)))) (fun h => by rw [Bd.returns] at h; cases h)
  refine ⟨_, _, pre8 _ ?_, hrun, hended, _, _, rfl, ?_, ⟨_, rfl⟩, hW, hsame.mono (by decide) (by decide)⟩
  · exact retI X6 hx Bd.returns (hb hby d5_10) hr
  · show Q_rm_lenA Z ra xcs rb kb h0 n0 _ T6.heap _
    rw [e6]
    exact ⟨congrArg (fun z => some (Value.int z)) (by decide), N6, rfl⟩
theorem d3_0 : decode jdk_42_method_80_code 0 = .ok (.aload_n 0, 1) := by decide +kernel
theorem d3_1 : decode jdk_42_method_80_code 1 = .ok (.invokevirtual 492, 3) := by decide +kernel
theorem pd4 : parseMethodDescriptor "()Z" = some ⟨[], some .boolean⟩ := by decide +kernel
theorem d3_4 : decode jdk_42_method_80_code 4 = .ok (.ifCond .eq 19, 3) := by decide +kernel
theorem d3_7 : decode jdk_42_method_80_code 7 = .ok (.aload_n 0, 1) := by decide +kernel
theorem d3_8 : decode jdk_42_method_80_code 8 = .ok (.getfield 9, 3) := by decide +kernel
theorem d3_11 : decode jdk_42_method_80_code 11 = .ok (.iload_n 1, 1) := by decide +kernel
theorem d3_12 : decode jdk_42_method_80_code 12 = .ok (.iload_n 2, 1) := by decide +kernel
theorem d3_13 : decode jdk_42_method_80_code 13 = .ok (.aload_n 0, 1) := by decide +kernel
theorem d3_14 : decode jdk_42_method_80_code 14 = .ok (.invokevirtual 505, 3) := by decide +kernel
theorem pd5 : parseMethodDescriptor "()I" = some ⟨[], some .int⟩ := by decide +kernel
theorem d3_17 : decode jdk_42_method_80_code 17 = .ok (.invokestatic 637, 3) := by decide +kernel
theorem d3_20 : decode jdk_42_method_80_code 20 = .ok (.goto 16, 3) := by decide +kernel
theorem d3_36 : decode jdk_42_method_80_code 36 = .ok (.ireturn, 1) := by decide +kernel
theorem ef_rm_ixxA (m : MethodId) (ra : Addr) (xc : Int32) : entryFrame m #[(.ref ra), (.int xc), (.int (0 : Int32))] 3 = mkF m 0 #[.val (.ref ra), .val (.int xc), .val (.int (0 : Int32))] [] := by first | (simp [entryFrame, mkF, argsToLocals, Value.category]; done) | rfl
def Q_rm_ixxA (Z : State) (ra : Addr) (xc : Int32) (xcs : Int32) (rb : Addr) (kb : ClassId) (h0 : Heap) (n0 : Nat) (v : Option Value) (h : Heap) (L : List Loc) : Prop := v = some (.int (F_rm_lioA xc)) ∧ Fr n0 L ∧ h = h0
set_option maxRecDepth 65536 in
set_option maxHeartbeats 40000000 in
theorem rm_ixxA (l : Launch) (Z : State) (a0 : Array Value) (hw : ∀ d ∈ tables_1, d.before a0 Z = true) (ws : List Jvm.Cond) (ra : Addr) (xc : Int32) (xcs : Int32) (rb : Addr) (kb : ClassId) (h0 : Heap) (n0 : Nat) (Z0 : n0 ≤ h0.size) (SC : Sta Z h0 "java/lang/String" "COMPACT_STRINGS" "Z" (.int xcs)) (FC : Fld Z h0 ra "java/lang/String" "coder" "B" (.int (0 : Int32))) (FV : Fld Z h0 ra "java/lang/String" "value" "[B" (.ref rb)) (VB : Arv Z h0 rb kb .byte (4 : Int32) [(.int (45 : Int32)), (.int (46 : Int32)), (.int (95 : Int32)), (.int (126 : Int32))] (.int (0 : Int32))) (EA : Exa Z h0 ra "java/lang/String") (hcs : ¬ (xcs = (0 : Int32))) :
    MetFree l (⟨"java/lang/String", "indexOf", "(II)I"⟩ : MethodName) (head1 (Jvm.Cond.code (⟨"java/lang/String", "indexOf", "(II)I"⟩ : MethodName) jdk_42_method_80_code 3 (some .int) :: ws) ({ frames := 2, cells := 0, slots := 0, locals := 32 } : Room)) (fun a U => a = #[(.ref ra), (.int xc), (.int (0 : Int32))] ∧ Z.Warmed39 U.vm ∧ U.heap = h0) (fun _ _ _ _ _ => True) (fun _ U o U' => ∃ v L, o = .returned v ∧ Q_rm_ixxA Z ra xc xcs rb kb h0 n0 v U'.heap L ∧ FrameEnd U o U' L ({ frames := 2, cells := 0, slots := 0, locals := 32 } : Room).cells ({ frames := 2, cells := 0, slots := 0, locals := 32 } : Room).slots) := by
  refine MetFree.of_bodySF (plainFor_of_name pn1) hisR ?_
  intro p e s m args below meth c s₁ Bd hml0 hP hK
  obtain ⟨rfl, hZ, hh⟩ := hP
  have hx := Bd.exec
  have hby := Bd.bytes
  have hml : c.maxLocals = 3 := hml0
  have hown : s.vm.findClass "java/lang/String" = some m.cls := findClass_of_methodNamed Bd.named
  have hnm := (name_of_methodNamed Bd.named Bd.method).1
  have X0 : Stand p l e ({ frames := 2, cells := 0, slots := 0, locals := 32 } : Room) s m #[(.ref ra), (.int xc), (.int (0 : Int32))] below meth c s₁ [] 0 0 := Stand.of_body Bd
  have e0 : s₁.heap = h0 := by rw [← hh, Bd.state]; rfl
  have N0 := Fr.nil n0
  have pre0 : ∀ t, Steps p.tables e below (s₁.setTop (mkF m 0 #[.val (.ref ra), .val (.int xc), .val (.int (0 : Int32))] [])) t → Steps p.tables e below (s₁.setTop (entryFrame m #[(.ref ra), (.int xc), (.int (0 : Int32))] 3)) t := fun t k => castTop (ef_rm_ixxA m ra xc) k
  have pre1 : ∀ t, Steps p.tables e below (s₁.setTop (mkF m 1 #[.val (.ref ra), .val (.int xc), .val (.int (0 : Int32))] [(.ref ra)])) t → Steps p.tables e below (s₁.setTop (entryFrame m #[(.ref ra), (.int xc), (.int (0 : Int32))] 3)) t := by
    intro t k
    refine pre0 t ?_
    refine XS.aloadN X0.here hx rfl (hb hby d3_0) rfl rfl ?_
    show Steps p.tables e below (s₁.setTop (mkF m 1 #[.val (.ref ra), .val (.int xc), .val (.int (0 : Int32))] [(.ref ra)])) _
    exact k
  obtain ⟨cq2, kq2, q2a, q2b, q2c⟩ := isOf hZ e0 EA
  obtain ⟨_, _, ⟨T2, L2, k2, n2⟩, -, X2, ⟨Lc2, hQ2, l2, y2, z2⟩, st2⟩ := X0.virtualBack hx (y := (⟨"java/lang/String", "isLatin1", "()Z"⟩ : MethodName)) (z := (⟨"java/lang/String", "isLatin1", "()Z"⟩ : MethodName)) hown (mvT hZ (hw _ (List.mem_of_getElem? (i := 22) rfl))) (mvT hZ (hw _ (List.mem_of_getElem? (i := 23) rfl))) (notFace_of_selects (args := #[]) (mvT hZ (hw _ (List.mem_of_getElem? (i := 25) rfl)))) (mvT hZ (hw _ (List.mem_of_getElem? (i := 25) rfl))) (mvT hZ (hw _ (List.mem_of_getElem? (i := 24) rfl))) (by decide) (backOf (W := 0) (rm_lat l Z a0 hw [] ra xcs h0 n0 Z0 SC FC (hcs)) hZ (hw _ (List.mem_of_getElem? (i := 26) rfl)) (hw _ (List.mem_of_getElem? (i := 5) rfl)) (by decide) (by decide)) q2a q2c (g := (mkF m 1 #[.val (.ref ra), .val (.int xc), .val (.int (0 : Int32))] [(.ref ra)])) rfl (by rw [hml]; rfl) (Steps.refl _) (argsL := []) (rest := []) (lenOf pd4 rfl) rfl (by show 2 * 0 + _ ≤ _; exact Nat.le_of_eq rfl) (hb hby d3_1) (fun _ _ => ⟨rfl, e0, (by decide : 0 + 0 ≤ _), (by decide : 0 + 0 ≤ _)⟩)
  dsimp only [Pt.U, Pt.locs, Pt.cells, Pt.slots] at X2 l2 y2 z2 st2 hQ2
  subst y2 z2
  obtain ⟨rfl, M2, e2⟩ := hQ2
  have N2 : Fr n0 L2 := by rw [l2]; exact Fr.app N0 M2
  clear l2
  have X2 : Stand p l e _ _ m _ below meth c T2 _ 0 0 := X2
  have pre3 : ∀ t, Steps p.tables e below (T2.setTop (mkF m 4 #[.val (.ref ra), .val (.int xc), .val (.int (0 : Int32))] [(.int (1 : Int32))])) t → Steps p.tables e below (s₁.setTop (entryFrame m #[(.ref ra), (.int xc), (.int (0 : Int32))] 3)) t := fun t k => pre1 t (st2.trans k)
  have pre4 : ∀ t, Steps p.tables e below (T2.setTop (mkF m 8 #[.val (.ref ra), .val (.int xc), .val (.int (0 : Int32))] [(.ref ra)])) t → Steps p.tables e below (s₁.setTop (entryFrame m #[(.ref ra), (.int xc), (.int (0 : Int32))] 3)) t := by
    intro t k
    refine pre3 t ?_
    refine XS.ifNo X2.here hx rfl (hb hby d3_4) rfl ((if0 _ _).trans (feq (show ¬ ((1 : Int32) = (0 : Int32)) from by decide)).1) ?_
    show Steps p.tables e below (T2.setTop (mkF m 7 #[.val (.ref ra), .val (.int xc), .val (.int (0 : Int32))] [])) _
    refine XS.aloadN X2.here hx rfl (hb hby d3_7) rfl rfl ?_
    show Steps p.tables e below (T2.setTop (mkF m 8 #[.val (.ref ra), .val (.int xc), .val (.int (0 : Int32))] [(.ref ra)])) _
    exact k
  obtain ⟨T5, X5, e5, st5⟩ := getF X2 hx hZ hown (host := "") (Or.inl (hw _ (List.mem_of_getElem? (i := 29) rfl))) Via.refl e2 FV (g := (mkF m 8 #[.val (.ref ra), .val (.int xc), .val (.int (0 : Int32))] [(.ref ra)])) rfl rfl (hb hby d3_8)
  have pre6 : ∀ t, Steps p.tables e below (T5.setTop (mkF m 11 #[.val (.ref ra), .val (.int xc), .val (.int (0 : Int32))] [(.ref rb)])) t → Steps p.tables e below (s₁.setTop (entryFrame m #[(.ref ra), (.int xc), (.int (0 : Int32))] 3)) t := fun t k => pre4 t (st5 t k)
  have pre7 : ∀ t, Steps p.tables e below (T5.setTop (mkF m 14 #[.val (.ref ra), .val (.int xc), .val (.int (0 : Int32))] [(.ref ra), (.int (0 : Int32)), (.int xc), (.ref rb)])) t → Steps p.tables e below (s₁.setTop (entryFrame m #[(.ref ra), (.int xc), (.int (0 : Int32))] 3)) t := by
    intro t k
    refine pre6 t ?_
    refine XS.iloadN X5.here hx rfl (hb hby d3_11) rfl ?_
    show Steps p.tables e below (T5.setTop (mkF m 12 #[.val (.ref ra), .val (.int xc), .val (.int (0 : Int32))] [(.int xc), (.ref rb)])) _
    refine XS.iloadN X5.here hx rfl (hb hby d3_12) rfl ?_
    show Steps p.tables e below (T5.setTop (mkF m 13 #[.val (.ref ra), .val (.int xc), .val (.int (0 : Int32))] [(.int (0 : Int32)), (.int xc), (.ref rb)])) _
    refine XS.aloadN X5.here hx rfl (hb hby d3_13) rfl rfl ?_
    show Steps p.tables e below (T5.setTop (mkF m 14 #[.val (.ref ra), .val (.int xc), .val (.int (0 : Int32))] [(.ref ra), (.int (0 : Int32)), (.int xc), (.ref rb)])) _
    exact k
  obtain ⟨cq8, kq8, q8a, q8b, q8c⟩ := isOf hZ e5 EA
  obtain ⟨_, _, ⟨T8, L8, k8, n8⟩, -, X8, ⟨Lc8, hQ8, l8, y8, z8⟩, st8⟩ := X5.virtualBack hx (y := (⟨"java/lang/String", "length", "()I"⟩ : MethodName)) (z := (⟨"java/lang/String", "length", "()I"⟩ : MethodName)) hown (mvT hZ (hw _ (List.mem_of_getElem? (i := 30) rfl))) (mvT hZ (hw _ (List.mem_of_getElem? (i := 31) rfl))) (notFace_of_selects (args := #[]) (mvT hZ (hw _ (List.mem_of_getElem? (i := 33) rfl)))) (mvT hZ (hw _ (List.mem_of_getElem? (i := 33) rfl))) (mvT hZ (hw _ (List.mem_of_getElem? (i := 32) rfl))) (by decide) (backOf (W := 3) (rm_lenA l Z a0 hw [] ra xcs rb kb h0 n0 Z0 SC FC FV VB EA (hcs)) hZ (hw _ (List.mem_of_getElem? (i := 34) rfl)) (hw _ (List.mem_of_getElem? (i := 5) rfl)) (by decide) (by decide)) q8a q8c (g := (mkF m 14 #[.val (.ref ra), .val (.int xc), .val (.int (0 : Int32))] [(.ref ra), (.int (0 : Int32)), (.int xc), (.ref rb)])) rfl (by rw [hml]; rfl) (Steps.refl _) (argsL := []) (rest := [(.int (0 : Int32)), (.int xc), (.ref rb)]) (lenOf pd5 rfl) rfl (by show 2 * 0 + _ ≤ _; exact Nat.le_of_eq rfl) (hb hby d3_14) (fun _ _ => ⟨rfl, e5, (by decide : 0 + 0 ≤ _), (by decide : 0 + 0 ≤ _)⟩)
  dsimp only [Pt.U, Pt.locs, Pt.cells, Pt.slots] at X8 l8 y8 z8 st8 hQ8
  subst y8 z8
  obtain ⟨rfl, M8, e8⟩ := hQ8
  have N8 : Fr n0 L8 := by rw [l8]; exact Fr.app N2 M8
  clear l8
  have X8 : Stand p l e _ _ m _ below meth c T8 _ 0 0 := X8
  have pre9 : ∀ t, Steps p.tables e below (T8.setTop (mkF m 17 #[.val (.ref ra), .val (.int xc), .val (.int (0 : Int32))] [(.int (4 : Int32)), (.int (0 : Int32)), (.int xc), (.ref rb)])) t → Steps p.tables e below (s₁.setTop (entryFrame m #[(.ref ra), (.int xc), (.int (0 : Int32))] 3)) t := fun t k => pre7 t (st8.trans k)
  obtain ⟨_, _, ⟨T10, L10, k10, n10⟩, -, X10, ⟨Lc10, hQ10, l10, y10, z10⟩, st10⟩ := Jvm.LawKit.callS X8 hx (y := (⟨"java/lang/StringLatin1", "indexOf", "([BIII)I"⟩ : MethodName)) hown (mvT hZ (hw _ (List.mem_of_getElem? (i := 40) rfl))) (mvT hZ (hw _ (List.mem_of_getElem? (i := 41) rfl))) (mvT hZ (hw _ (List.mem_of_getElem? (i := 42) rfl))) (mvT hZ (hw _ (List.mem_of_getElem? (i := 43) rfl))) (by decide) (backOf (W := 0) (rm_lioA l Z a0 hw [] rb xc kb h0 n0 Z0 VB) hZ (hw _ (List.mem_of_getElem? (i := 43) rfl)) (hw _ (List.mem_of_getElem? (i := 42) rfl)) (by decide) (by decide)) (g := (mkF m 17 #[.val (.ref ra), .val (.int xc), .val (.int (0 : Int32))] [(.int (4 : Int32)), (.int (0 : Int32)), (.int xc), (.ref rb)])) rfl (by rw [hml]; rfl) (argsL := [(.ref rb), (.int xc), (.int (0 : Int32)), (.int (4 : Int32))]) (rest := []) (lenOf pd2 rfl) rfl (by show 2 * 0 + _ ≤ _; exact Nat.le_of_eq rfl) (hb hby d3_17) (fun _ _ => ⟨rfl, e8, (by decide : 0 + 0 ≤ _), (by decide : 0 + 0 ≤ _)⟩)
  dsimp only [Pt.U, Pt.locs, Pt.cells, Pt.slots] at X10 l10 y10 z10 st10 hQ10
  subst y10 z10
  obtain ⟨rfl, M10, e10⟩ := hQ10
  have N10 : Fr n0 L10 := by rw [l10]; exact Fr.app N8 M10
  clear l10
  have X10 : Stand p l e _ _ m _ below meth c T10 _ 0 0 := X10
  have pre11 : ∀ t, Steps p.tables e below (T10.setTop (mkF m 20 #[.val (.ref ra), .val (.int xc), .val (.int (0 : Int32))] [(.int (F_rm_lioA xc))])) t → Steps p.tables e below (s₁.setTop (entryFrame m #[(.ref ra), (.int xc), (.int (0 : Int32))] 3)) t := fun t k => pre9 t (st10 t k)
  have pre12 : ∀ t, Steps p.tables e below (T10.setTop (mkF m 36 #[.val (.ref ra), .val (.int xc), .val (.int (0 : Int32))] [(.int (F_rm_lioA xc))])) t → Steps p.tables e below (s₁.setTop (entryFrame m #[(.ref ra), (.int xc), (.int (0 : Int32))] 3)) t := by
    intro t k
    refine pre11 t ?_
    refine XS.goto X10.here hx rfl (pc0 := 20) (pc' := 36) rfl (hb hby d3_20) (by decide) (by decide) ?_
    show Steps p.tables e below (T10.setTop (mkF m 36 #[.val (.ref ra), .val (.int xc), .val (.int (0 : Int32))] [(.int (F_rm_lioA xc))])) _
    exact k
  obtain ⟨fs, hr, hrun, hended, hW, hsame⟩ := X10.leave (v := some (.int (F_rm_lioA xc))) (fun h => by rw [Bd.returns] at h; cases h)
  refine ⟨_, _, pre12 _ ?_, hrun, hended, _, _, rfl, ?_, ⟨_, rfl⟩, hW, hsame.mono (by decide) (by decide)⟩
  · exact retI X10 hx Bd.returns (hb hby d3_36) hr
  · show Q_rm_ixxA Z ra xc xcs rb kb h0 n0 _ T10.heap _
    rw [e10]
    exact ⟨rfl, N10, rfl⟩
theorem d2_0 : decode jdk_42_method_79_code 0 = .ok (.aload_n 0, 1) := by decide +kernel
theorem d2_1 : decode jdk_42_method_79_code 1 = .ok (.iload_n 1, 1) := by decide +kernel
theorem d2_2 : decode jdk_42_method_79_code 2 = .ok (.iconst 0, 1) := by decide +kernel
theorem d2_3 : decode jdk_42_method_79_code 3 = .ok (.invokevirtual 633, 3) := by decide +kernel
theorem d2_6 : decode jdk_42_method_79_code 6 = .ok (.ireturn, 1) := by decide +kernel
theorem ef_rm_ixA (m : MethodId) (ra : Addr) (xc : Int32) : entryFrame m #[(.ref ra), (.int xc)] 2 = mkF m 0 #[.val (.ref ra), .val (.int xc)] [] := by first | (simp [entryFrame, mkF, argsToLocals, Value.category]; done) | rfl
def Q_rm_ixA (Z : State) (ra : Addr) (xc : Int32) (xcs : Int32) (rb : Addr) (kb : ClassId) (h0 : Heap) (n0 : Nat) (v : Option Value) (h : Heap) (L : List Loc) : Prop := v = some (.int (F_rm_lioA xc)) ∧ Fr n0 L ∧ h = h0
set_option maxRecDepth 65536 in
set_option maxHeartbeats 40000000 in
theorem rm_ixA (l : Launch) (Z : State) (a0 : Array Value) (hw : ∀ d ∈ tables_1, d.before a0 Z = true) (ws : List Jvm.Cond) (ra : Addr) (xc : Int32) (xcs : Int32) (rb : Addr) (kb : ClassId) (h0 : Heap) (n0 : Nat) (Z0 : n0 ≤ h0.size) (SC : Sta Z h0 "java/lang/String" "COMPACT_STRINGS" "Z" (.int xcs)) (FC : Fld Z h0 ra "java/lang/String" "coder" "B" (.int (0 : Int32))) (FV : Fld Z h0 ra "java/lang/String" "value" "[B" (.ref rb)) (VB : Arv Z h0 rb kb .byte (4 : Int32) [(.int (45 : Int32)), (.int (46 : Int32)), (.int (95 : Int32)), (.int (126 : Int32))] (.int (0 : Int32))) (EA : Exa Z h0 ra "java/lang/String") (hcs : ¬ (xcs = (0 : Int32))) :
    MetFree l (⟨"java/lang/String", "indexOf", "(I)I"⟩ : MethodName) (head1 (Jvm.Cond.code (⟨"java/lang/String", "indexOf", "(I)I"⟩ : MethodName) jdk_42_method_79_code 2 (some .int) :: ws) ({ frames := 3, cells := 0, slots := 0, locals := 46 } : Room)) (fun a U => a = #[(.ref ra), (.int xc)] ∧ Z.Warmed39 U.vm ∧ U.heap = h0) (fun _ _ _ _ _ => True) (fun _ U o U' => ∃ v L, o = .returned v ∧ Q_rm_ixA Z ra xc xcs rb kb h0 n0 v U'.heap L ∧ FrameEnd U o U' L ({ frames := 3, cells := 0, slots := 0, locals := 46 } : Room).cells ({ frames := 3, cells := 0, slots := 0, locals := 46 } : Room).slots) := by
  refine MetFree.of_bodySF (plainFor_of_name pn1) hisR ?_
  intro p e s m args below meth c s₁ Bd hml0 hP hK
  obtain ⟨rfl, hZ, hh⟩ := hP
  have hx := Bd.exec
  have hby := Bd.bytes
  have hml : c.maxLocals = 2 := hml0
  have hown : s.vm.findClass "java/lang/String" = some m.cls := findClass_of_methodNamed Bd.named
  have hnm := (name_of_methodNamed Bd.named Bd.method).1
  have X0 : Stand p l e ({ frames := 3, cells := 0, slots := 0, locals := 46 } : Room) s m #[(.ref ra), (.int xc)] below meth c s₁ [] 0 0 := Stand.of_body Bd
  have e0 : s₁.heap = h0 := by rw [← hh, Bd.state]; rfl
  have N0 := Fr.nil n0
  have pre0 : ∀ t, Steps p.tables e below (s₁.setTop (mkF m 0 #[.val (.ref ra), .val (.int xc)] [])) t → Steps p.tables e below (s₁.setTop (entryFrame m #[(.ref ra), (.int xc)] 2)) t := fun t k => castTop (ef_rm_ixA m ra xc) k
  have pre1 : ∀ t, Steps p.tables e below (s₁.setTop (mkF m 3 #[.val (.ref ra), .val (.int xc)] [(.int (0 : Int32)), (.int xc), (.ref ra)])) t → Steps p.tables e below (s₁.setTop (entryFrame m #[(.ref ra), (.int xc)] 2)) t := by
    intro t k
    refine pre0 t ?_
    refine XS.aloadN X0.here hx rfl (hb hby d2_0) rfl rfl ?_
    show Steps p.tables e below (s₁.setTop (mkF m 1 #[.val (.ref ra), .val (.int xc)] [(.ref ra)])) _
    refine XS.iloadN X0.here hx rfl (hb hby d2_1) rfl ?_
    show Steps p.tables e below (s₁.setTop (mkF m 2 #[.val (.ref ra), .val (.int xc)] [(.int xc), (.ref ra)])) _
    refine XS.iconst X0.here hx rfl (hb hby d2_2) ?_
    show Steps p.tables e below (s₁.setTop (mkF m 3 #[.val (.ref ra), .val (.int xc)] [(.int (0 : Int32)), (.int xc), (.ref ra)])) _
    exact k
  obtain ⟨cq2, kq2, q2a, q2b, q2c⟩ := isOf hZ e0 EA
  obtain ⟨_, _, ⟨T2, L2, k2, n2⟩, -, X2, ⟨Lc2, hQ2, l2, y2, z2⟩, st2⟩ := X0.virtualBack hx (y := (⟨"java/lang/String", "indexOf", "(II)I"⟩ : MethodName)) (z := (⟨"java/lang/String", "indexOf", "(II)I"⟩ : MethodName)) hown (mvT hZ (hw _ (List.mem_of_getElem? (i := 17) rfl))) (mvT hZ (hw _ (List.mem_of_getElem? (i := 18) rfl))) (notFace_of_selects (args := #[]) (mvT hZ (hw _ (List.mem_of_getElem? (i := 20) rfl)))) (mvT hZ (hw _ (List.mem_of_getElem? (i := 20) rfl))) (mvT hZ (hw _ (List.mem_of_getElem? (i := 19) rfl))) (by decide) (backOf (W := 0) (rm_ixxA l Z a0 hw [] ra xc xcs rb kb h0 n0 Z0 SC FC FV VB EA (hcs)) hZ (hw _ (List.mem_of_getElem? (i := 21) rfl)) (hw _ (List.mem_of_getElem? (i := 5) rfl)) (by decide) (by decide)) q2a q2c (g := (mkF m 3 #[.val (.ref ra), .val (.int xc)] [(.int (0 : Int32)), (.int xc), (.ref ra)])) rfl (by rw [hml]; rfl) (Steps.refl _) (argsL := [(.int xc), (.int (0 : Int32))]) (rest := []) (lenOf pd1 rfl) rfl (by show 2 * 0 + _ ≤ _; exact Nat.le_of_eq rfl) (hb hby d2_3) (fun _ _ => ⟨rfl, e0, (by decide : 0 + 0 ≤ _), (by decide : 0 + 0 ≤ _)⟩)
  dsimp only [Pt.U, Pt.locs, Pt.cells, Pt.slots] at X2 l2 y2 z2 st2 hQ2
  subst y2 z2
  obtain ⟨rfl, M2, e2⟩ := hQ2
  have N2 : Fr n0 L2 := by rw [l2]; exact Fr.app N0 M2
  clear l2
  have X2 : Stand p l e _ _ m _ below meth c T2 _ 0 0 := X2
  have pre3 : ∀ t, Steps p.tables e below (T2.setTop (mkF m 6 #[.val (.ref ra), .val (.int xc)] [(.int (F_rm_lioA xc))])) t → Steps p.tables e below (s₁.setTop (entryFrame m #[(.ref ra), (.int xc)] 2)) t := fun t k => pre1 t (st2.trans k)
  obtain ⟨fs, hr, hrun, hended, hW, hsame⟩ := X2.leave (v := some (.int (F_rm_lioA xc))) (fun h => by rw [Bd.returns] at h; cases h)
  refine ⟨_, _, pre3 _ ?_, hrun, hended, _, _, rfl, ?_, ⟨_, rfl⟩, hW, hsame.mono (by decide) (by decide)⟩
  · exact retI X2 hx Bd.returns (hb hby d2_6) hr
  · show Q_rm_ixA Z ra xc xcs rb kb h0 n0 _ T2.heap _
    rw [e2]
    exact ⟨rfl, N2, rfl⟩
theorem ef_rm_minB (m : MethodId)  : entryFrame m #[(.int (11 : Int32)), (.int (11 : Int32))] 2 = mkF m 0 #[.val (.int (11 : Int32)), .val (.int (11 : Int32))] [] := by first | (simp [entryFrame, mkF, argsToLocals, Value.category]; done) | rfl
def Q_rm_minB (Z : State)  (h0 : Heap) (n0 : Nat) (v : Option Value) (h : Heap) (L : List Loc) : Prop := v = some (.int (11 : Int32)) ∧ Fr n0 L ∧ h = h0
set_option maxRecDepth 65536 in
set_option maxHeartbeats 40000000 in
theorem rm_minB (l : Launch) (Z : State) (a0 : Array Value) (hw : ∀ d ∈ tables_1, d.before a0 Z = true) (ws : List Jvm.Cond)  (h0 : Heap) (n0 : Nat) (Z0 : n0 ≤ h0.size) :
    MetFree l (⟨"java/lang/Math", "min", "(II)I"⟩ : MethodName) (head1 (Jvm.Cond.code (⟨"java/lang/Math", "min", "(II)I"⟩ : MethodName) jdk_29_method_69_code 2 (some .int) :: ws) ({ frames := 0, cells := 0, slots := 0, locals := 0 } : Room)) (fun a U => a = #[(.int (11 : Int32)), (.int (11 : Int32))] ∧ Z.Warmed39 U.vm ∧ U.heap = h0) (fun _ _ _ _ _ => True) (fun _ U o U' => ∃ v L, o = .returned v ∧ Q_rm_minB Z  h0 n0 v U'.heap L ∧ FrameEnd U o U' L ({ frames := 0, cells := 0, slots := 0, locals := 0 } : Room).cells ({ frames := 0, cells := 0, slots := 0, locals := 0 } : Room).slots) := by
  refine MetFree.of_bodySF (Jvm.Free.JP.mathPlain rfl (by decide +kernel)) hisR ?_
  intro p e s m args below meth c s₁ Bd hml0 hP hK
  obtain ⟨rfl, hZ, hh⟩ := hP
  have hx := Bd.exec
  have hby := Bd.bytes
  have hml : c.maxLocals = 2 := hml0
  have hown : s.vm.findClass "java/lang/Math" = some m.cls := findClass_of_methodNamed Bd.named
  have hnm := (name_of_methodNamed Bd.named Bd.method).1
  have X0 : Stand p l e ({ frames := 0, cells := 0, slots := 0, locals := 0 } : Room) s m #[(.int (11 : Int32)), (.int (11 : Int32))] below meth c s₁ [] 0 0 := Stand.of_body Bd
  have e0 : s₁.heap = h0 := by rw [← hh, Bd.state]; rfl
  have N0 := Fr.nil n0
  have pre0 : ∀ t, Steps p.tables e below (s₁.setTop (mkF m 0 #[.val (.int (11 : Int32)), .val (.int (11 : Int32))] [])) t → Steps p.tables e below (s₁.setTop (entryFrame m #[(.int (11 : Int32)), (.int (11 : Int32))] 2)) t := fun t k => castTop (ef_rm_minB m ) k
  have pre1 : ∀ t, Steps p.tables e below (s₁.setTop (mkF m 10 #[.val (.int (11 : Int32)), .val (.int (11 : Int32))] [(.int (11 : Int32))])) t → Steps p.tables e below (s₁.setTop (entryFrame m #[(.int (11 : Int32)), (.int (11 : Int32))] 2)) t := by
    intro t k
    refine pre0 t ?_
    refine XS.iloadN X0.here hx rfl (hb hby d10_0) rfl ?_
    show Steps p.tables e below (s₁.setTop (mkF m 1 #[.val (.int (11 : Int32)), .val (.int (11 : Int32))] [(.int (11 : Int32))])) _
    refine XS.iloadN X0.here hx rfl (hb hby d10_1) rfl ?_
    show Steps p.tables e below (s₁.setTop (mkF m 2 #[.val (.int (11 : Int32)), .val (.int (11 : Int32))] [(.int (11 : Int32)), (.int (11 : Int32))])) _
    refine XS.icmpNo X0.here hx rfl (hb hby d10_2) rfl (flt (show ¬ ((11 : Int32) < (11 : Int32)) from by decide)).2.2.1 ?_
    show Steps p.tables e below (s₁.setTop (mkF m 5 #[.val (.int (11 : Int32)), .val (.int (11 : Int32))] [])) _
    refine XS.iloadN X0.here hx rfl (hb hby d10_5) rfl ?_
    show Steps p.tables e below (s₁.setTop (mkF m 6 #[.val (.int (11 : Int32)), .val (.int (11 : Int32))] [(.int (11 : Int32))])) _
    refine XS.goto X0.here hx rfl (pc0 := 6) (pc' := 10) rfl (hb hby d10_6) (by decide) (by decide) ?_
    show Steps p.tables e below (s₁.setTop (mkF m 10 #[.val (.int (11 : Int32)), .val (.int (11 : Int32))] [(.int (11 : Int32))])) _
    exact k
  obtain ⟨fs, hr, hrun, hended, hW, hsame⟩ := X0.leave (v := some (.int (11 : Int32))) (fun h => by rw [Bd.returns] at h; cases h)
  refine ⟨_, _, pre1 _ ?_, hrun, hended, _, _, rfl, ?_, ⟨_, rfl⟩, hW, hsame.mono (by decide) (by decide)⟩
  · exact retI X0 hx Bd.returns (hb hby d10_10) hr
  · show Q_rm_minB Z  h0 n0 _ s₁.heap _
    rw [e0]
    exact ⟨rfl, N0, rfl⟩
def F_rm_iocB (xc : Int32) : Int32 := (if (33 : Int32) = (xc.toInt8.toInt32) then (0 : Int32) else (if (36 : Int32) = (xc.toInt8.toInt32) then (1 : Int32) else (if (38 : Int32) = (xc.toInt8.toInt32) then (2 : Int32) else (if (39 : Int32) = (xc.toInt8.toInt32) then (3 : Int32) else (if (40 : Int32) = (xc.toInt8.toInt32) then (4 : Int32) else (if (41 : Int32) = (xc.toInt8.toInt32) then (5 : Int32) else (if (42 : Int32) = (xc.toInt8.toInt32) then (6 : Int32) else (if (43 : Int32) = (xc.toInt8.toInt32) then (7 : Int32) else (if (44 : Int32) = (xc.toInt8.toInt32) then (8 : Int32) else (if (59 : Int32) = (xc.toInt8.toInt32) then (9 : Int32) else (if (61 : Int32) = (xc.toInt8.toInt32) then (10 : Int32) else (-1 : Int32))))))))))))
theorem ef_rm_iocB (m : MethodId) (rb : Addr) (xc : Int32) : entryFrame m #[(.ref rb), (.int xc), (.int (0 : Int32)), (.int (11 : Int32))] 6 = mkF m 0 #[.val (.ref rb), .val (.int xc), .val (.int (0 : Int32)), .val (.int (11 : Int32)), .unset, .unset] [] := by first | (simp [entryFrame, mkF, argsToLocals, Value.category]; done) | rfl
def Q_rm_iocB (Z : State) (rb : Addr) (xc : Int32) (kb : ClassId) (h0 : Heap) (n0 : Nat) (v : Option Value) (h : Heap) (L : List Loc) : Prop := v = some (.int (F_rm_iocB xc)) ∧ Fr n0 L ∧ h = h0
set_option maxRecDepth 65536 in
set_option maxHeartbeats 40000000 in
theorem rm_iocB (l : Launch) (Z : State) (a0 : Array Value) (hw : ∀ d ∈ tables_1, d.before a0 Z = true) (ws : List Jvm.Cond) (rb : Addr) (xc : Int32) (kb : ClassId) (h0 : Heap) (n0 : Nat) (Z0 : n0 ≤ h0.size) (VB : Arv Z h0 rb kb .byte (11 : Int32) [(.int (33 : Int32)), (.int (36 : Int32)), (.int (38 : Int32)), (.int (39 : Int32)), (.int (40 : Int32)), (.int (41 : Int32)), (.int (42 : Int32)), (.int (43 : Int32)), (.int (44 : Int32)), (.int (59 : Int32)), (.int (61 : Int32))] (.int (0 : Int32))) :
    MetFree l (⟨"java/lang/StringLatin1", "indexOfChar", "([BIII)I"⟩ : MethodName) (head1 (Jvm.Cond.code (⟨"java/lang/StringLatin1", "indexOfChar", "([BIII)I"⟩ : MethodName) jdk_43_method_23_code 6 (some .int) :: ws) ({ frames := 0, cells := 0, slots := 0, locals := 0 } : Room)) (fun a U => a = #[(.ref rb), (.int xc), (.int (0 : Int32)), (.int (11 : Int32))] ∧ Z.Warmed39 U.vm ∧ U.heap = h0) (fun _ _ _ _ _ => True) (fun _ U o U' => ∃ v L, o = .returned v ∧ Q_rm_iocB Z rb xc kb h0 n0 v U'.heap L ∧ FrameEnd U o U' L ({ frames := 0, cells := 0, slots := 0, locals := 0 } : Room).cells ({ frames := 0, cells := 0, slots := 0, locals := 0 } : Room).slots) := by
  refine MetFree.of_bodySF (plainFor_of_name pn0) hisR ?_
  intro p e s m args below meth c s₁ Bd hml0 hP hK
  obtain ⟨rfl, hZ, hh⟩ := hP
  have hx := Bd.exec
  have hby := Bd.bytes
  have hml : c.maxLocals = 6 := hml0
  have hown : s.vm.findClass "java/lang/StringLatin1" = some m.cls := findClass_of_methodNamed Bd.named
  have hnm := (name_of_methodNamed Bd.named Bd.method).1
  have X0 : Stand p l e ({ frames := 0, cells := 0, slots := 0, locals := 0 } : Room) s m #[(.ref rb), (.int xc), (.int (0 : Int32)), (.int (11 : Int32))] below meth c s₁ [] 0 0 := Stand.of_body Bd
  have e0 : s₁.heap = h0 := by rw [← hh, Bd.state]; rfl
  have N0 := Fr.nil n0
  have pre0 : ∀ t, Steps p.tables e below (s₁.setTop (mkF m 0 #[.val (.ref rb), .val (.int xc), .val (.int (0 : Int32)), .val (.int (11 : Int32)), .unset, .unset] [])) t → Steps p.tables e below (s₁.setTop (entryFrame m #[(.ref rb), (.int xc), (.int (0 : Int32)), (.int (11 : Int32))] 6)) t := fun t k => castTop (ef_rm_iocB m rb xc) k
  have pre2 : ∀ t, Steps p.tables e below (s₁.setTop (mkF m 19 #[.val (.ref rb), .val (.int xc), .val (.int (0 : Int32)), .val (.int (11 : Int32)), .val (.int (xc.toInt8.toInt32)), .val (.int (0 : Int32))] [(.int (xc.toInt8.toInt32)), (.int (33 : Int32))])) t → Steps p.tables e below (s₁.setTop (entryFrame m #[(.ref rb), (.int xc), (.int (0 : Int32)), (.int (11 : Int32))] 6)) t := by
    intro t k
    refine pre0 t ?_
    refine XS.iloadN X0.here hx rfl (hb hby d11_0) rfl ?_
    show Steps p.tables e below (s₁.setTop (mkF m 1 #[.val (.ref rb), .val (.int xc), .val (.int (0 : Int32)), .val (.int (11 : Int32)), .unset, .unset] [(.int xc)])) _
    refine XS.i2b X0.here hx rfl (hb hby d11_1) rfl ?_
    show Steps p.tables e below (s₁.setTop (mkF m 2 #[.val (.ref rb), .val (.int xc), .val (.int (0 : Int32)), .val (.int (11 : Int32)), .unset, .unset] [(.int (xc.toInt8.toInt32))])) _
    refine XS.istore X0.here hx rfl (hb hby d11_2) rfl (l' := #[.val (.ref rb), .val (.int xc), .val (.int (0 : Int32)), .val (.int (11 : Int32)), .val (.int (xc.toInt8.toInt32)), .unset]) rfl ?_
    show Steps p.tables e below (s₁.setTop (mkF m 4 #[.val (.ref rb), .val (.int xc), .val (.int (0 : Int32)), .val (.int (11 : Int32)), .val (.int (xc.toInt8.toInt32)), .unset] [])) _
    refine XS.iloadN X0.here hx rfl (hb hby d11_4) rfl ?_
    show Steps p.tables e below (s₁.setTop (mkF m 5 #[.val (.ref rb), .val (.int xc), .val (.int (0 : Int32)), .val (.int (11 : Int32)), .val (.int (xc.toInt8.toInt32)), .unset] [(.int (0 : Int32))])) _
    refine XS.istore X0.here hx rfl (hb hby d11_5) rfl (l' := #[.val (.ref rb), .val (.int xc), .val (.int (0 : Int32)), .val (.int (11 : Int32)), .val (.int (xc.toInt8.toInt32)), .val (.int (0 : Int32))]) rfl ?_
    show Steps p.tables e below (s₁.setTop (mkF m 7 #[.val (.ref rb), .val (.int xc), .val (.int (0 : Int32)), .val (.int (11 : Int32)), .val (.int (xc.toInt8.toInt32)), .val (.int (0 : Int32))] [])) _
    refine XS.iload X0.here hx rfl (hb hby d11_7) rfl ?_
    show Steps p.tables e below (s₁.setTop (mkF m 9 #[.val (.ref rb), .val (.int xc), .val (.int (0 : Int32)), .val (.int (11 : Int32)), .val (.int (xc.toInt8.toInt32)), .val (.int (0 : Int32))] [(.int (0 : Int32))])) _
    refine XS.iloadN X0.here hx rfl (hb hby d11_9) rfl ?_
    show Steps p.tables e below (s₁.setTop (mkF m 10 #[.val (.ref rb), .val (.int xc), .val (.int (0 : Int32)), .val (.int (11 : Int32)), .val (.int (xc.toInt8.toInt32)), .val (.int (0 : Int32))] [(.int (11 : Int32)), (.int (0 : Int32))])) _
    refine XS.icmpNo X0.here hx rfl (hb hby d11_10) rfl (tlt (show (0 : Int32) < (11 : Int32) from by decide)).2.1 ?_
    show Steps p.tables e below (s₁.setTop (mkF m 13 #[.val (.ref rb), .val (.int xc), .val (.int (0 : Int32)), .val (.int (11 : Int32)), .val (.int (xc.toInt8.toInt32)), .val (.int (0 : Int32))] [])) _
    refine XS.aloadN X0.here hx rfl (hb hby d11_13) rfl rfl ?_
    show Steps p.tables e below (s₁.setTop (mkF m 14 #[.val (.ref rb), .val (.int xc), .val (.int (0 : Int32)), .val (.int (11 : Int32)), .val (.int (xc.toInt8.toInt32)), .val (.int (0 : Int32))] [(.ref rb)])) _
    refine XS.iload X0.here hx rfl (hb hby d11_14) rfl ?_
    show Steps p.tables e below (s₁.setTop (mkF m 16 #[.val (.ref rb), .val (.int xc), .val (.int (0 : Int32)), .val (.int (11 : Int32)), .val (.int (xc.toInt8.toInt32)), .val (.int (0 : Int32))] [(.int (0 : Int32)), (.ref rb)])) _
    obtain ⟨c1, a1, q1, s1, m1, i1, u1⟩ := id VB
    have hin1 := inb_of (j := (0 : Int32)) s1 ⟨by decide, by decide⟩
    refine X0.baloadBytes hx (j := (0 : Int32)) (v := (.int (33 : Int32))) (by rw [e0]; exact a1.1) (State.isArrayOf_alike hZ.alike a1.2.1) a1.2.2 hin1 (i1.at hin1 rfl) (g := (mkF m 16 #[.val (.ref rb), .val (.int xc), .val (.int (0 : Int32)), .val (.int (11 : Int32)), .val (.int (xc.toInt8.toInt32)), .val (.int (0 : Int32))] [(.int (0 : Int32)), (.ref rb)])) rfl rfl (hb hby d11_16) _ ?_
    show Steps p.tables e below (s₁.setTop (mkF m 17 #[.val (.ref rb), .val (.int xc), .val (.int (0 : Int32)), .val (.int (11 : Int32)), .val (.int (xc.toInt8.toInt32)), .val (.int (0 : Int32))] [(.int (33 : Int32))])) _
    refine XS.iload X0.here hx rfl (hb hby d11_17) rfl ?_
    show Steps p.tables e below (s₁.setTop (mkF m 19 #[.val (.ref rb), .val (.int xc), .val (.int (0 : Int32)), .val (.int (11 : Int32)), .val (.int (xc.toInt8.toInt32)), .val (.int (0 : Int32))] [(.int (xc.toInt8.toInt32)), (.int (33 : Int32))])) _
    exact k
  by_cases hc19 : (33 : Int32) = (xc.toInt8.toInt32)
  · have pre3 : ∀ t, Steps p.tables e below (s₁.setTop (mkF m 24 #[.val (.ref rb), .val (.int xc), .val (.int (0 : Int32)), .val (.int (11 : Int32)), .val (.int (xc.toInt8.toInt32)), .val (.int (0 : Int32))] [(.int (0 : Int32))])) t → Steps p.tables e below (s₁.setTop (entryFrame m #[(.ref rb), (.int xc), (.int (0 : Int32)), (.int (11 : Int32))] 6)) t := by
      intro t k
      refine pre2 t ?_
      refine XS.icmpNo X0.here hx rfl (hb hby d11_19) rfl (teq hc19).2 ?_
      show Steps p.tables e below (s₁.setTop (mkF m 22 #[.val (.ref rb), .val (.int xc), .val (.int (0 : Int32)), .val (.int (11 : Int32)), .val (.int (xc.toInt8.toInt32)), .val (.int (0 : Int32))] [])) _
      refine XS.iload X0.here hx rfl (hb hby d11_22) rfl ?_
      show Steps p.tables e below (s₁.setTop (mkF m 24 #[.val (.ref rb), .val (.int xc), .val (.int (0 : Int32)), .val (.int (11 : Int32)), .val (.int (xc.toInt8.toInt32)), .val (.int (0 : Int32))] [(.int (0 : Int32))])) _
      exact k
    obtain ⟨fs, hr, hrun, hended, hW, hsame⟩ := X0.leave (v := some (.int (0 : Int32))) (fun h => by rw [Bd.returns] at h; cases h)
    refine ⟨_, _, pre3 _ ?_, hrun, hended, _, _, rfl, ?_, ⟨_, rfl⟩, hW, hsame.mono (by decide) (by decide)⟩
    · exact retI X0 hx Bd.returns (hb hby d11_24) hr
    · show Q_rm_iocB Z rb xc kb h0 n0 _ s₁.heap _
      rw [e0]
      exact ⟨congrArg (fun z => some (Value.int z)) (show (0 : Int32) = (F_rm_iocB xc) from by rw [F_rm_iocB, if_pos hc19]), N0, rfl⟩
  · have pre5 : ∀ t, Steps p.tables e below (s₁.setTop (mkF m 19 #[.val (.ref rb), .val (.int xc), .val (.int (0 : Int32)), .val (.int (11 : Int32)), .val (.int (xc.toInt8.toInt32)), .val (.int (1 : Int32))] [(.int (xc.toInt8.toInt32)), (.int (36 : Int32))])) t → Steps p.tables e below (s₁.setTop (entryFrame m #[(.ref rb), (.int xc), (.int (0 : Int32)), (.int (11 : Int32))] 6)) t := by
      intro t k
      refine pre2 t ?_
      refine XS.icmpYes X0.here hx rfl (pc0 := 19) (pc' := 25) rfl (hb hby d11_19) rfl (feq hc19).2 (by decide) (by decide) ?_
      show Steps p.tables e below (s₁.setTop (mkF m 25 #[.val (.ref rb), .val (.int xc), .val (.int (0 : Int32)), .val (.int (11 : Int32)), .val (.int (xc.toInt8.toInt32)), .val (.int (0 : Int32))] [])) _
      refine XS.iinc X0.here hx rfl (hb hby d11_25) rfl (l' := #[.val (.ref rb), .val (.int xc), .val (.int (0 : Int32)), .val (.int (11 : Int32)), .val (.int (xc.toInt8.toInt32)), .val (.int (1 : Int32))]) rfl ?_
      show Steps p.tables e below (s₁.setTop (mkF m 28 #[.val (.ref rb), .val (.int xc), .val (.int (0 : Int32)), .val (.int (11 : Int32)), .val (.int (xc.toInt8.toInt32)), .val (.int (1 : Int32))] [])) _
      refine XS.goto X0.here hx rfl (pc0 := 28) (pc' := 7) rfl (hb hby d11_28) (by decide) (by decide) ?_
      show Steps p.tables e below (s₁.setTop (mkF m 7 #[.val (.ref rb), .val (.int xc), .val (.int (0 : Int32)), .val (.int (11 : Int32)), .val (.int (xc.toInt8.toInt32)), .val (.int (1 : Int32))] [])) _
      refine XS.iload X0.here hx rfl (hb hby d11_7) rfl ?_
      show Steps p.tables e below (s₁.setTop (mkF m 9 #[.val (.ref rb), .val (.int xc), .val (.int (0 : Int32)), .val (.int (11 : Int32)), .val (.int (xc.toInt8.toInt32)), .val (.int (1 : Int32))] [(.int (1 : Int32))])) _
      refine XS.iloadN X0.here hx rfl (hb hby d11_9) rfl ?_
      show Steps p.tables e below (s₁.setTop (mkF m 10 #[.val (.ref rb), .val (.int xc), .val (.int (0 : Int32)), .val (.int (11 : Int32)), .val (.int (xc.toInt8.toInt32)), .val (.int (1 : Int32))] [(.int (11 : Int32)), (.int (1 : Int32))])) _
      refine XS.icmpNo X0.here hx rfl (hb hby d11_10) rfl (tlt (show (1 : Int32) < (11 : Int32) from by decide)).2.1 ?_
      show Steps p.tables e below (s₁.setTop (mkF m 13 #[.val (.ref rb), .val (.int xc), .val (.int (0 : Int32)), .val (.int (11 : Int32)), .val (.int (xc.toInt8.toInt32)), .val (.int (1 : Int32))] [])) _
      refine XS.aloadN X0.here hx rfl (hb hby d11_13) rfl rfl ?_
      show Steps p.tables e below (s₁.setTop (mkF m 14 #[.val (.ref rb), .val (.int xc), .val (.int (0 : Int32)), .val (.int (11 : Int32)), .val (.int (xc.toInt8.toInt32)), .val (.int (1 : Int32))] [(.ref rb)])) _
      refine XS.iload X0.here hx rfl (hb hby d11_14) rfl ?_
      show Steps p.tables e below (s₁.setTop (mkF m 16 #[.val (.ref rb), .val (.int xc), .val (.int (0 : Int32)), .val (.int (11 : Int32)), .val (.int (xc.toInt8.toInt32)), .val (.int (1 : Int32))] [(.int (1 : Int32)), (.ref rb)])) _
      obtain ⟨c4, a4, q4, s4, m4, i4, u4⟩ := id VB
      have hin4 := inb_of (j := (1 : Int32)) s4 ⟨by decide, by decide⟩
      refine X0.baloadBytes hx (j := (1 : Int32)) (v := (.int (36 : Int32))) (by rw [e0]; exact a4.1) (State.isArrayOf_alike hZ.alike a4.2.1) a4.2.2 hin4 (i4.at hin4 rfl) (g := (mkF m 16 #[.val (.ref rb), .val (.int xc), .val (.int (0 : Int32)), .val (.int (11 : Int32)), .val (.int (xc.toInt8.toInt32)), .val (.int (1 : Int32))] [(.int (1 : Int32)), (.ref rb)])) rfl rfl (hb hby d11_16) _ ?_
      show Steps p.tables e below (s₁.setTop (mkF m 17 #[.val (.ref rb), .val (.int xc), .val (.int (0 : Int32)), .val (.int (11 : Int32)), .val (.int (xc.toInt8.toInt32)), .val (.int (1 : Int32))] [(.int (36 : Int32))])) _
      refine XS.iload X0.here hx rfl (hb hby d11_17) rfl ?_
      show Steps p.tables e below (s₁.setTop (mkF m 19 #[.val (.ref rb), .val (.int xc), .val (.int (0 : Int32)), .val (.int (11 : Int32)), .val (.int (xc.toInt8.toInt32)), .val (.int (1 : Int32))] [(.int (xc.toInt8.toInt32)), (.int (36 : Int32))])) _
      exact k
    by_cases hc19_2 : (36 : Int32) = (xc.toInt8.toInt32)
    · have pre6 : ∀ t, Steps p.tables e below (s₁.setTop (mkF m 24 #[.val (.ref rb), .val (.int xc), .val (.int (0 : Int32)), .val (.int (11 : Int32)), .val (.int (xc.toInt8.toInt32)), .val (.int (1 : Int32))] [(.int (1 : Int32))])) t → Steps p.tables e below (s₁.setTop (entryFrame m #[(.ref rb), (.int xc), (.int (0 : Int32)), (.int (11 : Int32))] 6)) t := by
        intro t k
        refine pre5 t ?_
        refine XS.icmpNo X0.here hx rfl (hb hby d11_19) rfl (teq hc19_2).2 ?_
        show Steps p.tables e below (s₁.setTop (mkF m 22 #[.val (.ref rb), .val (.int xc), .val (.int (0 : Int32)), .val (.int (11 : Int32)), .val (.int (xc.toInt8.toInt32)), .val (.int (1 : Int32))] [])) _
        refine XS.iload X0.here hx rfl (hb hby d11_22) rfl ?_
        show Steps p.tables e below (s₁.setTop (mkF m 24 #[.val (.ref rb), .val (.int xc), .val (.int (0 : Int32)), .val (.int (11 : Int32)), .val (.int (xc.toInt8.toInt32)), .val (.int (1 : Int32))] [(.int (1 : Int32))])) _
        exact k
      obtain ⟨fs, hr, hrun, hended, hW, hsame⟩ := X0.leave (v := some (.int (1 : Int32))) (fun h => by rw [Bd.returns] at h; cases h)
      refine ⟨_, _, pre6 _ ?_, hrun, hended, _, _, rfl, ?_, ⟨_, rfl⟩, hW, hsame.mono (by decide) (by decide)⟩
      · exact retI X0 hx Bd.returns (hb hby d11_24) hr
      · show Q_rm_iocB Z rb xc kb h0 n0 _ s₁.heap _
        rw [e0]
        exact ⟨congrArg (fun z => some (Value.int z)) (show (1 : Int32) = (F_rm_iocB xc) from by rw [F_rm_iocB, if_neg hc19, if_pos hc19_2]), N0, rfl⟩
    · have pre8 : ∀ t, Steps p.tables e below (s₁.setTop (mkF m 19 #[.val (.ref rb), .val (.int xc), .val (.int (0 : Int32)), .val (.int (11 : Int32)), .val (.int (xc.toInt8.toInt32)), .val (.int (2 : Int32))] [(.int (xc.toInt8.toInt32)), (.int (38 : Int32))])) t → Steps p.tables e below (s₁.setTop (entryFrame m #[(.ref rb), (.int xc), (.int (0 : Int32)), (.int (11 : Int32))] 6)) t := by
        intro t k
        refine pre5 t ?_
        refine XS.icmpYes X0.here hx rfl (pc0 := 19) (pc' := 25) rfl (hb hby d11_19) rfl (feq hc19_2).2 (by decide) (by decide) ?_
        show Steps p.tables e below (s₁.setTop (mkF m 25 #[.val (.ref rb), .val (.int xc), .val (.int (0 : Int32)), .val (.int (11 : Int32)), .val (.int (xc.toInt8.toInt32)), .val (.int (1 : Int32))] [])) _
        refine XS.iinc X0.here hx rfl (hb hby d11_25) rfl (l' := #[.val (.ref rb), .val (.int xc), .val (.int (0 : Int32)), .val (.int (11 : Int32)), .val (.int (xc.toInt8.toInt32)), .val (.int (2 : Int32))]) rfl ?_
        show Steps p.tables e below (s₁.setTop (mkF m 28 #[.val (.ref rb), .val (.int xc), .val (.int (0 : Int32)), .val (.int (11 : Int32)), .val (.int (xc.toInt8.toInt32)), .val (.int (2 : Int32))] [])) _
        refine XS.goto X0.here hx rfl (pc0 := 28) (pc' := 7) rfl (hb hby d11_28) (by decide) (by decide) ?_
        show Steps p.tables e below (s₁.setTop (mkF m 7 #[.val (.ref rb), .val (.int xc), .val (.int (0 : Int32)), .val (.int (11 : Int32)), .val (.int (xc.toInt8.toInt32)), .val (.int (2 : Int32))] [])) _
        refine XS.iload X0.here hx rfl (hb hby d11_7) rfl ?_
        show Steps p.tables e below (s₁.setTop (mkF m 9 #[.val (.ref rb), .val (.int xc), .val (.int (0 : Int32)), .val (.int (11 : Int32)), .val (.int (xc.toInt8.toInt32)), .val (.int (2 : Int32))] [(.int (2 : Int32))])) _
        refine XS.iloadN X0.here hx rfl (hb hby d11_9) rfl ?_
        show Steps p.tables e below (s₁.setTop (mkF m 10 #[.val (.ref rb), .val (.int xc), .val (.int (0 : Int32)), .val (.int (11 : Int32)), .val (.int (xc.toInt8.toInt32)), .val (.int (2 : Int32))] [(.int (11 : Int32)), (.int (2 : Int32))])) _
        refine XS.icmpNo X0.here hx rfl (hb hby d11_10) rfl (tlt (show (2 : Int32) < (11 : Int32) from by decide)).2.1 ?_
        show Steps p.tables e below (s₁.setTop (mkF m 13 #[.val (.ref rb), .val (.int xc), .val (.int (0 : Int32)), .val (.int (11 : Int32)), .val (.int (xc.toInt8.toInt32)), .val (.int (2 : Int32))] [])) _
        refine XS.aloadN X0.here hx rfl (hb hby d11_13) rfl rfl ?_
        show Steps p.tables e below (s₁.setTop (mkF m 14 #[.val (.ref rb), .val (.int xc), .val (.int (0 : Int32)), .val (.int (11 : Int32)), .val (.int (xc.toInt8.toInt32)), .val (.int (2 : Int32))] [(.ref rb)])) _
        refine XS.iload X0.here hx rfl (hb hby d11_14) rfl ?_
        show Steps p.tables e below (s₁.setTop (mkF m 16 #[.val (.ref rb), .val (.int xc), .val (.int (0 : Int32)), .val (.int (11 : Int32)), .val (.int (xc.toInt8.toInt32)), .val (.int (2 : Int32))] [(.int (2 : Int32)), (.ref rb)])) _
        obtain ⟨c7, a7, q7, s7, m7, i7, u7⟩ := id VB
        have hin7 := inb_of (j := (2 : Int32)) s7 ⟨by decide, by decide⟩
        refine X0.baloadBytes hx (j := (2 : Int32)) (v := (.int (38 : Int32))) (by rw [e0]; exact a7.1) (State.isArrayOf_alike hZ.alike a7.2.1) a7.2.2 hin7 (i7.at hin7 rfl) (g := (mkF m 16 #[.val (.ref rb), .val (.int xc), .val (.int (0 : Int32)), .val (.int (11 : Int32)), .val (.int (xc.toInt8.toInt32)), .val (.int (2 : Int32))] [(.int (2 : Int32)), (.ref rb)])) rfl rfl (hb hby d11_16) _ ?_
        show Steps p.tables e below (s₁.setTop (mkF m 17 #[.val (.ref rb), .val (.int xc), .val (.int (0 : Int32)), .val (.int (11 : Int32)), .val (.int (xc.toInt8.toInt32)), .val (.int (2 : Int32))] [(.int (38 : Int32))])) _
        refine XS.iload X0.here hx rfl (hb hby d11_17) rfl ?_
        show Steps p.tables e below (s₁.setTop (mkF m 19 #[.val (.ref rb), .val (.int xc), .val (.int (0 : Int32)), .val (.int (11 : Int32)), .val (.int (xc.toInt8.toInt32)), .val (.int (2 : Int32))] [(.int (xc.toInt8.toInt32)), (.int (38 : Int32))])) _
        exact k
      by_cases hc19_3 : (38 : Int32) = (xc.toInt8.toInt32)
      · have pre9 : ∀ t, Steps p.tables e below (s₁.setTop (mkF m 24 #[.val (.ref rb), .val (.int xc), .val (.int (0 : Int32)), .val (.int (11 : Int32)), .val (.int (xc.toInt8.toInt32)), .val (.int (2 : Int32))] [(.int (2 : Int32))])) t → Steps p.tables e below (s₁.setTop (entryFrame m #[(.ref rb), (.int xc), (.int (0 : Int32)), (.int (11 : Int32))] 6)) t := by
          intro t k
          refine pre8 t ?_
          refine XS.icmpNo X0.here hx rfl (hb hby d11_19) rfl (teq hc19_3).2 ?_
          show Steps p.tables e below (s₁.setTop (mkF m 22 #[.val (.ref rb), .val (.int xc), .val (.int (0 : Int32)), .val (.int (11 : Int32)), .val (.int (xc.toInt8.toInt32)), .val (.int (2 : Int32))] [])) _
          refine XS.iload X0.here hx rfl (hb hby d11_22) rfl ?_
          show Steps p.tables e below (s₁.setTop (mkF m 24 #[.val (.ref rb), .val (.int xc), .val (.int (0 : Int32)), .val (.int (11 : Int32)), .val (.int (xc.toInt8.toInt32)), .val (.int (2 : Int32))] [(.int (2 : Int32))])) _
          exact k
        obtain ⟨fs, hr, hrun, hended, hW, hsame⟩ := X0.leave (v := some (.int (2 : Int32))) (fun h => by rw [Bd.returns] at h; cases h)
        refine ⟨_, _, pre9 _ ?_, hrun, hended, _, _, rfl, ?_, ⟨_, rfl⟩, hW, hsame.mono (by decide) (by decide)⟩
        · exact retI X0 hx Bd.returns (hb hby d11_24) hr
        · show Q_rm_iocB Z rb xc kb h0 n0 _ s₁.heap _
          rw [e0]
          exact ⟨congrArg (fun z => some (Value.int z)) (show (2 : Int32) = (F_rm_iocB xc) from by rw [F_rm_iocB, if_neg hc19, if_neg hc19_2, if_pos hc19_3]), N0, rfl⟩
      · have pre11 : ∀ t, Steps p.tables e below (s₁.setTop (mkF m 19 #[.val (.ref rb), .val (.int xc), .val (.int (0 : Int32)), .val (.int (11 : Int32)), .val (.int (xc.toInt8.toInt32)), .val (.int (3 : Int32))] [(.int (xc.toInt8.toInt32)), (.int (39 : Int32))])) t → Steps p.tables e below (s₁.setTop (entryFrame m #[(.ref rb), (.int xc), (.int (0 : Int32)), (.int (11 : Int32))] 6)) t := by
          intro t k
          refine pre8 t ?_
          refine XS.icmpYes X0.here hx rfl (pc0 := 19) (pc' := 25) rfl (hb hby d11_19) rfl (feq hc19_3).2 (by decide) (by decide) ?_
          show Steps p.tables e below (s₁.setTop (mkF m 25 #[.val (.ref rb), .val (.int xc), .val (.int (0 : Int32)), .val (.int (11 : Int32)), .val (.int (xc.toInt8.toInt32)), .val (.int (2 : Int32))] [])) _
          refine XS.iinc X0.here hx rfl (hb hby d11_25) rfl (l' := #[.val (.ref rb), .val (.int xc), .val (.int (0 : Int32)), .val (.int (11 : Int32)), .val (.int (xc.toInt8.toInt32)), .val (.int (3 : Int32))]) rfl ?_
          show Steps p.tables e below (s₁.setTop (mkF m 28 #[.val (.ref rb), .val (.int xc), .val (.int (0 : Int32)), .val (.int (11 : Int32)), .val (.int (xc.toInt8.toInt32)), .val (.int (3 : Int32))] [])) _
          refine XS.goto X0.here hx rfl (pc0 := 28) (pc' := 7) rfl (hb hby d11_28) (by decide) (by decide) ?_
          show Steps p.tables e below (s₁.setTop (mkF m 7 #[.val (.ref rb), .val (.int xc), .val (.int (0 : Int32)), .val (.int (11 : Int32)), .val (.int (xc.toInt8.toInt32)), .val (.int (3 : Int32))] [])) _
          refine XS.iload X0.here hx rfl (hb hby d11_7) rfl ?_
          show Steps p.tables e below (s₁.setTop (mkF m 9 #[.val (.ref rb), .val (.int xc), .val (.int (0 : Int32)), .val (.int (11 : Int32)), .val (.int (xc.toInt8.toInt32)), .val (.int (3 : Int32))] [(.int (3 : Int32))])) _
          refine XS.iloadN X0.here hx rfl (hb hby d11_9) rfl ?_
          show Steps p.tables e below (s₁.setTop (mkF m 10 #[.val (.ref rb), .val (.int xc), .val (.int (0 : Int32)), .val (.int (11 : Int32)), .val (.int (xc.toInt8.toInt32)), .val (.int (3 : Int32))] [(.int (11 : Int32)), (.int (3 : Int32))])) _
          refine XS.icmpNo X0.here hx rfl (hb hby d11_10) rfl (tlt (show (3 : Int32) < (11 : Int32) from by decide)).2.1 ?_
          show Steps p.tables e below (s₁.setTop (mkF m 13 #[.val (.ref rb), .val (.int xc), .val (.int (0 : Int32)), .val (.int (11 : Int32)), .val (.int (xc.toInt8.toInt32)), .val (.int (3 : Int32))] [])) _
          refine XS.aloadN X0.here hx rfl (hb hby d11_13) rfl rfl ?_
          show Steps p.tables e below (s₁.setTop (mkF m 14 #[.val (.ref rb), .val (.int xc), .val (.int (0 : Int32)), .val (.int (11 : Int32)), .val (.int (xc.toInt8.toInt32)), .val (.int (3 : Int32))] [(.ref rb)])) _
          refine XS.iload X0.here hx rfl (hb hby d11_14) rfl ?_
          show Steps p.tables e below (s₁.setTop (mkF m 16 #[.val (.ref rb), .val (.int xc), .val (.int (0 : Int32)), .val (.int (11 : Int32)), .val (.int (xc.toInt8.toInt32)), .val (.int (3 : Int32))] [(.int (3 : Int32)), (.ref rb)])) _
          obtain ⟨c10, a10, q10, s10, m10, i10, u10⟩ := id VB
          have hin10 := inb_of (j := (3 : Int32)) s10 ⟨by decide, by decide⟩
          refine X0.baloadBytes hx (j := (3 : Int32)) (v := (.int (39 : Int32))) (by rw [e0]; exact a10.1) (State.isArrayOf_alike hZ.alike a10.2.1) a10.2.2 hin10 (i10.at hin10 rfl) (g := (mkF m 16 #[.val (.ref rb), .val (.int xc), .val (.int (0 : Int32)), .val (.int (11 : Int32)), .val (.int (xc.toInt8.toInt32)), .val (.int (3 : Int32))] [(.int (3 : Int32)), (.ref rb)])) rfl rfl (hb hby d11_16) _ ?_
          show Steps p.tables e below (s₁.setTop (mkF m 17 #[.val (.ref rb), .val (.int xc), .val (.int (0 : Int32)), .val (.int (11 : Int32)), .val (.int (xc.toInt8.toInt32)), .val (.int (3 : Int32))] [(.int (39 : Int32))])) _
          refine XS.iload X0.here hx rfl (hb hby d11_17) rfl ?_
          show Steps p.tables e below (s₁.setTop (mkF m 19 #[.val (.ref rb), .val (.int xc), .val (.int (0 : Int32)), .val (.int (11 : Int32)), .val (.int (xc.toInt8.toInt32)), .val (.int (3 : Int32))] [(.int (xc.toInt8.toInt32)), (.int (39 : Int32))])) _
          exact k
        by_cases hc19_4 : (39 : Int32) = (xc.toInt8.toInt32)
        · have pre12 : ∀ t, Steps p.tables e below (s₁.setTop (mkF m 24 #[.val (.ref rb), .val (.int xc), .val (.int (0 : Int32)), .val (.int (11 : Int32)), .val (.int (xc.toInt8.toInt32)), .val (.int (3 : Int32))] [(.int (3 : Int32))])) t → Steps p.tables e below (s₁.setTop (entryFrame m #[(.ref rb), (.int xc), (.int (0 : Int32)), (.int (11 : Int32))] 6)) t := by
            intro t k
            refine pre11 t ?_
            refine XS.icmpNo X0.here hx rfl (hb hby d11_19) rfl (teq hc19_4).2 ?_
            show Steps p.tables e below (s₁.setTop (mkF m 22 #[.val (.ref rb), .val (.int xc), .val (.int (0 : Int32)), .val (.int (11 : Int32)), .val (.int (xc.toInt8.toInt32)), .val (.int (3 : Int32))] [])) _
            refine XS.iload X0.here hx rfl (hb hby d11_22) rfl ?_
            show Steps p.tables e below (s₁.setTop (mkF m 24 #[.val (.ref rb), .val (.int xc), .val (.int (0 : Int32)), .val (.int (11 : Int32)), .val (.int (xc.toInt8.toInt32)), .val (.int (3 : Int32))] [(.int (3 : Int32))])) _
            exact k
          obtain ⟨fs, hr, hrun, hended, hW, hsame⟩ := X0.leave (v := some (.int (3 : Int32))) (fun h => by rw [Bd.returns] at h; cases h)
          refine ⟨_, _, pre12 _ ?_, hrun, hended, _, _, rfl, ?_, ⟨_, rfl⟩, hW, hsame.mono (by decide) (by decide)⟩
          · exact retI X0 hx Bd.returns (hb hby d11_24) hr
          · show Q_rm_iocB Z rb xc kb h0 n0 _ s₁.heap _
            rw [e0]
            exact ⟨congrArg (fun z => some (Value.int z)) (show (3 : Int32) = (F_rm_iocB xc) from by rw [F_rm_iocB, if_neg hc19, if_neg hc19_2, if_neg hc19_3, if_pos hc19_4]), N0, rfl⟩
        · have pre14 : ∀ t, Steps p.tables e below (s₁.setTop (mkF m 19 #[.val (.ref rb), .val (.int xc), .val (.int (0 : Int32)), .val (.int (11 : Int32)), .val (.int (xc.toInt8.toInt32)), .val (.int (4 : Int32))] [(.int (xc.toInt8.toInt32)), (.int (40 : Int32))])) t → Steps p.tables e below (s₁.setTop (entryFrame m #[(.ref rb), (.int xc), (.int (0 : Int32)), (.int (11 : Int32))] 6)) t := by
            intro t k
            refine pre11 t ?_
            refine XS.icmpYes X0.here hx rfl (pc0 := 19) (pc' := 25) rfl (hb hby d11_19) rfl (feq hc19_4).2 (by decide) (by decide) ?_
            show Steps p.tables e below (s₁.setTop (mkF m 25 #[.val (.ref rb), .val (.int xc), .val (.int (0 : Int32)), .val (.int (11 : Int32)), .val (.int (xc.toInt8.toInt32)), .val (.int (3 : Int32))] [])) _
            refine XS.iinc X0.here hx rfl (hb hby d11_25) rfl (l' := #[.val (.ref rb), .val (.int xc), .val (.int (0 : Int32)), .val (.int (11 : Int32)), .val (.int (xc.toInt8.toInt32)), .val (.int (4 : Int32))]) rfl ?_
            show Steps p.tables e below (s₁.setTop (mkF m 28 #[.val (.ref rb), .val (.int xc), .val (.int (0 : Int32)), .val (.int (11 : Int32)), .val (.int (xc.toInt8.toInt32)), .val (.int (4 : Int32))] [])) _
            refine XS.goto X0.here hx rfl (pc0 := 28) (pc' := 7) rfl (hb hby d11_28) (by decide) (by decide) ?_
            show Steps p.tables e below (s₁.setTop (mkF m 7 #[.val (.ref rb), .val (.int xc), .val (.int (0 : Int32)), .val (.int (11 : Int32)), .val (.int (xc.toInt8.toInt32)), .val (.int (4 : Int32))] [])) _
            refine XS.iload X0.here hx rfl (hb hby d11_7) rfl ?_
            show Steps p.tables e below (s₁.setTop (mkF m 9 #[.val (.ref rb), .val (.int xc), .val (.int (0 : Int32)), .val (.int (11 : Int32)), .val (.int (xc.toInt8.toInt32)), .val (.int (4 : Int32))] [(.int (4 : Int32))])) _
            refine XS.iloadN X0.here hx rfl (hb hby d11_9) rfl ?_
            show Steps p.tables e below (s₁.setTop (mkF m 10 #[.val (.ref rb), .val (.int xc), .val (.int (0 : Int32)), .val (.int (11 : Int32)), .val (.int (xc.toInt8.toInt32)), .val (.int (4 : Int32))] [(.int (11 : Int32)), (.int (4 : Int32))])) _
            refine XS.icmpNo X0.here hx rfl (hb hby d11_10) rfl (tlt (show (4 : Int32) < (11 : Int32) from by decide)).2.1 ?_
            show Steps p.tables e below (s₁.setTop (mkF m 13 #[.val (.ref rb), .val (.int xc), .val (.int (0 : Int32)), .val (.int (11 : Int32)), .val (.int (xc.toInt8.toInt32)), .val (.int (4 : Int32))] [])) _
            refine XS.aloadN X0.here hx rfl (hb hby d11_13) rfl rfl ?_
            show Steps p.tables e below (s₁.setTop (mkF m 14 #[.val (.ref rb), .val (.int xc), .val (.int (0 : Int32)), .val (.int (11 : Int32)), .val (.int (xc.toInt8.toInt32)), .val (.int (4 : Int32))] [(.ref rb)])) _
            refine XS.iload X0.here hx rfl (hb hby d11_14) rfl ?_
            show Steps p.tables e below (s₁.setTop (mkF m 16 #[.val (.ref rb), .val (.int xc), .val (.int (0 : Int32)), .val (.int (11 : Int32)), .val (.int (xc.toInt8.toInt32)), .val (.int (4 : Int32))] [(.int (4 : Int32)), (.ref rb)])) _
            obtain ⟨c13, a13, q13, s13, m13, i13, u13⟩ := id VB
            have hin13 := inb_of (j := (4 : Int32)) s13 ⟨by decide, by decide⟩
            refine X0.baloadBytes hx (j := (4 : Int32)) (v := (.int (40 : Int32))) (by rw [e0]; exact a13.1) (State.isArrayOf_alike hZ.alike a13.2.1) a13.2.2 hin13 (i13.at hin13 rfl) (g := (mkF m 16 #[.val (.ref rb), .val (.int xc), .val (.int (0 : Int32)), .val (.int (11 : Int32)), .val (.int (xc.toInt8.toInt32)), .val (.int (4 : Int32))] [(.int (4 : Int32)), (.ref rb)])) rfl rfl (hb hby d11_16) _ ?_
            show Steps p.tables e below (s₁.setTop (mkF m 17 #[.val (.ref rb), .val (.int xc), .val (.int (0 : Int32)), .val (.int (11 : Int32)), .val (.int (xc.toInt8.toInt32)), .val (.int (4 : Int32))] [(.int (40 : Int32))])) _
            refine XS.iload X0.here hx rfl (hb hby d11_17) rfl ?_
            show Steps p.tables e below (s₁.setTop (mkF m 19 #[.val (.ref rb), .val (.int xc), .val (.int (0 : Int32)), .val (.int (11 : Int32)), .val (.int (xc.toInt8.toInt32)), .val (.int (4 : Int32))] [(.int (xc.toInt8.toInt32)), (.int (40 : Int32))])) _
            exact k
          by_cases hc19_5 : (40 : Int32) = (xc.toInt8.toInt32)
          · have pre15 : ∀ t, Steps p.tables e below (s₁.setTop (mkF m 24 #[.val (.ref rb), .val (.int xc), .val (.int (0 : Int32)), .val (.int (11 : Int32)), .val (.int (xc.toInt8.toInt32)), .val (.int (4 : Int32))] [(.int (4 : Int32))])) t → Steps p.tables e below (s₁.setTop (entryFrame m #[(.ref rb), (.int xc), (.int (0 : Int32)), (.int (11 : Int32))] 6)) t := by
              intro t k
              refine pre14 t ?_
              refine XS.icmpNo X0.here hx rfl (hb hby d11_19) rfl (teq hc19_5).2 ?_
              show Steps p.tables e below (s₁.setTop (mkF m 22 #[.val (.ref rb), .val (.int xc), .val (.int (0 : Int32)), .val (.int (11 : Int32)), .val (.int (xc.toInt8.toInt32)), .val (.int (4 : Int32))] [])) _
              refine XS.iload X0.here hx rfl (hb hby d11_22) rfl ?_
              show Steps p.tables e below (s₁.setTop (mkF m 24 #[.val (.ref rb), .val (.int xc), .val (.int (0 : Int32)), .val (.int (11 : Int32)), .val (.int (xc.toInt8.toInt32)), .val (.int (4 : Int32))] [(.int (4 : Int32))])) _
              exact k
            obtain ⟨fs, hr, hrun, hended, hW, hsame⟩ := X0.leave (v := some (.int (4 : Int32))) (fun h => by rw [Bd.returns] at h; cases h)
            refine ⟨_, _, pre15 _ ?_, hrun, hended, _, _, rfl, ?_, ⟨_, rfl⟩, hW, hsame.mono (by decide) (by decide)⟩
            · exact retI X0 hx Bd.returns (hb hby d11_24) hr
            · show Q_rm_iocB Z rb xc kb h0 n0 _ s₁.heap _
              rw [e0]
              exact ⟨congrArg (fun z => some (Value.int z)) (show (4 : Int32) = (F_rm_iocB xc) from by rw [F_rm_iocB, if_neg hc19, if_neg hc19_2, if_neg hc19_3, if_neg hc19_4, if_pos hc19_5]), N0, rfl⟩
          · have pre17 : ∀ t, Steps p.tables e below (s₁.setTop (mkF m 19 #[.val (.ref rb), .val (.int xc), .val (.int (0 : Int32)), .val (.int (11 : Int32)), .val (.int (xc.toInt8.toInt32)), .val (.int (5 : Int32))] [(.int (xc.toInt8.toInt32)), (.int (41 : Int32))])) t → Steps p.tables e below (s₁.setTop (entryFrame m #[(.ref rb), (.int xc), (.int (0 : Int32)), (.int (11 : Int32))] 6)) t := by
              intro t k
              refine pre14 t ?_
              refine XS.icmpYes X0.here hx rfl (pc0 := 19) (pc' := 25) rfl (hb hby d11_19) rfl (feq hc19_5).2 (by decide) (by decide) ?_
              show Steps p.tables e below (s₁.setTop (mkF m 25 #[.val (.ref rb), .val (.int xc), .val (.int (0 : Int32)), .val (.int (11 : Int32)), .val (.int (xc.toInt8.toInt32)), .val (.int (4 : Int32))] [])) _
              refine XS.iinc X0.here hx rfl (hb hby d11_25) rfl (l' := #[.val (.ref rb), .val (.int xc), .val (.int (0 : Int32)), .val (.int (11 : Int32)), .val (.int (xc.toInt8.toInt32)), .val (.int (5 : Int32))]) rfl ?_
              show Steps p.tables e below (s₁.setTop (mkF m 28 #[.val (.ref rb), .val (.int xc), .val (.int (0 : Int32)), .val (.int (11 : Int32)), .val (.int (xc.toInt8.toInt32)), .val (.int (5 : Int32))] [])) _
              refine XS.goto X0.here hx rfl (pc0 := 28) (pc' := 7) rfl (hb hby d11_28) (by decide) (by decide) ?_
              show Steps p.tables e below (s₁.setTop (mkF m 7 #[.val (.ref rb), .val (.int xc), .val (.int (0 : Int32)), .val (.int (11 : Int32)), .val (.int (xc.toInt8.toInt32)), .val (.int (5 : Int32))] [])) _
              refine XS.iload X0.here hx rfl (hb hby d11_7) rfl ?_
              show Steps p.tables e below (s₁.setTop (mkF m 9 #[.val (.ref rb), .val (.int xc), .val (.int (0 : Int32)), .val (.int (11 : Int32)), .val (.int (xc.toInt8.toInt32)), .val (.int (5 : Int32))] [(.int (5 : Int32))])) _
              refine XS.iloadN X0.here hx rfl (hb hby d11_9) rfl ?_
              show Steps p.tables e below (s₁.setTop (mkF m 10 #[.val (.ref rb), .val (.int xc), .val (.int (0 : Int32)), .val (.int (11 : Int32)), .val (.int (xc.toInt8.toInt32)), .val (.int (5 : Int32))] [(.int (11 : Int32)), (.int (5 : Int32))])) _
              refine XS.icmpNo X0.here hx rfl (hb hby d11_10) rfl (tlt (show (5 : Int32) < (11 : Int32) from by decide)).2.1 ?_
              show Steps p.tables e below (s₁.setTop (mkF m 13 #[.val (.ref rb), .val (.int xc), .val (.int (0 : Int32)), .val (.int (11 : Int32)), .val (.int (xc.toInt8.toInt32)), .val (.int (5 : Int32))] [])) _
              refine XS.aloadN X0.here hx rfl (hb hby d11_13) rfl rfl ?_
              show Steps p.tables e below (s₁.setTop (mkF m 14 #[.val (.ref rb), .val (.int xc), .val (.int (0 : Int32)), .val (.int (11 : Int32)), .val (.int (xc.toInt8.toInt32)), .val (.int (5 : Int32))] [(.ref rb)])) _
              refine XS.iload X0.here hx rfl (hb hby d11_14) rfl ?_
              show Steps p.tables e below (s₁.setTop (mkF m 16 #[.val (.ref rb), .val (.int xc), .val (.int (0 : Int32)), .val (.int (11 : Int32)), .val (.int (xc.toInt8.toInt32)), .val (.int (5 : Int32))] [(.int (5 : Int32)), (.ref rb)])) _
              obtain ⟨c16, a16, q16, s16, m16, i16, u16⟩ := id VB
              have hin16 := inb_of (j := (5 : Int32)) s16 ⟨by decide, by decide⟩
              refine X0.baloadBytes hx (j := (5 : Int32)) (v := (.int (41 : Int32))) (by rw [e0]; exact a16.1) (State.isArrayOf_alike hZ.alike a16.2.1) a16.2.2 hin16 (i16.at hin16 rfl) (g := (mkF m 16 #[.val (.ref rb), .val (.int xc), .val (.int (0 : Int32)), .val (.int (11 : Int32)), .val (.int (xc.toInt8.toInt32)), .val (.int (5 : Int32))] [(.int (5 : Int32)), (.ref rb)])) rfl rfl (hb hby d11_16) _ ?_
              show Steps p.tables e below (s₁.setTop (mkF m 17 #[.val (.ref rb), .val (.int xc), .val (.int (0 : Int32)), .val (.int (11 : Int32)), .val (.int (xc.toInt8.toInt32)), .val (.int (5 : Int32))] [(.int (41 : Int32))])) _
              refine XS.iload X0.here hx rfl (hb hby d11_17) rfl ?_
              show Steps p.tables e below (s₁.setTop (mkF m 19 #[.val (.ref rb), .val (.int xc), .val (.int (0 : Int32)), .val (.int (11 : Int32)), .val (.int (xc.toInt8.toInt32)), .val (.int (5 : Int32))] [(.int (xc.toInt8.toInt32)), (.int (41 : Int32))])) _
              exact k
            by_cases hc19_6 : (41 : Int32) = (xc.toInt8.toInt32)
            · have pre18 : ∀ t, Steps p.tables e below (s₁.setTop (mkF m 24 #[.val (.ref rb), .val (.int xc), .val (.int (0 : Int32)), .val (.int (11 : Int32)), .val (.int (xc.toInt8.toInt32)), .val (.int (5 : Int32))] [(.int (5 : Int32))])) t → Steps p.tables e below (s₁.setTop (entryFrame m #[(.ref rb), (.int xc), (.int (0 : Int32)), (.int (11 : Int32))] 6)) t := by
                intro t k
                refine pre17 t ?_
                refine XS.icmpNo X0.here hx rfl (hb hby d11_19) rfl (teq hc19_6).2 ?_
                show Steps p.tables e below (s₁.setTop (mkF m 22 #[.val (.ref rb), .val (.int xc), .val (.int (0 : Int32)), .val (.int (11 : Int32)), .val (.int (xc.toInt8.toInt32)), .val (.int (5 : Int32))] [])) _
                refine XS.iload X0.here hx rfl (hb hby d11_22) rfl ?_
                show Steps p.tables e below (s₁.setTop (mkF m 24 #[.val (.ref rb), .val (.int xc), .val (.int (0 : Int32)), .val (.int (11 : Int32)), .val (.int (xc.toInt8.toInt32)), .val (.int (5 : Int32))] [(.int (5 : Int32))])) _
                exact k
              obtain ⟨fs, hr, hrun, hended, hW, hsame⟩ := X0.leave (v := some (.int (5 : Int32))) (fun h => by rw [Bd.returns] at h; cases h)
              refine ⟨_, _, pre18 _ ?_, hrun, hended, _, _, rfl, ?_, ⟨_, rfl⟩, hW, hsame.mono (by decide) (by decide)⟩
              · exact retI X0 hx Bd.returns (hb hby d11_24) hr
              · show Q_rm_iocB Z rb xc kb h0 n0 _ s₁.heap _
                rw [e0]
                exact ⟨congrArg (fun z => some (Value.int z)) (show (5 : Int32) = (F_rm_iocB xc) from by rw [F_rm_iocB, if_neg hc19, if_neg hc19_2, if_neg hc19_3, if_neg hc19_4, if_neg hc19_5, if_pos hc19_6]), N0, rfl⟩
            · have pre20 : ∀ t, Steps p.tables e below (s₁.setTop (mkF m 19 #[.val (.ref rb), .val (.int xc), .val (.int (0 : Int32)), .val (.int (11 : Int32)), .val (.int (xc.toInt8.toInt32)), .val (.int (6 : Int32))] [(.int (xc.toInt8.toInt32)), (.int (42 : Int32))])) t → Steps p.tables e below (s₁.setTop (entryFrame m #[(.ref rb), (.int xc), (.int (0 : Int32)), (.int (11 : Int32))] 6)) t := by
                intro t k
                refine pre17 t ?_
                refine XS.icmpYes X0.here hx rfl (pc0 := 19) (pc' := 25) rfl (hb hby d11_19) rfl (feq hc19_6).2 (by decide) (by decide) ?_
                show Steps p.tables e below (s₁.setTop (mkF m 25 #[.val (.ref rb), .val (.int xc), .val (.int (0 : Int32)), .val (.int (11 : Int32)), .val (.int (xc.toInt8.toInt32)), .val (.int (5 : Int32))] [])) _
                refine XS.iinc X0.here hx rfl (hb hby d11_25) rfl (l' := #[.val (.ref rb), .val (.int xc), .val (.int (0 : Int32)), .val (.int (11 : Int32)), .val (.int (xc.toInt8.toInt32)), .val (.int (6 : Int32))]) rfl ?_
                show Steps p.tables e below (s₁.setTop (mkF m 28 #[.val (.ref rb), .val (.int xc), .val (.int (0 : Int32)), .val (.int (11 : Int32)), .val (.int (xc.toInt8.toInt32)), .val (.int (6 : Int32))] [])) _
                refine XS.goto X0.here hx rfl (pc0 := 28) (pc' := 7) rfl (hb hby d11_28) (by decide) (by decide) ?_
                show Steps p.tables e below (s₁.setTop (mkF m 7 #[.val (.ref rb), .val (.int xc), .val (.int (0 : Int32)), .val (.int (11 : Int32)), .val (.int (xc.toInt8.toInt32)), .val (.int (6 : Int32))] [])) _
                refine XS.iload X0.here hx rfl (hb hby d11_7) rfl ?_
                show Steps p.tables e below (s₁.setTop (mkF m 9 #[.val (.ref rb), .val (.int xc), .val (.int (0 : Int32)), .val (.int (11 : Int32)), .val (.int (xc.toInt8.toInt32)), .val (.int (6 : Int32))] [(.int (6 : Int32))])) _
                refine XS.iloadN X0.here hx rfl (hb hby d11_9) rfl ?_
                show Steps p.tables e below (s₁.setTop (mkF m 10 #[.val (.ref rb), .val (.int xc), .val (.int (0 : Int32)), .val (.int (11 : Int32)), .val (.int (xc.toInt8.toInt32)), .val (.int (6 : Int32))] [(.int (11 : Int32)), (.int (6 : Int32))])) _
                refine XS.icmpNo X0.here hx rfl (hb hby d11_10) rfl (tlt (show (6 : Int32) < (11 : Int32) from by decide)).2.1 ?_
                show Steps p.tables e below (s₁.setTop (mkF m 13 #[.val (.ref rb), .val (.int xc), .val (.int (0 : Int32)), .val (.int (11 : Int32)), .val (.int (xc.toInt8.toInt32)), .val (.int (6 : Int32))] [])) _
                refine XS.aloadN X0.here hx rfl (hb hby d11_13) rfl rfl ?_
                show Steps p.tables e below (s₁.setTop (mkF m 14 #[.val (.ref rb), .val (.int xc), .val (.int (0 : Int32)), .val (.int (11 : Int32)), .val (.int (xc.toInt8.toInt32)), .val (.int (6 : Int32))] [(.ref rb)])) _
                refine XS.iload X0.here hx rfl (hb hby d11_14) rfl ?_
                show Steps p.tables e below (s₁.setTop (mkF m 16 #[.val (.ref rb), .val (.int xc), .val (.int (0 : Int32)), .val (.int (11 : Int32)), .val (.int (xc.toInt8.toInt32)), .val (.int (6 : Int32))] [(.int (6 : Int32)), (.ref rb)])) _
                obtain ⟨c19, a19, q19, s19, m19, i19, u19⟩ := id VB
                have hin19 := inb_of (j := (6 : Int32)) s19 ⟨by decide, by decide⟩
                refine X0.baloadBytes hx (j := (6 : Int32)) (v := (.int (42 : Int32))) (by rw [e0]; exact a19.1) (State.isArrayOf_alike hZ.alike a19.2.1) a19.2.2 hin19 (i19.at hin19 rfl) (g := (mkF m 16 #[.val (.ref rb), .val (.int xc), .val (.int (0 : Int32)), .val (.int (11 : Int32)), .val (.int (xc.toInt8.toInt32)), .val (.int (6 : Int32))] [(.int (6 : Int32)), (.ref rb)])) rfl rfl (hb hby d11_16) _ ?_
                show Steps p.tables e below (s₁.setTop (mkF m 17 #[.val (.ref rb), .val (.int xc), .val (.int (0 : Int32)), .val (.int (11 : Int32)), .val (.int (xc.toInt8.toInt32)), .val (.int (6 : Int32))] [(.int (42 : Int32))])) _
                refine XS.iload X0.here hx rfl (hb hby d11_17) rfl ?_
                show Steps p.tables e below (s₁.setTop (mkF m 19 #[.val (.ref rb), .val (.int xc), .val (.int (0 : Int32)), .val (.int (11 : Int32)), .val (.int (xc.toInt8.toInt32)), .val (.int (6 : Int32))] [(.int (xc.toInt8.toInt32)), (.int (42 : Int32))])) _
                exact k
              by_cases hc19_7 : (42 : Int32) = (xc.toInt8.toInt32)
              · have pre21 : ∀ t, Steps p.tables e below (s₁.setTop (mkF m 24 #[.val (.ref rb), .val (.int xc), .val (.int (0 : Int32)), .val (.int (11 : Int32)), .val (.int (xc.toInt8.toInt32)), .val (.int (6 : Int32))] [(.int (6 : Int32))])) t → Steps p.tables e below (s₁.setTop (entryFrame m #[(.ref rb), (.int xc), (.int (0 : Int32)), (.int (11 : Int32))] 6)) t := by
                  intro t k
                  refine pre20 t ?_
                  refine XS.icmpNo X0.here hx rfl (hb hby d11_19) rfl (teq hc19_7).2 ?_
                  show Steps p.tables e below (s₁.setTop (mkF m 22 #[.val (.ref rb), .val (.int xc), .val (.int (0 : Int32)), .val (.int (11 : Int32)), .val (.int (xc.toInt8.toInt32)), .val (.int (6 : Int32))] [])) _
                  refine XS.iload X0.here hx rfl (hb hby d11_22) rfl ?_
                  show Steps p.tables e below (s₁.setTop (mkF m 24 #[.val (.ref rb), .val (.int xc), .val (.int (0 : Int32)), .val (.int (11 : Int32)), .val (.int (xc.toInt8.toInt32)), .val (.int (6 : Int32))] [(.int (6 : Int32))])) _
                  exact k
                obtain ⟨fs, hr, hrun, hended, hW, hsame⟩ := X0.leave (v := some (.int (6 : Int32))) (fun h => by rw [Bd.returns] at h; cases h)
                refine ⟨_, _, pre21 _ ?_, hrun, hended, _, _, rfl, ?_, ⟨_, rfl⟩, hW, hsame.mono (by decide) (by decide)⟩
                · exact retI X0 hx Bd.returns (hb hby d11_24) hr
                · show Q_rm_iocB Z rb xc kb h0 n0 _ s₁.heap _
                  rw [e0]
                  exact ⟨congrArg (fun z => some (Value.int z)) (show (6 : Int32) = (F_rm_iocB xc) from by rw [F_rm_iocB, if_neg hc19, if_neg hc19_2, if_neg hc19_3, if_neg hc19_4, if_neg hc19_5, if_neg hc19_6, if_pos hc19_7]), N0, rfl⟩
              · have pre23 : ∀ t, Steps p.tables e below (s₁.setTop (mkF m 19 #[.val (.ref rb), .val (.int xc), .val (.int (0 : Int32)), .val (.int (11 : Int32)), .val (.int (xc.toInt8.toInt32)), .val (.int (7 : Int32))] [(.int (xc.toInt8.toInt32)), (.int (43 : Int32))])) t → Steps p.tables e below (s₁.setTop (entryFrame m #[(.ref rb), (.int xc), (.int (0 : Int32)), (.int (11 : Int32))] 6)) t := by
                  intro t k
                  refine pre20 t ?_
                  refine XS.icmpYes X0.here hx rfl (pc0 := 19) (pc' := 25) rfl (hb hby d11_19) rfl (feq hc19_7).2 (by decide) (by decide) ?_
                  show Steps p.tables e below (s₁.setTop (mkF m 25 #[.val (.ref rb), .val (.int xc), .val (.int (0 : Int32)), .val (.int (11 : Int32)), .val (.int (xc.toInt8.toInt32)), .val (.int (6 : Int32))] [])) _
                  refine XS.iinc X0.here hx rfl (hb hby d11_25) rfl (l' := #[.val (.ref rb), .val (.int xc), .val (.int (0 : Int32)), .val (.int (11 : Int32)), .val (.int (xc.toInt8.toInt32)), .val (.int (7 : Int32))]) rfl ?_
                  show Steps p.tables e below (s₁.setTop (mkF m 28 #[.val (.ref rb), .val (.int xc), .val (.int (0 : Int32)), .val (.int (11 : Int32)), .val (.int (xc.toInt8.toInt32)), .val (.int (7 : Int32))] [])) _
                  refine XS.goto X0.here hx rfl (pc0 := 28) (pc' := 7) rfl (hb hby d11_28) (by decide) (by decide) ?_
                  show Steps p.tables e below (s₁.setTop (mkF m 7 #[.val (.ref rb), .val (.int xc), .val (.int (0 : Int32)), .val (.int (11 : Int32)), .val (.int (xc.toInt8.toInt32)), .val (.int (7 : Int32))] [])) _
                  refine XS.iload X0.here hx rfl (hb hby d11_7) rfl ?_
                  show Steps p.tables e below (s₁.setTop (mkF m 9 #[.val (.ref rb), .val (.int xc), .val (.int (0 : Int32)), .val (.int (11 : Int32)), .val (.int (xc.toInt8.toInt32)), .val (.int (7 : Int32))] [(.int (7 : Int32))])) _
                  refine XS.iloadN X0.here hx rfl (hb hby d11_9) rfl ?_
                  show Steps p.tables e below (s₁.setTop (mkF m 10 #[.val (.ref rb), .val (.int xc), .val (.int (0 : Int32)), .val (.int (11 : Int32)), .val (.int (xc.toInt8.toInt32)), .val (.int (7 : Int32))] [(.int (11 : Int32)), (.int (7 : Int32))])) _
                  refine XS.icmpNo X0.here hx rfl (hb hby d11_10) rfl (tlt (show (7 : Int32) < (11 : Int32) from by decide)).2.1 ?_
                  show Steps p.tables e below (s₁.setTop (mkF m 13 #[.val (.ref rb), .val (.int xc), .val (.int (0 : Int32)), .val (.int (11 : Int32)), .val (.int (xc.toInt8.toInt32)), .val (.int (7 : Int32))] [])) _
                  refine XS.aloadN X0.here hx rfl (hb hby d11_13) rfl rfl ?_
                  show Steps p.tables e below (s₁.setTop (mkF m 14 #[.val (.ref rb), .val (.int xc), .val (.int (0 : Int32)), .val (.int (11 : Int32)), .val (.int (xc.toInt8.toInt32)), .val (.int (7 : Int32))] [(.ref rb)])) _
                  refine XS.iload X0.here hx rfl (hb hby d11_14) rfl ?_
                  show Steps p.tables e below (s₁.setTop (mkF m 16 #[.val (.ref rb), .val (.int xc), .val (.int (0 : Int32)), .val (.int (11 : Int32)), .val (.int (xc.toInt8.toInt32)), .val (.int (7 : Int32))] [(.int (7 : Int32)), (.ref rb)])) _
                  obtain ⟨c22, a22, q22, s22, m22, i22, u22⟩ := id VB
                  have hin22 := inb_of (j := (7 : Int32)) s22 ⟨by decide, by decide⟩
                  refine X0.baloadBytes hx (j := (7 : Int32)) (v := (.int (43 : Int32))) (by rw [e0]; exact a22.1) (State.isArrayOf_alike hZ.alike a22.2.1) a22.2.2 hin22 (i22.at hin22 rfl) (g := (mkF m 16 #[.val (.ref rb), .val (.int xc), .val (.int (0 : Int32)), .val (.int (11 : Int32)), .val (.int (xc.toInt8.toInt32)), .val (.int (7 : Int32))] [(.int (7 : Int32)), (.ref rb)])) rfl rfl (hb hby d11_16) _ ?_
                  show Steps p.tables e below (s₁.setTop (mkF m 17 #[.val (.ref rb), .val (.int xc), .val (.int (0 : Int32)), .val (.int (11 : Int32)), .val (.int (xc.toInt8.toInt32)), .val (.int (7 : Int32))] [(.int (43 : Int32))])) _
                  refine XS.iload X0.here hx rfl (hb hby d11_17) rfl ?_
                  show Steps p.tables e below (s₁.setTop (mkF m 19 #[.val (.ref rb), .val (.int xc), .val (.int (0 : Int32)), .val (.int (11 : Int32)), .val (.int (xc.toInt8.toInt32)), .val (.int (7 : Int32))] [(.int (xc.toInt8.toInt32)), (.int (43 : Int32))])) _
                  exact k
                by_cases hc19_8 : (43 : Int32) = (xc.toInt8.toInt32)
                · have pre24 : ∀ t, Steps p.tables e below (s₁.setTop (mkF m 24 #[.val (.ref rb), .val (.int xc), .val (.int (0 : Int32)), .val (.int (11 : Int32)), .val (.int (xc.toInt8.toInt32)), .val (.int (7 : Int32))] [(.int (7 : Int32))])) t → Steps p.tables e below (s₁.setTop (entryFrame m #[(.ref rb), (.int xc), (.int (0 : Int32)), (.int (11 : Int32))] 6)) t := by
                    intro t k
                    refine pre23 t ?_
                    refine XS.icmpNo X0.here hx rfl (hb hby d11_19) rfl (teq hc19_8).2 ?_
                    show Steps p.tables e below (s₁.setTop (mkF m 22 #[.val (.ref rb), .val (.int xc), .val (.int (0 : Int32)), .val (.int (11 : Int32)), .val (.int (xc.toInt8.toInt32)), .val (.int (7 : Int32))] [])) _
                    refine XS.iload X0.here hx rfl (hb hby d11_22) rfl ?_
                    show Steps p.tables e below (s₁.setTop (mkF m 24 #[.val (.ref rb), .val (.int xc), .val (.int (0 : Int32)), .val (.int (11 : Int32)), .val (.int (xc.toInt8.toInt32)), .val (.int (7 : Int32))] [(.int (7 : Int32))])) _
                    exact k
                  obtain ⟨fs, hr, hrun, hended, hW, hsame⟩ := X0.leave (v := some (.int (7 : Int32))) (fun h => by rw [Bd.returns] at h; cases h)
                  refine ⟨_, _, pre24 _ ?_, hrun, hended, _, _, rfl, ?_, ⟨_, rfl⟩, hW, hsame.mono (by decide) (by decide)⟩
                  · exact retI X0 hx Bd.returns (hb hby d11_24) hr
                  · show Q_rm_iocB Z rb xc kb h0 n0 _ s₁.heap _
                    rw [e0]
                    exact ⟨congrArg (fun z => some (Value.int z)) (show (7 : Int32) = (F_rm_iocB xc) from by rw [F_rm_iocB, if_neg hc19, if_neg hc19_2, if_neg hc19_3, if_neg hc19_4, if_neg hc19_5, if_neg hc19_6, if_neg hc19_7, if_pos hc19_8]), N0, rfl⟩
                · have pre26 : ∀ t, Steps p.tables e below (s₁.setTop (mkF m 19 #[.val (.ref rb), .val (.int xc), .val (.int (0 : Int32)), .val (.int (11 : Int32)), .val (.int (xc.toInt8.toInt32)), .val (.int (8 : Int32))] [(.int (xc.toInt8.toInt32)), (.int (44 : Int32))])) t → Steps p.tables e below (s₁.setTop (entryFrame m #[(.ref rb), (.int xc), (.int (0 : Int32)), (.int (11 : Int32))] 6)) t := by
                    intro t k
                    refine pre23 t ?_
                    refine XS.icmpYes X0.here hx rfl (pc0 := 19) (pc' := 25) rfl (hb hby d11_19) rfl (feq hc19_8).2 (by decide) (by decide) ?_
                    show Steps p.tables e below (s₁.setTop (mkF m 25 #[.val (.ref rb), .val (.int xc), .val (.int (0 : Int32)), .val (.int (11 : Int32)), .val (.int (xc.toInt8.toInt32)), .val (.int (7 : Int32))] [])) _
                    refine XS.iinc X0.here hx rfl (hb hby d11_25) rfl (l' := #[.val (.ref rb), .val (.int xc), .val (.int (0 : Int32)), .val (.int (11 : Int32)), .val (.int (xc.toInt8.toInt32)), .val (.int (8 : Int32))]) rfl ?_
                    show Steps p.tables e below (s₁.setTop (mkF m 28 #[.val (.ref rb), .val (.int xc), .val (.int (0 : Int32)), .val (.int (11 : Int32)), .val (.int (xc.toInt8.toInt32)), .val (.int (8 : Int32))] [])) _
                    refine XS.goto X0.here hx rfl (pc0 := 28) (pc' := 7) rfl (hb hby d11_28) (by decide) (by decide) ?_
                    show Steps p.tables e below (s₁.setTop (mkF m 7 #[.val (.ref rb), .val (.int xc), .val (.int (0 : Int32)), .val (.int (11 : Int32)), .val (.int (xc.toInt8.toInt32)), .val (.int (8 : Int32))] [])) _
                    refine XS.iload X0.here hx rfl (hb hby d11_7) rfl ?_
                    show Steps p.tables e below (s₁.setTop (mkF m 9 #[.val (.ref rb), .val (.int xc), .val (.int (0 : Int32)), .val (.int (11 : Int32)), .val (.int (xc.toInt8.toInt32)), .val (.int (8 : Int32))] [(.int (8 : Int32))])) _
                    refine XS.iloadN X0.here hx rfl (hb hby d11_9) rfl ?_
                    show Steps p.tables e below (s₁.setTop (mkF m 10 #[.val (.ref rb), .val (.int xc), .val (.int (0 : Int32)), .val (.int (11 : Int32)), .val (.int (xc.toInt8.toInt32)), .val (.int (8 : Int32))] [(.int (11 : Int32)), (.int (8 : Int32))])) _
                    refine XS.icmpNo X0.here hx rfl (hb hby d11_10) rfl (tlt (show (8 : Int32) < (11 : Int32) from by decide)).2.1 ?_
                    show Steps p.tables e below (s₁.setTop (mkF m 13 #[.val (.ref rb), .val (.int xc), .val (.int (0 : Int32)), .val (.int (11 : Int32)), .val (.int (xc.toInt8.toInt32)), .val (.int (8 : Int32))] [])) _
                    refine XS.aloadN X0.here hx rfl (hb hby d11_13) rfl rfl ?_
                    show Steps p.tables e below (s₁.setTop (mkF m 14 #[.val (.ref rb), .val (.int xc), .val (.int (0 : Int32)), .val (.int (11 : Int32)), .val (.int (xc.toInt8.toInt32)), .val (.int (8 : Int32))] [(.ref rb)])) _
                    refine XS.iload X0.here hx rfl (hb hby d11_14) rfl ?_
                    show Steps p.tables e below (s₁.setTop (mkF m 16 #[.val (.ref rb), .val (.int xc), .val (.int (0 : Int32)), .val (.int (11 : Int32)), .val (.int (xc.toInt8.toInt32)), .val (.int (8 : Int32))] [(.int (8 : Int32)), (.ref rb)])) _
                    obtain ⟨c25, a25, q25, s25, m25, i25, u25⟩ := id VB
                    have hin25 := inb_of (j := (8 : Int32)) s25 ⟨by decide, by decide⟩
                    refine X0.baloadBytes hx (j := (8 : Int32)) (v := (.int (44 : Int32))) (by rw [e0]; exact a25.1) (State.isArrayOf_alike hZ.alike a25.2.1) a25.2.2 hin25 (i25.at hin25 rfl) (g := (mkF m 16 #[.val (.ref rb), .val (.int xc), .val (.int (0 : Int32)), .val (.int (11 : Int32)), .val (.int (xc.toInt8.toInt32)), .val (.int (8 : Int32))] [(.int (8 : Int32)), (.ref rb)])) rfl rfl (hb hby d11_16) _ ?_
                    show Steps p.tables e below (s₁.setTop (mkF m 17 #[.val (.ref rb), .val (.int xc), .val (.int (0 : Int32)), .val (.int (11 : Int32)), .val (.int (xc.toInt8.toInt32)), .val (.int (8 : Int32))] [(.int (44 : Int32))])) _
                    refine XS.iload X0.here hx rfl (hb hby d11_17) rfl ?_
                    show Steps p.tables e below (s₁.setTop (mkF m 19 #[.val (.ref rb), .val (.int xc), .val (.int (0 : Int32)), .val (.int (11 : Int32)), .val (.int (xc.toInt8.toInt32)), .val (.int (8 : Int32))] [(.int (xc.toInt8.toInt32)), (.int (44 : Int32))])) _
                    exact k
                  by_cases hc19_9 : (44 : Int32) = (xc.toInt8.toInt32)
                  · have pre27 : ∀ t, Steps p.tables e below (s₁.setTop (mkF m 24 #[.val (.ref rb), .val (.int xc), .val (.int (0 : Int32)), .val (.int (11 : Int32)), .val (.int (xc.toInt8.toInt32)), .val (.int (8 : Int32))] [(.int (8 : Int32))])) t → Steps p.tables e below (s₁.setTop (entryFrame m #[(.ref rb), (.int xc), (.int (0 : Int32)), (.int (11 : Int32))] 6)) t := by
                      intro t k
                      refine pre26 t ?_
                      refine XS.icmpNo X0.here hx rfl (hb hby d11_19) rfl (teq hc19_9).2 ?_
                      show Steps p.tables e below (s₁.setTop (mkF m 22 #[.val (.ref rb), .val (.int xc), .val (.int (0 : Int32)), .val (.int (11 : Int32)), .val (.int (xc.toInt8.toInt32)), .val (.int (8 : Int32))] [])) _
                      refine XS.iload X0.here hx rfl (hb hby d11_22) rfl ?_
                      show Steps p.tables e below (s₁.setTop (mkF m 24 #[.val (.ref rb), .val (.int xc), .val (.int (0 : Int32)), .val (.int (11 : Int32)), .val (.int (xc.toInt8.toInt32)), .val (.int (8 : Int32))] [(.int (8 : Int32))])) _
                      exact k
                    obtain ⟨fs, hr, hrun, hended, hW, hsame⟩ := X0.leave (v := some (.int (8 : Int32))) (fun h => by rw [Bd.returns] at h; cases h)
                    refine ⟨_, _, pre27 _ ?_, hrun, hended, _, _, rfl, ?_, ⟨_, rfl⟩, hW, hsame.mono (by decide) (by decide)⟩
                    · exact retI X0 hx Bd.returns (hb hby d11_24) hr
                    · show Q_rm_iocB Z rb xc kb h0 n0 _ s₁.heap _
                      rw [e0]
                      exact ⟨congrArg (fun z => some (Value.int z)) (show (8 : Int32) = (F_rm_iocB xc) from by rw [F_rm_iocB, if_neg hc19, if_neg hc19_2, if_neg hc19_3, if_neg hc19_4, if_neg hc19_5, if_neg hc19_6, if_neg hc19_7, if_neg hc19_8, if_pos hc19_9]), N0, rfl⟩
                  · have pre29 : ∀ t, Steps p.tables e below (s₁.setTop (mkF m 19 #[.val (.ref rb), .val (.int xc), .val (.int (0 : Int32)), .val (.int (11 : Int32)), .val (.int (xc.toInt8.toInt32)), .val (.int (9 : Int32))] [(.int (xc.toInt8.toInt32)), (.int (59 : Int32))])) t → Steps p.tables e below (s₁.setTop (entryFrame m #[(.ref rb), (.int xc), (.int (0 : Int32)), (.int (11 : Int32))] 6)) t := by
                      intro t k
                      refine pre26 t ?_
                      refine XS.icmpYes X0.here hx rfl (pc0 := 19) (pc' := 25) rfl (hb hby d11_19) rfl (feq hc19_9).2 (by decide) (by decide) ?_
                      show Steps p.tables e below (s₁.setTop (mkF m 25 #[.val (.ref rb), .val (.int xc), .val (.int (0 : Int32)), .val (.int (11 : Int32)), .val (.int (xc.toInt8.toInt32)), .val (.int (8 : Int32))] [])) _
                      refine XS.iinc X0.here hx rfl (hb hby d11_25) rfl (l' := #[.val (.ref rb), .val (.int xc), .val (.int (0 : Int32)), .val (.int (11 : Int32)), .val (.int (xc.toInt8.toInt32)), .val (.int (9 : Int32))]) rfl ?_
                      show Steps p.tables e below (s₁.setTop (mkF m 28 #[.val (.ref rb), .val (.int xc), .val (.int (0 : Int32)), .val (.int (11 : Int32)), .val (.int (xc.toInt8.toInt32)), .val (.int (9 : Int32))] [])) _
                      refine XS.goto X0.here hx rfl (pc0 := 28) (pc' := 7) rfl (hb hby d11_28) (by decide) (by decide) ?_
                      show Steps p.tables e below (s₁.setTop (mkF m 7 #[.val (.ref rb), .val (.int xc), .val (.int (0 : Int32)), .val (.int (11 : Int32)), .val (.int (xc.toInt8.toInt32)), .val (.int (9 : Int32))] [])) _
                      refine XS.iload X0.here hx rfl (hb hby d11_7) rfl ?_
                      show Steps p.tables e below (s₁.setTop (mkF m 9 #[.val (.ref rb), .val (.int xc), .val (.int (0 : Int32)), .val (.int (11 : Int32)), .val (.int (xc.toInt8.toInt32)), .val (.int (9 : Int32))] [(.int (9 : Int32))])) _
                      refine XS.iloadN X0.here hx rfl (hb hby d11_9) rfl ?_
                      show Steps p.tables e below (s₁.setTop (mkF m 10 #[.val (.ref rb), .val (.int xc), .val (.int (0 : Int32)), .val (.int (11 : Int32)), .val (.int (xc.toInt8.toInt32)), .val (.int (9 : Int32))] [(.int (11 : Int32)), (.int (9 : Int32))])) _
                      refine XS.icmpNo X0.here hx rfl (hb hby d11_10) rfl (tlt (show (9 : Int32) < (11 : Int32) from by decide)).2.1 ?_
                      show Steps p.tables e below (s₁.setTop (mkF m 13 #[.val (.ref rb), .val (.int xc), .val (.int (0 : Int32)), .val (.int (11 : Int32)), .val (.int (xc.toInt8.toInt32)), .val (.int (9 : Int32))] [])) _
                      refine XS.aloadN X0.here hx rfl (hb hby d11_13) rfl rfl ?_
                      show Steps p.tables e below (s₁.setTop (mkF m 14 #[.val (.ref rb), .val (.int xc), .val (.int (0 : Int32)), .val (.int (11 : Int32)), .val (.int (xc.toInt8.toInt32)), .val (.int (9 : Int32))] [(.ref rb)])) _
                      refine XS.iload X0.here hx rfl (hb hby d11_14) rfl ?_
                      show Steps p.tables e below (s₁.setTop (mkF m 16 #[.val (.ref rb), .val (.int xc), .val (.int (0 : Int32)), .val (.int (11 : Int32)), .val (.int (xc.toInt8.toInt32)), .val (.int (9 : Int32))] [(.int (9 : Int32)), (.ref rb)])) _
                      obtain ⟨c28, a28, q28, s28, m28, i28, u28⟩ := id VB
                      have hin28 := inb_of (j := (9 : Int32)) s28 ⟨by decide, by decide⟩
                      refine X0.baloadBytes hx (j := (9 : Int32)) (v := (.int (59 : Int32))) (by rw [e0]; exact a28.1) (State.isArrayOf_alike hZ.alike a28.2.1) a28.2.2 hin28 (i28.at hin28 rfl) (g := (mkF m 16 #[.val (.ref rb), .val (.int xc), .val (.int (0 : Int32)), .val (.int (11 : Int32)), .val (.int (xc.toInt8.toInt32)), .val (.int (9 : Int32))] [(.int (9 : Int32)), (.ref rb)])) rfl rfl (hb hby d11_16) _ ?_
                      show Steps p.tables e below (s₁.setTop (mkF m 17 #[.val (.ref rb), .val (.int xc), .val (.int (0 : Int32)), .val (.int (11 : Int32)), .val (.int (xc.toInt8.toInt32)), .val (.int (9 : Int32))] [(.int (59 : Int32))])) _
                      refine XS.iload X0.here hx rfl (hb hby d11_17) rfl ?_
                      show Steps p.tables e below (s₁.setTop (mkF m 19 #[.val (.ref rb), .val (.int xc), .val (.int (0 : Int32)), .val (.int (11 : Int32)), .val (.int (xc.toInt8.toInt32)), .val (.int (9 : Int32))] [(.int (xc.toInt8.toInt32)), (.int (59 : Int32))])) _
                      exact k
                    by_cases hc19_10 : (59 : Int32) = (xc.toInt8.toInt32)
                    · have pre30 : ∀ t, Steps p.tables e below (s₁.setTop (mkF m 24 #[.val (.ref rb), .val (.int xc), .val (.int (0 : Int32)), .val (.int (11 : Int32)), .val (.int (xc.toInt8.toInt32)), .val (.int (9 : Int32))] [(.int (9 : Int32))])) t → Steps p.tables e below (s₁.setTop (entryFrame m #[(.ref rb), (.int xc), (.int (0 : Int32)), (.int (11 : Int32))] 6)) t := by
                        intro t k
                        refine pre29 t ?_
                        refine XS.icmpNo X0.here hx rfl (hb hby d11_19) rfl (teq hc19_10).2 ?_
                        show Steps p.tables e below (s₁.setTop (mkF m 22 #[.val (.ref rb), .val (.int xc), .val (.int (0 : Int32)), .val (.int (11 : Int32)), .val (.int (xc.toInt8.toInt32)), .val (.int (9 : Int32))] [])) _
                        refine XS.iload X0.here hx rfl (hb hby d11_22) rfl ?_
                        show Steps p.tables e below (s₁.setTop (mkF m 24 #[.val (.ref rb), .val (.int xc), .val (.int (0 : Int32)), .val (.int (11 : Int32)), .val (.int (xc.toInt8.toInt32)), .val (.int (9 : Int32))] [(.int (9 : Int32))])) _
                        exact k
                      obtain ⟨fs, hr, hrun, hended, hW, hsame⟩ := X0.leave (v := some (.int (9 : Int32))) (fun h => by rw [Bd.returns] at h; cases h)
                      refine ⟨_, _, pre30 _ ?_, hrun, hended, _, _, rfl, ?_, ⟨_, rfl⟩, hW, hsame.mono (by decide) (by decide)⟩
                      · exact retI X0 hx Bd.returns (hb hby d11_24) hr
                      · show Q_rm_iocB Z rb xc kb h0 n0 _ s₁.heap _
                        rw [e0]
                        exact ⟨congrArg (fun z => some (Value.int z)) (show (9 : Int32) = (F_rm_iocB xc) from by rw [F_rm_iocB, if_neg hc19, if_neg hc19_2, if_neg hc19_3, if_neg hc19_4, if_neg hc19_5, if_neg hc19_6, if_neg hc19_7, if_neg hc19_8, if_neg hc19_9, if_pos hc19_10]), N0, rfl⟩
                    · have pre32 : ∀ t, Steps p.tables e below (s₁.setTop (mkF m 19 #[.val (.ref rb), .val (.int xc), .val (.int (0 : Int32)), .val (.int (11 : Int32)), .val (.int (xc.toInt8.toInt32)), .val (.int (10 : Int32))] [(.int (xc.toInt8.toInt32)), (.int (61 : Int32))])) t → Steps p.tables e below (s₁.setTop (entryFrame m #[(.ref rb), (.int xc), (.int (0 : Int32)), (.int (11 : Int32))] 6)) t := by
                        intro t k
                        refine pre29 t ?_
                        refine XS.icmpYes X0.here hx rfl (pc0 := 19) (pc' := 25) rfl (hb hby d11_19) rfl (feq hc19_10).2 (by decide) (by decide) ?_
                        show Steps p.tables e below (s₁.setTop (mkF m 25 #[.val (.ref rb), .val (.int xc), .val (.int (0 : Int32)), .val (.int (11 : Int32)), .val (.int (xc.toInt8.toInt32)), .val (.int (9 : Int32))] [])) _
                        refine XS.iinc X0.here hx rfl (hb hby d11_25) rfl (l' := #[.val (.ref rb), .val (.int xc), .val (.int (0 : Int32)), .val (.int (11 : Int32)), .val (.int (xc.toInt8.toInt32)), .val (.int (10 : Int32))]) rfl ?_
                        show Steps p.tables e below (s₁.setTop (mkF m 28 #[.val (.ref rb), .val (.int xc), .val (.int (0 : Int32)), .val (.int (11 : Int32)), .val (.int (xc.toInt8.toInt32)), .val (.int (10 : Int32))] [])) _
                        refine XS.goto X0.here hx rfl (pc0 := 28) (pc' := 7) rfl (hb hby d11_28) (by decide) (by decide) ?_
                        show Steps p.tables e below (s₁.setTop (mkF m 7 #[.val (.ref rb), .val (.int xc), .val (.int (0 : Int32)), .val (.int (11 : Int32)), .val (.int (xc.toInt8.toInt32)), .val (.int (10 : Int32))] [])) _
                        refine XS.iload X0.here hx rfl (hb hby d11_7) rfl ?_
                        show Steps p.tables e below (s₁.setTop (mkF m 9 #[.val (.ref rb), .val (.int xc), .val (.int (0 : Int32)), .val (.int (11 : Int32)), .val (.int (xc.toInt8.toInt32)), .val (.int (10 : Int32))] [(.int (10 : Int32))])) _
                        refine XS.iloadN X0.here hx rfl (hb hby d11_9) rfl ?_
                        show Steps p.tables e below (s₁.setTop (mkF m 10 #[.val (.ref rb), .val (.int xc), .val (.int (0 : Int32)), .val (.int (11 : Int32)), .val (.int (xc.toInt8.toInt32)), .val (.int (10 : Int32))] [(.int (11 : Int32)), (.int (10 : Int32))])) _
                        refine XS.icmpNo X0.here hx rfl (hb hby d11_10) rfl (tlt (show (10 : Int32) < (11 : Int32) from by decide)).2.1 ?_
                        show Steps p.tables e below (s₁.setTop (mkF m 13 #[.val (.ref rb), .val (.int xc), .val (.int (0 : Int32)), .val (.int (11 : Int32)), .val (.int (xc.toInt8.toInt32)), .val (.int (10 : Int32))] [])) _
                        refine XS.aloadN X0.here hx rfl (hb hby d11_13) rfl rfl ?_
                        show Steps p.tables e below (s₁.setTop (mkF m 14 #[.val (.ref rb), .val (.int xc), .val (.int (0 : Int32)), .val (.int (11 : Int32)), .val (.int (xc.toInt8.toInt32)), .val (.int (10 : Int32))] [(.ref rb)])) _
                        refine XS.iload X0.here hx rfl (hb hby d11_14) rfl ?_
                        show Steps p.tables e below (s₁.setTop (mkF m 16 #[.val (.ref rb), .val (.int xc), .val (.int (0 : Int32)), .val (.int (11 : Int32)), .val (.int (xc.toInt8.toInt32)), .val (.int (10 : Int32))] [(.int (10 : Int32)), (.ref rb)])) _
                        obtain ⟨c31, a31, q31, s31, m31, i31, u31⟩ := id VB
                        have hin31 := inb_of (j := (10 : Int32)) s31 ⟨by decide, by decide⟩
                        refine X0.baloadBytes hx (j := (10 : Int32)) (v := (.int (61 : Int32))) (by rw [e0]; exact a31.1) (State.isArrayOf_alike hZ.alike a31.2.1) a31.2.2 hin31 (i31.at hin31 rfl) (g := (mkF m 16 #[.val (.ref rb), .val (.int xc), .val (.int (0 : Int32)), .val (.int (11 : Int32)), .val (.int (xc.toInt8.toInt32)), .val (.int (10 : Int32))] [(.int (10 : Int32)), (.ref rb)])) rfl rfl (hb hby d11_16) _ ?_
                        show Steps p.tables e below (s₁.setTop (mkF m 17 #[.val (.ref rb), .val (.int xc), .val (.int (0 : Int32)), .val (.int (11 : Int32)), .val (.int (xc.toInt8.toInt32)), .val (.int (10 : Int32))] [(.int (61 : Int32))])) _
                        refine XS.iload X0.here hx rfl (hb hby d11_17) rfl ?_
                        show Steps p.tables e below (s₁.setTop (mkF m 19 #[.val (.ref rb), .val (.int xc), .val (.int (0 : Int32)), .val (.int (11 : Int32)), .val (.int (xc.toInt8.toInt32)), .val (.int (10 : Int32))] [(.int (xc.toInt8.toInt32)), (.int (61 : Int32))])) _
                        exact k
                      by_cases hc19_11 : (61 : Int32) = (xc.toInt8.toInt32)
                      · have pre33 : ∀ t, Steps p.tables e below (s₁.setTop (mkF m 24 #[.val (.ref rb), .val (.int xc), .val (.int (0 : Int32)), .val (.int (11 : Int32)), .val (.int (xc.toInt8.toInt32)), .val (.int (10 : Int32))] [(.int (10 : Int32))])) t → Steps p.tables e below (s₁.setTop (entryFrame m #[(.ref rb), (.int xc), (.int (0 : Int32)), (.int (11 : Int32))] 6)) t := by
                          intro t k
                          refine pre32 t ?_
                          refine XS.icmpNo X0.here hx rfl (hb hby d11_19) rfl (teq hc19_11).2 ?_
                          show Steps p.tables e below (s₁.setTop (mkF m 22 #[.val (.ref rb), .val (.int xc), .val (.int (0 : Int32)), .val (.int (11 : Int32)), .val (.int (xc.toInt8.toInt32)), .val (.int (10 : Int32))] [])) _
                          refine XS.iload X0.here hx rfl (hb hby d11_22) rfl ?_
                          show Steps p.tables e below (s₁.setTop (mkF m 24 #[.val (.ref rb), .val (.int xc), .val (.int (0 : Int32)), .val (.int (11 : Int32)), .val (.int (xc.toInt8.toInt32)), .val (.int (10 : Int32))] [(.int (10 : Int32))])) _
                          exact k
                        obtain ⟨fs, hr, hrun, hended, hW, hsame⟩ := X0.leave (v := some (.int (10 : Int32))) (fun h => by rw [Bd.returns] at h; cases h)
                        refine ⟨_, _, pre33 _ ?_, hrun, hended, _, _, rfl, ?_, ⟨_, rfl⟩, hW, hsame.mono (by decide) (by decide)⟩
                        · exact retI X0 hx Bd.returns (hb hby d11_24) hr
                        · show Q_rm_iocB Z rb xc kb h0 n0 _ s₁.heap _
                          rw [e0]
                          exact ⟨congrArg (fun z => some (Value.int z)) (show (10 : Int32) = (F_rm_iocB xc) from by rw [F_rm_iocB, if_neg hc19, if_neg hc19_2, if_neg hc19_3, if_neg hc19_4, if_neg hc19_5, if_neg hc19_6, if_neg hc19_7, if_neg hc19_8, if_neg hc19_9, if_neg hc19_10, if_pos hc19_11]), N0, rfl⟩
                      · have pre34 : ∀ t, Steps p.tables e below (s₁.setTop (mkF m 32 #[.val (.ref rb), .val (.int xc), .val (.int (0 : Int32)), .val (.int (11 : Int32)), .val (.int (xc.toInt8.toInt32)), .val (.int (11 : Int32))] [(.int (-1 : Int32))])) t → Steps p.tables e below (s₁.setTop (entryFrame m #[(.ref rb), (.int xc), (.int (0 : Int32)), (.int (11 : Int32))] 6)) t := by
                          intro t k
                          refine pre32 t ?_
                          refine XS.icmpYes X0.here hx rfl (pc0 := 19) (pc' := 25) rfl (hb hby d11_19) rfl (feq hc19_11).2 (by decide) (by decide) ?_
                          show Steps p.tables e below (s₁.setTop (mkF m 25 #[.val (.ref rb), .val (.int xc), .val (.int (0 : Int32)), .val (.int (11 : Int32)), .val (.int (xc.toInt8.toInt32)), .val (.int (10 : Int32))] [])) _
                          refine XS.iinc X0.here hx rfl (hb hby d11_25) rfl (l' := #[.val (.ref rb), .val (.int xc), .val (.int (0 : Int32)), .val (.int (11 : Int32)), .val (.int (xc.toInt8.toInt32)), .val (.int (11 : Int32))]) rfl ?_
                          show Steps p.tables e below (s₁.setTop (mkF m 28 #[.val (.ref rb), .val (.int xc), .val (.int (0 : Int32)), .val (.int (11 : Int32)), .val (.int (xc.toInt8.toInt32)), .val (.int (11 : Int32))] [])) _
                          refine XS.goto X0.here hx rfl (pc0 := 28) (pc' := 7) rfl (hb hby d11_28) (by decide) (by decide) ?_
                          show Steps p.tables e below (s₁.setTop (mkF m 7 #[.val (.ref rb), .val (.int xc), .val (.int (0 : Int32)), .val (.int (11 : Int32)), .val (.int (xc.toInt8.toInt32)), .val (.int (11 : Int32))] [])) _
                          refine XS.iload X0.here hx rfl (hb hby d11_7) rfl ?_
                          show Steps p.tables e below (s₁.setTop (mkF m 9 #[.val (.ref rb), .val (.int xc), .val (.int (0 : Int32)), .val (.int (11 : Int32)), .val (.int (xc.toInt8.toInt32)), .val (.int (11 : Int32))] [(.int (11 : Int32))])) _
                          refine XS.iloadN X0.here hx rfl (hb hby d11_9) rfl ?_
                          show Steps p.tables e below (s₁.setTop (mkF m 10 #[.val (.ref rb), .val (.int xc), .val (.int (0 : Int32)), .val (.int (11 : Int32)), .val (.int (xc.toInt8.toInt32)), .val (.int (11 : Int32))] [(.int (11 : Int32)), (.int (11 : Int32))])) _
                          refine XS.icmpYes X0.here hx rfl (pc0 := 10) (pc' := 31) rfl (hb hby d11_10) rfl (flt (show ¬ ((11 : Int32) < (11 : Int32)) from by decide)).2.1 (by decide) (by decide) ?_
                          show Steps p.tables e below (s₁.setTop (mkF m 31 #[.val (.ref rb), .val (.int xc), .val (.int (0 : Int32)), .val (.int (11 : Int32)), .val (.int (xc.toInt8.toInt32)), .val (.int (11 : Int32))] [])) _
                          refine XS.iconst X0.here hx rfl (hb hby d11_31) ?_
                          show Steps p.tables e below (s₁.setTop (mkF m 32 #[.val (.ref rb), .val (.int xc), .val (.int (0 : Int32)), .val (.int (11 : Int32)), .val (.int (xc.toInt8.toInt32)), .val (.int (11 : Int32))] [(.int (-1 : Int32))])) _
                          exact k
                        obtain ⟨fs, hr, hrun, hended, hW, hsame⟩ := X0.leave (v := some (.int (-1 : Int32))) (fun h => by rw [Bd.returns] at h; cases h)
                        refine ⟨_, _, pre34 _ ?_, hrun, hended, _, _, rfl, ?_, ⟨_, rfl⟩, hW, hsame.mono (by decide) (by decide)⟩
                        · exact retI X0 hx Bd.returns (hb hby d11_32) hr
                        · show Q_rm_iocB Z rb xc kb h0 n0 _ s₁.heap _
                          rw [e0]
                          exact ⟨congrArg (fun z => some (Value.int z)) (show (-1 : Int32) = (F_rm_iocB xc) from by rw [F_rm_iocB, if_neg hc19, if_neg hc19_2, if_neg hc19_3, if_neg hc19_4, if_neg hc19_5, if_neg hc19_6, if_neg hc19_7, if_neg hc19_8, if_neg hc19_9, if_neg hc19_10, if_neg hc19_11]), N0, rfl⟩
def F_rm_lioB (xc : Int32) : Int32 := (if (F_rm_can xc) = (0 : Int32) then (-1 : Int32) else (F_rm_iocB xc))
theorem ef_rm_lioB (m : MethodId) (rb : Addr) (xc : Int32) : entryFrame m #[(.ref rb), (.int xc), (.int (0 : Int32)), (.int (11 : Int32))] 4 = mkF m 0 #[.val (.ref rb), .val (.int xc), .val (.int (0 : Int32)), .val (.int (11 : Int32))] [] := by first | (simp [entryFrame, mkF, argsToLocals, Value.category]; done) | rfl
def Q_rm_lioB (Z : State) (rb : Addr) (xc : Int32) (kb : ClassId) (h0 : Heap) (n0 : Nat) (v : Option Value) (h : Heap) (L : List Loc) : Prop := v = some (.int (F_rm_lioB xc)) ∧ Fr n0 L ∧ h = h0
set_option maxRecDepth 65536 in
set_option maxHeartbeats 40000000 in
theorem rm_lioB (l : Launch) (Z : State) (a0 : Array Value) (hw : ∀ d ∈ tables_1, d.before a0 Z = true) (ws : List Jvm.Cond) (rb : Addr) (xc : Int32) (kb : ClassId) (h0 : Heap) (n0 : Nat) (Z0 : n0 ≤ h0.size) (VB : Arv Z h0 rb kb .byte (11 : Int32) [(.int (33 : Int32)), (.int (36 : Int32)), (.int (38 : Int32)), (.int (39 : Int32)), (.int (40 : Int32)), (.int (41 : Int32)), (.int (42 : Int32)), (.int (43 : Int32)), (.int (44 : Int32)), (.int (59 : Int32)), (.int (61 : Int32))] (.int (0 : Int32))) :
    MetFree l (⟨"java/lang/StringLatin1", "indexOf", "([BIII)I"⟩ : MethodName) (head1 (Jvm.Cond.code (⟨"java/lang/StringLatin1", "indexOf", "([BIII)I"⟩ : MethodName) jdk_43_method_22_code 4 (some .int) :: ws) ({ frames := 1, cells := 0, slots := 0, locals := 17 } : Room)) (fun a U => a = #[(.ref rb), (.int xc), (.int (0 : Int32)), (.int (11 : Int32))] ∧ Z.Warmed39 U.vm ∧ U.heap = h0) (fun _ _ _ _ _ => True) (fun _ U o U' => ∃ v L, o = .returned v ∧ Q_rm_lioB Z rb xc kb h0 n0 v U'.heap L ∧ FrameEnd U o U' L ({ frames := 1, cells := 0, slots := 0, locals := 17 } : Room).cells ({ frames := 1, cells := 0, slots := 0, locals := 17 } : Room).slots) := by
  refine MetFree.of_bodySF (plainFor_of_name pn0) hisR ?_
  intro p e s m args below meth c s₁ Bd hml0 hP hK
  obtain ⟨rfl, hZ, hh⟩ := hP
  have hx := Bd.exec
  have hby := Bd.bytes
  have hml : c.maxLocals = 4 := hml0
  have hown : s.vm.findClass "java/lang/StringLatin1" = some m.cls := findClass_of_methodNamed Bd.named
  have hnm := (name_of_methodNamed Bd.named Bd.method).1
  have X0 : Stand p l e ({ frames := 1, cells := 0, slots := 0, locals := 17 } : Room) s m #[(.ref rb), (.int xc), (.int (0 : Int32)), (.int (11 : Int32))] below meth c s₁ [] 0 0 := Stand.of_body Bd
  have e0 : s₁.heap = h0 := by rw [← hh, Bd.state]; rfl
  have N0 := Fr.nil n0
  have pre0 : ∀ t, Steps p.tables e below (s₁.setTop (mkF m 0 #[.val (.ref rb), .val (.int xc), .val (.int (0 : Int32)), .val (.int (11 : Int32))] [])) t → Steps p.tables e below (s₁.setTop (entryFrame m #[(.ref rb), (.int xc), (.int (0 : Int32)), (.int (11 : Int32))] 4)) t := fun t k => castTop (ef_rm_lioB m rb xc) k
  have pre1 : ∀ t, Steps p.tables e below (s₁.setTop (mkF m 1 #[.val (.ref rb), .val (.int xc), .val (.int (0 : Int32)), .val (.int (11 : Int32))] [(.int xc)])) t → Steps p.tables e below (s₁.setTop (entryFrame m #[(.ref rb), (.int xc), (.int (0 : Int32)), (.int (11 : Int32))] 4)) t := by
    intro t k
    refine pre0 t ?_
    refine XS.iloadN X0.here hx rfl (hb hby d7_0) rfl ?_
    show Steps p.tables e below (s₁.setTop (mkF m 1 #[.val (.ref rb), .val (.int xc), .val (.int (0 : Int32)), .val (.int (11 : Int32))] [(.int xc)])) _
    exact k
  obtain ⟨_, _, ⟨T2, L2, k2, n2⟩, -, X2, ⟨Lc2, hQ2, l2, y2, z2⟩, st2⟩ := Jvm.LawKit.callS X0 hx (y := (⟨"java/lang/StringLatin1", "canEncode", "(I)Z"⟩ : MethodName)) hown (mvT hZ (hw _ (List.mem_of_getElem? (i := 44) rfl))) (mvT hZ (hw _ (List.mem_of_getElem? (i := 45) rfl))) (mvT hZ (hw _ (List.mem_of_getElem? (i := 42) rfl))) (mvT hZ (hw _ (List.mem_of_getElem? (i := 46) rfl))) (by decide) (backOf (W := 0) (rm_can l Z a0 hw [] xc h0 n0 Z0 ) hZ (hw _ (List.mem_of_getElem? (i := 46) rfl)) (hw _ (List.mem_of_getElem? (i := 42) rfl)) (by decide) (by decide)) (g := (mkF m 1 #[.val (.ref rb), .val (.int xc), .val (.int (0 : Int32)), .val (.int (11 : Int32))] [(.int xc)])) rfl (by rw [hml]; rfl) (argsL := [(.int xc)]) (rest := []) (lenOf pd0 rfl) rfl (by show 2 * 0 + _ ≤ _; exact Nat.le_of_eq rfl) (hb hby d7_1) (fun _ _ => ⟨rfl, e0, (by decide : 0 + 0 ≤ _), (by decide : 0 + 0 ≤ _)⟩)
  dsimp only [Pt.U, Pt.locs, Pt.cells, Pt.slots] at X2 l2 y2 z2 st2 hQ2
  subst y2 z2
  obtain ⟨rfl, M2, e2⟩ := hQ2
  have N2 : Fr n0 L2 := by rw [l2]; exact Fr.app N0 M2
  clear l2
  have X2 : Stand p l e _ _ m _ below meth c T2 _ 0 0 := X2
  have pre3 : ∀ t, Steps p.tables e below (T2.setTop (mkF m 4 #[.val (.ref rb), .val (.int xc), .val (.int (0 : Int32)), .val (.int (11 : Int32))] [(.int (F_rm_can xc))])) t → Steps p.tables e below (s₁.setTop (entryFrame m #[(.ref rb), (.int xc), (.int (0 : Int32)), (.int (11 : Int32))] 4)) t := fun t k => pre1 t (st2 t k)
  by_cases hc4 : (F_rm_can xc) = (0 : Int32)
  · have pre4 : ∀ t, Steps p.tables e below (T2.setTop (mkF m 8 #[.val (.ref rb), .val (.int xc), .val (.int (0 : Int32)), .val (.int (11 : Int32))] [(.int (-1 : Int32))])) t → Steps p.tables e below (s₁.setTop (entryFrame m #[(.ref rb), (.int xc), (.int (0 : Int32)), (.int (11 : Int32))] 4)) t := by
      intro t k
      refine pre3 t ?_
      refine XS.ifNo X2.here hx rfl (hb hby d7_4) rfl ((if0 _ _).trans (teq hc4).2) ?_
      show Steps p.tables e below (T2.setTop (mkF m 7 #[.val (.ref rb), .val (.int xc), .val (.int (0 : Int32)), .val (.int (11 : Int32))] [])) _
      refine XS.iconst X2.here hx rfl (hb hby d7_7) ?_
      show Steps p.tables e below (T2.setTop (mkF m 8 #[.val (.ref rb), .val (.int xc), .val (.int (0 : Int32)), .val (.int (11 : Int32))] [(.int (-1 : Int32))])) _
      exact k
    obtain ⟨fs, hr, hrun, hended, hW, hsame⟩ := X2.leave (v := some (.int (-1 : Int32))) (fun h => by rw [Bd.returns] at h; cases h)
    refine ⟨_, _, pre4 _ ?_, hrun, hended, _, _, rfl, ?_, ⟨_, rfl⟩, hW, hsame.mono (by decide) (by decide)⟩
    · exact retI X2 hx Bd.returns (hb hby d7_8) hr
    · show Q_rm_lioB Z rb xc kb h0 n0 _ T2.heap _
      rw [e2]
      exact ⟨congrArg (fun z => some (Value.int z)) (show (-1 : Int32) = (F_rm_lioB xc) from by rw [F_rm_lioB, if_pos hc4]), N2, rfl⟩
  · have pre5 : ∀ t, Steps p.tables e below (T2.setTop (mkF m 11 #[.val (.ref rb), .val (.int xc), .val (.int (0 : Int32)), .val (.int (11 : Int32))] [(.int (0 : Int32)), (.int (0 : Int32))])) t → Steps p.tables e below (s₁.setTop (entryFrame m #[(.ref rb), (.int xc), (.int (0 : Int32)), (.int (11 : Int32))] 4)) t := by
      intro t k
      refine pre3 t ?_
      refine XS.ifYes X2.here hx rfl (pc0 := 4) (pc' := 9) rfl (hb hby d7_4) rfl ((if0 _ _).trans (feq hc4).2) (by decide) (by decide) ?_
      show Steps p.tables e below (T2.setTop (mkF m 9 #[.val (.ref rb), .val (.int xc), .val (.int (0 : Int32)), .val (.int (11 : Int32))] [])) _
      refine XS.iloadN X2.here hx rfl (hb hby d7_9) rfl ?_
      show Steps p.tables e below (T2.setTop (mkF m 10 #[.val (.ref rb), .val (.int xc), .val (.int (0 : Int32)), .val (.int (11 : Int32))] [(.int (0 : Int32))])) _
      refine XS.iconst X2.here hx rfl (hb hby d7_10) ?_
      show Steps p.tables e below (T2.setTop (mkF m 11 #[.val (.ref rb), .val (.int xc), .val (.int (0 : Int32)), .val (.int (11 : Int32))] [(.int (0 : Int32)), (.int (0 : Int32))])) _
      exact k
    obtain ⟨_, _, ⟨T6, L6, k6, n6⟩, -, X6, ⟨Lc6, hQ6, l6, y6, z6⟩, st6⟩ := Jvm.LawKit.callS X2 hx (y := (⟨"java/lang/Math", "max", "(II)I"⟩ : MethodName)) hown (mvT hZ (hw _ (List.mem_of_getElem? (i := 47) rfl))) (mvT hZ (hw _ (List.mem_of_getElem? (i := 48) rfl))) (mvT hZ (hw _ (List.mem_of_getElem? (i := 49) rfl))) (mvT hZ (hw _ (List.mem_of_getElem? (i := 50) rfl))) (by decide) (backOf (W := 0) (rm_max l Z a0 hw []  h0 n0 Z0 ) hZ (hw _ (List.mem_of_getElem? (i := 50) rfl)) (hw _ (List.mem_of_getElem? (i := 49) rfl)) (by decide) (by decide)) (g := (mkF m 11 #[.val (.ref rb), .val (.int xc), .val (.int (0 : Int32)), .val (.int (11 : Int32))] [(.int (0 : Int32)), (.int (0 : Int32))])) rfl (by rw [hml]; rfl) (argsL := [(.int (0 : Int32)), (.int (0 : Int32))]) (rest := []) (lenOf pd1 rfl) rfl (by show 2 * 0 + _ ≤ _; exact Nat.le_of_eq rfl) (hb hby d7_11) (fun _ _ => ⟨rfl, e2, (by decide : 0 + 0 ≤ _), (by decide : 0 + 0 ≤ _)⟩)
    dsimp only [Pt.U, Pt.locs, Pt.cells, Pt.slots] at X6 l6 y6 z6 st6 hQ6
    subst y6 z6
    obtain ⟨rfl, M6, e6⟩ := hQ6
    have N6 : Fr n0 L6 := by rw [l6]; exact Fr.app N2 M6
    clear l6
    have X6 : Stand p l e _ _ m _ below meth c T6 _ 0 0 := X6
    have pre7 : ∀ t, Steps p.tables e below (T6.setTop (mkF m 14 #[.val (.ref rb), .val (.int xc), .val (.int (0 : Int32)), .val (.int (11 : Int32))] [(.int (0 : Int32))])) t → Steps p.tables e below (s₁.setTop (entryFrame m #[(.ref rb), (.int xc), (.int (0 : Int32)), (.int (11 : Int32))] 4)) t := fun t k => pre5 t (st6 t k)
    have pre9 : ∀ t, Steps p.tables e below (T6.setTop (mkF m 18 #[.val (.ref rb), .val (.int xc), .val (.int (0 : Int32)), .val (.int (11 : Int32))] [(.int (11 : Int32)), (.int (11 : Int32))])) t → Steps p.tables e below (s₁.setTop (entryFrame m #[(.ref rb), (.int xc), (.int (0 : Int32)), (.int (11 : Int32))] 4)) t := by
      intro t k
      refine pre7 t ?_
      refine XS.istoreN X6.here hx rfl (hb hby d7_14) rfl (l' := #[.val (.ref rb), .val (.int xc), .val (.int (0 : Int32)), .val (.int (11 : Int32))]) rfl ?_
      show Steps p.tables e below (T6.setTop (mkF m 15 #[.val (.ref rb), .val (.int xc), .val (.int (0 : Int32)), .val (.int (11 : Int32))] [])) _
      refine XS.iloadN X6.here hx rfl (hb hby d7_15) rfl ?_
      show Steps p.tables e below (T6.setTop (mkF m 16 #[.val (.ref rb), .val (.int xc), .val (.int (0 : Int32)), .val (.int (11 : Int32))] [(.int (11 : Int32))])) _
      refine XS.aloadN X6.here hx rfl (hb hby d7_16) rfl rfl ?_
      show Steps p.tables e below (T6.setTop (mkF m 17 #[.val (.ref rb), .val (.int xc), .val (.int (0 : Int32)), .val (.int (11 : Int32))] [(.ref rb), (.int (11 : Int32))])) _
      obtain ⟨c8, a8, q8, s8, m8, i8, u8⟩ := id VB
      refine X6.arraylength hx (by rw [e6]; exact a8.1) (State.isArrayOf_alike hZ.alike a8.2.1) (g := (mkF m 17 #[.val (.ref rb), .val (.int xc), .val (.int (0 : Int32)), .val (.int (11 : Int32))] [(.ref rb), (.int (11 : Int32))])) rfl rfl (hb hby d7_17) _ ?_
      rw [len_of s8 m8]
      show Steps p.tables e below (T6.setTop (mkF m 18 #[.val (.ref rb), .val (.int xc), .val (.int (0 : Int32)), .val (.int (11 : Int32))] [(.int (11 : Int32)), (.int (11 : Int32))])) _
      exact k
    obtain ⟨_, _, ⟨T10, L10, k10, n10⟩, -, X10, ⟨Lc10, hQ10, l10, y10, z10⟩, st10⟩ := Jvm.LawKit.callS X6 hx (y := (⟨"java/lang/Math", "min", "(II)I"⟩ : MethodName)) hown (mvT hZ (hw _ (List.mem_of_getElem? (i := 51) rfl))) (mvT hZ (hw _ (List.mem_of_getElem? (i := 52) rfl))) (mvT hZ (hw _ (List.mem_of_getElem? (i := 49) rfl))) (mvT hZ (hw _ (List.mem_of_getElem? (i := 53) rfl))) (by decide) (backOf (W := 0) (rm_minB l Z a0 hw []  h0 n0 Z0 ) hZ (hw _ (List.mem_of_getElem? (i := 53) rfl)) (hw _ (List.mem_of_getElem? (i := 49) rfl)) (by decide) (by decide)) (g := (mkF m 18 #[.val (.ref rb), .val (.int xc), .val (.int (0 : Int32)), .val (.int (11 : Int32))] [(.int (11 : Int32)), (.int (11 : Int32))])) rfl (by rw [hml]; rfl) (argsL := [(.int (11 : Int32)), (.int (11 : Int32))]) (rest := []) (lenOf pd1 rfl) rfl (by show 2 * 0 + _ ≤ _; exact Nat.le_of_eq rfl) (hb hby d7_18) (fun _ _ => ⟨rfl, e6, (by decide : 0 + 0 ≤ _), (by decide : 0 + 0 ≤ _)⟩)
    dsimp only [Pt.U, Pt.locs, Pt.cells, Pt.slots] at X10 l10 y10 z10 st10 hQ10
    subst y10 z10
    obtain ⟨rfl, M10, e10⟩ := hQ10
    have N10 : Fr n0 L10 := by rw [l10]; exact Fr.app N6 M10
    clear l10
    have X10 : Stand p l e _ _ m _ below meth c T10 _ 0 0 := X10
    have pre11 : ∀ t, Steps p.tables e below (T10.setTop (mkF m 21 #[.val (.ref rb), .val (.int xc), .val (.int (0 : Int32)), .val (.int (11 : Int32))] [(.int (11 : Int32))])) t → Steps p.tables e below (s₁.setTop (entryFrame m #[(.ref rb), (.int xc), (.int (0 : Int32)), (.int (11 : Int32))] 4)) t := fun t k => pre9 t (st10 t k)
    have pre12 : ∀ t, Steps p.tables e below (T10.setTop (mkF m 33 #[.val (.ref rb), .val (.int xc), .val (.int (0 : Int32)), .val (.int (11 : Int32))] [(.int (11 : Int32)), (.int (0 : Int32)), (.int xc), (.ref rb)])) t → Steps p.tables e below (s₁.setTop (entryFrame m #[(.ref rb), (.int xc), (.int (0 : Int32)), (.int (11 : Int32))] 4)) t := by
      intro t k
      refine pre11 t ?_
      refine XS.istoreN X10.here hx rfl (hb hby d7_21) rfl (l' := #[.val (.ref rb), .val (.int xc), .val (.int (0 : Int32)), .val (.int (11 : Int32))]) rfl ?_
      show Steps p.tables e below (T10.setTop (mkF m 22 #[.val (.ref rb), .val (.int xc), .val (.int (0 : Int32)), .val (.int (11 : Int32))] [])) _
      refine XS.iloadN X10.here hx rfl (hb hby d7_22) rfl ?_
      show Steps p.tables e below (T10.setTop (mkF m 23 #[.val (.ref rb), .val (.int xc), .val (.int (0 : Int32)), .val (.int (11 : Int32))] [(.int (0 : Int32))])) _
      refine XS.iloadN X10.here hx rfl (hb hby d7_23) rfl ?_
      show Steps p.tables e below (T10.setTop (mkF m 24 #[.val (.ref rb), .val (.int xc), .val (.int (0 : Int32)), .val (.int (11 : Int32))] [(.int (11 : Int32)), (.int (0 : Int32))])) _
      refine XS.icmpYes X10.here hx rfl (pc0 := 24) (pc' := 29) rfl (hb hby d7_24) rfl (tlt (show (0 : Int32) < (11 : Int32) from by decide)).1 (by decide) (by decide) ?_
      show Steps p.tables e below (T10.setTop (mkF m 29 #[.val (.ref rb), .val (.int xc), .val (.int (0 : Int32)), .val (.int (11 : Int32))] [])) _
      refine XS.aloadN X10.here hx rfl (hb hby d7_29) rfl rfl ?_
      show Steps p.tables e below (T10.setTop (mkF m 30 #[.val (.ref rb), .val (.int xc), .val (.int (0 : Int32)), .val (.int (11 : Int32))] [(.ref rb)])) _
      refine XS.iloadN X10.here hx rfl (hb hby d7_30) rfl ?_
      show Steps p.tables e below (T10.setTop (mkF m 31 #[.val (.ref rb), .val (.int xc), .val (.int (0 : Int32)), .val (.int (11 : Int32))] [(.int xc), (.ref rb)])) _
      refine XS.iloadN X10.here hx rfl (hb hby d7_31) rfl ?_
      show Steps p.tables e below (T10.setTop (mkF m 32 #[.val (.ref rb), .val (.int xc), .val (.int (0 : Int32)), .val (.int (11 : Int32))] [(.int (0 : Int32)), (.int xc), (.ref rb)])) _
      refine XS.iloadN X10.here hx rfl (hb hby d7_32) rfl ?_
      show Steps p.tables e below (T10.setTop (mkF m 33 #[.val (.ref rb), .val (.int xc), .val (.int (0 : Int32)), .val (.int (11 : Int32))] [(.int (11 : Int32)), (.int (0 : Int32)), (.int xc), (.ref rb)])) _
      exact k
    obtain ⟨_, _, ⟨T13, L13, k13, n13⟩, -, X13, ⟨Lc13, hQ13, l13, y13, z13⟩, st13⟩ := Jvm.LawKit.callS X10 hx (y := (⟨"java/lang/StringLatin1", "indexOfChar", "([BIII)I"⟩ : MethodName)) hown (mvT hZ (hw _ (List.mem_of_getElem? (i := 54) rfl))) (mvT hZ (hw _ (List.mem_of_getElem? (i := 55) rfl))) (mvT hZ (hw _ (List.mem_of_getElem? (i := 42) rfl))) (mvT hZ (hw _ (List.mem_of_getElem? (i := 56) rfl))) (by decide) (backOf (W := 0) (rm_iocB l Z a0 hw [] rb xc kb h0 n0 Z0 VB) hZ (hw _ (List.mem_of_getElem? (i := 56) rfl)) (hw _ (List.mem_of_getElem? (i := 42) rfl)) (by decide) (by decide)) (g := (mkF m 33 #[.val (.ref rb), .val (.int xc), .val (.int (0 : Int32)), .val (.int (11 : Int32))] [(.int (11 : Int32)), (.int (0 : Int32)), (.int xc), (.ref rb)])) rfl (by rw [hml]; rfl) (argsL := [(.ref rb), (.int xc), (.int (0 : Int32)), (.int (11 : Int32))]) (rest := []) (lenOf pd2 rfl) rfl (by show 2 * 0 + _ ≤ _; exact Nat.le_of_eq rfl) (hb hby d7_33) (fun _ _ => ⟨rfl, e10, (by decide : 0 + 0 ≤ _), (by decide : 0 + 0 ≤ _)⟩)
    dsimp only [Pt.U, Pt.locs, Pt.cells, Pt.slots] at X13 l13 y13 z13 st13 hQ13
    subst y13 z13
    obtain ⟨rfl, M13, e13⟩ := hQ13
    have N13 : Fr n0 L13 := by rw [l13]; exact Fr.app N10 M13
    clear l13
    have X13 : Stand p l e _ _ m _ below meth c T13 _ 0 0 := X13
    have pre14 : ∀ t, Steps p.tables e below (T13.setTop (mkF m 36 #[.val (.ref rb), .val (.int xc), .val (.int (0 : Int32)), .val (.int (11 : Int32))] [(.int (F_rm_iocB xc))])) t → Steps p.tables e below (s₁.setTop (entryFrame m #[(.ref rb), (.int xc), (.int (0 : Int32)), (.int (11 : Int32))] 4)) t := fun t k => pre12 t (st13 t k)
    obtain ⟨fs, hr, hrun, hended, hW, hsame⟩ := X13.leave (v := some (.int (F_rm_iocB xc))) (fun h => by rw [Bd.returns] at h; cases h)
    refine ⟨_, _, pre14 _ ?_, hrun, hended, _, _, rfl, ?_, ⟨_, rfl⟩, hW, hsame.mono (by decide) (by decide)⟩
    · exact retI X13 hx Bd.returns (hb hby d7_36) hr
    · show Q_rm_lioB Z rb xc kb h0 n0 _ T13.heap _
      rw [e13]
      exact ⟨congrArg (fun z => some (Value.int z)) (show (F_rm_iocB xc) = (F_rm_lioB xc) from by rw [F_rm_lioB, if_neg hc4]), N13, rfl⟩
theorem ef_rm_lenB (m : MethodId) (ra : Addr) : entryFrame m #[(.ref ra)] 1 = mkF m 0 #[.val (.ref ra)] [] := by first | (simp [entryFrame, mkF, argsToLocals, Value.category]; done) | rfl
def Q_rm_lenB (Z : State) (ra : Addr) (xcs : Int32) (rb : Addr) (kb : ClassId) (h0 : Heap) (n0 : Nat) (v : Option Value) (h : Heap) (L : List Loc) : Prop := v = some (.int (11 : Int32)) ∧ Fr n0 L ∧ h = h0
set_option maxRecDepth 65536 in
set_option maxHeartbeats 40000000 in
theorem rm_lenB (l : Launch) (Z : State) (a0 : Array Value) (hw : ∀ d ∈ tables_1, d.before a0 Z = true) (ws : List Jvm.Cond) (ra : Addr) (xcs : Int32) (rb : Addr) (kb : ClassId) (h0 : Heap) (n0 : Nat) (Z0 : n0 ≤ h0.size) (SC : Sta Z h0 "java/lang/String" "COMPACT_STRINGS" "Z" (.int xcs)) (FC : Fld Z h0 ra "java/lang/String" "coder" "B" (.int (0 : Int32))) (FV : Fld Z h0 ra "java/lang/String" "value" "[B" (.ref rb)) (VB : Arv Z h0 rb kb .byte (11 : Int32) [(.int (33 : Int32)), (.int (36 : Int32)), (.int (38 : Int32)), (.int (39 : Int32)), (.int (40 : Int32)), (.int (41 : Int32)), (.int (42 : Int32)), (.int (43 : Int32)), (.int (44 : Int32)), (.int (59 : Int32)), (.int (61 : Int32))] (.int (0 : Int32))) (EA : Exa Z h0 ra "java/lang/String") (hcs : ¬ (xcs = (0 : Int32))) :
    MetFree l (⟨"java/lang/String", "length", "()I"⟩ : MethodName) (head1 (Jvm.Cond.code (⟨"java/lang/String", "length", "()I"⟩ : MethodName) jdk_42_method_54_code 1 (some .int) :: ws) ({ frames := 1, cells := 0, slots := 0, locals := 13 } : Room)) (fun a U => a = #[(.ref ra)] ∧ Z.Warmed39 U.vm ∧ U.heap = h0) (fun _ _ _ _ _ => True) (fun _ U o U' => ∃ v L, o = .returned v ∧ Q_rm_lenB Z ra xcs rb kb h0 n0 v U'.heap L ∧ FrameEnd U o U' L ({ frames := 1, cells := 0, slots := 0, locals := 13 } : Room).cells ({ frames := 1, cells := 0, slots := 0, locals := 13 } : Room).slots) := by
  refine MetFree.of_bodySF (plainFor_of_name pn1) hisR ?_
  intro p e s m args below meth c s₁ Bd hml0 hP hK
  obtain ⟨rfl, hZ, hh⟩ := hP
  have hx := Bd.exec
  have hby := Bd.bytes
  have hml : c.maxLocals = 1 := hml0
  have hown : s.vm.findClass "java/lang/String" = some m.cls := findClass_of_methodNamed Bd.named
  have hnm := (name_of_methodNamed Bd.named Bd.method).1
  have X0 : Stand p l e ({ frames := 1, cells := 0, slots := 0, locals := 13 } : Room) s m #[(.ref ra)] below meth c s₁ [] 0 0 := Stand.of_body Bd
  have e0 : s₁.heap = h0 := by rw [← hh, Bd.state]; rfl
  have N0 := Fr.nil n0
  have pre0 : ∀ t, Steps p.tables e below (s₁.setTop (mkF m 0 #[.val (.ref ra)] [])) t → Steps p.tables e below (s₁.setTop (entryFrame m #[(.ref ra)] 1)) t := fun t k => castTop (ef_rm_lenB m ra) k
  have pre1 : ∀ t, Steps p.tables e below (s₁.setTop (mkF m 1 #[.val (.ref ra)] [(.ref ra)])) t → Steps p.tables e below (s₁.setTop (entryFrame m #[(.ref ra)] 1)) t := by
    intro t k
    refine pre0 t ?_
    refine XS.aloadN X0.here hx rfl (hb hby d5_0) rfl rfl ?_
    show Steps p.tables e below (s₁.setTop (mkF m 1 #[.val (.ref ra)] [(.ref ra)])) _
    exact k
  obtain ⟨T2, X2, e2, st2⟩ := getF X0 hx hZ hown (host := "") (Or.inl (hw _ (List.mem_of_getElem? (i := 29) rfl))) Via.refl e0 FV (g := (mkF m 1 #[.val (.ref ra)] [(.ref ra)])) rfl rfl (hb hby d5_1)
  have pre3 : ∀ t, Steps p.tables e below (T2.setTop (mkF m 4 #[.val (.ref ra)] [(.ref rb)])) t → Steps p.tables e below (s₁.setTop (entryFrame m #[(.ref ra)] 1)) t := fun t k => pre1 t (st2 t k)
  have pre5 : ∀ t, Steps p.tables e below (T2.setTop (mkF m 6 #[.val (.ref ra)] [(.ref ra), (.int (11 : Int32))])) t → Steps p.tables e below (s₁.setTop (entryFrame m #[(.ref ra)] 1)) t := by
    intro t k
    refine pre3 t ?_
    obtain ⟨c4, a4, q4, s4, m4, i4, u4⟩ := id VB
    refine X2.arraylength hx (by rw [e2]; exact a4.1) (State.isArrayOf_alike hZ.alike a4.2.1) (g := (mkF m 4 #[.val (.ref ra)] [(.ref rb)])) rfl rfl (hb hby d5_4) _ ?_
    rw [len_of s4 m4]
    show Steps p.tables e below (T2.setTop (mkF m 5 #[.val (.ref ra)] [(.int (11 : Int32))])) _
    refine XS.aloadN X2.here hx rfl (hb hby d5_5) rfl rfl ?_
    show Steps p.tables e below (T2.setTop (mkF m 6 #[.val (.ref ra)] [(.ref ra), (.int (11 : Int32))])) _
    exact k
  obtain ⟨cq6, kq6, q6a, q6b, q6c⟩ := isOf hZ e2 EA
  obtain ⟨_, _, ⟨T6, L6, k6, n6⟩, -, X6, ⟨Lc6, hQ6, l6, y6, z6⟩, st6⟩ := X2.virtualBack hx (y := (⟨"java/lang/String", "coder", "()B"⟩ : MethodName)) (z := (⟨"java/lang/String", "coder", "()B"⟩ : MethodName)) hown (mvT hZ (hw _ (List.mem_of_getElem? (i := 35) rfl))) (mvT hZ (hw _ (List.mem_of_getElem? (i := 36) rfl))) (notFace_of_selects (args := #[]) (mvT hZ (hw _ (List.mem_of_getElem? (i := 38) rfl)))) (mvT hZ (hw _ (List.mem_of_getElem? (i := 38) rfl))) (mvT hZ (hw _ (List.mem_of_getElem? (i := 37) rfl))) (by decide) (backOf (W := 1) (rm_cod l Z a0 hw [] ra xcs h0 n0 Z0 SC FC (hcs)) hZ (hw _ (List.mem_of_getElem? (i := 39) rfl)) (hw _ (List.mem_of_getElem? (i := 5) rfl)) (by decide) (by decide)) q6a q6c (g := (mkF m 6 #[.val (.ref ra)] [(.ref ra), (.int (11 : Int32))])) rfl (by rw [hml]; rfl) (Steps.refl _) (argsL := []) (rest := [(.int (11 : Int32))]) (lenOf pd3 rfl) rfl (by show 2 * 0 + _ ≤ _; exact Nat.le_of_eq rfl) (hb hby d5_6) (fun _ _ => ⟨rfl, e2, (by decide : 0 + 0 ≤ _), (by decide : 0 + 0 ≤ _)⟩)
  dsimp only [Pt.U, Pt.locs, Pt.cells, Pt.slots] at X6 l6 y6 z6 st6 hQ6
  subst y6 z6
  obtain ⟨rfl, M6, e6⟩ := hQ6
  have N6 : Fr n0 L6 := by rw [l6]; exact Fr.app N0 M6
  clear l6
  have X6 : Stand p l e _ _ m _ below meth c T6 _ 0 0 := X6
  have pre7 : ∀ t, Steps p.tables e below (T6.setTop (mkF m 9 #[.val (.ref ra)] [(.int (0 : Int32)), (.int (11 : Int32))])) t → Steps p.tables e below (s₁.setTop (entryFrame m #[(.ref ra)] 1)) t := fun t k => pre5 t (st6.trans k)
  have pre8 : ∀ t, Steps p.tables e below (T6.setTop (mkF m 10 #[.val (.ref ra)] [(.int ((11 : Int32) >>> ((0 : Int32) &&& 31)))])) t → Steps p.tables e below (s₁.setTop (entryFrame m #[(.ref ra)] 1)) t := by
    intro t k
    refine pre7 t ?_
    refine XS.ishr X6.here hx rfl (hb hby d5_9) rfl ?_
    show Steps p.tables e below (T6.setTop (mkF m 10 #[.val (.ref ra)] [(.int ((11 : Int32) >>> ((0 : Int32) &&& 31)))])) _
    exact k
  obtain ⟨fs, hr, hrun, hended, hW, hsame⟩ := X6.leave (v := some (.int ((11 : Int32) >>> ((0 : Int32) &&& 31)))) (fun h => by rw [Bd.returns] at h; cases h)
  refine ⟨_, _, pre8 _ ?_, hrun, hended, _, _, rfl, ?_, ⟨_, rfl⟩, hW, hsame.mono (by decide) (by decide)⟩
  · exact retI X6 hx Bd.returns (hb hby d5_10) hr
  · show Q_rm_lenB Z ra xcs rb kb h0 n0 _ T6.heap _
    rw [e6]
    exact ⟨congrArg (fun z => some (Value.int z)) (by decide), N6, rfl⟩
theorem ef_rm_ixxB (m : MethodId) (ra : Addr) (xc : Int32) : entryFrame m #[(.ref ra), (.int xc), (.int (0 : Int32))] 3 = mkF m 0 #[.val (.ref ra), .val (.int xc), .val (.int (0 : Int32))] [] := by first | (simp [entryFrame, mkF, argsToLocals, Value.category]; done) | rfl
def Q_rm_ixxB (Z : State) (ra : Addr) (xc : Int32) (xcs : Int32) (rb : Addr) (kb : ClassId) (h0 : Heap) (n0 : Nat) (v : Option Value) (h : Heap) (L : List Loc) : Prop := v = some (.int (F_rm_lioB xc)) ∧ Fr n0 L ∧ h = h0
set_option maxRecDepth 65536 in
set_option maxHeartbeats 40000000 in
theorem rm_ixxB (l : Launch) (Z : State) (a0 : Array Value) (hw : ∀ d ∈ tables_1, d.before a0 Z = true) (ws : List Jvm.Cond) (ra : Addr) (xc : Int32) (xcs : Int32) (rb : Addr) (kb : ClassId) (h0 : Heap) (n0 : Nat) (Z0 : n0 ≤ h0.size) (SC : Sta Z h0 "java/lang/String" "COMPACT_STRINGS" "Z" (.int xcs)) (FC : Fld Z h0 ra "java/lang/String" "coder" "B" (.int (0 : Int32))) (FV : Fld Z h0 ra "java/lang/String" "value" "[B" (.ref rb)) (VB : Arv Z h0 rb kb .byte (11 : Int32) [(.int (33 : Int32)), (.int (36 : Int32)), (.int (38 : Int32)), (.int (39 : Int32)), (.int (40 : Int32)), (.int (41 : Int32)), (.int (42 : Int32)), (.int (43 : Int32)), (.int (44 : Int32)), (.int (59 : Int32)), (.int (61 : Int32))] (.int (0 : Int32))) (EA : Exa Z h0 ra "java/lang/String") (hcs : ¬ (xcs = (0 : Int32))) :
    MetFree l (⟨"java/lang/String", "indexOf", "(II)I"⟩ : MethodName) (head1 (Jvm.Cond.code (⟨"java/lang/String", "indexOf", "(II)I"⟩ : MethodName) jdk_42_method_80_code 3 (some .int) :: ws) ({ frames := 2, cells := 0, slots := 0, locals := 32 } : Room)) (fun a U => a = #[(.ref ra), (.int xc), (.int (0 : Int32))] ∧ Z.Warmed39 U.vm ∧ U.heap = h0) (fun _ _ _ _ _ => True) (fun _ U o U' => ∃ v L, o = .returned v ∧ Q_rm_ixxB Z ra xc xcs rb kb h0 n0 v U'.heap L ∧ FrameEnd U o U' L ({ frames := 2, cells := 0, slots := 0, locals := 32 } : Room).cells ({ frames := 2, cells := 0, slots := 0, locals := 32 } : Room).slots) := by
  refine MetFree.of_bodySF (plainFor_of_name pn1) hisR ?_
  intro p e s m args below meth c s₁ Bd hml0 hP hK
  obtain ⟨rfl, hZ, hh⟩ := hP
  have hx := Bd.exec
  have hby := Bd.bytes
  have hml : c.maxLocals = 3 := hml0
  have hown : s.vm.findClass "java/lang/String" = some m.cls := findClass_of_methodNamed Bd.named
  have hnm := (name_of_methodNamed Bd.named Bd.method).1
  have X0 : Stand p l e ({ frames := 2, cells := 0, slots := 0, locals := 32 } : Room) s m #[(.ref ra), (.int xc), (.int (0 : Int32))] below meth c s₁ [] 0 0 := Stand.of_body Bd
  have e0 : s₁.heap = h0 := by rw [← hh, Bd.state]; rfl
  have N0 := Fr.nil n0
  have pre0 : ∀ t, Steps p.tables e below (s₁.setTop (mkF m 0 #[.val (.ref ra), .val (.int xc), .val (.int (0 : Int32))] [])) t → Steps p.tables e below (s₁.setTop (entryFrame m #[(.ref ra), (.int xc), (.int (0 : Int32))] 3)) t := fun t k => castTop (ef_rm_ixxB m ra xc) k
  have pre1 : ∀ t, Steps p.tables e below (s₁.setTop (mkF m 1 #[.val (.ref ra), .val (.int xc), .val (.int (0 : Int32))] [(.ref ra)])) t → Steps p.tables e below (s₁.setTop (entryFrame m #[(.ref ra), (.int xc), (.int (0 : Int32))] 3)) t := by
    intro t k
    refine pre0 t ?_
    refine XS.aloadN X0.here hx rfl (hb hby d3_0) rfl rfl ?_
    show Steps p.tables e below (s₁.setTop (mkF m 1 #[.val (.ref ra), .val (.int xc), .val (.int (0 : Int32))] [(.ref ra)])) _
    exact k
  obtain ⟨cq2, kq2, q2a, q2b, q2c⟩ := isOf hZ e0 EA
  obtain ⟨_, _, ⟨T2, L2, k2, n2⟩, -, X2, ⟨Lc2, hQ2, l2, y2, z2⟩, st2⟩ := X0.virtualBack hx (y := (⟨"java/lang/String", "isLatin1", "()Z"⟩ : MethodName)) (z := (⟨"java/lang/String", "isLatin1", "()Z"⟩ : MethodName)) hown (mvT hZ (hw _ (List.mem_of_getElem? (i := 22) rfl))) (mvT hZ (hw _ (List.mem_of_getElem? (i := 23) rfl))) (notFace_of_selects (args := #[]) (mvT hZ (hw _ (List.mem_of_getElem? (i := 25) rfl)))) (mvT hZ (hw _ (List.mem_of_getElem? (i := 25) rfl))) (mvT hZ (hw _ (List.mem_of_getElem? (i := 24) rfl))) (by decide) (backOf (W := 0) (rm_lat l Z a0 hw [] ra xcs h0 n0 Z0 SC FC (hcs)) hZ (hw _ (List.mem_of_getElem? (i := 26) rfl)) (hw _ (List.mem_of_getElem? (i := 5) rfl)) (by decide) (by decide)) q2a q2c (g := (mkF m 1 #[.val (.ref ra), .val (.int xc), .val (.int (0 : Int32))] [(.ref ra)])) rfl (by rw [hml]; rfl) (Steps.refl _) (argsL := []) (rest := []) (lenOf pd4 rfl) rfl (by show 2 * 0 + _ ≤ _; exact Nat.le_of_eq rfl) (hb hby d3_1) (fun _ _ => ⟨rfl, e0, (by decide : 0 + 0 ≤ _), (by decide : 0 + 0 ≤ _)⟩)
  dsimp only [Pt.U, Pt.locs, Pt.cells, Pt.slots] at X2 l2 y2 z2 st2 hQ2
  subst y2 z2
  obtain ⟨rfl, M2, e2⟩ := hQ2
  have N2 : Fr n0 L2 := by rw [l2]; exact Fr.app N0 M2
  clear l2
  have X2 : Stand p l e _ _ m _ below meth c T2 _ 0 0 := X2
  have pre3 : ∀ t, Steps p.tables e below (T2.setTop (mkF m 4 #[.val (.ref ra), .val (.int xc), .val (.int (0 : Int32))] [(.int (1 : Int32))])) t → Steps p.tables e below (s₁.setTop (entryFrame m #[(.ref ra), (.int xc), (.int (0 : Int32))] 3)) t := fun t k => pre1 t (st2.trans k)
  have pre4 : ∀ t, Steps p.tables e below (T2.setTop (mkF m 8 #[.val (.ref ra), .val (.int xc), .val (.int (0 : Int32))] [(.ref ra)])) t → Steps p.tables e below (s₁.setTop (entryFrame m #[(.ref ra), (.int xc), (.int (0 : Int32))] 3)) t := by
    intro t k
    refine pre3 t ?_
    refine XS.ifNo X2.here hx rfl (hb hby d3_4) rfl ((if0 _ _).trans (feq (show ¬ ((1 : Int32) = (0 : Int32)) from by decide)).1) ?_
    show Steps p.tables e below (T2.setTop (mkF m 7 #[.val (.ref ra), .val (.int xc), .val (.int (0 : Int32))] [])) _
    refine XS.aloadN X2.here hx rfl (hb hby d3_7) rfl rfl ?_
    show Steps p.tables e below (T2.setTop (mkF m 8 #[.val (.ref ra), .val (.int xc), .val (.int (0 : Int32))] [(.ref ra)])) _
    exact k
  obtain ⟨T5, X5, e5, st5⟩ := getF X2 hx hZ hown (host := "") (Or.inl (hw _ (List.mem_of_getElem? (i := 29) rfl))) Via.refl e2 FV (g := (mkF m 8 #[.val (.ref ra), .val (.int xc), .val (.int (0 : Int32))] [(.ref ra)])) rfl rfl (hb hby d3_8)
  have pre6 : ∀ t, Steps p.tables e below (T5.setTop (mkF m 11 #[.val (.ref ra), .val (.int xc), .val (.int (0 : Int32))] [(.ref rb)])) t → Steps p.tables e below (s₁.setTop (entryFrame m #[(.ref ra), (.int xc), (.int (0 : Int32))] 3)) t := fun t k => pre4 t (st5 t k)
  have pre7 : ∀ t, Steps p.tables e below (T5.setTop (mkF m 14 #[.val (.ref ra), .val (.int xc), .val (.int (0 : Int32))] [(.ref ra), (.int (0 : Int32)), (.int xc), (.ref rb)])) t → Steps p.tables e below (s₁.setTop (entryFrame m #[(.ref ra), (.int xc), (.int (0 : Int32))] 3)) t := by
    intro t k
    refine pre6 t ?_
    refine XS.iloadN X5.here hx rfl (hb hby d3_11) rfl ?_
    show Steps p.tables e below (T5.setTop (mkF m 12 #[.val (.ref ra), .val (.int xc), .val (.int (0 : Int32))] [(.int xc), (.ref rb)])) _
    refine XS.iloadN X5.here hx rfl (hb hby d3_12) rfl ?_
    show Steps p.tables e below (T5.setTop (mkF m 13 #[.val (.ref ra), .val (.int xc), .val (.int (0 : Int32))] [(.int (0 : Int32)), (.int xc), (.ref rb)])) _
    refine XS.aloadN X5.here hx rfl (hb hby d3_13) rfl rfl ?_
    show Steps p.tables e below (T5.setTop (mkF m 14 #[.val (.ref ra), .val (.int xc), .val (.int (0 : Int32))] [(.ref ra), (.int (0 : Int32)), (.int xc), (.ref rb)])) _
    exact k
  obtain ⟨cq8, kq8, q8a, q8b, q8c⟩ := isOf hZ e5 EA
  obtain ⟨_, _, ⟨T8, L8, k8, n8⟩, -, X8, ⟨Lc8, hQ8, l8, y8, z8⟩, st8⟩ := X5.virtualBack hx (y := (⟨"java/lang/String", "length", "()I"⟩ : MethodName)) (z := (⟨"java/lang/String", "length", "()I"⟩ : MethodName)) hown (mvT hZ (hw _ (List.mem_of_getElem? (i := 30) rfl))) (mvT hZ (hw _ (List.mem_of_getElem? (i := 31) rfl))) (notFace_of_selects (args := #[]) (mvT hZ (hw _ (List.mem_of_getElem? (i := 33) rfl)))) (mvT hZ (hw _ (List.mem_of_getElem? (i := 33) rfl))) (mvT hZ (hw _ (List.mem_of_getElem? (i := 32) rfl))) (by decide) (backOf (W := 3) (rm_lenB l Z a0 hw [] ra xcs rb kb h0 n0 Z0 SC FC FV VB EA (hcs)) hZ (hw _ (List.mem_of_getElem? (i := 34) rfl)) (hw _ (List.mem_of_getElem? (i := 5) rfl)) (by decide) (by decide)) q8a q8c (g := (mkF m 14 #[.val (.ref ra), .val (.int xc), .val (.int (0 : Int32))] [(.ref ra), (.int (0 : Int32)), (.int xc), (.ref rb)])) rfl (by rw [hml]; rfl) (Steps.refl _) (argsL := []) (rest := [(.int (0 : Int32)), (.int xc), (.ref rb)]) (lenOf pd5 rfl) rfl (by show 2 * 0 + _ ≤ _; exact Nat.le_of_eq rfl) (hb hby d3_14) (fun _ _ => ⟨rfl, e5, (by decide : 0 + 0 ≤ _), (by decide : 0 + 0 ≤ _)⟩)
  dsimp only [Pt.U, Pt.locs, Pt.cells, Pt.slots] at X8 l8 y8 z8 st8 hQ8
  subst y8 z8
  obtain ⟨rfl, M8, e8⟩ := hQ8
  have N8 : Fr n0 L8 := by rw [l8]; exact Fr.app N2 M8
  clear l8
  have X8 : Stand p l e _ _ m _ below meth c T8 _ 0 0 := X8
  have pre9 : ∀ t, Steps p.tables e below (T8.setTop (mkF m 17 #[.val (.ref ra), .val (.int xc), .val (.int (0 : Int32))] [(.int (11 : Int32)), (.int (0 : Int32)), (.int xc), (.ref rb)])) t → Steps p.tables e below (s₁.setTop (entryFrame m #[(.ref ra), (.int xc), (.int (0 : Int32))] 3)) t := fun t k => pre7 t (st8.trans k)
  obtain ⟨_, _, ⟨T10, L10, k10, n10⟩, -, X10, ⟨Lc10, hQ10, l10, y10, z10⟩, st10⟩ := Jvm.LawKit.callS X8 hx (y := (⟨"java/lang/StringLatin1", "indexOf", "([BIII)I"⟩ : MethodName)) hown (mvT hZ (hw _ (List.mem_of_getElem? (i := 40) rfl))) (mvT hZ (hw _ (List.mem_of_getElem? (i := 41) rfl))) (mvT hZ (hw _ (List.mem_of_getElem? (i := 42) rfl))) (mvT hZ (hw _ (List.mem_of_getElem? (i := 43) rfl))) (by decide) (backOf (W := 0) (rm_lioB l Z a0 hw [] rb xc kb h0 n0 Z0 VB) hZ (hw _ (List.mem_of_getElem? (i := 43) rfl)) (hw _ (List.mem_of_getElem? (i := 42) rfl)) (by decide) (by decide)) (g := (mkF m 17 #[.val (.ref ra), .val (.int xc), .val (.int (0 : Int32))] [(.int (11 : Int32)), (.int (0 : Int32)), (.int xc), (.ref rb)])) rfl (by rw [hml]; rfl) (argsL := [(.ref rb), (.int xc), (.int (0 : Int32)), (.int (11 : Int32))]) (rest := []) (lenOf pd2 rfl) rfl (by show 2 * 0 + _ ≤ _; exact Nat.le_of_eq rfl) (hb hby d3_17) (fun _ _ => ⟨rfl, e8, (by decide : 0 + 0 ≤ _), (by decide : 0 + 0 ≤ _)⟩)
  dsimp only [Pt.U, Pt.locs, Pt.cells, Pt.slots] at X10 l10 y10 z10 st10 hQ10
  subst y10 z10
  obtain ⟨rfl, M10, e10⟩ := hQ10
  have N10 : Fr n0 L10 := by rw [l10]; exact Fr.app N8 M10
  clear l10
  have X10 : Stand p l e _ _ m _ below meth c T10 _ 0 0 := X10
  have pre11 : ∀ t, Steps p.tables e below (T10.setTop (mkF m 20 #[.val (.ref ra), .val (.int xc), .val (.int (0 : Int32))] [(.int (F_rm_lioB xc))])) t → Steps p.tables e below (s₁.setTop (entryFrame m #[(.ref ra), (.int xc), (.int (0 : Int32))] 3)) t := fun t k => pre9 t (st10 t k)
  have pre12 : ∀ t, Steps p.tables e below (T10.setTop (mkF m 36 #[.val (.ref ra), .val (.int xc), .val (.int (0 : Int32))] [(.int (F_rm_lioB xc))])) t → Steps p.tables e below (s₁.setTop (entryFrame m #[(.ref ra), (.int xc), (.int (0 : Int32))] 3)) t := by
    intro t k
    refine pre11 t ?_
    refine XS.goto X10.here hx rfl (pc0 := 20) (pc' := 36) rfl (hb hby d3_20) (by decide) (by decide) ?_
    show Steps p.tables e below (T10.setTop (mkF m 36 #[.val (.ref ra), .val (.int xc), .val (.int (0 : Int32))] [(.int (F_rm_lioB xc))])) _
    exact k
  obtain ⟨fs, hr, hrun, hended, hW, hsame⟩ := X10.leave (v := some (.int (F_rm_lioB xc))) (fun h => by rw [Bd.returns] at h; cases h)
  refine ⟨_, _, pre12 _ ?_, hrun, hended, _, _, rfl, ?_, ⟨_, rfl⟩, hW, hsame.mono (by decide) (by decide)⟩
  · exact retI X10 hx Bd.returns (hb hby d3_36) hr
  · show Q_rm_ixxB Z ra xc xcs rb kb h0 n0 _ T10.heap _
    rw [e10]
    exact ⟨rfl, N10, rfl⟩
theorem ef_rm_ixB (m : MethodId) (ra : Addr) (xc : Int32) : entryFrame m #[(.ref ra), (.int xc)] 2 = mkF m 0 #[.val (.ref ra), .val (.int xc)] [] := by first | (simp [entryFrame, mkF, argsToLocals, Value.category]; done) | rfl
def Q_rm_ixB (Z : State) (ra : Addr) (xc : Int32) (xcs : Int32) (rb : Addr) (kb : ClassId) (h0 : Heap) (n0 : Nat) (v : Option Value) (h : Heap) (L : List Loc) : Prop := v = some (.int (F_rm_lioB xc)) ∧ Fr n0 L ∧ h = h0
set_option maxRecDepth 65536 in
set_option maxHeartbeats 40000000 in
theorem rm_ixB (l : Launch) (Z : State) (a0 : Array Value) (hw : ∀ d ∈ tables_1, d.before a0 Z = true) (ws : List Jvm.Cond) (ra : Addr) (xc : Int32) (xcs : Int32) (rb : Addr) (kb : ClassId) (h0 : Heap) (n0 : Nat) (Z0 : n0 ≤ h0.size) (SC : Sta Z h0 "java/lang/String" "COMPACT_STRINGS" "Z" (.int xcs)) (FC : Fld Z h0 ra "java/lang/String" "coder" "B" (.int (0 : Int32))) (FV : Fld Z h0 ra "java/lang/String" "value" "[B" (.ref rb)) (VB : Arv Z h0 rb kb .byte (11 : Int32) [(.int (33 : Int32)), (.int (36 : Int32)), (.int (38 : Int32)), (.int (39 : Int32)), (.int (40 : Int32)), (.int (41 : Int32)), (.int (42 : Int32)), (.int (43 : Int32)), (.int (44 : Int32)), (.int (59 : Int32)), (.int (61 : Int32))] (.int (0 : Int32))) (EA : Exa Z h0 ra "java/lang/String") (hcs : ¬ (xcs = (0 : Int32))) :
    MetFree l (⟨"java/lang/String", "indexOf", "(I)I"⟩ : MethodName) (head1 (Jvm.Cond.code (⟨"java/lang/String", "indexOf", "(I)I"⟩ : MethodName) jdk_42_method_79_code 2 (some .int) :: ws) ({ frames := 3, cells := 0, slots := 0, locals := 46 } : Room)) (fun a U => a = #[(.ref ra), (.int xc)] ∧ Z.Warmed39 U.vm ∧ U.heap = h0) (fun _ _ _ _ _ => True) (fun _ U o U' => ∃ v L, o = .returned v ∧ Q_rm_ixB Z ra xc xcs rb kb h0 n0 v U'.heap L ∧ FrameEnd U o U' L ({ frames := 3, cells := 0, slots := 0, locals := 46 } : Room).cells ({ frames := 3, cells := 0, slots := 0, locals := 46 } : Room).slots) := by
  refine MetFree.of_bodySF (plainFor_of_name pn1) hisR ?_
  intro p e s m args below meth c s₁ Bd hml0 hP hK
  obtain ⟨rfl, hZ, hh⟩ := hP
  have hx := Bd.exec
  have hby := Bd.bytes
  have hml : c.maxLocals = 2 := hml0
  have hown : s.vm.findClass "java/lang/String" = some m.cls := findClass_of_methodNamed Bd.named
  have hnm := (name_of_methodNamed Bd.named Bd.method).1
  have X0 : Stand p l e ({ frames := 3, cells := 0, slots := 0, locals := 46 } : Room) s m #[(.ref ra), (.int xc)] below meth c s₁ [] 0 0 := Stand.of_body Bd
  have e0 : s₁.heap = h0 := by rw [← hh, Bd.state]; rfl
  have N0 := Fr.nil n0
  have pre0 : ∀ t, Steps p.tables e below (s₁.setTop (mkF m 0 #[.val (.ref ra), .val (.int xc)] [])) t → Steps p.tables e below (s₁.setTop (entryFrame m #[(.ref ra), (.int xc)] 2)) t := fun t k => castTop (ef_rm_ixB m ra xc) k
  have pre1 : ∀ t, Steps p.tables e below (s₁.setTop (mkF m 3 #[.val (.ref ra), .val (.int xc)] [(.int (0 : Int32)), (.int xc), (.ref ra)])) t → Steps p.tables e below (s₁.setTop (entryFrame m #[(.ref ra), (.int xc)] 2)) t := by
    intro t k
    refine pre0 t ?_
    refine XS.aloadN X0.here hx rfl (hb hby d2_0) rfl rfl ?_
    show Steps p.tables e below (s₁.setTop (mkF m 1 #[.val (.ref ra), .val (.int xc)] [(.ref ra)])) _
    refine XS.iloadN X0.here hx rfl (hb hby d2_1) rfl ?_
    show Steps p.tables e below (s₁.setTop (mkF m 2 #[.val (.ref ra), .val (.int xc)] [(.int xc), (.ref ra)])) _
    refine XS.iconst X0.here hx rfl (hb hby d2_2) ?_
    show Steps p.tables e below (s₁.setTop (mkF m 3 #[.val (.ref ra), .val (.int xc)] [(.int (0 : Int32)), (.int xc), (.ref ra)])) _
    exact k
  obtain ⟨cq2, kq2, q2a, q2b, q2c⟩ := isOf hZ e0 EA
  obtain ⟨_, _, ⟨T2, L2, k2, n2⟩, -, X2, ⟨Lc2, hQ2, l2, y2, z2⟩, st2⟩ := X0.virtualBack hx (y := (⟨"java/lang/String", "indexOf", "(II)I"⟩ : MethodName)) (z := (⟨"java/lang/String", "indexOf", "(II)I"⟩ : MethodName)) hown (mvT hZ (hw _ (List.mem_of_getElem? (i := 17) rfl))) (mvT hZ (hw _ (List.mem_of_getElem? (i := 18) rfl))) (notFace_of_selects (args := #[]) (mvT hZ (hw _ (List.mem_of_getElem? (i := 20) rfl)))) (mvT hZ (hw _ (List.mem_of_getElem? (i := 20) rfl))) (mvT hZ (hw _ (List.mem_of_getElem? (i := 19) rfl))) (by decide) (backOf (W := 0) (rm_ixxB l Z a0 hw [] ra xc xcs rb kb h0 n0 Z0 SC FC FV VB EA (hcs)) hZ (hw _ (List.mem_of_getElem? (i := 21) rfl)) (hw _ (List.mem_of_getElem? (i := 5) rfl)) (by decide) (by decide)) q2a q2c (g := (mkF m 3 #[.val (.ref ra), .val (.int xc)] [(.int (0 : Int32)), (.int xc), (.ref ra)])) rfl (by rw [hml]; rfl) (Steps.refl _) (argsL := [(.int xc), (.int (0 : Int32))]) (rest := []) (lenOf pd1 rfl) rfl (by show 2 * 0 + _ ≤ _; exact Nat.le_of_eq rfl) (hb hby d2_3) (fun _ _ => ⟨rfl, e0, (by decide : 0 + 0 ≤ _), (by decide : 0 + 0 ≤ _)⟩)
  dsimp only [Pt.U, Pt.locs, Pt.cells, Pt.slots] at X2 l2 y2 z2 st2 hQ2
  subst y2 z2
  obtain ⟨rfl, M2, e2⟩ := hQ2
  have N2 : Fr n0 L2 := by rw [l2]; exact Fr.app N0 M2
  clear l2
  have X2 : Stand p l e _ _ m _ below meth c T2 _ 0 0 := X2
  have pre3 : ∀ t, Steps p.tables e below (T2.setTop (mkF m 6 #[.val (.ref ra), .val (.int xc)] [(.int (F_rm_lioB xc))])) t → Steps p.tables e below (s₁.setTop (entryFrame m #[(.ref ra), (.int xc)] 2)) t := fun t k => pre1 t (st2.trans k)
  obtain ⟨fs, hr, hrun, hended, hW, hsame⟩ := X2.leave (v := some (.int (F_rm_lioB xc))) (fun h => by rw [Bd.returns] at h; cases h)
  refine ⟨_, _, pre3 _ ?_, hrun, hended, _, _, rfl, ?_, ⟨_, rfl⟩, hW, hsame.mono (by decide) (by decide)⟩
  · exact retI X2 hx Bd.returns (hb hby d2_6) hr
  · show Q_rm_ixB Z ra xc xcs rb kb h0 n0 _ T2.heap _
    rw [e2]
    exact ⟨rfl, N2, rfl⟩
theorem d1_0 : decode prog_4_method_2_code 0 = .ok (.iload_n 0, 1) := by decide +kernel
theorem d1_1 : decode prog_4_method_2_code 1 = .ok (.bipush 97, 2) := by decide +kernel
theorem d1_3 : decode prog_4_method_2_code 3 = .ok (.if_icmp .lt 9, 3) := by decide +kernel
theorem d1_6 : decode prog_4_method_2_code 6 = .ok (.iload_n 0, 1) := by decide +kernel
theorem d1_7 : decode prog_4_method_2_code 7 = .ok (.bipush 122, 2) := by decide +kernel
theorem d1_9 : decode prog_4_method_2_code 9 = .ok (.if_icmp .le 45, 3) := by decide +kernel
theorem d1_54 : decode prog_4_method_2_code 54 = .ok (.iconst 1, 1) := by decide +kernel
theorem d1_55 : decode prog_4_method_2_code 55 = .ok (.goto 4, 3) := by decide +kernel
theorem d1_59 : decode prog_4_method_2_code 59 = .ok (.ireturn, 1) := by decide +kernel
theorem d1_12 : decode prog_4_method_2_code 12 = .ok (.iload_n 0, 1) := by decide +kernel
theorem d1_13 : decode prog_4_method_2_code 13 = .ok (.bipush 65, 2) := by decide +kernel
theorem d1_15 : decode prog_4_method_2_code 15 = .ok (.if_icmp .lt 9, 3) := by decide +kernel
theorem d1_18 : decode prog_4_method_2_code 18 = .ok (.iload_n 0, 1) := by decide +kernel
theorem d1_19 : decode prog_4_method_2_code 19 = .ok (.bipush 90, 2) := by decide +kernel
theorem d1_21 : decode prog_4_method_2_code 21 = .ok (.if_icmp .le 33, 3) := by decide +kernel
theorem d1_24 : decode prog_4_method_2_code 24 = .ok (.iload_n 0, 1) := by decide +kernel
theorem d1_25 : decode prog_4_method_2_code 25 = .ok (.bipush 48, 2) := by decide +kernel
theorem d1_27 : decode prog_4_method_2_code 27 = .ok (.if_icmp .lt 9, 3) := by decide +kernel
theorem d1_30 : decode prog_4_method_2_code 30 = .ok (.iload_n 0, 1) := by decide +kernel
theorem d1_31 : decode prog_4_method_2_code 31 = .ok (.bipush 57, 2) := by decide +kernel
theorem d1_33 : decode prog_4_method_2_code 33 = .ok (.if_icmp .le 21, 3) := by decide +kernel
theorem d1_36 : decode prog_4_method_2_code 36 = .ok (.ldc 9, 2) := by decide +kernel
theorem d1_38 : decode prog_4_method_2_code 38 = .ok (.iload_n 0, 1) := by decide +kernel
theorem d1_39 : decode prog_4_method_2_code 39 = .ok (.invokevirtual 11, 3) := by decide +kernel
theorem pd6 : parseMethodDescriptor "(I)I" = some ⟨[.int], some .int⟩ := by decide +kernel
theorem d1_42 : decode prog_4_method_2_code 42 = .ok (.ifCond .ge 12, 3) := by decide +kernel
theorem d1_45 : decode prog_4_method_2_code 45 = .ok (.ldc 17, 2) := by decide +kernel
theorem d1_47 : decode prog_4_method_2_code 47 = .ok (.iload_n 0, 1) := by decide +kernel
theorem d1_48 : decode prog_4_method_2_code 48 = .ok (.invokevirtual 11, 3) := by decide +kernel
theorem d1_51 : decode prog_4_method_2_code 51 = .ok (.ifCond .lt 7, 3) := by decide +kernel
theorem d1_58 : decode prog_4_method_2_code 58 = .ok (.iconst 0, 1) := by decide +kernel
theorem pn2 : plainName "com/example/problems_as_payloads/problemsaspayloads/PercentEncoding" = true := by first | (simp [plainName, overriddenIn]; done) | decide +kernel
def F_rm_unres (xc : Int32) (xcs : Int32) : Int32 := (if ¬ (xc < (97 : Int32)) ∧ ¬ ((122 : Int32) < xc) then (1 : Int32) else (if ¬ (xc < (65 : Int32)) ∧ ¬ ((90 : Int32) < xc) then (1 : Int32) else (if ¬ (xc < (48 : Int32)) ∧ ¬ ((57 : Int32) < xc) then (1 : Int32) else (if (F_rm_lioA xc) < (0 : Int32) then (if (F_rm_lioB xc) < (0 : Int32) then (0 : Int32) else (1 : Int32)) else (1 : Int32)))))
theorem ef_rm_unres (m : MethodId) (xc : Int32) : entryFrame m #[(.int xc)] 1 = mkF m 0 #[.val (.int xc)] [] := by first | (simp [entryFrame, mkF, argsToLocals, Value.category]; done) | rfl
def Q_rm_unres (Z : State) (xc : Int32) (xcs : Int32) (h0 : Heap) (n0 : Nat) (v : Option Value) (h : Heap) (L : List Loc) : Prop := v = some (.int (F_rm_unres xc xcs)) ∧ Fr n0 L ∧ Keep h0 h ([] : List Addr)
set_option maxRecDepth 65536 in
set_option maxHeartbeats 40000000 in
theorem rm_unres (l : Launch) (Z : State) (a0 : Array Value) (hw : ∀ d ∈ tables_1, d.before a0 Z = true) (ws : List Jvm.Cond) (xc : Int32) (xcs : Int32) (h0 : Heap) (n0 : Nat) (Z0 : n0 ≤ h0.size) (SC : Sta Z h0 "java/lang/String" "COMPACT_STRINGS" "Z" (.int xcs)) (hcs : ¬ (xcs = (0 : Int32))) :
    MetFree l (⟨"com/example/problems_as_payloads/problemsaspayloads/PercentEncoding", "isUnreservedOrSubDelimiter", "(I)Z"⟩ : MethodName) (head1 (Jvm.Cond.code (⟨"com/example/problems_as_payloads/problemsaspayloads/PercentEncoding", "isUnreservedOrSubDelimiter", "(I)Z"⟩ : MethodName) prog_4_method_2_code 1 (some .boolean) :: ws) ({ frames := 4, cells := 4, slots := 68, locals := 59 } : Room)) (fun a U => a = #[(.int xc)] ∧ Z.Warmed39 U.vm ∧ U.heap = h0 ∧ CHv Z own_EL U.vm h0) (fun _ _ _ _ _ => True) (fun _ U o U' => ∃ v L, o = .returned v ∧ Q_rm_unres Z xc xcs h0 n0 v U'.heap L ∧ CHr Z own_EL U.vm U.heap U'.vm U'.heap ∧ ReturnedEndW U o U' L ({ frames := 4, cells := 4, slots := 68, locals := 59 } : Room).cells ({ frames := 4, cells := 4, slots := 68, locals := 59 } : Room).slots) := by
  refine MetFree.of_bodySF (plainFor_of_name pn2) hisR ?_
  intro p e s m args below meth c s₁ Bd hml0 hP hK
  obtain ⟨rfl, hZ, hh, HC0⟩ := hP
  have hx := Bd.exec
  have hby := Bd.bytes
  have hml : c.maxLocals = 1 := hml0
  have hown : s.vm.findClass "com/example/problems_as_payloads/problemsaspayloads/PercentEncoding" = some m.cls := findClass_of_methodNamed Bd.named
  have hnm := (name_of_methodNamed Bd.named Bd.method).1
  have X0 : Stand p l e ({ frames := 4, cells := 4, slots := 68, locals := 59 } : Room) (s.setVm s.vm) m #[(.int xc)] below meth c s₁ [] 0 0 := Stand.of_body Bd
  have hS0 : s.Since s.vm 0 := State.WarmedH.since (State.WarmedH.refl s) 0
  have hk0 : 0 ≤ h0.size := Nat.zero_le _
  have hEL : EW Z a0 own_EL := EW.cons (hw _ (List.mem_of_getElem? (i := 4) rfl)) (by decide) (EW.cons (hw _ (List.mem_of_getElem? (i := 57) rfl)) (by decide) EW.nil)
  have wS : ∀ d ∈ Bundle.stringAtoms, d.before a0 Z = true := fun d hd => hw d ((by decide +kernel : ∀ d ∈ Bundle.stringAtoms, d ∈ tables_1) d hd)
  have hown : (s.setVm s.vm).vm.findClass "com/example/problems_as_payloads/problemsaspayloads/PercentEncoding" = some m.cls := hown
  have hZ : Z.Warmed39 (s.setVm s.vm).vm := hZ
  have e0 : s₁.heap = h0 := by rw [← hh, Bd.state]; rfl
  have N0 := Fr.nil n0
  have pre0 : ∀ t, Steps p.tables e below (s₁.setTop (mkF m 0 #[.val (.int xc)] [])) t → Steps p.tables e below (s₁.setTop (entryFrame m #[(.int xc)] 1)) t := fun t k => castTop (ef_rm_unres m xc) k
  by_cases hR0 : ¬ (xc < (97 : Int32)) ∧ ¬ ((122 : Int32) < xc)
  · have pre1 : ∀ t, Steps p.tables e below (s₁.setTop (mkF m 59 #[.val (.int xc)] [(.int (1 : Int32))])) t → Steps p.tables e below (s₁.setTop (entryFrame m #[(.int xc)] 1)) t := by
      intro t k
      refine pre0 t ?_
      refine XS.iloadN X0.here hx rfl (hb hby d1_0) rfl ?_
      show Steps p.tables e below (s₁.setTop (mkF m 1 #[.val (.int xc)] [(.int xc)])) _
      refine XS.bipush X0.here hx rfl (hb hby d1_1) ?_
      show Steps p.tables e below (s₁.setTop (mkF m 3 #[.val (.int xc)] [(.int (97 : Int32)), (.int xc)])) _
      refine XS.icmpNo X0.here hx rfl (hb hby d1_3) rfl (flt (show ¬ (xc < (97 : Int32)) from hR0.1)).1 ?_
      show Steps p.tables e below (s₁.setTop (mkF m 6 #[.val (.int xc)] [])) _
      refine XS.iloadN X0.here hx rfl (hb hby d1_6) rfl ?_
      show Steps p.tables e below (s₁.setTop (mkF m 7 #[.val (.int xc)] [(.int xc)])) _
      refine XS.bipush X0.here hx rfl (hb hby d1_7) ?_
      show Steps p.tables e below (s₁.setTop (mkF m 9 #[.val (.int xc)] [(.int (122 : Int32)), (.int xc)])) _
      refine XS.icmpYes X0.here hx rfl (pc0 := 9) (pc' := 54) rfl (hb hby d1_9) rfl (flt (show ¬ ((122 : Int32) < xc) from hR0.2)).2.2.2 (by decide) (by decide) ?_
      show Steps p.tables e below (s₁.setTop (mkF m 54 #[.val (.int xc)] [])) _
      refine XS.iconst X0.here hx rfl (hb hby d1_54) ?_
      show Steps p.tables e below (s₁.setTop (mkF m 55 #[.val (.int xc)] [(.int (1 : Int32))])) _
      refine XS.goto X0.here hx rfl (pc0 := 55) (pc' := 59) rfl (hb hby d1_55) (by decide) (by decide) ?_
      show Steps p.tables e below (s₁.setTop (mkF m 59 #[.val (.int xc)] [(.int (1 : Int32))])) _
      exact k
    obtain ⟨fs, hr, hrun, hended, hRW⟩ := X0.leaveW hS0 (Nat.le_trans hk0 (Nat.le_of_eq (congrArg Array.size (show _ = h0 from e0)).symm)) (v := some (.int (1 : Int32))) (fun h => by rw [Bd.returns] at h; cases h)
    have RE := CHr.trans (CHr.refl HC0) (CHv.at X0 hZ hEL HC0)
    refine ⟨_, _, pre1 _ ?_, hrun, hended, _, _, rfl, ?_, (by rw [hh]; show CHr Z own_EL s.vm h0 s₁.vm s₁.heap; rw [show s₁.heap = h0 from e0]; exact RE), hRW.1, hRW.2.1, hRW.2.2.1, hRW.2.2.2.mono (by decide) (by decide)⟩
    · exact retN X0 hx (t := .boolean) Bd.returns (by simp) (hb hby d1_59) hr
    · show Q_rm_unres Z xc xcs h0 n0 _ s₁.heap _
      rw [e0]
      exact ⟨congrArg (fun z => some (Value.int z)) (show (1 : Int32) = (F_rm_unres xc xcs) from by rw [F_rm_unres, if_pos hR0]), N0, (Keep.refl h0 ([] : List Addr))⟩
  · have pre2 : ∀ t, Steps p.tables e below (s₁.setTop (mkF m 12 #[.val (.int xc)] [])) t → Steps p.tables e below (s₁.setTop (entryFrame m #[(.int xc)] 1)) t := by
      intro t k
      refine pre0 t ?_
      refine XS.iloadN X0.here hx rfl (hb hby d1_0) rfl ?_
      show Steps p.tables e below (s₁.setTop (mkF m 1 #[.val (.int xc)] [(.int xc)])) _
      refine XS.bipush X0.here hx rfl (hb hby d1_1) ?_
      show Steps p.tables e below (s₁.setTop (mkF m 3 #[.val (.int xc)] [(.int (97 : Int32)), (.int xc)])) _
      by_cases hl : xc < (97 : Int32)
      · refine XS.icmpYes X0.here hx rfl (pc0 := 3) (pc' := 12) rfl (hb hby d1_3) rfl (tlt hl).1 (by decide) (by decide) ?_
        show Steps p.tables e below (s₁.setTop (mkF m 12 #[.val (.int xc)] [])) _
        exact k
      · refine XS.icmpNo X0.here hx rfl (hb hby d1_3) rfl (flt hl).1 ?_
        show Steps p.tables e below (s₁.setTop (mkF m 6 #[.val (.int xc)] [])) _
        refine XS.iloadN X0.here hx rfl (hb hby d1_6) rfl ?_
        show Steps p.tables e below (s₁.setTop (mkF m 7 #[.val (.int xc)] [(.int xc)])) _
        refine XS.bipush X0.here hx rfl (hb hby d1_7) ?_
        show Steps p.tables e below (s₁.setTop (mkF m 9 #[.val (.int xc)] [(.int (122 : Int32)), (.int xc)])) _
        by_cases hh' : (122 : Int32) < xc
        · refine XS.icmpNo X0.here hx rfl (hb hby d1_9) rfl (tlt hh').2.2.2 ?_
          show Steps p.tables e below (s₁.setTop (mkF m 12 #[.val (.int xc)] [])) _
          exact k
        · exact absurd ⟨hl, hh'⟩ hR0
    by_cases hR12 : ¬ (xc < (65 : Int32)) ∧ ¬ ((90 : Int32) < xc)
    · have pre3 : ∀ t, Steps p.tables e below (s₁.setTop (mkF m 59 #[.val (.int xc)] [(.int (1 : Int32))])) t → Steps p.tables e below (s₁.setTop (entryFrame m #[(.int xc)] 1)) t := by
        intro t k
        refine pre2 t ?_
        refine XS.iloadN X0.here hx rfl (hb hby d1_12) rfl ?_
        show Steps p.tables e below (s₁.setTop (mkF m 13 #[.val (.int xc)] [(.int xc)])) _
        refine XS.bipush X0.here hx rfl (hb hby d1_13) ?_
        show Steps p.tables e below (s₁.setTop (mkF m 15 #[.val (.int xc)] [(.int (65 : Int32)), (.int xc)])) _
        refine XS.icmpNo X0.here hx rfl (hb hby d1_15) rfl (flt (show ¬ (xc < (65 : Int32)) from hR12.1)).1 ?_
        show Steps p.tables e below (s₁.setTop (mkF m 18 #[.val (.int xc)] [])) _
        refine XS.iloadN X0.here hx rfl (hb hby d1_18) rfl ?_
        show Steps p.tables e below (s₁.setTop (mkF m 19 #[.val (.int xc)] [(.int xc)])) _
        refine XS.bipush X0.here hx rfl (hb hby d1_19) ?_
        show Steps p.tables e below (s₁.setTop (mkF m 21 #[.val (.int xc)] [(.int (90 : Int32)), (.int xc)])) _
        refine XS.icmpYes X0.here hx rfl (pc0 := 21) (pc' := 54) rfl (hb hby d1_21) rfl (flt (show ¬ ((90 : Int32) < xc) from hR12.2)).2.2.2 (by decide) (by decide) ?_
        show Steps p.tables e below (s₁.setTop (mkF m 54 #[.val (.int xc)] [])) _
        refine XS.iconst X0.here hx rfl (hb hby d1_54) ?_
        show Steps p.tables e below (s₁.setTop (mkF m 55 #[.val (.int xc)] [(.int (1 : Int32))])) _
        refine XS.goto X0.here hx rfl (pc0 := 55) (pc' := 59) rfl (hb hby d1_55) (by decide) (by decide) ?_
        show Steps p.tables e below (s₁.setTop (mkF m 59 #[.val (.int xc)] [(.int (1 : Int32))])) _
        exact k
      obtain ⟨fs, hr, hrun, hended, hRW⟩ := X0.leaveW hS0 (Nat.le_trans hk0 (Nat.le_of_eq (congrArg Array.size (show _ = h0 from e0)).symm)) (v := some (.int (1 : Int32))) (fun h => by rw [Bd.returns] at h; cases h)
      have RE := CHr.trans (CHr.refl HC0) (CHv.at X0 hZ hEL HC0)
      refine ⟨_, _, pre3 _ ?_, hrun, hended, _, _, rfl, ?_, (by rw [hh]; show CHr Z own_EL s.vm h0 s₁.vm s₁.heap; rw [show s₁.heap = h0 from e0]; exact RE), hRW.1, hRW.2.1, hRW.2.2.1, hRW.2.2.2.mono (by decide) (by decide)⟩
      · exact retN X0 hx (t := .boolean) Bd.returns (by simp) (hb hby d1_59) hr
      · show Q_rm_unres Z xc xcs h0 n0 _ s₁.heap _
        rw [e0]
        exact ⟨congrArg (fun z => some (Value.int z)) (show (1 : Int32) = (F_rm_unres xc xcs) from by rw [F_rm_unres, if_neg hR0, if_pos hR12]), N0, (Keep.refl h0 ([] : List Addr))⟩
    · have pre4 : ∀ t, Steps p.tables e below (s₁.setTop (mkF m 24 #[.val (.int xc)] [])) t → Steps p.tables e below (s₁.setTop (entryFrame m #[(.int xc)] 1)) t := by
        intro t k
        refine pre2 t ?_
        refine XS.iloadN X0.here hx rfl (hb hby d1_12) rfl ?_
        show Steps p.tables e below (s₁.setTop (mkF m 13 #[.val (.int xc)] [(.int xc)])) _
        refine XS.bipush X0.here hx rfl (hb hby d1_13) ?_
        show Steps p.tables e below (s₁.setTop (mkF m 15 #[.val (.int xc)] [(.int (65 : Int32)), (.int xc)])) _
        by_cases hl : xc < (65 : Int32)
        · refine XS.icmpYes X0.here hx rfl (pc0 := 15) (pc' := 24) rfl (hb hby d1_15) rfl (tlt hl).1 (by decide) (by decide) ?_
          show Steps p.tables e below (s₁.setTop (mkF m 24 #[.val (.int xc)] [])) _
          exact k
        · refine XS.icmpNo X0.here hx rfl (hb hby d1_15) rfl (flt hl).1 ?_
          show Steps p.tables e below (s₁.setTop (mkF m 18 #[.val (.int xc)] [])) _
          refine XS.iloadN X0.here hx rfl (hb hby d1_18) rfl ?_
          show Steps p.tables e below (s₁.setTop (mkF m 19 #[.val (.int xc)] [(.int xc)])) _
          refine XS.bipush X0.here hx rfl (hb hby d1_19) ?_
          show Steps p.tables e below (s₁.setTop (mkF m 21 #[.val (.int xc)] [(.int (90 : Int32)), (.int xc)])) _
          by_cases hh' : (90 : Int32) < xc
          · refine XS.icmpNo X0.here hx rfl (hb hby d1_21) rfl (tlt hh').2.2.2 ?_
            show Steps p.tables e below (s₁.setTop (mkF m 24 #[.val (.int xc)] [])) _
            exact k
          · exact absurd ⟨hl, hh'⟩ hR12
      by_cases hR24 : ¬ (xc < (48 : Int32)) ∧ ¬ ((57 : Int32) < xc)
      · have pre5 : ∀ t, Steps p.tables e below (s₁.setTop (mkF m 59 #[.val (.int xc)] [(.int (1 : Int32))])) t → Steps p.tables e below (s₁.setTop (entryFrame m #[(.int xc)] 1)) t := by
          intro t k
          refine pre4 t ?_
          refine XS.iloadN X0.here hx rfl (hb hby d1_24) rfl ?_
          show Steps p.tables e below (s₁.setTop (mkF m 25 #[.val (.int xc)] [(.int xc)])) _
          refine XS.bipush X0.here hx rfl (hb hby d1_25) ?_
          show Steps p.tables e below (s₁.setTop (mkF m 27 #[.val (.int xc)] [(.int (48 : Int32)), (.int xc)])) _
          refine XS.icmpNo X0.here hx rfl (hb hby d1_27) rfl (flt (show ¬ (xc < (48 : Int32)) from hR24.1)).1 ?_
          show Steps p.tables e below (s₁.setTop (mkF m 30 #[.val (.int xc)] [])) _
          refine XS.iloadN X0.here hx rfl (hb hby d1_30) rfl ?_
          show Steps p.tables e below (s₁.setTop (mkF m 31 #[.val (.int xc)] [(.int xc)])) _
          refine XS.bipush X0.here hx rfl (hb hby d1_31) ?_
          show Steps p.tables e below (s₁.setTop (mkF m 33 #[.val (.int xc)] [(.int (57 : Int32)), (.int xc)])) _
          refine XS.icmpYes X0.here hx rfl (pc0 := 33) (pc' := 54) rfl (hb hby d1_33) rfl (flt (show ¬ ((57 : Int32) < xc) from hR24.2)).2.2.2 (by decide) (by decide) ?_
          show Steps p.tables e below (s₁.setTop (mkF m 54 #[.val (.int xc)] [])) _
          refine XS.iconst X0.here hx rfl (hb hby d1_54) ?_
          show Steps p.tables e below (s₁.setTop (mkF m 55 #[.val (.int xc)] [(.int (1 : Int32))])) _
          refine XS.goto X0.here hx rfl (pc0 := 55) (pc' := 59) rfl (hb hby d1_55) (by decide) (by decide) ?_
          show Steps p.tables e below (s₁.setTop (mkF m 59 #[.val (.int xc)] [(.int (1 : Int32))])) _
          exact k
        obtain ⟨fs, hr, hrun, hended, hRW⟩ := X0.leaveW hS0 (Nat.le_trans hk0 (Nat.le_of_eq (congrArg Array.size (show _ = h0 from e0)).symm)) (v := some (.int (1 : Int32))) (fun h => by rw [Bd.returns] at h; cases h)
        have RE := CHr.trans (CHr.refl HC0) (CHv.at X0 hZ hEL HC0)
        refine ⟨_, _, pre5 _ ?_, hrun, hended, _, _, rfl, ?_, (by rw [hh]; show CHr Z own_EL s.vm h0 s₁.vm s₁.heap; rw [show s₁.heap = h0 from e0]; exact RE), hRW.1, hRW.2.1, hRW.2.2.1, hRW.2.2.2.mono (by decide) (by decide)⟩
        · exact retN X0 hx (t := .boolean) Bd.returns (by simp) (hb hby d1_59) hr
        · show Q_rm_unres Z xc xcs h0 n0 _ s₁.heap _
          rw [e0]
          exact ⟨congrArg (fun z => some (Value.int z)) (show (1 : Int32) = (F_rm_unres xc xcs) from by rw [F_rm_unres, if_neg hR0, if_neg hR12, if_pos hR24]), N0, (Keep.refl h0 ([] : List Addr))⟩
      · have pre6 : ∀ t, Steps p.tables e below (s₁.setTop (mkF m 36 #[.val (.int xc)] [])) t → Steps p.tables e below (s₁.setTop (entryFrame m #[(.int xc)] 1)) t := by
          intro t k
          refine pre4 t ?_
          refine XS.iloadN X0.here hx rfl (hb hby d1_24) rfl ?_
          show Steps p.tables e below (s₁.setTop (mkF m 25 #[.val (.int xc)] [(.int xc)])) _
          refine XS.bipush X0.here hx rfl (hb hby d1_25) ?_
          show Steps p.tables e below (s₁.setTop (mkF m 27 #[.val (.int xc)] [(.int (48 : Int32)), (.int xc)])) _
          by_cases hl : xc < (48 : Int32)
          · refine XS.icmpYes X0.here hx rfl (pc0 := 27) (pc' := 36) rfl (hb hby d1_27) rfl (tlt hl).1 (by decide) (by decide) ?_
            show Steps p.tables e below (s₁.setTop (mkF m 36 #[.val (.int xc)] [])) _
            exact k
          · refine XS.icmpNo X0.here hx rfl (hb hby d1_27) rfl (flt hl).1 ?_
            show Steps p.tables e below (s₁.setTop (mkF m 30 #[.val (.int xc)] [])) _
            refine XS.iloadN X0.here hx rfl (hb hby d1_30) rfl ?_
            show Steps p.tables e below (s₁.setTop (mkF m 31 #[.val (.int xc)] [(.int xc)])) _
            refine XS.bipush X0.here hx rfl (hb hby d1_31) ?_
            show Steps p.tables e below (s₁.setTop (mkF m 33 #[.val (.int xc)] [(.int (57 : Int32)), (.int xc)])) _
            by_cases hh' : (57 : Int32) < xc
            · refine XS.icmpNo X0.here hx rfl (hb hby d1_33) rfl (tlt hh').2.2.2 ?_
              show Steps p.tables e below (s₁.setTop (mkF m 36 #[.val (.int xc)] [])) _
              exact k
            · exact absurd ⟨hl, hh'⟩ hR24
        obtain ⟨a7, T7, h7, k7, b7, kb7, X7, e7, E7, hS7, hk7, hZ, hown, Ea7, Fc7, Fv7, Va7, -, -, CR7, -, -, st7⟩ := ldcCH X0 hx hZ hown (hw _ (List.mem_of_getElem? (i := 4) rfl)) wS e0 hS0 hk0 hEL (by simp [own_EL]) HC0 (vs := [(.int (45 : Int32)), (.int (46 : Int32)), (.int (95 : Int32)), (.int (126 : Int32))]) (z := (4 : Int32)) ⟨by decide, by first | rfl | decide⟩ (by decide) rfl (g := (mkF m 36 #[.val (.int xc)] [])) rfl (hb hby d1_36) (n := 16) (by decide) (by decide) (by decide) (by decide)
        have K7 : Keep h0 h7 ([] : List Addr) := (Keep.refl h0 ([] : List Addr)).ext E7
        have z7 : n0 ≤ h7.size := Nat.le_trans Z0 K7.1
        have RC7 := CHr.trans (CHr.refl HC0) CR7
        have X7 : Stand p l e _ _ m _ below meth c T7 _ 2 20 := X7
        have pre8 : ∀ t, Steps p.tables e below (T7.setTop (mkF m 38 #[.val (.int xc)] [(.ref a7)])) t → Steps p.tables e below (s₁.setTop (entryFrame m #[(.int xc)] 1)) t := fun t k => pre6 t (st7 t k)
        have pre9 : ∀ t, Steps p.tables e below (T7.setTop (mkF m 39 #[.val (.int xc)] [(.int xc), (.ref a7)])) t → Steps p.tables e below (s₁.setTop (entryFrame m #[(.int xc)] 1)) t := by
          intro t k
          refine pre8 t ?_
          refine XS.iloadN X7.here hx rfl (hb hby d1_38) rfl ?_
          show Steps p.tables e below (T7.setTop (mkF m 39 #[.val (.int xc)] [(.int xc), (.ref a7)])) _
          exact k
        have f10 := (SC.ext E7)
        obtain ⟨cq11, kq11, q11a, q11b, q11c⟩ := isOf hZ e7 Ea7
        obtain ⟨_, _, ⟨T11, L11, k11, n11⟩, -, X11, ⟨Lc11, hQ11, l11, y11, z11⟩, st11⟩ := X7.virtualBack hx (y := (⟨"java/lang/String", "indexOf", "(I)I"⟩ : MethodName)) (z := (⟨"java/lang/String", "indexOf", "(I)I"⟩ : MethodName)) hown (mvT hZ (hw _ (List.mem_of_getElem? (i := 12) rfl))) (mvT hZ (hw _ (List.mem_of_getElem? (i := 13) rfl))) (notFace_of_selects (args := #[]) (mvT hZ (hw _ (List.mem_of_getElem? (i := 15) rfl)))) (mvT hZ (hw _ (List.mem_of_getElem? (i := 15) rfl))) (mvT hZ (hw _ (List.mem_of_getElem? (i := 14) rfl))) (by decide) (backOf (W := 0) (rm_ixA l Z a0 hw [] a7 xc xcs b7 kb7 h7 n0 z7 f10 Fc7 Fv7 Va7 Ea7 (hcs)) hZ (hw _ (List.mem_of_getElem? (i := 16) rfl)) (hw _ (List.mem_of_getElem? (i := 5) rfl)) (by decide) (by decide)) q11a q11c (g := (mkF m 39 #[.val (.int xc)] [(.int xc), (.ref a7)])) rfl (by rw [hml]; rfl) (Steps.refl _) (argsL := [(.int xc)]) (rest := []) (lenOf pd6 rfl) rfl (by show 2 * 0 + _ ≤ _; exact Nat.le_of_eq rfl) (hb hby d1_39) (fun _ _ => ⟨rfl, e7, (by decide : 2 + 0 ≤ _), (by decide : 20 + 0 ≤ _)⟩)
        dsimp only [Pt.U, Pt.locs, Pt.cells, Pt.slots] at X11 l11 y11 z11 st11 hQ11
        subst y11 z11
        obtain ⟨rfl, M11, e11⟩ := hQ11
        have N11 : Fr n0 L11 := by rw [l11]; exact Fr.app N0 M11
        clear l11
        have X11 : Stand p l e _ _ m _ below meth c T11 _ 2 20 := X11
        have pre12 : ∀ t, Steps p.tables e below (T11.setTop (mkF m 42 #[.val (.int xc)] [(.int (F_rm_lioA xc))])) t → Steps p.tables e below (s₁.setTop (entryFrame m #[(.int xc)] 1)) t := fun t k => pre9 t (st11.trans k)
        by_cases hc42 : (F_rm_lioA xc) < (0 : Int32)
        · have pre13 : ∀ t, Steps p.tables e below (T11.setTop (mkF m 45 #[.val (.int xc)] [])) t → Steps p.tables e below (s₁.setTop (entryFrame m #[(.int xc)] 1)) t := by
            intro t k
            refine pre12 t ?_
            refine XS.ifNo X11.here hx rfl (hb hby d1_42) rfl ((if0 _ _).trans (tlt hc42).2.1) ?_
            show Steps p.tables e below (T11.setTop (mkF m 45 #[.val (.int xc)] [])) _
            exact k
          obtain ⟨a14, T14, h14, k14, b14, kb14, X14, e14, E14, hS14, hk14, hZ, hown, Ea14, Fc14, Fv14, Va14, -, -, CR14, -, -, st14⟩ := ldcCH X11 hx hZ hown (hw _ (List.mem_of_getElem? (i := 57) rfl)) wS e11 hS7 hk7 hEL (by simp [own_EL]) CR7.1 (vs := [(.int (33 : Int32)), (.int (36 : Int32)), (.int (38 : Int32)), (.int (39 : Int32)), (.int (40 : Int32)), (.int (41 : Int32)), (.int (42 : Int32)), (.int (43 : Int32)), (.int (44 : Int32)), (.int (59 : Int32)), (.int (61 : Int32))]) (z := (11 : Int32)) ⟨by decide, by first | rfl | decide⟩ (by decide) rfl (g := (mkF m 45 #[.val (.int xc)] [])) rfl (hb hby d1_45) (n := 44) (by decide) (by decide) (by decide) (by decide)
          have K14 : Keep h0 h14 ([] : List Addr) := K7.ext E14
          have z14 : n0 ≤ h14.size := Nat.le_trans Z0 K14.1
          have RC14 := CHr.trans RC7 CR14
          have X14 : Stand p l e _ _ m _ below meth c T14 _ 4 68 := X14
          have pre15 : ∀ t, Steps p.tables e below (T14.setTop (mkF m 47 #[.val (.int xc)] [(.ref a14)])) t → Steps p.tables e below (s₁.setTop (entryFrame m #[(.int xc)] 1)) t := fun t k => pre13 t (st14 t k)
          have pre16 : ∀ t, Steps p.tables e below (T14.setTop (mkF m 48 #[.val (.int xc)] [(.int xc), (.ref a14)])) t → Steps p.tables e below (s₁.setTop (entryFrame m #[(.int xc)] 1)) t := by
            intro t k
            refine pre15 t ?_
            refine XS.iloadN X14.here hx rfl (hb hby d1_47) rfl ?_
            show Steps p.tables e below (T14.setTop (mkF m 48 #[.val (.int xc)] [(.int xc), (.ref a14)])) _
            exact k
          have f17 := (f10.ext E14)
          obtain ⟨cq18, kq18, q18a, q18b, q18c⟩ := isOf hZ e14 Ea14
          obtain ⟨_, _, ⟨T18, L18, k18, n18⟩, -, X18, ⟨Lc18, hQ18, l18, y18, z18⟩, st18⟩ := X14.virtualBack hx (y := (⟨"java/lang/String", "indexOf", "(I)I"⟩ : MethodName)) (z := (⟨"java/lang/String", "indexOf", "(I)I"⟩ : MethodName)) hown (mvT hZ (hw _ (List.mem_of_getElem? (i := 12) rfl))) (mvT hZ (hw _ (List.mem_of_getElem? (i := 13) rfl))) (notFace_of_selects (args := #[]) (mvT hZ (hw _ (List.mem_of_getElem? (i := 15) rfl)))) (mvT hZ (hw _ (List.mem_of_getElem? (i := 15) rfl))) (mvT hZ (hw _ (List.mem_of_getElem? (i := 14) rfl))) (by decide) (backOf (W := 0) (rm_ixB l Z a0 hw [] a14 xc xcs b14 kb14 h14 n0 z14 f17 Fc14 Fv14 Va14 Ea14 (hcs)) hZ (hw _ (List.mem_of_getElem? (i := 16) rfl)) (hw _ (List.mem_of_getElem? (i := 5) rfl)) (by decide) (by decide)) q18a q18c (g := (mkF m 48 #[.val (.int xc)] [(.int xc), (.ref a14)])) rfl (by rw [hml]; rfl) (Steps.refl _) (argsL := [(.int xc)]) (rest := []) (lenOf pd6 rfl) rfl (by show 2 * 0 + _ ≤ _; exact Nat.le_of_eq rfl) (hb hby d1_48) (fun _ _ => ⟨rfl, e14, (by decide : 4 + 0 ≤ _), (by decide : 68 + 0 ≤ _)⟩)
          dsimp only [Pt.U, Pt.locs, Pt.cells, Pt.slots] at X18 l18 y18 z18 st18 hQ18
          subst y18 z18
          obtain ⟨rfl, M18, e18⟩ := hQ18
          have N18 : Fr n0 L18 := by rw [l18]; exact Fr.app N11 M18
          clear l18
          have X18 : Stand p l e _ _ m _ below meth c T18 _ 4 68 := X18
          have pre19 : ∀ t, Steps p.tables e below (T18.setTop (mkF m 51 #[.val (.int xc)] [(.int (F_rm_lioB xc))])) t → Steps p.tables e below (s₁.setTop (entryFrame m #[(.int xc)] 1)) t := fun t k => pre16 t (st18.trans k)
          by_cases hc51 : (F_rm_lioB xc) < (0 : Int32)
          · have pre20 : ∀ t, Steps p.tables e below (T18.setTop (mkF m 59 #[.val (.int xc)] [(.int (0 : Int32))])) t → Steps p.tables e below (s₁.setTop (entryFrame m #[(.int xc)] 1)) t := by
              intro t k
              refine pre19 t ?_
              refine XS.ifYes X18.here hx rfl (pc0 := 51) (pc' := 58) rfl (hb hby d1_51) rfl ((if0 _ _).trans (tlt hc51).1) (by decide) (by decide) ?_
              show Steps p.tables e below (T18.setTop (mkF m 58 #[.val (.int xc)] [])) _
              refine XS.iconst X18.here hx rfl (hb hby d1_58) ?_
              show Steps p.tables e below (T18.setTop (mkF m 59 #[.val (.int xc)] [(.int (0 : Int32))])) _
              exact k
            obtain ⟨fs, hr, hrun, hended, hRW⟩ := X18.leaveW hS14 (Nat.le_trans hk14 (Nat.le_of_eq (congrArg Array.size (show _ = h14 from e18)).symm)) (v := some (.int (0 : Int32))) (fun h => by rw [Bd.returns] at h; cases h)
            have RE := CHr.trans RC14 (CHv.at X18 hZ hEL CR14.1)
            refine ⟨_, _, pre20 _ ?_, hrun, hended, _, _, rfl, ?_, (by rw [hh]; show CHr Z own_EL s.vm h0 T18.vm T18.heap; rw [show T18.heap = h14 from e18]; exact RE), hRW.1, hRW.2.1, hRW.2.2.1, hRW.2.2.2.mono (by decide) (by decide)⟩
            · exact retN X18 hx (t := .boolean) Bd.returns (by simp) (hb hby d1_59) hr
            · show Q_rm_unres Z xc xcs h0 n0 _ T18.heap _
              rw [e18]
              exact ⟨congrArg (fun z => some (Value.int z)) (show (0 : Int32) = (F_rm_unres xc xcs) from by rw [F_rm_unres, if_neg hR0, if_neg hR12, if_neg hR24, if_pos hc42, if_pos hc51]), N18, K14⟩
          · have pre21 : ∀ t, Steps p.tables e below (T18.setTop (mkF m 59 #[.val (.int xc)] [(.int (1 : Int32))])) t → Steps p.tables e below (s₁.setTop (entryFrame m #[(.int xc)] 1)) t := by
              intro t k
              refine pre19 t ?_
              refine XS.ifNo X18.here hx rfl (hb hby d1_51) rfl ((if0 _ _).trans (flt hc51).1) ?_
              show Steps p.tables e below (T18.setTop (mkF m 54 #[.val (.int xc)] [])) _
              refine XS.iconst X18.here hx rfl (hb hby d1_54) ?_
              show Steps p.tables e below (T18.setTop (mkF m 55 #[.val (.int xc)] [(.int (1 : Int32))])) _
              refine XS.goto X18.here hx rfl (pc0 := 55) (pc' := 59) rfl (hb hby d1_55) (by decide) (by decide) ?_
              show Steps p.tables e below (T18.setTop (mkF m 59 #[.val (.int xc)] [(.int (1 : Int32))])) _
              exact k
            obtain ⟨fs, hr, hrun, hended, hRW⟩ := X18.leaveW hS14 (Nat.le_trans hk14 (Nat.le_of_eq (congrArg Array.size (show _ = h14 from e18)).symm)) (v := some (.int (1 : Int32))) (fun h => by rw [Bd.returns] at h; cases h)
            have RE := CHr.trans RC14 (CHv.at X18 hZ hEL CR14.1)
            refine ⟨_, _, pre21 _ ?_, hrun, hended, _, _, rfl, ?_, (by rw [hh]; show CHr Z own_EL s.vm h0 T18.vm T18.heap; rw [show T18.heap = h14 from e18]; exact RE), hRW.1, hRW.2.1, hRW.2.2.1, hRW.2.2.2.mono (by decide) (by decide)⟩
            · exact retN X18 hx (t := .boolean) Bd.returns (by simp) (hb hby d1_59) hr
            · show Q_rm_unres Z xc xcs h0 n0 _ T18.heap _
              rw [e18]
              exact ⟨congrArg (fun z => some (Value.int z)) (show (1 : Int32) = (F_rm_unres xc xcs) from by rw [F_rm_unres, if_neg hR0, if_neg hR12, if_neg hR24, if_pos hc42, if_neg hc51]), N18, K14⟩
        · have pre22 : ∀ t, Steps p.tables e below (T11.setTop (mkF m 59 #[.val (.int xc)] [(.int (1 : Int32))])) t → Steps p.tables e below (s₁.setTop (entryFrame m #[(.int xc)] 1)) t := by
            intro t k
            refine pre12 t ?_
            refine XS.ifYes X11.here hx rfl (pc0 := 42) (pc' := 54) rfl (hb hby d1_42) rfl ((if0 _ _).trans (flt hc42).2.1) (by decide) (by decide) ?_
            show Steps p.tables e below (T11.setTop (mkF m 54 #[.val (.int xc)] [])) _
            refine XS.iconst X11.here hx rfl (hb hby d1_54) ?_
            show Steps p.tables e below (T11.setTop (mkF m 55 #[.val (.int xc)] [(.int (1 : Int32))])) _
            refine XS.goto X11.here hx rfl (pc0 := 55) (pc' := 59) rfl (hb hby d1_55) (by decide) (by decide) ?_
            show Steps p.tables e below (T11.setTop (mkF m 59 #[.val (.int xc)] [(.int (1 : Int32))])) _
            exact k
          obtain ⟨fs, hr, hrun, hended, hRW⟩ := X11.leaveW hS7 (Nat.le_trans hk7 (Nat.le_of_eq (congrArg Array.size (show _ = h7 from e11)).symm)) (v := some (.int (1 : Int32))) (fun h => by rw [Bd.returns] at h; cases h)
          have RE := CHr.trans RC7 (CHv.at X11 hZ hEL CR7.1)
          refine ⟨_, _, pre22 _ ?_, hrun, hended, _, _, rfl, ?_, (by rw [hh]; show CHr Z own_EL s.vm h0 T11.vm T11.heap; rw [show T11.heap = h7 from e11]; exact RE), hRW.1, hRW.2.1, hRW.2.2.1, hRW.2.2.2.mono (by decide) (by decide)⟩
          · exact retN X11 hx (t := .boolean) Bd.returns (by simp) (hb hby d1_59) hr
          · show Q_rm_unres Z xc xcs h0 n0 _ T11.heap _
            rw [e11]
            exact ⟨congrArg (fun z => some (Value.int z)) (show (1 : Int32) = (F_rm_unres xc xcs) from by rw [F_rm_unres, if_neg hR0, if_neg hR12, if_neg hR24, if_neg hc42]), N11, K7⟩
theorem d12_0 : decode method_3_code 0 = .ok (.iload_n 0, 1) := by decide +kernel
theorem d12_1 : decode method_3_code 1 = .ok (.bipush 33, 2) := by decide +kernel
theorem d12_3 : decode method_3_code 3 = .ok (.if_icmp .eq 81, 3) := by decide +kernel
theorem d12_84 : decode method_3_code 84 = .ok (.iconst 1, 1) := by decide +kernel
theorem d12_85 : decode method_3_code 85 = .ok (.goto 4, 3) := by decide +kernel
theorem d12_89 : decode method_3_code 89 = .ok (.ireturn, 1) := by decide +kernel
theorem d12_6 : decode method_3_code 6 = .ok (.iload_n 0, 1) := by decide +kernel
theorem d12_7 : decode method_3_code 7 = .ok (.bipush 36, 2) := by decide +kernel
theorem d12_9 : decode method_3_code 9 = .ok (.if_icmp .eq 75, 3) := by decide +kernel
theorem d12_12 : decode method_3_code 12 = .ok (.iload_n 0, 1) := by decide +kernel
theorem d12_13 : decode method_3_code 13 = .ok (.bipush 38, 2) := by decide +kernel
theorem d12_15 : decode method_3_code 15 = .ok (.if_icmp .lt 9, 3) := by decide +kernel
theorem d12_18 : decode method_3_code 18 = .ok (.iload_n 0, 1) := by decide +kernel
theorem d12_19 : decode method_3_code 19 = .ok (.bipush 46, 2) := by decide +kernel
theorem d12_21 : decode method_3_code 21 = .ok (.if_icmp .le 63, 3) := by decide +kernel
theorem d12_24 : decode method_3_code 24 = .ok (.iload_n 0, 1) := by decide +kernel
theorem d12_25 : decode method_3_code 25 = .ok (.bipush 48, 2) := by decide +kernel
theorem d12_27 : decode method_3_code 27 = .ok (.if_icmp .lt 9, 3) := by decide +kernel
theorem d12_30 : decode method_3_code 30 = .ok (.iload_n 0, 1) := by decide +kernel
theorem d12_31 : decode method_3_code 31 = .ok (.bipush 57, 2) := by decide +kernel
theorem d12_33 : decode method_3_code 33 = .ok (.if_icmp .le 51, 3) := by decide +kernel
theorem d12_36 : decode method_3_code 36 = .ok (.iload_n 0, 1) := by decide +kernel
theorem d12_37 : decode method_3_code 37 = .ok (.bipush 59, 2) := by decide +kernel
theorem d12_39 : decode method_3_code 39 = .ok (.if_icmp .eq 45, 3) := by decide +kernel
theorem d12_42 : decode method_3_code 42 = .ok (.iload_n 0, 1) := by decide +kernel
theorem d12_43 : decode method_3_code 43 = .ok (.bipush 61, 2) := by decide +kernel
theorem d12_45 : decode method_3_code 45 = .ok (.if_icmp .eq 39, 3) := by decide +kernel
theorem d12_48 : decode method_3_code 48 = .ok (.iload_n 0, 1) := by decide +kernel
theorem d12_49 : decode method_3_code 49 = .ok (.bipush 65, 2) := by decide +kernel
theorem d12_51 : decode method_3_code 51 = .ok (.if_icmp .lt 9, 3) := by decide +kernel
theorem d12_54 : decode method_3_code 54 = .ok (.iload_n 0, 1) := by decide +kernel
theorem d12_55 : decode method_3_code 55 = .ok (.bipush 90, 2) := by decide +kernel
theorem d12_57 : decode method_3_code 57 = .ok (.if_icmp .le 27, 3) := by decide +kernel
theorem d12_60 : decode method_3_code 60 = .ok (.iload_n 0, 1) := by decide +kernel
theorem d12_61 : decode method_3_code 61 = .ok (.bipush 95, 2) := by decide +kernel
theorem d12_63 : decode method_3_code 63 = .ok (.if_icmp .eq 21, 3) := by decide +kernel
theorem d12_66 : decode method_3_code 66 = .ok (.iload_n 0, 1) := by decide +kernel
theorem d12_67 : decode method_3_code 67 = .ok (.bipush 97, 2) := by decide +kernel
theorem d12_69 : decode method_3_code 69 = .ok (.if_icmp .lt 9, 3) := by decide +kernel
theorem d12_72 : decode method_3_code 72 = .ok (.iload_n 0, 1) := by decide +kernel
theorem d12_73 : decode method_3_code 73 = .ok (.bipush 122, 2) := by decide +kernel
theorem d12_75 : decode method_3_code 75 = .ok (.if_icmp .le 9, 3) := by decide +kernel
theorem d12_78 : decode method_3_code 78 = .ok (.iload_n 0, 1) := by decide +kernel
theorem d12_79 : decode method_3_code 79 = .ok (.bipush 126, 2) := by decide +kernel
theorem d12_81 : decode method_3_code 81 = .ok (.if_icmp .ne 7, 3) := by decide +kernel
theorem d12_88 : decode method_3_code 88 = .ok (.iconst 0, 1) := by decide +kernel
theorem pn3 : plainName "com/example/problems_as_payloads/problemsaspayloads/PercentEncodingIsUnreservedOrSubDelimiterPinLaw" = true := by first | (simp [plainName, overriddenIn]; done) | decide +kernel
def F_rm_exp (xc : Int32) : Int32 := (if xc = (33 : Int32) then (1 : Int32) else (if xc = (36 : Int32) then (1 : Int32) else (if ¬ (xc < (38 : Int32)) ∧ ¬ ((46 : Int32) < xc) then (1 : Int32) else (if ¬ (xc < (48 : Int32)) ∧ ¬ ((57 : Int32) < xc) then (1 : Int32) else (if xc = (59 : Int32) then (1 : Int32) else (if xc = (61 : Int32) then (1 : Int32) else (if ¬ (xc < (65 : Int32)) ∧ ¬ ((90 : Int32) < xc) then (1 : Int32) else (if xc = (95 : Int32) then (1 : Int32) else (if ¬ (xc < (97 : Int32)) ∧ ¬ ((122 : Int32) < xc) then (1 : Int32) else (if xc = (126 : Int32) then (1 : Int32) else (0 : Int32)))))))))))
theorem ef_rm_exp (m : MethodId) (xc : Int32) : entryFrame m #[(.int xc)] 1 = mkF m 0 #[.val (.int xc)] [] := by first | (simp [entryFrame, mkF, argsToLocals, Value.category]; done) | rfl
def Q_rm_exp (Z : State) (xc : Int32) (h0 : Heap) (n0 : Nat) (v : Option Value) (h : Heap) (L : List Loc) : Prop := v = some (.int (F_rm_exp xc)) ∧ Fr n0 L ∧ h = h0
set_option maxRecDepth 65536 in
set_option maxHeartbeats 40000000 in
theorem rm_exp (l : Launch) (Z : State) (a0 : Array Value) (hw : ∀ d ∈ tables_1, d.before a0 Z = true) (ws : List Jvm.Cond) (xc : Int32) (h0 : Heap) (n0 : Nat) (Z0 : n0 ≤ h0.size) :
    MetFree l (⟨"com/example/problems_as_payloads/problemsaspayloads/PercentEncodingIsUnreservedOrSubDelimiterPinLaw", "expected", "(I)Z"⟩ : MethodName) (head1 (Jvm.Cond.code (⟨"com/example/problems_as_payloads/problemsaspayloads/PercentEncodingIsUnreservedOrSubDelimiterPinLaw", "expected", "(I)Z"⟩ : MethodName) method_3_code 1 (some .boolean) :: ws) ({ frames := 0, cells := 0, slots := 0, locals := 0 } : Room)) (fun a U => a = #[(.int xc)] ∧ Z.Warmed39 U.vm ∧ U.heap = h0) (fun _ _ _ _ _ => True) (fun _ U o U' => ∃ v L, o = .returned v ∧ Q_rm_exp Z xc h0 n0 v U'.heap L ∧ FrameEnd U o U' L ({ frames := 0, cells := 0, slots := 0, locals := 0 } : Room).cells ({ frames := 0, cells := 0, slots := 0, locals := 0 } : Room).slots) := by
  refine MetFree.of_bodySF (plainFor_of_name pn3) hisR ?_
  intro p e s m args below meth c s₁ Bd hml0 hP hK
  obtain ⟨rfl, hZ, hh⟩ := hP
  have hx := Bd.exec
  have hby := Bd.bytes
  have hml : c.maxLocals = 1 := hml0
  have hown : s.vm.findClass "com/example/problems_as_payloads/problemsaspayloads/PercentEncodingIsUnreservedOrSubDelimiterPinLaw" = some m.cls := findClass_of_methodNamed Bd.named
  have hnm := (name_of_methodNamed Bd.named Bd.method).1
  have X0 : Stand p l e ({ frames := 0, cells := 0, slots := 0, locals := 0 } : Room) s m #[(.int xc)] below meth c s₁ [] 0 0 := Stand.of_body Bd
  have e0 : s₁.heap = h0 := by rw [← hh, Bd.state]; rfl
  have N0 := Fr.nil n0
  have pre0 : ∀ t, Steps p.tables e below (s₁.setTop (mkF m 0 #[.val (.int xc)] [])) t → Steps p.tables e below (s₁.setTop (entryFrame m #[(.int xc)] 1)) t := fun t k => castTop (ef_rm_exp m xc) k
  have pre1 : ∀ t, Steps p.tables e below (s₁.setTop (mkF m 3 #[.val (.int xc)] [(.int (33 : Int32)), (.int xc)])) t → Steps p.tables e below (s₁.setTop (entryFrame m #[(.int xc)] 1)) t := by
    intro t k
    refine pre0 t ?_
    refine XS.iloadN X0.here hx rfl (hb hby d12_0) rfl ?_
    show Steps p.tables e below (s₁.setTop (mkF m 1 #[.val (.int xc)] [(.int xc)])) _
    refine XS.bipush X0.here hx rfl (hb hby d12_1) ?_
    show Steps p.tables e below (s₁.setTop (mkF m 3 #[.val (.int xc)] [(.int (33 : Int32)), (.int xc)])) _
    exact k
  by_cases hc3 : xc = (33 : Int32)
  · have pre2 : ∀ t, Steps p.tables e below (s₁.setTop (mkF m 89 #[.val (.int xc)] [(.int (1 : Int32))])) t → Steps p.tables e below (s₁.setTop (entryFrame m #[(.int xc)] 1)) t := by
      intro t k
      refine pre1 t ?_
      refine XS.icmpYes X0.here hx rfl (pc0 := 3) (pc' := 84) rfl (hb hby d12_3) rfl (teq hc3).1 (by decide) (by decide) ?_
      show Steps p.tables e below (s₁.setTop (mkF m 84 #[.val (.int xc)] [])) _
      refine XS.iconst X0.here hx rfl (hb hby d12_84) ?_
      show Steps p.tables e below (s₁.setTop (mkF m 85 #[.val (.int xc)] [(.int (1 : Int32))])) _
      refine XS.goto X0.here hx rfl (pc0 := 85) (pc' := 89) rfl (hb hby d12_85) (by decide) (by decide) ?_
      show Steps p.tables e below (s₁.setTop (mkF m 89 #[.val (.int xc)] [(.int (1 : Int32))])) _
      exact k
    obtain ⟨fs, hr, hrun, hended, hW, hsame⟩ := X0.leave (v := some (.int (1 : Int32))) (fun h => by rw [Bd.returns] at h; cases h)
    refine ⟨_, _, pre2 _ ?_, hrun, hended, _, _, rfl, ?_, ⟨_, rfl⟩, hW, hsame.mono (by decide) (by decide)⟩
    · exact retN X0 hx (t := .boolean) Bd.returns (by simp) (hb hby d12_89) hr
    · show Q_rm_exp Z xc h0 n0 _ s₁.heap _
      rw [e0]
      exact ⟨congrArg (fun z => some (Value.int z)) (show (1 : Int32) = (F_rm_exp xc) from by rw [F_rm_exp, if_pos hc3]), N0, rfl⟩
  · have pre3 : ∀ t, Steps p.tables e below (s₁.setTop (mkF m 9 #[.val (.int xc)] [(.int (36 : Int32)), (.int xc)])) t → Steps p.tables e below (s₁.setTop (entryFrame m #[(.int xc)] 1)) t := by
      intro t k
      refine pre1 t ?_
      refine XS.icmpNo X0.here hx rfl (hb hby d12_3) rfl (feq hc3).1 ?_
      show Steps p.tables e below (s₁.setTop (mkF m 6 #[.val (.int xc)] [])) _
      refine XS.iloadN X0.here hx rfl (hb hby d12_6) rfl ?_
      show Steps p.tables e below (s₁.setTop (mkF m 7 #[.val (.int xc)] [(.int xc)])) _
      refine XS.bipush X0.here hx rfl (hb hby d12_7) ?_
      show Steps p.tables e below (s₁.setTop (mkF m 9 #[.val (.int xc)] [(.int (36 : Int32)), (.int xc)])) _
      exact k
    by_cases hc9 : xc = (36 : Int32)
    · have pre4 : ∀ t, Steps p.tables e below (s₁.setTop (mkF m 89 #[.val (.int xc)] [(.int (1 : Int32))])) t → Steps p.tables e below (s₁.setTop (entryFrame m #[(.int xc)] 1)) t := by
        intro t k
        refine pre3 t ?_
        refine XS.icmpYes X0.here hx rfl (pc0 := 9) (pc' := 84) rfl (hb hby d12_9) rfl (teq hc9).1 (by decide) (by decide) ?_
        show Steps p.tables e below (s₁.setTop (mkF m 84 #[.val (.int xc)] [])) _
        refine XS.iconst X0.here hx rfl (hb hby d12_84) ?_
        show Steps p.tables e below (s₁.setTop (mkF m 85 #[.val (.int xc)] [(.int (1 : Int32))])) _
        refine XS.goto X0.here hx rfl (pc0 := 85) (pc' := 89) rfl (hb hby d12_85) (by decide) (by decide) ?_
        show Steps p.tables e below (s₁.setTop (mkF m 89 #[.val (.int xc)] [(.int (1 : Int32))])) _
        exact k
      obtain ⟨fs, hr, hrun, hended, hW, hsame⟩ := X0.leave (v := some (.int (1 : Int32))) (fun h => by rw [Bd.returns] at h; cases h)
      refine ⟨_, _, pre4 _ ?_, hrun, hended, _, _, rfl, ?_, ⟨_, rfl⟩, hW, hsame.mono (by decide) (by decide)⟩
      · exact retN X0 hx (t := .boolean) Bd.returns (by simp) (hb hby d12_89) hr
      · show Q_rm_exp Z xc h0 n0 _ s₁.heap _
        rw [e0]
        exact ⟨congrArg (fun z => some (Value.int z)) (show (1 : Int32) = (F_rm_exp xc) from by rw [F_rm_exp, if_neg hc3, if_pos hc9]), N0, rfl⟩
    · have pre5 : ∀ t, Steps p.tables e below (s₁.setTop (mkF m 12 #[.val (.int xc)] [])) t → Steps p.tables e below (s₁.setTop (entryFrame m #[(.int xc)] 1)) t := by
        intro t k
        refine pre3 t ?_
        refine XS.icmpNo X0.here hx rfl (hb hby d12_9) rfl (feq hc9).1 ?_
        show Steps p.tables e below (s₁.setTop (mkF m 12 #[.val (.int xc)] [])) _
        exact k
      by_cases hR12 : ¬ (xc < (38 : Int32)) ∧ ¬ ((46 : Int32) < xc)
      · have pre6 : ∀ t, Steps p.tables e below (s₁.setTop (mkF m 89 #[.val (.int xc)] [(.int (1 : Int32))])) t → Steps p.tables e below (s₁.setTop (entryFrame m #[(.int xc)] 1)) t := by
          intro t k
          refine pre5 t ?_
          refine XS.iloadN X0.here hx rfl (hb hby d12_12) rfl ?_
          show Steps p.tables e below (s₁.setTop (mkF m 13 #[.val (.int xc)] [(.int xc)])) _
          refine XS.bipush X0.here hx rfl (hb hby d12_13) ?_
          show Steps p.tables e below (s₁.setTop (mkF m 15 #[.val (.int xc)] [(.int (38 : Int32)), (.int xc)])) _
          refine XS.icmpNo X0.here hx rfl (hb hby d12_15) rfl (flt (show ¬ (xc < (38 : Int32)) from hR12.1)).1 ?_
          show Steps p.tables e below (s₁.setTop (mkF m 18 #[.val (.int xc)] [])) _
          refine XS.iloadN X0.here hx rfl (hb hby d12_18) rfl ?_
          show Steps p.tables e below (s₁.setTop (mkF m 19 #[.val (.int xc)] [(.int xc)])) _
          refine XS.bipush X0.here hx rfl (hb hby d12_19) ?_
          show Steps p.tables e below (s₁.setTop (mkF m 21 #[.val (.int xc)] [(.int (46 : Int32)), (.int xc)])) _
          refine XS.icmpYes X0.here hx rfl (pc0 := 21) (pc' := 84) rfl (hb hby d12_21) rfl (flt (show ¬ ((46 : Int32) < xc) from hR12.2)).2.2.2 (by decide) (by decide) ?_
          show Steps p.tables e below (s₁.setTop (mkF m 84 #[.val (.int xc)] [])) _
          refine XS.iconst X0.here hx rfl (hb hby d12_84) ?_
          show Steps p.tables e below (s₁.setTop (mkF m 85 #[.val (.int xc)] [(.int (1 : Int32))])) _
          refine XS.goto X0.here hx rfl (pc0 := 85) (pc' := 89) rfl (hb hby d12_85) (by decide) (by decide) ?_
          show Steps p.tables e below (s₁.setTop (mkF m 89 #[.val (.int xc)] [(.int (1 : Int32))])) _
          exact k
        obtain ⟨fs, hr, hrun, hended, hW, hsame⟩ := X0.leave (v := some (.int (1 : Int32))) (fun h => by rw [Bd.returns] at h; cases h)
        refine ⟨_, _, pre6 _ ?_, hrun, hended, _, _, rfl, ?_, ⟨_, rfl⟩, hW, hsame.mono (by decide) (by decide)⟩
        · exact retN X0 hx (t := .boolean) Bd.returns (by simp) (hb hby d12_89) hr
        · show Q_rm_exp Z xc h0 n0 _ s₁.heap _
          rw [e0]
          exact ⟨congrArg (fun z => some (Value.int z)) (show (1 : Int32) = (F_rm_exp xc) from by rw [F_rm_exp, if_neg hc3, if_neg hc9, if_pos hR12]), N0, rfl⟩
      · have pre7 : ∀ t, Steps p.tables e below (s₁.setTop (mkF m 24 #[.val (.int xc)] [])) t → Steps p.tables e below (s₁.setTop (entryFrame m #[(.int xc)] 1)) t := by
          intro t k
          refine pre5 t ?_
          refine XS.iloadN X0.here hx rfl (hb hby d12_12) rfl ?_
          show Steps p.tables e below (s₁.setTop (mkF m 13 #[.val (.int xc)] [(.int xc)])) _
          refine XS.bipush X0.here hx rfl (hb hby d12_13) ?_
          show Steps p.tables e below (s₁.setTop (mkF m 15 #[.val (.int xc)] [(.int (38 : Int32)), (.int xc)])) _
          by_cases hl : xc < (38 : Int32)
          · refine XS.icmpYes X0.here hx rfl (pc0 := 15) (pc' := 24) rfl (hb hby d12_15) rfl (tlt hl).1 (by decide) (by decide) ?_
            show Steps p.tables e below (s₁.setTop (mkF m 24 #[.val (.int xc)] [])) _
            exact k
          · refine XS.icmpNo X0.here hx rfl (hb hby d12_15) rfl (flt hl).1 ?_
            show Steps p.tables e below (s₁.setTop (mkF m 18 #[.val (.int xc)] [])) _
            refine XS.iloadN X0.here hx rfl (hb hby d12_18) rfl ?_
            show Steps p.tables e below (s₁.setTop (mkF m 19 #[.val (.int xc)] [(.int xc)])) _
            refine XS.bipush X0.here hx rfl (hb hby d12_19) ?_
            show Steps p.tables e below (s₁.setTop (mkF m 21 #[.val (.int xc)] [(.int (46 : Int32)), (.int xc)])) _
            by_cases hh' : (46 : Int32) < xc
            · refine XS.icmpNo X0.here hx rfl (hb hby d12_21) rfl (tlt hh').2.2.2 ?_
              show Steps p.tables e below (s₁.setTop (mkF m 24 #[.val (.int xc)] [])) _
              exact k
            · exact absurd ⟨hl, hh'⟩ hR12
        by_cases hR24 : ¬ (xc < (48 : Int32)) ∧ ¬ ((57 : Int32) < xc)
        · have pre8 : ∀ t, Steps p.tables e below (s₁.setTop (mkF m 89 #[.val (.int xc)] [(.int (1 : Int32))])) t → Steps p.tables e below (s₁.setTop (entryFrame m #[(.int xc)] 1)) t := by
            intro t k
            refine pre7 t ?_
            refine XS.iloadN X0.here hx rfl (hb hby d12_24) rfl ?_
            show Steps p.tables e below (s₁.setTop (mkF m 25 #[.val (.int xc)] [(.int xc)])) _
            refine XS.bipush X0.here hx rfl (hb hby d12_25) ?_
            show Steps p.tables e below (s₁.setTop (mkF m 27 #[.val (.int xc)] [(.int (48 : Int32)), (.int xc)])) _
            refine XS.icmpNo X0.here hx rfl (hb hby d12_27) rfl (flt (show ¬ (xc < (48 : Int32)) from hR24.1)).1 ?_
            show Steps p.tables e below (s₁.setTop (mkF m 30 #[.val (.int xc)] [])) _
            refine XS.iloadN X0.here hx rfl (hb hby d12_30) rfl ?_
            show Steps p.tables e below (s₁.setTop (mkF m 31 #[.val (.int xc)] [(.int xc)])) _
            refine XS.bipush X0.here hx rfl (hb hby d12_31) ?_
            show Steps p.tables e below (s₁.setTop (mkF m 33 #[.val (.int xc)] [(.int (57 : Int32)), (.int xc)])) _
            refine XS.icmpYes X0.here hx rfl (pc0 := 33) (pc' := 84) rfl (hb hby d12_33) rfl (flt (show ¬ ((57 : Int32) < xc) from hR24.2)).2.2.2 (by decide) (by decide) ?_
            show Steps p.tables e below (s₁.setTop (mkF m 84 #[.val (.int xc)] [])) _
            refine XS.iconst X0.here hx rfl (hb hby d12_84) ?_
            show Steps p.tables e below (s₁.setTop (mkF m 85 #[.val (.int xc)] [(.int (1 : Int32))])) _
            refine XS.goto X0.here hx rfl (pc0 := 85) (pc' := 89) rfl (hb hby d12_85) (by decide) (by decide) ?_
            show Steps p.tables e below (s₁.setTop (mkF m 89 #[.val (.int xc)] [(.int (1 : Int32))])) _
            exact k
          obtain ⟨fs, hr, hrun, hended, hW, hsame⟩ := X0.leave (v := some (.int (1 : Int32))) (fun h => by rw [Bd.returns] at h; cases h)
          refine ⟨_, _, pre8 _ ?_, hrun, hended, _, _, rfl, ?_, ⟨_, rfl⟩, hW, hsame.mono (by decide) (by decide)⟩
          · exact retN X0 hx (t := .boolean) Bd.returns (by simp) (hb hby d12_89) hr
          · show Q_rm_exp Z xc h0 n0 _ s₁.heap _
            rw [e0]
            exact ⟨congrArg (fun z => some (Value.int z)) (show (1 : Int32) = (F_rm_exp xc) from by rw [F_rm_exp, if_neg hc3, if_neg hc9, if_neg hR12, if_pos hR24]), N0, rfl⟩
        · have pre9 : ∀ t, Steps p.tables e below (s₁.setTop (mkF m 36 #[.val (.int xc)] [])) t → Steps p.tables e below (s₁.setTop (entryFrame m #[(.int xc)] 1)) t := by
            intro t k
            refine pre7 t ?_
            refine XS.iloadN X0.here hx rfl (hb hby d12_24) rfl ?_
            show Steps p.tables e below (s₁.setTop (mkF m 25 #[.val (.int xc)] [(.int xc)])) _
            refine XS.bipush X0.here hx rfl (hb hby d12_25) ?_
            show Steps p.tables e below (s₁.setTop (mkF m 27 #[.val (.int xc)] [(.int (48 : Int32)), (.int xc)])) _
            by_cases hl : xc < (48 : Int32)
            · refine XS.icmpYes X0.here hx rfl (pc0 := 27) (pc' := 36) rfl (hb hby d12_27) rfl (tlt hl).1 (by decide) (by decide) ?_
              show Steps p.tables e below (s₁.setTop (mkF m 36 #[.val (.int xc)] [])) _
              exact k
            · refine XS.icmpNo X0.here hx rfl (hb hby d12_27) rfl (flt hl).1 ?_
              show Steps p.tables e below (s₁.setTop (mkF m 30 #[.val (.int xc)] [])) _
              refine XS.iloadN X0.here hx rfl (hb hby d12_30) rfl ?_
              show Steps p.tables e below (s₁.setTop (mkF m 31 #[.val (.int xc)] [(.int xc)])) _
              refine XS.bipush X0.here hx rfl (hb hby d12_31) ?_
              show Steps p.tables e below (s₁.setTop (mkF m 33 #[.val (.int xc)] [(.int (57 : Int32)), (.int xc)])) _
              by_cases hh' : (57 : Int32) < xc
              · refine XS.icmpNo X0.here hx rfl (hb hby d12_33) rfl (tlt hh').2.2.2 ?_
                show Steps p.tables e below (s₁.setTop (mkF m 36 #[.val (.int xc)] [])) _
                exact k
              · exact absurd ⟨hl, hh'⟩ hR24
          have pre10 : ∀ t, Steps p.tables e below (s₁.setTop (mkF m 39 #[.val (.int xc)] [(.int (59 : Int32)), (.int xc)])) t → Steps p.tables e below (s₁.setTop (entryFrame m #[(.int xc)] 1)) t := by
            intro t k
            refine pre9 t ?_
            refine XS.iloadN X0.here hx rfl (hb hby d12_36) rfl ?_
            show Steps p.tables e below (s₁.setTop (mkF m 37 #[.val (.int xc)] [(.int xc)])) _
            refine XS.bipush X0.here hx rfl (hb hby d12_37) ?_
            show Steps p.tables e below (s₁.setTop (mkF m 39 #[.val (.int xc)] [(.int (59 : Int32)), (.int xc)])) _
            exact k
          by_cases hc39 : xc = (59 : Int32)
          · have pre11 : ∀ t, Steps p.tables e below (s₁.setTop (mkF m 89 #[.val (.int xc)] [(.int (1 : Int32))])) t → Steps p.tables e below (s₁.setTop (entryFrame m #[(.int xc)] 1)) t := by
              intro t k
              refine pre10 t ?_
              refine XS.icmpYes X0.here hx rfl (pc0 := 39) (pc' := 84) rfl (hb hby d12_39) rfl (teq hc39).1 (by decide) (by decide) ?_
              show Steps p.tables e below (s₁.setTop (mkF m 84 #[.val (.int xc)] [])) _
              refine XS.iconst X0.here hx rfl (hb hby d12_84) ?_
              show Steps p.tables e below (s₁.setTop (mkF m 85 #[.val (.int xc)] [(.int (1 : Int32))])) _
              refine XS.goto X0.here hx rfl (pc0 := 85) (pc' := 89) rfl (hb hby d12_85) (by decide) (by decide) ?_
              show Steps p.tables e below (s₁.setTop (mkF m 89 #[.val (.int xc)] [(.int (1 : Int32))])) _
              exact k
            obtain ⟨fs, hr, hrun, hended, hW, hsame⟩ := X0.leave (v := some (.int (1 : Int32))) (fun h => by rw [Bd.returns] at h; cases h)
            refine ⟨_, _, pre11 _ ?_, hrun, hended, _, _, rfl, ?_, ⟨_, rfl⟩, hW, hsame.mono (by decide) (by decide)⟩
            · exact retN X0 hx (t := .boolean) Bd.returns (by simp) (hb hby d12_89) hr
            · show Q_rm_exp Z xc h0 n0 _ s₁.heap _
              rw [e0]
              exact ⟨congrArg (fun z => some (Value.int z)) (show (1 : Int32) = (F_rm_exp xc) from by rw [F_rm_exp, if_neg hc3, if_neg hc9, if_neg hR12, if_neg hR24, if_pos hc39]), N0, rfl⟩
          · have pre12 : ∀ t, Steps p.tables e below (s₁.setTop (mkF m 45 #[.val (.int xc)] [(.int (61 : Int32)), (.int xc)])) t → Steps p.tables e below (s₁.setTop (entryFrame m #[(.int xc)] 1)) t := by
              intro t k
              refine pre10 t ?_
              refine XS.icmpNo X0.here hx rfl (hb hby d12_39) rfl (feq hc39).1 ?_
              show Steps p.tables e below (s₁.setTop (mkF m 42 #[.val (.int xc)] [])) _
              refine XS.iloadN X0.here hx rfl (hb hby d12_42) rfl ?_
              show Steps p.tables e below (s₁.setTop (mkF m 43 #[.val (.int xc)] [(.int xc)])) _
              refine XS.bipush X0.here hx rfl (hb hby d12_43) ?_
              show Steps p.tables e below (s₁.setTop (mkF m 45 #[.val (.int xc)] [(.int (61 : Int32)), (.int xc)])) _
              exact k
            by_cases hc45 : xc = (61 : Int32)
            · have pre13 : ∀ t, Steps p.tables e below (s₁.setTop (mkF m 89 #[.val (.int xc)] [(.int (1 : Int32))])) t → Steps p.tables e below (s₁.setTop (entryFrame m #[(.int xc)] 1)) t := by
                intro t k
                refine pre12 t ?_
                refine XS.icmpYes X0.here hx rfl (pc0 := 45) (pc' := 84) rfl (hb hby d12_45) rfl (teq hc45).1 (by decide) (by decide) ?_
                show Steps p.tables e below (s₁.setTop (mkF m 84 #[.val (.int xc)] [])) _
                refine XS.iconst X0.here hx rfl (hb hby d12_84) ?_
                show Steps p.tables e below (s₁.setTop (mkF m 85 #[.val (.int xc)] [(.int (1 : Int32))])) _
                refine XS.goto X0.here hx rfl (pc0 := 85) (pc' := 89) rfl (hb hby d12_85) (by decide) (by decide) ?_
                show Steps p.tables e below (s₁.setTop (mkF m 89 #[.val (.int xc)] [(.int (1 : Int32))])) _
                exact k
              obtain ⟨fs, hr, hrun, hended, hW, hsame⟩ := X0.leave (v := some (.int (1 : Int32))) (fun h => by rw [Bd.returns] at h; cases h)
              refine ⟨_, _, pre13 _ ?_, hrun, hended, _, _, rfl, ?_, ⟨_, rfl⟩, hW, hsame.mono (by decide) (by decide)⟩
              · exact retN X0 hx (t := .boolean) Bd.returns (by simp) (hb hby d12_89) hr
              · show Q_rm_exp Z xc h0 n0 _ s₁.heap _
                rw [e0]
                exact ⟨congrArg (fun z => some (Value.int z)) (show (1 : Int32) = (F_rm_exp xc) from by rw [F_rm_exp, if_neg hc3, if_neg hc9, if_neg hR12, if_neg hR24, if_neg hc39, if_pos hc45]), N0, rfl⟩
            · have pre14 : ∀ t, Steps p.tables e below (s₁.setTop (mkF m 48 #[.val (.int xc)] [])) t → Steps p.tables e below (s₁.setTop (entryFrame m #[(.int xc)] 1)) t := by
                intro t k
                refine pre12 t ?_
                refine XS.icmpNo X0.here hx rfl (hb hby d12_45) rfl (feq hc45).1 ?_
                show Steps p.tables e below (s₁.setTop (mkF m 48 #[.val (.int xc)] [])) _
                exact k
              by_cases hR48 : ¬ (xc < (65 : Int32)) ∧ ¬ ((90 : Int32) < xc)
              · have pre15 : ∀ t, Steps p.tables e below (s₁.setTop (mkF m 89 #[.val (.int xc)] [(.int (1 : Int32))])) t → Steps p.tables e below (s₁.setTop (entryFrame m #[(.int xc)] 1)) t := by
                  intro t k
                  refine pre14 t ?_
                  refine XS.iloadN X0.here hx rfl (hb hby d12_48) rfl ?_
                  show Steps p.tables e below (s₁.setTop (mkF m 49 #[.val (.int xc)] [(.int xc)])) _
                  refine XS.bipush X0.here hx rfl (hb hby d12_49) ?_
                  show Steps p.tables e below (s₁.setTop (mkF m 51 #[.val (.int xc)] [(.int (65 : Int32)), (.int xc)])) _
                  refine XS.icmpNo X0.here hx rfl (hb hby d12_51) rfl (flt (show ¬ (xc < (65 : Int32)) from hR48.1)).1 ?_
                  show Steps p.tables e below (s₁.setTop (mkF m 54 #[.val (.int xc)] [])) _
                  refine XS.iloadN X0.here hx rfl (hb hby d12_54) rfl ?_
                  show Steps p.tables e below (s₁.setTop (mkF m 55 #[.val (.int xc)] [(.int xc)])) _
                  refine XS.bipush X0.here hx rfl (hb hby d12_55) ?_
                  show Steps p.tables e below (s₁.setTop (mkF m 57 #[.val (.int xc)] [(.int (90 : Int32)), (.int xc)])) _
                  refine XS.icmpYes X0.here hx rfl (pc0 := 57) (pc' := 84) rfl (hb hby d12_57) rfl (flt (show ¬ ((90 : Int32) < xc) from hR48.2)).2.2.2 (by decide) (by decide) ?_
                  show Steps p.tables e below (s₁.setTop (mkF m 84 #[.val (.int xc)] [])) _
                  refine XS.iconst X0.here hx rfl (hb hby d12_84) ?_
                  show Steps p.tables e below (s₁.setTop (mkF m 85 #[.val (.int xc)] [(.int (1 : Int32))])) _
                  refine XS.goto X0.here hx rfl (pc0 := 85) (pc' := 89) rfl (hb hby d12_85) (by decide) (by decide) ?_
                  show Steps p.tables e below (s₁.setTop (mkF m 89 #[.val (.int xc)] [(.int (1 : Int32))])) _
                  exact k
                obtain ⟨fs, hr, hrun, hended, hW, hsame⟩ := X0.leave (v := some (.int (1 : Int32))) (fun h => by rw [Bd.returns] at h; cases h)
                refine ⟨_, _, pre15 _ ?_, hrun, hended, _, _, rfl, ?_, ⟨_, rfl⟩, hW, hsame.mono (by decide) (by decide)⟩
                · exact retN X0 hx (t := .boolean) Bd.returns (by simp) (hb hby d12_89) hr
                · show Q_rm_exp Z xc h0 n0 _ s₁.heap _
                  rw [e0]
                  exact ⟨congrArg (fun z => some (Value.int z)) (show (1 : Int32) = (F_rm_exp xc) from by rw [F_rm_exp, if_neg hc3, if_neg hc9, if_neg hR12, if_neg hR24, if_neg hc39, if_neg hc45, if_pos hR48]), N0, rfl⟩
              · have pre16 : ∀ t, Steps p.tables e below (s₁.setTop (mkF m 60 #[.val (.int xc)] [])) t → Steps p.tables e below (s₁.setTop (entryFrame m #[(.int xc)] 1)) t := by
                  intro t k
                  refine pre14 t ?_
                  refine XS.iloadN X0.here hx rfl (hb hby d12_48) rfl ?_
                  show Steps p.tables e below (s₁.setTop (mkF m 49 #[.val (.int xc)] [(.int xc)])) _
                  refine XS.bipush X0.here hx rfl (hb hby d12_49) ?_
                  show Steps p.tables e below (s₁.setTop (mkF m 51 #[.val (.int xc)] [(.int (65 : Int32)), (.int xc)])) _
                  by_cases hl : xc < (65 : Int32)
                  · refine XS.icmpYes X0.here hx rfl (pc0 := 51) (pc' := 60) rfl (hb hby d12_51) rfl (tlt hl).1 (by decide) (by decide) ?_
                    show Steps p.tables e below (s₁.setTop (mkF m 60 #[.val (.int xc)] [])) _
                    exact k
                  · refine XS.icmpNo X0.here hx rfl (hb hby d12_51) rfl (flt hl).1 ?_
                    show Steps p.tables e below (s₁.setTop (mkF m 54 #[.val (.int xc)] [])) _
                    refine XS.iloadN X0.here hx rfl (hb hby d12_54) rfl ?_
                    show Steps p.tables e below (s₁.setTop (mkF m 55 #[.val (.int xc)] [(.int xc)])) _
                    refine XS.bipush X0.here hx rfl (hb hby d12_55) ?_
                    show Steps p.tables e below (s₁.setTop (mkF m 57 #[.val (.int xc)] [(.int (90 : Int32)), (.int xc)])) _
                    by_cases hh' : (90 : Int32) < xc
                    · refine XS.icmpNo X0.here hx rfl (hb hby d12_57) rfl (tlt hh').2.2.2 ?_
                      show Steps p.tables e below (s₁.setTop (mkF m 60 #[.val (.int xc)] [])) _
                      exact k
                    · exact absurd ⟨hl, hh'⟩ hR48
                have pre17 : ∀ t, Steps p.tables e below (s₁.setTop (mkF m 63 #[.val (.int xc)] [(.int (95 : Int32)), (.int xc)])) t → Steps p.tables e below (s₁.setTop (entryFrame m #[(.int xc)] 1)) t := by
                  intro t k
                  refine pre16 t ?_
                  refine XS.iloadN X0.here hx rfl (hb hby d12_60) rfl ?_
                  show Steps p.tables e below (s₁.setTop (mkF m 61 #[.val (.int xc)] [(.int xc)])) _
                  refine XS.bipush X0.here hx rfl (hb hby d12_61) ?_
                  show Steps p.tables e below (s₁.setTop (mkF m 63 #[.val (.int xc)] [(.int (95 : Int32)), (.int xc)])) _
                  exact k
                by_cases hc63 : xc = (95 : Int32)
                · have pre18 : ∀ t, Steps p.tables e below (s₁.setTop (mkF m 89 #[.val (.int xc)] [(.int (1 : Int32))])) t → Steps p.tables e below (s₁.setTop (entryFrame m #[(.int xc)] 1)) t := by
                    intro t k
                    refine pre17 t ?_
                    refine XS.icmpYes X0.here hx rfl (pc0 := 63) (pc' := 84) rfl (hb hby d12_63) rfl (teq hc63).1 (by decide) (by decide) ?_
                    show Steps p.tables e below (s₁.setTop (mkF m 84 #[.val (.int xc)] [])) _
                    refine XS.iconst X0.here hx rfl (hb hby d12_84) ?_
                    show Steps p.tables e below (s₁.setTop (mkF m 85 #[.val (.int xc)] [(.int (1 : Int32))])) _
                    refine XS.goto X0.here hx rfl (pc0 := 85) (pc' := 89) rfl (hb hby d12_85) (by decide) (by decide) ?_
                    show Steps p.tables e below (s₁.setTop (mkF m 89 #[.val (.int xc)] [(.int (1 : Int32))])) _
                    exact k
                  obtain ⟨fs, hr, hrun, hended, hW, hsame⟩ := X0.leave (v := some (.int (1 : Int32))) (fun h => by rw [Bd.returns] at h; cases h)
                  refine ⟨_, _, pre18 _ ?_, hrun, hended, _, _, rfl, ?_, ⟨_, rfl⟩, hW, hsame.mono (by decide) (by decide)⟩
                  · exact retN X0 hx (t := .boolean) Bd.returns (by simp) (hb hby d12_89) hr
                  · show Q_rm_exp Z xc h0 n0 _ s₁.heap _
                    rw [e0]
                    exact ⟨congrArg (fun z => some (Value.int z)) (show (1 : Int32) = (F_rm_exp xc) from by rw [F_rm_exp, if_neg hc3, if_neg hc9, if_neg hR12, if_neg hR24, if_neg hc39, if_neg hc45, if_neg hR48, if_pos hc63]), N0, rfl⟩
                · have pre19 : ∀ t, Steps p.tables e below (s₁.setTop (mkF m 66 #[.val (.int xc)] [])) t → Steps p.tables e below (s₁.setTop (entryFrame m #[(.int xc)] 1)) t := by
                    intro t k
                    refine pre17 t ?_
                    refine XS.icmpNo X0.here hx rfl (hb hby d12_63) rfl (feq hc63).1 ?_
                    show Steps p.tables e below (s₁.setTop (mkF m 66 #[.val (.int xc)] [])) _
                    exact k
                  by_cases hR66 : ¬ (xc < (97 : Int32)) ∧ ¬ ((122 : Int32) < xc)
                  · have pre20 : ∀ t, Steps p.tables e below (s₁.setTop (mkF m 89 #[.val (.int xc)] [(.int (1 : Int32))])) t → Steps p.tables e below (s₁.setTop (entryFrame m #[(.int xc)] 1)) t := by
                      intro t k
                      refine pre19 t ?_
                      refine XS.iloadN X0.here hx rfl (hb hby d12_66) rfl ?_
                      show Steps p.tables e below (s₁.setTop (mkF m 67 #[.val (.int xc)] [(.int xc)])) _
                      refine XS.bipush X0.here hx rfl (hb hby d12_67) ?_
                      show Steps p.tables e below (s₁.setTop (mkF m 69 #[.val (.int xc)] [(.int (97 : Int32)), (.int xc)])) _
                      refine XS.icmpNo X0.here hx rfl (hb hby d12_69) rfl (flt (show ¬ (xc < (97 : Int32)) from hR66.1)).1 ?_
                      show Steps p.tables e below (s₁.setTop (mkF m 72 #[.val (.int xc)] [])) _
                      refine XS.iloadN X0.here hx rfl (hb hby d12_72) rfl ?_
                      show Steps p.tables e below (s₁.setTop (mkF m 73 #[.val (.int xc)] [(.int xc)])) _
                      refine XS.bipush X0.here hx rfl (hb hby d12_73) ?_
                      show Steps p.tables e below (s₁.setTop (mkF m 75 #[.val (.int xc)] [(.int (122 : Int32)), (.int xc)])) _
                      refine XS.icmpYes X0.here hx rfl (pc0 := 75) (pc' := 84) rfl (hb hby d12_75) rfl (flt (show ¬ ((122 : Int32) < xc) from hR66.2)).2.2.2 (by decide) (by decide) ?_
                      show Steps p.tables e below (s₁.setTop (mkF m 84 #[.val (.int xc)] [])) _
                      refine XS.iconst X0.here hx rfl (hb hby d12_84) ?_
                      show Steps p.tables e below (s₁.setTop (mkF m 85 #[.val (.int xc)] [(.int (1 : Int32))])) _
                      refine XS.goto X0.here hx rfl (pc0 := 85) (pc' := 89) rfl (hb hby d12_85) (by decide) (by decide) ?_
                      show Steps p.tables e below (s₁.setTop (mkF m 89 #[.val (.int xc)] [(.int (1 : Int32))])) _
                      exact k
                    obtain ⟨fs, hr, hrun, hended, hW, hsame⟩ := X0.leave (v := some (.int (1 : Int32))) (fun h => by rw [Bd.returns] at h; cases h)
                    refine ⟨_, _, pre20 _ ?_, hrun, hended, _, _, rfl, ?_, ⟨_, rfl⟩, hW, hsame.mono (by decide) (by decide)⟩
                    · exact retN X0 hx (t := .boolean) Bd.returns (by simp) (hb hby d12_89) hr
                    · show Q_rm_exp Z xc h0 n0 _ s₁.heap _
                      rw [e0]
                      exact ⟨congrArg (fun z => some (Value.int z)) (show (1 : Int32) = (F_rm_exp xc) from by rw [F_rm_exp, if_neg hc3, if_neg hc9, if_neg hR12, if_neg hR24, if_neg hc39, if_neg hc45, if_neg hR48, if_neg hc63, if_pos hR66]), N0, rfl⟩
                  · have pre21 : ∀ t, Steps p.tables e below (s₁.setTop (mkF m 78 #[.val (.int xc)] [])) t → Steps p.tables e below (s₁.setTop (entryFrame m #[(.int xc)] 1)) t := by
                      intro t k
                      refine pre19 t ?_
                      refine XS.iloadN X0.here hx rfl (hb hby d12_66) rfl ?_
                      show Steps p.tables e below (s₁.setTop (mkF m 67 #[.val (.int xc)] [(.int xc)])) _
                      refine XS.bipush X0.here hx rfl (hb hby d12_67) ?_
                      show Steps p.tables e below (s₁.setTop (mkF m 69 #[.val (.int xc)] [(.int (97 : Int32)), (.int xc)])) _
                      by_cases hl : xc < (97 : Int32)
                      · refine XS.icmpYes X0.here hx rfl (pc0 := 69) (pc' := 78) rfl (hb hby d12_69) rfl (tlt hl).1 (by decide) (by decide) ?_
                        show Steps p.tables e below (s₁.setTop (mkF m 78 #[.val (.int xc)] [])) _
                        exact k
                      · refine XS.icmpNo X0.here hx rfl (hb hby d12_69) rfl (flt hl).1 ?_
                        show Steps p.tables e below (s₁.setTop (mkF m 72 #[.val (.int xc)] [])) _
                        refine XS.iloadN X0.here hx rfl (hb hby d12_72) rfl ?_
                        show Steps p.tables e below (s₁.setTop (mkF m 73 #[.val (.int xc)] [(.int xc)])) _
                        refine XS.bipush X0.here hx rfl (hb hby d12_73) ?_
                        show Steps p.tables e below (s₁.setTop (mkF m 75 #[.val (.int xc)] [(.int (122 : Int32)), (.int xc)])) _
                        by_cases hh' : (122 : Int32) < xc
                        · refine XS.icmpNo X0.here hx rfl (hb hby d12_75) rfl (tlt hh').2.2.2 ?_
                          show Steps p.tables e below (s₁.setTop (mkF m 78 #[.val (.int xc)] [])) _
                          exact k
                        · exact absurd ⟨hl, hh'⟩ hR66
                    have pre22 : ∀ t, Steps p.tables e below (s₁.setTop (mkF m 81 #[.val (.int xc)] [(.int (126 : Int32)), (.int xc)])) t → Steps p.tables e below (s₁.setTop (entryFrame m #[(.int xc)] 1)) t := by
                      intro t k
                      refine pre21 t ?_
                      refine XS.iloadN X0.here hx rfl (hb hby d12_78) rfl ?_
                      show Steps p.tables e below (s₁.setTop (mkF m 79 #[.val (.int xc)] [(.int xc)])) _
                      refine XS.bipush X0.here hx rfl (hb hby d12_79) ?_
                      show Steps p.tables e below (s₁.setTop (mkF m 81 #[.val (.int xc)] [(.int (126 : Int32)), (.int xc)])) _
                      exact k
                    by_cases hc81 : xc = (126 : Int32)
                    · have pre23 : ∀ t, Steps p.tables e below (s₁.setTop (mkF m 89 #[.val (.int xc)] [(.int (1 : Int32))])) t → Steps p.tables e below (s₁.setTop (entryFrame m #[(.int xc)] 1)) t := by
                        intro t k
                        refine pre22 t ?_
                        refine XS.icmpNo X0.here hx rfl (hb hby d12_81) rfl (teq hc81).2 ?_
                        show Steps p.tables e below (s₁.setTop (mkF m 84 #[.val (.int xc)] [])) _
                        refine XS.iconst X0.here hx rfl (hb hby d12_84) ?_
                        show Steps p.tables e below (s₁.setTop (mkF m 85 #[.val (.int xc)] [(.int (1 : Int32))])) _
                        refine XS.goto X0.here hx rfl (pc0 := 85) (pc' := 89) rfl (hb hby d12_85) (by decide) (by decide) ?_
                        show Steps p.tables e below (s₁.setTop (mkF m 89 #[.val (.int xc)] [(.int (1 : Int32))])) _
                        exact k
                      obtain ⟨fs, hr, hrun, hended, hW, hsame⟩ := X0.leave (v := some (.int (1 : Int32))) (fun h => by rw [Bd.returns] at h; cases h)
                      refine ⟨_, _, pre23 _ ?_, hrun, hended, _, _, rfl, ?_, ⟨_, rfl⟩, hW, hsame.mono (by decide) (by decide)⟩
                      · exact retN X0 hx (t := .boolean) Bd.returns (by simp) (hb hby d12_89) hr
                      · show Q_rm_exp Z xc h0 n0 _ s₁.heap _
                        rw [e0]
                        exact ⟨congrArg (fun z => some (Value.int z)) (show (1 : Int32) = (F_rm_exp xc) from by rw [F_rm_exp, if_neg hc3, if_neg hc9, if_neg hR12, if_neg hR24, if_neg hc39, if_neg hc45, if_neg hR48, if_neg hc63, if_neg hR66, if_pos hc81]), N0, rfl⟩
                    · have pre24 : ∀ t, Steps p.tables e below (s₁.setTop (mkF m 89 #[.val (.int xc)] [(.int (0 : Int32))])) t → Steps p.tables e below (s₁.setTop (entryFrame m #[(.int xc)] 1)) t := by
                        intro t k
                        refine pre22 t ?_
                        refine XS.icmpYes X0.here hx rfl (pc0 := 81) (pc' := 88) rfl (hb hby d12_81) rfl (feq hc81).2 (by decide) (by decide) ?_
                        show Steps p.tables e below (s₁.setTop (mkF m 88 #[.val (.int xc)] [])) _
                        refine XS.iconst X0.here hx rfl (hb hby d12_88) ?_
                        show Steps p.tables e below (s₁.setTop (mkF m 89 #[.val (.int xc)] [(.int (0 : Int32))])) _
                        exact k
                      obtain ⟨fs, hr, hrun, hended, hW, hsame⟩ := X0.leave (v := some (.int (0 : Int32))) (fun h => by rw [Bd.returns] at h; cases h)
                      refine ⟨_, _, pre24 _ ?_, hrun, hended, _, _, rfl, ?_, ⟨_, rfl⟩, hW, hsame.mono (by decide) (by decide)⟩
                      · exact retN X0 hx (t := .boolean) Bd.returns (by simp) (hb hby d12_89) hr
                      · show Q_rm_exp Z xc h0 n0 _ s₁.heap _
                        rw [e0]
                        exact ⟨congrArg (fun z => some (Value.int z)) (show (0 : Int32) = (F_rm_exp xc) from by rw [F_rm_exp, if_neg hc3, if_neg hc9, if_neg hR12, if_neg hR24, if_neg hc39, if_neg hc45, if_neg hR48, if_neg hc63, if_neg hR66, if_neg hc81]), N0, rfl⟩
set_option maxHeartbeats 40000000 in
theorem own_A (z : Int32) : (F_rm_lioA z < (0 : Int32)) = ¬ (z.toInt = 45 ∨ z.toInt = 46 ∨ z.toInt = 95 ∨ z.toInt = 126) := by
  apply propext
  have b := c_i2b z
  have : (0 : Int32).toInt = 0 := rfl
  have : (1 : Int32).toInt = 1 := rfl
  have : (2 : Int32).toInt = 2 := rfl
  have : (3 : Int32).toInt = 3 := rfl
  have : (4 : Int32).toInt = 4 := rfl
  have : (5 : Int32).toInt = 5 := rfl
  have : (6 : Int32).toInt = 6 := rfl
  have : (7 : Int32).toInt = 7 := rfl
  have : (8 : Int32).toInt = 8 := rfl
  have : (9 : Int32).toInt = 9 := rfl
  have : (10 : Int32).toInt = 10 := rfl
  have : (11 : Int32).toInt = 11 := rfl
  have : (45 : Int32).toInt = 45 := rfl
  have : (46 : Int32).toInt = 46 := rfl
  have : (95 : Int32).toInt = 95 := rfl
  have : (126 : Int32).toInt = 126 := rfl
  have : (255 : Int32).toInt = 255 := rfl
  have m1 : (-1 : Int32).toInt = -1 := rfl
  have c0 : (F_rm_can z = (0 : Int32)) ↔ (z.toInt < 0 ∨ 255 < z.toInt) := by
    unfold F_rm_can
    simp only [Int32.lt_iff_toInt_lt]
    split
    · simp; omega
    · split
      · simp; omega
      · simp; omega
  unfold F_rm_lioA
  split
  · rename_i h
    rw [c0] at h
    rw [Int32.lt_iff_toInt_lt]
    omega
  · rename_i h
    rw [c0] at h
    unfold F_rm_iocA
    simp only [← Int32.toInt_inj]
    generalize (z.toInt8.toInt32).toInt = r at *
    repeat' split
    all_goals (rw [Int32.lt_iff_toInt_lt]; omega)
set_option maxHeartbeats 40000000 in
theorem own_B (z : Int32) : (F_rm_lioB z < (0 : Int32)) = ¬ (z.toInt = 33 ∨ z.toInt = 36 ∨ z.toInt = 38 ∨ z.toInt = 39 ∨ z.toInt = 40 ∨ z.toInt = 41 ∨ z.toInt = 42 ∨ z.toInt = 43 ∨ z.toInt = 44 ∨ z.toInt = 59 ∨ z.toInt = 61) := by
  apply propext
  have b := c_i2b z
  have : (0 : Int32).toInt = 0 := rfl
  have : (1 : Int32).toInt = 1 := rfl
  have : (2 : Int32).toInt = 2 := rfl
  have : (3 : Int32).toInt = 3 := rfl
  have : (4 : Int32).toInt = 4 := rfl
  have : (5 : Int32).toInt = 5 := rfl
  have : (6 : Int32).toInt = 6 := rfl
  have : (7 : Int32).toInt = 7 := rfl
  have : (8 : Int32).toInt = 8 := rfl
  have : (9 : Int32).toInt = 9 := rfl
  have : (10 : Int32).toInt = 10 := rfl
  have : (11 : Int32).toInt = 11 := rfl
  have : (33 : Int32).toInt = 33 := rfl
  have : (36 : Int32).toInt = 36 := rfl
  have : (38 : Int32).toInt = 38 := rfl
  have : (39 : Int32).toInt = 39 := rfl
  have : (40 : Int32).toInt = 40 := rfl
  have : (41 : Int32).toInt = 41 := rfl
  have : (42 : Int32).toInt = 42 := rfl
  have : (43 : Int32).toInt = 43 := rfl
  have : (44 : Int32).toInt = 44 := rfl
  have : (59 : Int32).toInt = 59 := rfl
  have : (61 : Int32).toInt = 61 := rfl
  have : (255 : Int32).toInt = 255 := rfl
  have m1 : (-1 : Int32).toInt = -1 := rfl
  have c0 : (F_rm_can z = (0 : Int32)) ↔ (z.toInt < 0 ∨ 255 < z.toInt) := by
    unfold F_rm_can
    simp only [Int32.lt_iff_toInt_lt]
    split
    · simp; omega
    · split
      · simp; omega
      · simp; omega
  unfold F_rm_lioB
  split
  · rename_i h
    rw [c0] at h
    rw [Int32.lt_iff_toInt_lt]
    omega
  · rename_i h
    rw [c0] at h
    unfold F_rm_iocB
    simp only [← Int32.toInt_inj]
    generalize (z.toInt8.toInt32).toInt = r at *
    repeat' split
    all_goals (rw [Int32.lt_iff_toInt_lt]; omega)
set_option maxRecDepth 65536 in
set_option maxHeartbeats 40000000 in
theorem own_u {xcs : Int32} (z : Int32) : F_rm_unres z xcs = if (z.toInt = 33 ∨ z.toInt = 36 ∨ (38 ≤ z.toInt ∧ z.toInt ≤ 46) ∨ (48 ≤ z.toInt ∧ z.toInt ≤ 57) ∨ z.toInt = 59 ∨ z.toInt = 61 ∨ (65 ≤ z.toInt ∧ z.toInt ≤ 90) ∨ z.toInt = 95 ∨ (97 ≤ z.toInt ∧ z.toInt ≤ 122) ∨ z.toInt = 126) then 1 else 0 := by
  unfold F_rm_unres
  have : (33 : Int32).toInt = 33 := rfl
  have : (36 : Int32).toInt = 36 := rfl
  have : (38 : Int32).toInt = 38 := rfl
  have : (46 : Int32).toInt = 46 := rfl
  have : (48 : Int32).toInt = 48 := rfl
  have : (57 : Int32).toInt = 57 := rfl
  have : (59 : Int32).toInt = 59 := rfl
  have : (61 : Int32).toInt = 61 := rfl
  have : (65 : Int32).toInt = 65 := rfl
  have : (90 : Int32).toInt = 90 := rfl
  have : (95 : Int32).toInt = 95 := rfl
  have : (97 : Int32).toInt = 97 := rfl
  have : (122 : Int32).toInt = 122 := rfl
  have : (126 : Int32).toInt = 126 := rfl
  simp only [own_A, own_B]
  simp only [Int32.lt_iff_toInt_lt]
  generalize z.toInt = n at *
  repeat' split
  all_goals first | rfl | (exfalso; omega)
set_option maxRecDepth 65536 in
set_option maxHeartbeats 40000000 in
theorem own_e (z : Int32) : F_rm_exp z = if (z.toInt = 33 ∨ z.toInt = 36 ∨ (38 ≤ z.toInt ∧ z.toInt ≤ 46) ∨ (48 ≤ z.toInt ∧ z.toInt ≤ 57) ∨ z.toInt = 59 ∨ z.toInt = 61 ∨ (65 ≤ z.toInt ∧ z.toInt ≤ 90) ∨ z.toInt = 95 ∨ (97 ≤ z.toInt ∧ z.toInt ≤ 122) ∨ z.toInt = 126) then 1 else 0 := by
  unfold F_rm_exp
  have : (33 : Int32).toInt = 33 := rfl
  have : (36 : Int32).toInt = 36 := rfl
  have : (38 : Int32).toInt = 38 := rfl
  have : (46 : Int32).toInt = 46 := rfl
  have : (48 : Int32).toInt = 48 := rfl
  have : (57 : Int32).toInt = 57 := rfl
  have : (59 : Int32).toInt = 59 := rfl
  have : (61 : Int32).toInt = 61 := rfl
  have : (65 : Int32).toInt = 65 := rfl
  have : (90 : Int32).toInt = 90 := rfl
  have : (95 : Int32).toInt = 95 := rfl
  have : (97 : Int32).toInt = 97 := rfl
  have : (122 : Int32).toInt = 122 := rfl
  have : (126 : Int32).toInt = 126 := rfl
  simp only [Int32.lt_iff_toInt_lt, ← Int32.toInt_inj]
  generalize z.toInt = n at *
  repeat' split
  all_goals first | rfl | (exfalso; omega)
theorem own_law (z xcs : Int32) : F_rm_unres z xcs = F_rm_exp z := (own_u z).trans (own_e z).symm
theorem ef_rm0 (m : MethodId) (xc : Int32) : entryFrame m #[(.int xc)] maxLocals = mkF m 0 #[.val (.int xc), .unset, .unset, .unset] [] := by first | (simp [entryFrame, mkF, argsToLocals, Value.category, maxLocals]; done) | rfl
def Q_rm0 (Z : State) (xc : Int32) (xcs : Int32) (h0 : Heap) (n0 : Nat) (v : Option Value) (h : Heap) (L : List Loc) : Prop := v = some (.int (1 : Int32)) ∧ Fr n0 L
set_option maxRecDepth 65536 in
set_option maxHeartbeats 40000000 in
theorem rm0 (l : Launch) (Z : State) (a0 : Array Value) (hw : ∀ d ∈ tables_1, d.before a0 Z = true) (ws : List Jvm.Cond) (xc : Int32) (xcs : Int32) (h0 : Heap) (n0 : Nat) (Z0 : n0 ≤ h0.size) (SC : Sta Z h0 "java/lang/String" "COMPACT_STRINGS" "Z" (.int xcs)) (hcs : ¬ (xcs = (0 : Int32))) :
    MetFree l x (head1 (Jvm.Cond.code x code maxLocals ret :: ws) room_1) (fun a U => a = #[(.int xc)] ∧ Z.Warmed39 U.vm ∧ U.heap = h0 ∧ CHv Z own_EL U.vm h0) (fun _ _ _ _ _ => True) (fun _ U o U' => ∃ v L, o = .returned v ∧ Q_rm0 Z xc xcs h0 n0 v U'.heap L ∧ CHr Z own_EL U.vm U.heap U'.vm U'.heap ∧ ReturnedEndW U o U' L room_1.cells room_1.slots) := by
  refine MetFree.of_bodySF (plainFor_of_name pn3) hisR ?_
  intro p e s m args below meth c s₁ Bd hml0 hP hK
  obtain ⟨rfl, hZ, hh, HC0⟩ := hP
  have hx := Bd.exec
  have hby := Bd.bytes
  have hml : c.maxLocals = 4 := hml0
  have hown : s.vm.findClass "com/example/problems_as_payloads/problemsaspayloads/PercentEncodingIsUnreservedOrSubDelimiterPinLaw" = some m.cls := findClass_of_methodNamed Bd.named
  have hnm := (name_of_methodNamed Bd.named Bd.method).1
  have X0 : Stand p l e room_1 (s.setVm s.vm) m #[(.int xc)] below meth c s₁ [] 0 0 := Stand.of_body Bd
  have hS0 : s.Since s.vm 0 := State.WarmedH.since (State.WarmedH.refl s) 0
  have hk0 : 0 ≤ h0.size := Nat.zero_le _
  have hEL : EW Z a0 own_EL := EW.cons (hw _ (List.mem_of_getElem? (i := 4) rfl)) (by decide) (EW.cons (hw _ (List.mem_of_getElem? (i := 57) rfl)) (by decide) EW.nil)
  have wS : ∀ d ∈ Bundle.stringAtoms, d.before a0 Z = true := fun d hd => hw d ((by decide +kernel : ∀ d ∈ Bundle.stringAtoms, d ∈ tables_1) d hd)
  have hown : (s.setVm s.vm).vm.findClass "com/example/problems_as_payloads/problemsaspayloads/PercentEncodingIsUnreservedOrSubDelimiterPinLaw" = some m.cls := hown
  have hZ : Z.Warmed39 (s.setVm s.vm).vm := hZ
  have e0 : s₁.heap = h0 := by rw [← hh, Bd.state]; rfl
  have N0 := Fr.nil n0
  have pre0 : ∀ t, Steps p.tables e below (s₁.setTop (mkF m 0 #[.val (.int xc), .unset, .unset, .unset] [])) t → Steps p.tables e below (s₁.setTop (entryFrame m #[(.int xc)] maxLocals)) t := fun t k => castTop (ef_rm0 m xc) k
  have pre1 : ∀ t, Steps p.tables e below (s₁.setTop (mkF m 7 #[.val (.int xc), .val (.int (xc &&& (255 : Int32))), .unset, .unset] [(.int xc)])) t → Steps p.tables e below (s₁.setTop (entryFrame m #[(.int xc)] maxLocals)) t := by
    intro t k
    refine pre0 t ?_
    refine XS.iloadN X0.here hx rfl (hb hby at_0) rfl ?_
    show Steps p.tables e below (s₁.setTop (mkF m 1 #[.val (.int xc), .unset, .unset, .unset] [(.int xc)])) _
    refine XS.sipush X0.here hx rfl (hb hby at_1) ?_
    show Steps p.tables e below (s₁.setTop (mkF m 4 #[.val (.int xc), .unset, .unset, .unset] [(.int (255 : Int32)), (.int xc)])) _
    refine XS.iand X0.here hx rfl (hb hby at_4) rfl ?_
    show Steps p.tables e below (s₁.setTop (mkF m 5 #[.val (.int xc), .unset, .unset, .unset] [(.int (xc &&& (255 : Int32)))])) _
    refine XS.istoreN X0.here hx rfl (hb hby at_5) rfl (l' := #[.val (.int xc), .val (.int (xc &&& (255 : Int32))), .unset, .unset]) rfl ?_
    show Steps p.tables e below (s₁.setTop (mkF m 6 #[.val (.int xc), .val (.int (xc &&& (255 : Int32))), .unset, .unset] [])) _
    refine XS.iloadN X0.here hx rfl (hb hby at_6) rfl ?_
    show Steps p.tables e below (s₁.setTop (mkF m 7 #[.val (.int xc), .val (.int (xc &&& (255 : Int32))), .unset, .unset] [(.int xc)])) _
    exact k
  obtain ⟨_, _, ⟨T2, L2, k2, n2⟩, -, X2, hs2, gz2, ⟨Lc2, hQ2, l2, y2, z2, CR2⟩, st2⟩ := callSS X0 hx (y := (⟨"com/example/problems_as_payloads/problemsaspayloads/PercentEncoding", "isUnreservedOrSubDelimiter", "(I)Z"⟩ : MethodName)) hown (mvT hZ (hw _ (List.mem_of_getElem? (i := 0) rfl))) (mvT hZ (hw _ (List.mem_of_getElem? (i := 1) rfl))) (mvT hZ (hw _ (List.mem_of_getElem? (i := 2) rfl))) (mvT hZ (hw _ (List.mem_of_getElem? (i := 3) rfl))) (by decide) (backOfSH (W := 0) (rm_unres l Z a0 hw [] xc xcs h0 n0 Z0 SC (hcs)) hZ (hw _ (List.mem_of_getElem? (i := 3) rfl)) (hw _ (List.mem_of_getElem? (i := 2) rfl)) (by decide) (by decide) hEL HC0) (g := (mkF m 7 #[.val (.int xc), .val (.int (xc &&& (255 : Int32))), .unset, .unset] [(.int xc)])) rfl (by rw [hml]; rfl) (argsL := [(.int xc)]) (rest := []) (lenOf pd0 rfl) rfl (by show 2 * 0 + _ ≤ _; exact Nat.le_of_eq rfl) (hb hby at_7) (fun _ _ => ⟨rfl, e0, (by decide : 0 + 4 ≤ _), (by decide : 0 + 68 ≤ _)⟩)
  dsimp only [Pt.U, Pt.locs, Pt.cells, Pt.slots] at X2 l2 y2 z2 st2 hQ2 hs2 gz2 CR2
  subst y2 z2
  obtain ⟨X2, hS2, hZ, hown⟩ := rebS hS0 (Nat.le_trans hk0 (Nat.le_of_eq (congrArg Array.size (show _ = h0 from e0)).symm)) X2 hs2 gz2 hZ hown
  have hk2 := Nat.le_refl T2.heap.size
  have RC2 := CHr.trans (CHr.refl HC0) CR2
  obtain ⟨rfl, M2, kp2⟩ := hQ2
  have K2 : Keep h0 T2.heap ([] : List Addr) := (Keep.refl h0 ([] : List Addr)).trans kp2 all0
  have zz2 : n0 ≤ T2.heap.size := Nat.le_trans Z0 K2.1
  have N2 : Fr n0 L2 := by rw [l2]; exact Fr.app N0 M2
  clear l2
  have X2 : Stand p l e _ _ m _ below meth c T2 _ 4 68 := X2
  have pre3 : ∀ t, Steps p.tables e below (T2.setTop (mkF m 10 #[.val (.int xc), .val (.int (xc &&& (255 : Int32))), .unset, .unset] [(.int (F_rm_unres xc xcs))])) t → Steps p.tables e below (s₁.setTop (entryFrame m #[(.int xc)] maxLocals)) t := fun t k => pre1 t (st2.trans k)
  have pre4 : ∀ t, Steps p.tables e below (T2.setTop (mkF m 11 #[.val (.int xc), .val (.int (xc &&& (255 : Int32))), .unset, .unset] [(.int xc), (.int (F_rm_unres xc xcs))])) t → Steps p.tables e below (s₁.setTop (entryFrame m #[(.int xc)] maxLocals)) t := by
    intro t k
    refine pre3 t ?_
    refine XS.iloadN X2.here hx rfl (hb hby at_10) rfl ?_
    show Steps p.tables e below (T2.setTop (mkF m 11 #[.val (.int xc), .val (.int (xc &&& (255 : Int32))), .unset, .unset] [(.int xc), (.int (F_rm_unres xc xcs))])) _
    exact k
  obtain ⟨_, _, ⟨T5, L5, k5, n5⟩, -, X5, ⟨Lc5, hQ5, l5, y5, z5⟩, st5⟩ := Jvm.LawKit.callS X2 hx (y := (⟨"com/example/problems_as_payloads/problemsaspayloads/PercentEncodingIsUnreservedOrSubDelimiterPinLaw", "expected", "(I)Z"⟩ : MethodName)) hown (mvT hZ (hw _ (List.mem_of_getElem? (i := 58) rfl))) (mvT hZ (hw _ (List.mem_of_getElem? (i := 59) rfl))) (mvT hZ (hw _ (List.mem_of_getElem? (i := 60) rfl))) (mvT hZ (hw _ (List.mem_of_getElem? (i := 61) rfl))) (by decide) (backOf (W := 1) (rm_exp l Z a0 hw [] xc T2.heap n0 zz2 ) hZ (hw _ (List.mem_of_getElem? (i := 61) rfl)) (hw _ (List.mem_of_getElem? (i := 60) rfl)) (by decide) (by decide)) (g := (mkF m 11 #[.val (.int xc), .val (.int (xc &&& (255 : Int32))), .unset, .unset] [(.int xc), (.int (F_rm_unres xc xcs))])) rfl (by rw [hml]; rfl) (argsL := [(.int xc)]) (rest := [(.int (F_rm_unres xc xcs))]) (lenOf pd0 rfl) rfl (by show 2 * 0 + _ ≤ _; exact Nat.le_of_eq rfl) (hb hby at_11) (fun _ _ => ⟨rfl, rfl, (by decide : 4 + 0 ≤ _), (by decide : 68 + 0 ≤ _)⟩)
  dsimp only [Pt.U, Pt.locs, Pt.cells, Pt.slots] at X5 l5 y5 z5 st5 hQ5
  subst y5 z5
  obtain ⟨rfl, M5, e5⟩ := hQ5
  have N5 : Fr n0 L5 := by rw [l5]; exact Fr.app N2 M5
  clear l5
  have X5 : Stand p l e _ _ m _ below meth c T5 _ 4 68 := X5
  have pre6 : ∀ t, Steps p.tables e below (T5.setTop (mkF m 14 #[.val (.int xc), .val (.int (xc &&& (255 : Int32))), .unset, .unset] [(.int (F_rm_exp xc)), (.int (F_rm_unres xc xcs))])) t → Steps p.tables e below (s₁.setTop (entryFrame m #[(.int xc)] maxLocals)) t := fun t k => pre4 t (st5 t k)
  have pre7 : ∀ t, Steps p.tables e below (T5.setTop (mkF m 24 #[.val (.int xc), .val (.int (xc &&& (255 : Int32))), .val (.int (1 : Int32)), .unset] [(.int (xc &&& (255 : Int32)))])) t → Steps p.tables e below (s₁.setTop (entryFrame m #[(.int xc)] maxLocals)) t := by
    intro t k
    refine pre6 t ?_
    refine XS.icmpNo X5.here hx rfl (hb hby at_14) rfl (teq (show (F_rm_unres xc xcs) = (F_rm_exp xc) from own_law _ _)).2 ?_
    show Steps p.tables e below (T5.setTop (mkF m 17 #[.val (.int xc), .val (.int (xc &&& (255 : Int32))), .unset, .unset] [])) _
    refine XS.iconst X5.here hx rfl (hb hby at_17) ?_
    show Steps p.tables e below (T5.setTop (mkF m 18 #[.val (.int xc), .val (.int (xc &&& (255 : Int32))), .unset, .unset] [(.int (1 : Int32))])) _
    refine XS.goto X5.here hx rfl (pc0 := 18) (pc' := 22) rfl (hb hby at_18) (by decide) (by decide) ?_
    show Steps p.tables e below (T5.setTop (mkF m 22 #[.val (.int xc), .val (.int (xc &&& (255 : Int32))), .unset, .unset] [(.int (1 : Int32))])) _
    refine XS.istoreN X5.here hx rfl (hb hby at_22) rfl (l' := #[.val (.int xc), .val (.int (xc &&& (255 : Int32))), .val (.int (1 : Int32)), .unset]) rfl ?_
    show Steps p.tables e below (T5.setTop (mkF m 23 #[.val (.int xc), .val (.int (xc &&& (255 : Int32))), .val (.int (1 : Int32)), .unset] [])) _
    refine XS.iloadN X5.here hx rfl (hb hby at_23) rfl ?_
    show Steps p.tables e below (T5.setTop (mkF m 24 #[.val (.int xc), .val (.int (xc &&& (255 : Int32))), .val (.int (1 : Int32)), .unset] [(.int (xc &&& (255 : Int32)))])) _
    exact k
  have f8 := (SC.ext (own_keep_ext kp2))
  obtain ⟨_, _, ⟨T9, L9, k9, n9⟩, -, X9, hs9, gz9, ⟨Lc9, hQ9, l9, y9, z9, CR9⟩, st9⟩ := callSS X5 hx (y := (⟨"com/example/problems_as_payloads/problemsaspayloads/PercentEncoding", "isUnreservedOrSubDelimiter", "(I)Z"⟩ : MethodName)) hown (mvT hZ (hw _ (List.mem_of_getElem? (i := 0) rfl))) (mvT hZ (hw _ (List.mem_of_getElem? (i := 1) rfl))) (mvT hZ (hw _ (List.mem_of_getElem? (i := 2) rfl))) (mvT hZ (hw _ (List.mem_of_getElem? (i := 3) rfl))) (by decide) (backOfSH (W := 0) (rm_unres l Z a0 hw [] (xc &&& (255 : Int32)) xcs T2.heap n0 zz2 f8 (hcs)) hZ (hw _ (List.mem_of_getElem? (i := 3) rfl)) (hw _ (List.mem_of_getElem? (i := 2) rfl)) (by decide) (by decide) hEL CR2.1) (g := (mkF m 24 #[.val (.int xc), .val (.int (xc &&& (255 : Int32))), .val (.int (1 : Int32)), .unset] [(.int (xc &&& (255 : Int32)))])) rfl (by rw [hml]; rfl) (argsL := [(.int (xc &&& (255 : Int32)))]) (rest := []) (lenOf pd0 rfl) rfl (by show 2 * 0 + _ ≤ _; exact Nat.le_of_eq rfl) (hb hby at_24) (fun _ _ => ⟨rfl, e5, (by decide : 4 + 4 ≤ _), (by decide : 68 + 68 ≤ _)⟩)
  dsimp only [Pt.U, Pt.locs, Pt.cells, Pt.slots] at X9 l9 y9 z9 st9 hQ9 hs9 gz9 CR9
  subst y9 z9
  obtain ⟨X9, hS9, hZ, hown⟩ := rebS hS2 (Nat.le_trans hk2 (Nat.le_of_eq (congrArg Array.size (show _ = T2.heap from e5)).symm)) X9 hs9 gz9 hZ hown
  have hk9 := Nat.le_refl T9.heap.size
  have RC9 := CHr.trans RC2 CR9
  obtain ⟨rfl, M9, kp9⟩ := hQ9
  have K9 : Keep h0 T9.heap ([] : List Addr) := K2.trans kp9 all0
  have zz9 : n0 ≤ T9.heap.size := Nat.le_trans Z0 K9.1
  have N9 : Fr n0 L9 := by rw [l9]; exact Fr.app N5 M9
  clear l9
  have X9 : Stand p l e _ _ m _ below meth c T9 _ 8 136 := X9
  have pre10 : ∀ t, Steps p.tables e below (T9.setTop (mkF m 27 #[.val (.int xc), .val (.int (xc &&& (255 : Int32))), .val (.int (1 : Int32)), .unset] [(.int (F_rm_unres (xc &&& (255 : Int32)) xcs))])) t → Steps p.tables e below (s₁.setTop (entryFrame m #[(.int xc)] maxLocals)) t := fun t k => pre7 t (st9.trans k)
  have pre11 : ∀ t, Steps p.tables e below (T9.setTop (mkF m 28 #[.val (.int xc), .val (.int (xc &&& (255 : Int32))), .val (.int (1 : Int32)), .unset] [(.int (xc &&& (255 : Int32))), (.int (F_rm_unres (xc &&& (255 : Int32)) xcs))])) t → Steps p.tables e below (s₁.setTop (entryFrame m #[(.int xc)] maxLocals)) t := by
    intro t k
    refine pre10 t ?_
    refine XS.iloadN X9.here hx rfl (hb hby at_27) rfl ?_
    show Steps p.tables e below (T9.setTop (mkF m 28 #[.val (.int xc), .val (.int (xc &&& (255 : Int32))), .val (.int (1 : Int32)), .unset] [(.int (xc &&& (255 : Int32))), (.int (F_rm_unres (xc &&& (255 : Int32)) xcs))])) _
    exact k
  obtain ⟨_, _, ⟨T12, L12, k12, n12⟩, -, X12, ⟨Lc12, hQ12, l12, y12, z12⟩, st12⟩ := Jvm.LawKit.callS X9 hx (y := (⟨"com/example/problems_as_payloads/problemsaspayloads/PercentEncodingIsUnreservedOrSubDelimiterPinLaw", "expected", "(I)Z"⟩ : MethodName)) hown (mvT hZ (hw _ (List.mem_of_getElem? (i := 58) rfl))) (mvT hZ (hw _ (List.mem_of_getElem? (i := 59) rfl))) (mvT hZ (hw _ (List.mem_of_getElem? (i := 60) rfl))) (mvT hZ (hw _ (List.mem_of_getElem? (i := 61) rfl))) (by decide) (backOf (W := 1) (rm_exp l Z a0 hw [] (xc &&& (255 : Int32)) T9.heap n0 zz9 ) hZ (hw _ (List.mem_of_getElem? (i := 61) rfl)) (hw _ (List.mem_of_getElem? (i := 60) rfl)) (by decide) (by decide)) (g := (mkF m 28 #[.val (.int xc), .val (.int (xc &&& (255 : Int32))), .val (.int (1 : Int32)), .unset] [(.int (xc &&& (255 : Int32))), (.int (F_rm_unres (xc &&& (255 : Int32)) xcs))])) rfl (by rw [hml]; rfl) (argsL := [(.int (xc &&& (255 : Int32)))]) (rest := [(.int (F_rm_unres (xc &&& (255 : Int32)) xcs))]) (lenOf pd0 rfl) rfl (by show 2 * 0 + _ ≤ _; exact Nat.le_of_eq rfl) (hb hby at_28) (fun _ _ => ⟨rfl, rfl, (by decide : 8 + 0 ≤ _), (by decide : 136 + 0 ≤ _)⟩)
  dsimp only [Pt.U, Pt.locs, Pt.cells, Pt.slots] at X12 l12 y12 z12 st12 hQ12
  subst y12 z12
  obtain ⟨rfl, M12, e12⟩ := hQ12
  have N12 : Fr n0 L12 := by rw [l12]; exact Fr.app N9 M12
  clear l12
  have X12 : Stand p l e _ _ m _ below meth c T12 _ 8 136 := X12
  have pre13 : ∀ t, Steps p.tables e below (T12.setTop (mkF m 31 #[.val (.int xc), .val (.int (xc &&& (255 : Int32))), .val (.int (1 : Int32)), .unset] [(.int (F_rm_exp (xc &&& (255 : Int32)))), (.int (F_rm_unres (xc &&& (255 : Int32)) xcs))])) t → Steps p.tables e below (s₁.setTop (entryFrame m #[(.int xc)] maxLocals)) t := fun t k => pre11 t (st12 t k)
  have pre14 : ∀ t, Steps p.tables e below (T12.setTop (mkF m 53 #[.val (.int xc), .val (.int (xc &&& (255 : Int32))), .val (.int (1 : Int32)), .val (.int (1 : Int32))] [(.int (1 : Int32))])) t → Steps p.tables e below (s₁.setTop (entryFrame m #[(.int xc)] maxLocals)) t := by
    intro t k
    refine pre13 t ?_
    refine XS.icmpNo X12.here hx rfl (hb hby at_31) rfl (teq (show (F_rm_unres (xc &&& (255 : Int32)) xcs) = (F_rm_exp (xc &&& (255 : Int32))) from own_law _ _)).2 ?_
    show Steps p.tables e below (T12.setTop (mkF m 34 #[.val (.int xc), .val (.int (xc &&& (255 : Int32))), .val (.int (1 : Int32)), .unset] [])) _
    refine XS.iconst X12.here hx rfl (hb hby at_34) ?_
    show Steps p.tables e below (T12.setTop (mkF m 35 #[.val (.int xc), .val (.int (xc &&& (255 : Int32))), .val (.int (1 : Int32)), .unset] [(.int (1 : Int32))])) _
    refine XS.goto X12.here hx rfl (pc0 := 35) (pc' := 39) rfl (hb hby at_35) (by decide) (by decide) ?_
    show Steps p.tables e below (T12.setTop (mkF m 39 #[.val (.int xc), .val (.int (xc &&& (255 : Int32))), .val (.int (1 : Int32)), .unset] [(.int (1 : Int32))])) _
    refine XS.istoreN X12.here hx rfl (hb hby at_39) rfl (l' := #[.val (.int xc), .val (.int (xc &&& (255 : Int32))), .val (.int (1 : Int32)), .val (.int (1 : Int32))]) rfl ?_
    show Steps p.tables e below (T12.setTop (mkF m 40 #[.val (.int xc), .val (.int (xc &&& (255 : Int32))), .val (.int (1 : Int32)), .val (.int (1 : Int32))] [])) _
    refine XS.iloadN X12.here hx rfl (hb hby at_40) rfl ?_
    show Steps p.tables e below (T12.setTop (mkF m 41 #[.val (.int xc), .val (.int (xc &&& (255 : Int32))), .val (.int (1 : Int32)), .val (.int (1 : Int32))] [(.int (1 : Int32))])) _
    refine XS.ifNo X12.here hx rfl (hb hby at_41) rfl ((if0 _ _).trans (feq (show ¬ ((1 : Int32) = (0 : Int32)) from by decide)).1) ?_
    show Steps p.tables e below (T12.setTop (mkF m 44 #[.val (.int xc), .val (.int (xc &&& (255 : Int32))), .val (.int (1 : Int32)), .val (.int (1 : Int32))] [])) _
    refine XS.iloadN X12.here hx rfl (hb hby at_44) rfl ?_
    show Steps p.tables e below (T12.setTop (mkF m 45 #[.val (.int xc), .val (.int (xc &&& (255 : Int32))), .val (.int (1 : Int32)), .val (.int (1 : Int32))] [(.int (1 : Int32))])) _
    refine XS.ifNo X12.here hx rfl (hb hby at_45) rfl ((if0 _ _).trans (feq (show ¬ ((1 : Int32) = (0 : Int32)) from by decide)).1) ?_
    show Steps p.tables e below (T12.setTop (mkF m 48 #[.val (.int xc), .val (.int (xc &&& (255 : Int32))), .val (.int (1 : Int32)), .val (.int (1 : Int32))] [])) _
    refine XS.iconst X12.here hx rfl (hb hby at_48) ?_
    show Steps p.tables e below (T12.setTop (mkF m 49 #[.val (.int xc), .val (.int (xc &&& (255 : Int32))), .val (.int (1 : Int32)), .val (.int (1 : Int32))] [(.int (1 : Int32))])) _
    refine XS.goto X12.here hx rfl (pc0 := 49) (pc' := 53) rfl (hb hby at_49) (by decide) (by decide) ?_
    show Steps p.tables e below (T12.setTop (mkF m 53 #[.val (.int xc), .val (.int (xc &&& (255 : Int32))), .val (.int (1 : Int32)), .val (.int (1 : Int32))] [(.int (1 : Int32))])) _
    exact k
  obtain ⟨fs, hr, hrun, hended, hRW⟩ := X12.leaveW hS9 (Nat.le_trans hk9 (Nat.le_of_eq (congrArg Array.size (show _ = T9.heap from e12)).symm)) (v := some (.int (1 : Int32))) (fun h => by rw [Bd.returns] at h; cases h)
  have RE := CHr.trans RC9 (CHv.at X12 hZ hEL CR9.1)
  refine ⟨_, _, pre14 _ ?_, hrun, hended, _, _, rfl, ?_, (by rw [hh]; show CHr Z own_EL s.vm h0 T12.vm T12.heap; rw [show T12.heap = T9.heap from e12]; exact RE), hRW.1, hRW.2.1, hRW.2.2.1, hRW.2.2.2.mono (by decide) (by decide)⟩
  · exact retN X12 hx (t := .boolean) Bd.returns (by simp) (hb hby at_53) hr
  · show Q_rm0 Z xc xcs h0 n0 _ T12.heap _
    rw [e12]
    exact ⟨rfl, N12⟩
set_option maxRecDepth 65536 in
set_option maxHeartbeats 40000000 in
theorem comes_1 {Post : Tables → Env → Array Value → State → Outcome → State → Prop} (hpost : ∀ tb e args s v u, (limb_1_1.after args s (.returned v) u = true ∧ limb_1_2.after args s (.returned v) u = true ∧ True) → ReturnedEndW s (.returned v) u (Jvm.fieldLocs frame_1_writes args s ++ Jvm.arrayLocs frame_1_arrays args s ++ Jvm.staticLocs frame_1_statics s) 8 2112 → Post tb e args s (.returned v) u) :
    ArmFor flags0 classFile x code maxLocals ret World_1 tables_1 room_1 Calls_1 rest_1 Pre_1 Post := by
  intro l hfl _ _ p e ha hc hk s m args below hf hA hF happ hP
  obtain ⟨hcalls, hrest, hpre⟩ := hP
  obtain ⟨-, -, -, hnamed, -, -, -, hat⟩ := (Spec.applies_iff hf).mp happ
  obtain ⟨hg, hn⟩ := and_e (Cond.before_iff.mp (show (Jvm.Cond.and given_1 narrow_1).before args s = true from hpre))
  obtain ⟨ga1, gb1⟩ := and_e hg
  obtain ⟨w0, rfl⟩ : ∃ w0 : Value, args = #[w0] := by
    have hs : args.size = 1 := by simpa [Cond.value, given_1] using ga1
    obtain ⟨L⟩ := args
    match L, hs with
    | [w0], _ => exact ⟨w0, rfl⟩
  have hw := fun d (hd : d ∈ tables_1) => atoms_spec (ws := Jvm.Cond.code x code maxLocals ret :: tables_1) hat d (List.mem_cons_of_mem _ hd)
  have hfit : Fit s := fun {y c} hc i hi => by
    obtain ⟨ha, rfl⟩ := Array.getElem?_eq_some_iff.mp hc
    have q := List.all_eq_true.mp ((Array.all_eq_true_iff_forall_mem.mp hF) _ (Array.getElem_mem ha)) i (List.mem_range.mpr hi)
    simpa [Array.getElem?_eq_getElem hi] using q
  obtain ⟨hsets, hown0⟩ := atoms_of _ (rest_1_c_eq ▸ (show rest_1_c.before _ s = true from hrest))
  have hr0 := Cond.before_iff.mp hown0
  obtain ⟨i0, ei0⟩ := is_v gb1
  obtain rfl : w0 = (.int i0) := Option.some.inj ei0
  obtain ⟨xcs, ecs⟩ := is_v (Cond.before_iff.mp (hsets _ (List.mem_of_getElem? (i := 1) rfl)))
  have SC : Sta s s.heap "java/lang/String" "COMPACT_STRINGS" "Z" (.int xcs) := Sta.start ecs (Or.inl (hsets _ (List.mem_of_getElem? (i := 0) rfl)))
  have hcs : ¬ (xcs = (0 : Int32)) := gotF (Cond.eq_ints ecs (Term.int_eval (0))) (not_v (Cond.before_iff.mp (hsets _ (List.mem_of_getElem? (i := 2) rfl))))
  have HC : CHv s own_EL s.vm s.heap := CHv.start (EW.cons (hw _ (List.mem_of_getElem? (i := 4) rfl)) (by decide) (EW.cons (hw _ (List.mem_of_getElem? (i := 57) rfl)) (by decide) EW.nil)) (fun p hp => hcalls.1 p hp) (hsets _ (List.mem_of_getElem? (i := 2) rfl)) (hw _ (List.mem_of_getElem? (i := 7) rfl)) (hw _ (List.mem_of_getElem? (i := 6) rfl))
  obtain ⟨n, o, h1, h2, h3, _, L, rfl, ⟨rfl, N⟩, hCR, hq⟩ := rm0 l s _ hw tables_1 i0 xcs s.heap s.heap.size (Nat.le_refl _) SC hcs p e ha hc hk s m _ below hf ((Spec.applies_iff_loose hf).mp happ).1 ⟨rfl, State.Warmed39.refl s, rfl, HC⟩ trivial
  refine ⟨n, _, h1, h2, h3, hpost _ _ _ _ _ _ ⟨Cond.after_iff.mpr rfl, Cond.after_iff.mpr (eq_i res_at (Term.int_eval (1)) rfl), trivial⟩ ⟨hq.1, hq.2.1, hq.2.2.1, (hq.2.2.2.sift fun y hy => Or.inr (N y hy)).mono (by decide) (by decide)⟩⟩
theorem main_1_1 : Claimed_1_1 := comes_1 fun _ _ _ _ _ _ h hF => ⟨h.1, hF⟩
theorem main_1_2 : Claimed_1_2 := comes_1 fun _ _ _ _ _ _ h hF => ⟨h.2.1, hF⟩
end Jvm.Pilot.@@N@@
namespace Jvm.Pilot.@@N@@
open Jvm Jvm.ClassFile Sem Op Lib Jvm.Free Jvm.Stand Jvm.Pilot.@@N@@.Jvm.D
/-! MADE BY PROGRAM (witnessworld.py) out of the Statement's table words and the real class files: 18 classes; the members and pool entries that the words name. The judged class is class 1, her method 1. -/
namespace start1
open Jvm.ClassFile
def u (s : String) : CpInfo := .utf8 (stringToUtf16 s)
/-- a pool by its gaps: so many unusable entries, then the entry; so many at the end -/
def gap : Nat → List CpInfo → List CpInfo
  | 0, r => r
  | n + 1, r => .unusable :: gap n r
def poolList (es : List (Nat × CpInfo)) (last : Nat) : List CpInfo := es.foldr (fun e r => gap e.1 (e.2 :: r)) (gap last [])
def pool (es : List (Nat × CpInfo)) (last : Nat) : Array CpInfo := ⟨poolList es last⟩
def fileOf (pool : Array CpInfo) (this : Nat) (attrs : Array Attribute := #[]) (ms : Array MethodInfo := #[]) (fl : Nat := 33) (sup : Nat := 0) (ifs : Array Nat := #[]) (fds : Array FieldInfo := #[]) : ClassFile where
  minorVersion := 0
  majorVersion := 65
  constantPool := pool
  accessFlags := fl
  thisClass := this
  superClass := sup
  interfaces := ifs
  fields := fds
  methods := ms
  attributes := attrs
def plain (name : String) (sup : Option ClassId) : Class where
  name := name
  kind := .ordinary
  loader := none
  accessFlags := 33
  super := sup
  interfaces := #[]
  cf := none
  fields := #[]
  methods := #[]
  instanceTypes := #[]
  staticTypes := #[]
  resolved := #[]
  callSites := []
  init := .initialized
  statics := none
  mirror := none

def pool0 : Array CpInfo := pool [(5, u "<init>"), (0, u "()V"), (1, .class_ 10), (1, u "java/lang/Object")] 113

def k0m0 : Method := { name := "<init>", desc := "()V", sig := { parameters := [], returnType := none }, accessFlags := 1, code := none }
/-- java/lang/Object -/
def k0 : Class := { plain "java/lang/Object" none with
  accessFlags := 33
  interfaces := #[]
  cf := some (fileOf pool0 8 #[] #[{ accessFlags := 1, nameIndex := 5, descriptorIndex := 6, attributes := #[] }] 33 0 #[] #[])
  fields := #[]
  methods := #[k0m0]
  instanceTypes := #[]
  staticTypes := #[]
  resolved := Array.replicate 124 none
  statics := none }

def pool1 : Array CpInfo := pool [(2, .class_ 4), (1, u "java/lang/Object"), (0, u "<init>"), (0, u "()V"), (0, .methodref 8 9), (0, .class_ 10), (0, .nameAndType 11 12), (0, u "com/example/problems_as_payloads/problemsaspayloads/PercentEncoding"), (0, u "isUnreservedOrSubDelimiter"), (0, u "(I)Z"), (0, .methodref 14 15), (0, .class_ 16), (0, .nameAndType 17 12), (0, u "com/example/problems_as_payloads/problemsaspayloads/PercentEncodingIsUnreservedOrSubDelimiterPinLaw"), (0, u "expected"), (2, u "law")] 3

def k1m0 : Method := { name := "<init>", desc := "()V", sig := { parameters := [], returnType := none }, accessFlags := 1, code := none }
def k1c1 : Code := { maxStack := 2, maxLocals := 4, code := code, exceptionTable := #[], attributes := #[] }
def k1m1 : Method := { name := "law", desc := "(I)Z", sig := { parameters := [.int], returnType := some .boolean }, accessFlags := 9, code := some k1c1 }
def k1c2 : Code := { maxStack := 2, maxLocals := 1, code := method_3_code, exceptionTable := #[], attributes := #[] }
def k1m2 : Method := { name := "expected", desc := "(I)Z", sig := { parameters := [.int], returnType := some .boolean }, accessFlags := 10, code := some k1c2 }
/-- com/example/problems_as_payloads/problemsaspayloads/PercentEncodingIsUnreservedOrSubDelimiterPinLaw -/
def k1 : Class := { plain "com/example/problems_as_payloads/problemsaspayloads/PercentEncodingIsUnreservedOrSubDelimiterPinLaw" (some 0) with
  accessFlags := 49
  interfaces := #[]
  cf := some (fileOf pool1 14 #[] #[{ accessFlags := 1, nameIndex := 5, descriptorIndex := 6, attributes := #[] }, { accessFlags := 9, nameIndex := 20, descriptorIndex := 12, attributes := #[] }, { accessFlags := 10, nameIndex := 17, descriptorIndex := 12, attributes := #[] }] 49 2 #[] #[])
  fields := #[]
  methods := #[k1m0, k1m1, k1m2]
  instanceTypes := #[]
  staticTypes := #[]
  resolved := Array.replicate 24 none
  statics := none }

def pool2 : Array CpInfo := pool [(2, .class_ 4), (1, u "java/lang/Object"), (0, u "<init>"), (0, u "()V"), (0, .class_ 8), (0, u "com/example/problems_as_payloads/problemsaspayloads/PercentEncoding"), (0, .string 10), (0, u "-._~"), (0, .methodref 12 13), (0, .class_ 14), (0, .nameAndType 15 16), (0, u "java/lang/String"), (0, u "indexOf"), (0, u "(I)I"), (0, .string 18), (0, u "!$&'()*+,;="), (2, u "isUnreservedOrSubDelimiter"), (0, u "(I)Z"), (100, u "HEX_DIGITS"), (0, u "Ljava/lang/String;"), (1, u "REPLACEMENT_CHARACTER"), (0, u "I"), (0, u "UNRESERVED_PUNCTUATION"), (0, u "SUB_DELIMITERS")] 27

def k2m0 : Method := { name := "<init>", desc := "()V", sig := { parameters := [], returnType := none }, accessFlags := 2, code := none }
def k2c1 : Code := { maxStack := 2, maxLocals := 1, code := prog_4_method_2_code, exceptionTable := #[], attributes := #[] }
def k2m1 : Method := { name := "isUnreservedOrSubDelimiter", desc := "(I)Z", sig := { parameters := [.int], returnType := some .boolean }, accessFlags := 8, code := some k2c1 }
/-- com/example/problems_as_payloads/problemsaspayloads/PercentEncoding -/
def k2 : Class := { plain "com/example/problems_as_payloads/problemsaspayloads/PercentEncoding" (some 0) with
  accessFlags := 49
  interfaces := #[]
  cf := some (fileOf pool2 7 #[] #[{ accessFlags := 2, nameIndex := 5, descriptorIndex := 6, attributes := #[] }, { accessFlags := 8, nameIndex := 21, descriptorIndex := 22, attributes := #[] }] 49 2 #[] #[{ accessFlags := 26, nameIndex := 123, descriptorIndex := 124, attributes := #[] }, { accessFlags := 26, nameIndex := 126, descriptorIndex := 127, attributes := #[] }, { accessFlags := 26, nameIndex := 128, descriptorIndex := 124, attributes := #[] }, { accessFlags := 26, nameIndex := 129, descriptorIndex := 124, attributes := #[] }])
  fields := #[{ name := "HEX_DIGITS", type := (.object "java/lang/String"), accessFlags := 26, slot := 0, constantValue := 0 }, { name := "REPLACEMENT_CHARACTER", type := .int, accessFlags := 26, slot := 1, constantValue := 0 }, { name := "UNRESERVED_PUNCTUATION", type := (.object "java/lang/String"), accessFlags := 26, slot := 2, constantValue := 0 }, { name := "SUB_DELIMITERS", type := (.object "java/lang/String"), accessFlags := 26, slot := 3, constantValue := 0 }]
  methods := #[k2m0, k2m1]
  instanceTypes := #[]
  staticTypes := #[(.object "java/lang/String"), .int, (.object "java/lang/String"), (.object "java/lang/String")]
  resolved := Array.replicate 157 none
  statics := none }

def pool3 : Array CpInfo := pool [(1, .class_ 2), (0, u "java/io/Serializable"), (0, .class_ 4), (0, u "java/lang/Object")] 2

/-- java/io/Serializable -/
def k3 : Class := { plain "java/io/Serializable" (some 0) with
  accessFlags := 1537
  interfaces := #[]
  cf := some (fileOf pool3 1 #[] #[] 1537 3 #[] #[])
  fields := #[]
  methods := #[]
  instanceTypes := #[]
  staticTypes := #[]
  resolved := Array.replicate 7 none
  statics := none }

def pool4 : Array CpInfo := pool [(1, .class_ 2), (0, u "java/lang/Comparable"), (0, .class_ 4), (0, u "java/lang/Object")] 7

/-- java/lang/Comparable -/
def k4 : Class := { plain "java/lang/Comparable" (some 0) with
  accessFlags := 1537
  interfaces := #[]
  cf := some (fileOf pool4 1 #[] #[] 1537 3 #[] #[])
  fields := #[]
  methods := #[]
  instanceTypes := #[]
  staticTypes := #[]
  resolved := Array.replicate 12 none
  statics := none }

def pool5 : Array CpInfo := pool [(2, .class_ 4), (1, u "java/lang/CharSequence"), (42, .class_ 48), (0, u "java/lang/CharSequence$1CodePointIterator"), (10, .class_ 60), (0, u "java/lang/CharSequence$1CharIterator"), (5, .class_ 67), (0, u "java/lang/Object")] 63

/-- java/lang/CharSequence -/
def k5 : Class := { plain "java/lang/CharSequence" (some 0) with
  accessFlags := 1537
  interfaces := #[]
  cf := some (fileOf pool5 2 #[.nestMembers #[47, 59]] #[] 1537 66 #[] #[])
  fields := #[]
  methods := #[]
  instanceTypes := #[]
  staticTypes := #[]
  resolved := Array.replicate 131 none
  statics := none }

def pool6 : Array CpInfo := pool [(1, .class_ 2), (0, u "java/lang/constant/Constable"), (0, .class_ 4), (0, u "java/lang/Object")] 6

/-- java/lang/constant/Constable -/
def k6 : Class := { plain "java/lang/constant/Constable" (some 0) with
  accessFlags := 1537
  interfaces := #[]
  cf := some (fileOf pool6 1 #[] #[] 1537 3 #[] #[])
  fields := #[]
  methods := #[]
  instanceTypes := #[]
  staticTypes := #[]
  resolved := Array.replicate 11 none
  statics := none }

def pool7 : Array CpInfo := pool [(1, .class_ 2), (0, u "java/lang/constant/ConstantDesc"), (0, .class_ 4), (0, u "java/lang/Object")] 32

/-- java/lang/constant/ConstantDesc -/
def k7 : Class := { plain "java/lang/constant/ConstantDesc" (some 0) with
  accessFlags := 1537
  interfaces := #[]
  cf := some (fileOf pool7 1 #[] #[] 1537 3 #[] #[])
  fields := #[]
  methods := #[]
  instanceTypes := #[]
  staticTypes := #[]
  resolved := Array.replicate 37 none
  statics := none }

def pool8 : Array CpInfo := pool [(2, .class_ 4), (1, u "java/lang/Object"), (0, u "<init>"), (0, u "()V"), (2, .fieldref 10 11), (0, .class_ 12), (0, .nameAndType 13 14), (0, u "java/lang/String"), (0, u "value"), (0, u "[B"), (0, .fieldref 10 16), (0, .nameAndType 17 18), (0, u "coder"), (0, u "B"), (2, u "hash"), (0, u "I"), (2, u "hashIsZero"), (0, u "Z"), (11, .fieldref 10 39), (0, .nameAndType 40 26), (0, u "COMPACT_STRINGS"), (66, .class_ 109), (1, u "java/lang/StringLatin1"), (32, u "()Z"), (191, u "()I"), (0, .methodref 10 336), (0, .nameAndType 17 337), (0, u "()B"), (154, .methodref 10 493), (0, .nameAndType 494 142), (0, u "isLatin1"), (10, .methodref 10 506), (0, .nameAndType 507 334), (0, u "length"), (67, .class_ 576), (0, u "java/lang/CharSequence"), (22, u "CASE_INSENSITIVE_ORDER"), (0, u "Ljava/util/Comparator;"), (32, .methodref 10 634), (0, .nameAndType 635 636), (0, u "indexOf"), (0, u "(II)I"), (0, .methodref 107 638), (0, .nameAndType 635 639), (0, u "([BIII)I"), (125, u "(I)I"), (335, u "serialPersistentFields"), (0, u "[Ljava/io/ObjectStreamField;"), (0, .class_ 1104), (0, u "java/lang/String$CaseInsensitiveComparator"), (1, .class_ 1107), (0, u "java/io/Serializable"), (0, .class_ 1109), (0, u "java/lang/Comparable"), (0, .class_ 1111), (0, u "java/lang/constant/Constable"), (0, .class_ 1113), (0, u "java/lang/constant/ConstantDesc"), (2, u "serialVersionUID"), (0, u "J"), (3, u "REPL"), (0, u "C"), (2, u "LATIN1"), (1, u "UTF16")] 323

def k8m0 : Method := { name := "<init>", desc := "()V", sig := { parameters := [], returnType := none }, accessFlags := 1, code := none }
def k8c1 : Code := { maxStack := 2, maxLocals := 1, code := jdk_42_method_54_code, exceptionTable := #[], attributes := #[] }
def k8m1 : Method := { name := "length", desc := "()I", sig := { parameters := [], returnType := some .int }, accessFlags := 1, code := some k8c1 }
def k8c2 : Code := { maxStack := 3, maxLocals := 2, code := jdk_42_method_79_code, exceptionTable := #[], attributes := #[] }
def k8m2 : Method := { name := "indexOf", desc := "(I)I", sig := { parameters := [.int], returnType := some .int }, accessFlags := 1, code := some k8c2 }
def k8c3 : Code := { maxStack := 4, maxLocals := 3, code := jdk_42_method_80_code, exceptionTable := #[], attributes := #[] }
def k8m3 : Method := { name := "indexOf", desc := "(II)I", sig := { parameters := [.int, .int], returnType := some .int }, accessFlags := 1, code := some k8c3 }
def k8c4 : Code := { maxStack := 1, maxLocals := 1, code := jdk_42_method_152_code, exceptionTable := #[], attributes := #[] }
def k8m4 : Method := { name := "coder", desc := "()B", sig := { parameters := [], returnType := some .byte }, accessFlags := 0, code := some k8c4 }
def k8c5 : Code := { maxStack := 1, maxLocals := 1, code := jdk_42_method_154_code, exceptionTable := #[], attributes := #[] }
def k8m5 : Method := { name := "isLatin1", desc := "()Z", sig := { parameters := [], returnType := some .boolean }, accessFlags := 0, code := some k8c5 }
/-- java/lang/String -/
def k8 : Class := { plain "java/lang/String" (some 0) with
  accessFlags := 49
  interfaces := #[3, 4, 5, 6, 7]
  cf := some (fileOf pool8 10 #[.nestMembers #[1103]] #[{ accessFlags := 1, nameIndex := 5, descriptorIndex := 6, attributes := #[] }, { accessFlags := 1, nameIndex := 507, descriptorIndex := 334, attributes := #[] }, { accessFlags := 1, nameIndex := 635, descriptorIndex := 765, attributes := #[] }, { accessFlags := 1, nameIndex := 635, descriptorIndex := 636, attributes := #[] }, { accessFlags := 0, nameIndex := 17, descriptorIndex := 337, attributes := #[] }, { accessFlags := 0, nameIndex := 494, descriptorIndex := 142, attributes := #[] }] 49 2 #[1106, 1108, 575, 1110, 1112] #[{ accessFlags := 18, nameIndex := 13, descriptorIndex := 14, attributes := #[] }, { accessFlags := 18, nameIndex := 17, descriptorIndex := 18, attributes := #[] }, { accessFlags := 2, nameIndex := 21, descriptorIndex := 22, attributes := #[] }, { accessFlags := 2, nameIndex := 25, descriptorIndex := 26, attributes := #[] }, { accessFlags := 26, nameIndex := 1116, descriptorIndex := 1117, attributes := #[] }, { accessFlags := 24, nameIndex := 40, descriptorIndex := 26, attributes := #[] }, { accessFlags := 26, nameIndex := 1101, descriptorIndex := 1102, attributes := #[] }, { accessFlags := 26, nameIndex := 1121, descriptorIndex := 1122, attributes := #[] }, { accessFlags := 25, nameIndex := 599, descriptorIndex := 600, attributes := #[] }, { accessFlags := 24, nameIndex := 1125, descriptorIndex := 18, attributes := #[] }, { accessFlags := 24, nameIndex := 1127, descriptorIndex := 18, attributes := #[] }])
  fields := #[{ name := "value", type := (.array .byte), accessFlags := 18, slot := 0, constantValue := 0 }, { name := "coder", type := .byte, accessFlags := 18, slot := 1, constantValue := 0 }, { name := "hash", type := .int, accessFlags := 2, slot := 2, constantValue := 0 }, { name := "hashIsZero", type := .boolean, accessFlags := 2, slot := 3, constantValue := 0 }, { name := "serialVersionUID", type := .long, accessFlags := 26, slot := 0, constantValue := 0 }, { name := "COMPACT_STRINGS", type := .boolean, accessFlags := 24, slot := 1, constantValue := 0 }, { name := "serialPersistentFields", type := (.array (.object "java/io/ObjectStreamField")), accessFlags := 26, slot := 2, constantValue := 0 }, { name := "REPL", type := .char, accessFlags := 26, slot := 3, constantValue := 0 }, { name := "CASE_INSENSITIVE_ORDER", type := (.object "java/util/Comparator"), accessFlags := 25, slot := 4, constantValue := 0 }, { name := "LATIN1", type := .byte, accessFlags := 24, slot := 5, constantValue := 0 }, { name := "UTF16", type := .byte, accessFlags := 24, slot := 6, constantValue := 0 }]
  methods := #[k8m0, k8m1, k8m2, k8m3, k8m4, k8m5]
  instanceTypes := #[(.array .byte), .byte, .int, .boolean]
  staticTypes := #[.long, .boolean, (.array (.object "java/io/ObjectStreamField")), .char, (.object "java/util/Comparator"), .byte, .byte]
  resolved := Array.replicate 1451 none
  statics := some 0 }

def pool9 : Array CpInfo := pool [(4, .class_ 6), (1, u "java/lang/Object"), (0, u "<init>"), (0, u "()V"), (5, .class_ 16), (1, u "java/lang/StringLatin1"), (21, .methodref 39 40), (0, .class_ 41), (0, .nameAndType 42 43), (0, u "java/lang/Math"), (0, u "min"), (0, u "(II)I"), (44, .methodref 14 89), (0, .nameAndType 90 91), (0, u "canEncode"), (0, u "(I)Z"), (0, .methodref 39 93), (0, .nameAndType 94 43), (0, u "max"), (0, .methodref 14 96), (0, .nameAndType 97 98), (0, u "indexOfChar"), (0, u "([BIII)I"), (2, u "indexOf"), (19, u "$assertionsDisabled"), (0, u "Z"), (98, .class_ 223), (1, u "java/lang/StringLatin1$LinesSpliterator"), (166, .class_ 391), (0, u "java/lang/StringLatin1$CharsSpliterator")] 3

def k9m0 : Method := { name := "<init>", desc := "()V", sig := { parameters := [], returnType := none }, accessFlags := 0, code := none }
def k9c1 : Code := { maxStack := 2, maxLocals := 1, code := jdk_43_method_4_code, exceptionTable := #[], attributes := #[] }
def k9m1 : Method := { name := "canEncode", desc := "(I)Z", sig := { parameters := [.int], returnType := some .boolean }, accessFlags := 9, code := some k9c1 }
def k9c2 : Code := { maxStack := 4, maxLocals := 4, code := jdk_43_method_22_code, exceptionTable := #[], attributes := #[] }
def k9m2 : Method := { name := "indexOf", desc := "([BIII)I", sig := { parameters := [(.array .byte), .int, .int, .int], returnType := some .int }, accessFlags := 9, code := some k9c2 }
def k9c3 : Code := { maxStack := 2, maxLocals := 6, code := jdk_43_method_23_code, exceptionTable := #[], attributes := #[] }
def k9m3 : Method := { name := "indexOfChar", desc := "([BIII)I", sig := { parameters := [(.array .byte), .int, .int, .int], returnType := some .int }, accessFlags := 10, code := some k9c3 }
/-- java/lang/StringLatin1 -/
def k9 : Class := { plain "java/lang/StringLatin1" (some 0) with
  accessFlags := 48
  interfaces := #[]
  cf := some (fileOf pool9 14 #[.nestMembers #[390, 221]] #[{ accessFlags := 0, nameIndex := 7, descriptorIndex := 8, attributes := #[] }, { accessFlags := 9, nameIndex := 90, descriptorIndex := 91, attributes := #[] }, { accessFlags := 9, nameIndex := 101, descriptorIndex := 98, attributes := #[] }, { accessFlags := 10, nameIndex := 97, descriptorIndex := 98, attributes := #[] }] 48 4 #[] #[{ accessFlags := 4120, nameIndex := 121, descriptorIndex := 122, attributes := #[] }])
  fields := #[{ name := "$assertionsDisabled", type := .boolean, accessFlags := 4120, slot := 0, constantValue := 0 }]
  methods := #[k9m0, k9m1, k9m2, k9m3]
  instanceTypes := #[]
  staticTypes := #[.boolean]
  resolved := Array.replicate 395 none
  statics := none }

def pool10 : Array CpInfo := pool [(1, .class_ 2), (0, u "java/lang/Math"), (1, .class_ 6), (1, u "java/lang/Object"), (0, u "<init>"), (0, u "()V"), (89, .class_ 100), (1, u "java/lang/Math$RandomNumberGeneratorHolder"), (71, u "negativeZeroFloatBits"), (0, u "J"), (2, u "negativeZeroDoubleBits"), (21, u "max"), (2, u "min"), (43, u "$assertionsDisabled"), (0, u "Z"), (88, u "(II)I"), (2, u "twoToTheDoubleScaleDown"), (0, u "D"), (4, u "twoToTheDoubleScaleUp"), (9, u "E"), (3, u "PI"), (2, u "TAU"), (2, u "DEGREES_TO_RADIANS"), (0, u "RADIANS_TO_DEGREES")] 94

def k10m0 : Method := { name := "<init>", desc := "()V", sig := { parameters := [], returnType := none }, accessFlags := 2, code := none }
def k10c1 : Code := { maxStack := 2, maxLocals := 2, code := jdk_29_method_65_code, exceptionTable := #[], attributes := #[] }
def k10m1 : Method := { name := "max", desc := "(II)I", sig := { parameters := [.int, .int], returnType := some .int }, accessFlags := 9, code := some k10c1 }
def k10c2 : Code := { maxStack := 2, maxLocals := 2, code := jdk_29_method_69_code, exceptionTable := #[], attributes := #[] }
def k10m2 : Method := { name := "min", desc := "(II)I", sig := { parameters := [.int, .int], returnType := some .int }, accessFlags := 9, code := some k10c2 }
/-- java/lang/Math -/
def k10 : Class := { plain "java/lang/Math" (some 0) with
  accessFlags := 49
  interfaces := #[]
  cf := some (fileOf pool10 1 #[.nestMembers #[98]] #[{ accessFlags := 2, nameIndex := 7, descriptorIndex := 8, attributes := #[] }, { accessFlags := 9, nameIndex := 198, descriptorIndex := 335, attributes := #[] }, { accessFlags := 9, nameIndex := 201, descriptorIndex := 335, attributes := #[] }] 49 4 #[] #[{ accessFlags := 25, nameIndex := 354, descriptorIndex := 339, attributes := #[] }, { accessFlags := 25, nameIndex := 358, descriptorIndex := 339, attributes := #[] }, { accessFlags := 25, nameIndex := 361, descriptorIndex := 339, attributes := #[] }, { accessFlags := 26, nameIndex := 364, descriptorIndex := 339, attributes := #[] }, { accessFlags := 26, nameIndex := 365, descriptorIndex := 339, attributes := #[] }, { accessFlags := 26, nameIndex := 172, descriptorIndex := 173, attributes := #[] }, { accessFlags := 26, nameIndex := 176, descriptorIndex := 173, attributes := #[] }, { accessFlags := 8, nameIndex := 344, descriptorIndex := 339, attributes := #[] }, { accessFlags := 8, nameIndex := 338, descriptorIndex := 339, attributes := #[] }, { accessFlags := 4120, nameIndex := 245, descriptorIndex := 246, attributes := #[] }])
  fields := #[{ name := "E", type := .double, accessFlags := 25, slot := 0, constantValue := 0 }, { name := "PI", type := .double, accessFlags := 25, slot := 1, constantValue := 0 }, { name := "TAU", type := .double, accessFlags := 25, slot := 2, constantValue := 0 }, { name := "DEGREES_TO_RADIANS", type := .double, accessFlags := 26, slot := 3, constantValue := 0 }, { name := "RADIANS_TO_DEGREES", type := .double, accessFlags := 26, slot := 4, constantValue := 0 }, { name := "negativeZeroFloatBits", type := .long, accessFlags := 26, slot := 5, constantValue := 0 }, { name := "negativeZeroDoubleBits", type := .long, accessFlags := 26, slot := 6, constantValue := 0 }, { name := "twoToTheDoubleScaleUp", type := .double, accessFlags := 8, slot := 7, constantValue := 0 }, { name := "twoToTheDoubleScaleDown", type := .double, accessFlags := 8, slot := 8, constantValue := 0 }, { name := "$assertionsDisabled", type := .boolean, accessFlags := 4120, slot := 9, constantValue := 0 }]
  methods := #[k10m0, k10m1, k10m2]
  instanceTypes := #[]
  staticTypes := #[.double, .double, .double, .double, .double, .long, .long, .double, .double, .boolean]
  resolved := Array.replicate 460 none
  statics := none }

def pool11 : Array CpInfo := pool [(2, .class_ 4), (1, u "java/lang/Object"), (0, u "<init>"), (0, u "()V"), (17, .class_ 26), (1, u "jdk/internal/util/Preconditions"), (28, .class_ 56), (0, u "jdk/internal/util/Preconditions$4"), (57, .class_ 115), (0, u "jdk/internal/util/Preconditions$1"), (7, u "SIOOBE_FORMATTER"), (0, u "Ljava/util/function/BiFunction;"), (0, .class_ 126), (0, u "jdk/internal/util/Preconditions$2"), (3, u "AIOOBE_FORMATTER"), (0, .class_ 132), (0, u "jdk/internal/util/Preconditions$3"), (3, u "IOOBE_FORMATTER")] 57

def k11m0 : Method := { name := "<init>", desc := "()V", sig := { parameters := [], returnType := none }, accessFlags := 1, code := none }
/-- jdk/internal/util/Preconditions -/
def k11 : Class := { plain "jdk/internal/util/Preconditions" (some 0) with
  accessFlags := 33
  interfaces := #[]
  cf := some (fileOf pool11 24 #[.nestMembers #[55, 131, 125, 114]] #[{ accessFlags := 1, nameIndex := 5, descriptorIndex := 6, attributes := #[] }] 33 2 #[] #[{ accessFlags := 25, nameIndex := 123, descriptorIndex := 124, attributes := #[] }, { accessFlags := 25, nameIndex := 130, descriptorIndex := 124, attributes := #[] }, { accessFlags := 25, nameIndex := 136, descriptorIndex := 124, attributes := #[] }])
  fields := #[{ name := "SIOOBE_FORMATTER", type := (.object "java/util/function/BiFunction"), accessFlags := 25, slot := 0, constantValue := 0 }, { name := "AIOOBE_FORMATTER", type := (.object "java/util/function/BiFunction"), accessFlags := 25, slot := 1, constantValue := 0 }, { name := "IOOBE_FORMATTER", type := (.object "java/util/function/BiFunction"), accessFlags := 25, slot := 2, constantValue := 0 }]
  methods := #[k11m0]
  instanceTypes := #[]
  staticTypes := #[(.object "java/util/function/BiFunction"), (.object "java/util/function/BiFunction"), (.object "java/util/function/BiFunction")]
  resolved := Array.replicate 194 none
  statics := some 1 }

def pool12 : Array CpInfo := pool [(9, u "<init>"), (6, .class_ 18), (1, u "java/lang/Object"), (0, u "()V"), (1, .class_ 23), (1, u "jdk/internal/util/ArraysSupport"), (0, u "LOG2_ARRAY_LONG_INDEX_SCALE"), (0, u "I"), (2, u "U"), (0, u "Ljdk/internal/misc/Unsafe;"), (8, u "BIG_ENDIAN"), (0, u "Z"), (8, u "LOG2_BYTE_BIT_SIZE"), (4, u "LOG2_ARRAY_INT_INDEX_SCALE"), (54, u "JLA"), (0, u "Ljdk/internal/access/JavaLangAccess;"), (11, u "LOG2_ARRAY_BOOLEAN_INDEX_SCALE"), (9, u "LOG2_ARRAY_BYTE_INDEX_SCALE"), (5, u "LOG2_ARRAY_CHAR_INDEX_SCALE"), (5, u "LOG2_ARRAY_SHORT_INDEX_SCALE"), (18, u "LOG2_ARRAY_FLOAT_INDEX_SCALE"), (24, u "LOG2_ARRAY_DOUBLE_INDEX_SCALE"), (89, u "T_BOOLEAN"), (2, u "T_CHAR"), (1, u "T_FLOAT"), (1, u "T_DOUBLE"), (1, u "T_BYTE"), (1, u "T_SHORT"), (1, u "T_INT"), (1, u "T_LONG"), (1, u "SOFT_MAX_ARRAY_LENGTH")] 83

def k12m0 : Method := { name := "<init>", desc := "()V", sig := { parameters := [], returnType := none }, accessFlags := 2, code := none }
/-- jdk/internal/util/ArraysSupport -/
def k12 : Class := { plain "jdk/internal/util/ArraysSupport" (some 0) with
  accessFlags := 33
  interfaces := #[]
  cf := some (fileOf pool12 21 #[] #[{ accessFlags := 2, nameIndex := 9, descriptorIndex := 19, attributes := #[] }] 33 16 #[] #[{ accessFlags := 24, nameIndex := 28, descriptorIndex := 29, attributes := #[] }, { accessFlags := 26, nameIndex := 38, descriptorIndex := 39, attributes := #[] }, { accessFlags := 25, nameIndex := 121, descriptorIndex := 25, attributes := #[] }, { accessFlags := 25, nameIndex := 131, descriptorIndex := 25, attributes := #[] }, { accessFlags := 25, nameIndex := 137, descriptorIndex := 25, attributes := #[] }, { accessFlags := 25, nameIndex := 143, descriptorIndex := 25, attributes := #[] }, { accessFlags := 25, nameIndex := 53, descriptorIndex := 25, attributes := #[] }, { accessFlags := 25, nameIndex := 24, descriptorIndex := 25, attributes := #[] }, { accessFlags := 25, nameIndex := 162, descriptorIndex := 25, attributes := #[] }, { accessFlags := 25, nameIndex := 187, descriptorIndex := 25, attributes := #[] }, { accessFlags := 26, nameIndex := 48, descriptorIndex := 25, attributes := #[] }, { accessFlags := 25, nameIndex := 277, descriptorIndex := 25, attributes := #[] }, { accessFlags := 25, nameIndex := 280, descriptorIndex := 25, attributes := #[] }, { accessFlags := 25, nameIndex := 282, descriptorIndex := 25, attributes := #[] }, { accessFlags := 25, nameIndex := 284, descriptorIndex := 25, attributes := #[] }, { accessFlags := 25, nameIndex := 286, descriptorIndex := 25, attributes := #[] }, { accessFlags := 25, nameIndex := 288, descriptorIndex := 25, attributes := #[] }, { accessFlags := 25, nameIndex := 290, descriptorIndex := 25, attributes := #[] }, { accessFlags := 25, nameIndex := 292, descriptorIndex := 25, attributes := #[] }, { accessFlags := 26, nameIndex := 108, descriptorIndex := 109, attributes := #[] }, { accessFlags := 25, nameIndex := 294, descriptorIndex := 25, attributes := #[] }])
  fields := #[{ name := "U", type := (.object "jdk/internal/misc/Unsafe"), accessFlags := 24, slot := 0, constantValue := 0 }, { name := "BIG_ENDIAN", type := .boolean, accessFlags := 26, slot := 1, constantValue := 0 }, { name := "LOG2_ARRAY_BOOLEAN_INDEX_SCALE", type := .int, accessFlags := 25, slot := 2, constantValue := 0 }, { name := "LOG2_ARRAY_BYTE_INDEX_SCALE", type := .int, accessFlags := 25, slot := 3, constantValue := 0 }, { name := "LOG2_ARRAY_CHAR_INDEX_SCALE", type := .int, accessFlags := 25, slot := 4, constantValue := 0 }, { name := "LOG2_ARRAY_SHORT_INDEX_SCALE", type := .int, accessFlags := 25, slot := 5, constantValue := 0 }, { name := "LOG2_ARRAY_INT_INDEX_SCALE", type := .int, accessFlags := 25, slot := 6, constantValue := 0 }, { name := "LOG2_ARRAY_LONG_INDEX_SCALE", type := .int, accessFlags := 25, slot := 7, constantValue := 0 }, { name := "LOG2_ARRAY_FLOAT_INDEX_SCALE", type := .int, accessFlags := 25, slot := 8, constantValue := 0 }, { name := "LOG2_ARRAY_DOUBLE_INDEX_SCALE", type := .int, accessFlags := 25, slot := 9, constantValue := 0 }, { name := "LOG2_BYTE_BIT_SIZE", type := .int, accessFlags := 26, slot := 10, constantValue := 0 }, { name := "T_BOOLEAN", type := .int, accessFlags := 25, slot := 11, constantValue := 0 }, { name := "T_CHAR", type := .int, accessFlags := 25, slot := 12, constantValue := 0 }, { name := "T_FLOAT", type := .int, accessFlags := 25, slot := 13, constantValue := 0 }, { name := "T_DOUBLE", type := .int, accessFlags := 25, slot := 14, constantValue := 0 }, { name := "T_BYTE", type := .int, accessFlags := 25, slot := 15, constantValue := 0 }, { name := "T_SHORT", type := .int, accessFlags := 25, slot := 16, constantValue := 0 }, { name := "T_INT", type := .int, accessFlags := 25, slot := 17, constantValue := 0 }, { name := "T_LONG", type := .int, accessFlags := 25, slot := 18, constantValue := 0 }, { name := "JLA", type := (.object "jdk/internal/access/JavaLangAccess"), accessFlags := 26, slot := 19, constantValue := 0 }, { name := "SOFT_MAX_ARRAY_LENGTH", type := .int, accessFlags := 25, slot := 20, constantValue := 0 }]
  methods := #[k12m0]
  instanceTypes := #[]
  staticTypes := #[(.object "jdk/internal/misc/Unsafe"), .boolean, .int, .int, .int, .int, .int, .int, .int, .int, .int, .int, .int, .int, .int, .int, .int, .int, .int, (.object "jdk/internal/access/JavaLangAccess"), .int]
  resolved := Array.replicate 378 none
  statics := none }

def pool13 : Array CpInfo := pool [(1, u "java/lang/Cloneable"), (0, .class_ 1), (0, u "java/lang/Object"), (0, .class_ 3)] 3

/-- java/lang/Cloneable -/
def k13 : Class := { plain "java/lang/Cloneable" (some 0) with
  accessFlags := 1537
  interfaces := #[]
  cf := some (fileOf pool13 2 #[] #[] 1537 4 #[] #[])
  fields := #[]
  methods := #[]
  instanceTypes := #[]
  staticTypes := #[]
  resolved := Array.replicate 8 none
  statics := none }

/-- the primitive byte -/
def k14 : Class := { plain "byte" none with kind := .primitive 'B', accessFlags := 0x411 }
/-- [B -/
def k15 : Class := { plain "[B" (some 0) with kind := .array 14 .byte, interfaces := #[13, 3], accessFlags := 1041 }

/-- the primitive int -/
def k16 : Class := { plain "int" none with kind := .primitive 'I', accessFlags := 0x411 }
/-- [I -/
def k17 : Class := { plain "[I" (some 0) with kind := .array 16 .int, interfaces := #[13, 3], accessFlags := 1041 }

def heap : Heap := #[{ cls := 8, slots := #[.long 0, .int 1, .null, .int 0, .null, .int 0, .int 0], vm := .statics 8 },
  { cls := 11, slots := #[.null, .null, .null], vm := .statics 11 }]
def classes : Array Class := #[k0, k1, k2, k3, k4, k5, k6, k7, k8, k9, k10, k11, k12, k13, k14, k15, k16, k17]
def interned : List (Array UInt16 × Addr) := []
def slotsUsed : Nat := 10
def theMethod : MethodId := ⟨1, 1⟩
def args0 : Array Value := #[.int 5]
def aboutOver (below : List Frame) : State where
  vm := { classes := classes, interned := interned.toArray }
  heap := heap
  slotsUsed := slotsUsed
  threads := #[{ frames := .invoking theMethod args0 :: below }]
def below0 : List Frame := [.native { method := ⟨0, 0⟩, args := #[] }]
def about1 : State := aboutOver below0
def p0 : Program := .bare "" "" ""
def e0 : Env := launch0.env 0 0 0
theorem w_frames : about1.frames = Frame.invoking theMethod args0 :: below0 := rfl
set_option maxRecDepth 65536 in
theorem w_args : argsFit about1.vm theMethod args0 = true := by decide +kernel
set_option maxRecDepth 65536 in
theorem w_heap : heapFits about1 = true := by decide +kernel
set_option maxRecDepth 65536 in
theorem w_runnable : about1.curStatus? = some .runnable := by decide +kernel
set_option maxRecDepth 65536 in
theorem w_alone : about1.alone = true := by decide +kernel
set_option maxRecDepth 65536 in
theorem w_named : about1.methodNamed? x = some theMethod := by decide +kernel
set_option maxRecDepth 65536 in
theorem w_hears : about1.hears theMethod below0 = true := by decide +kernel
set_option maxRecDepth 65536 in
theorem w_ripe : about1.ripe theMethod args0 below0 = true := by decide +kernel
theorem w_running : about1.status = .running := rfl
set_option maxRecDepth 65536 in
theorem w_room : about1.hasRoom e0.platform room_1 = true :=
  launch0.hasRoom_least _ room_1 (by decide +kernel) (by decide +kernel) (by decide +kernel) (by decide +kernel) (by decide +kernel) (by decide +kernel)
theorem allAtoms_all (ts : List Jvm.Cond) (a : Array Jvm.Value) (st : Jvm.State) : (allAtoms ts).before a st = ts.all (fun c => c.before a st) := by
  induction ts with
  | nil => rfl
  | cons c t ih =>
    show (Jvm.Cond.and c (allAtoms t)).before a st = _
    rw [Jvm.Cond.before_and, ih, List.all_cons]
def words1 : List Jvm.Cond := Jvm.Cond.code x code maxLocals ret :: tables_1
/-- a 'code' word, met by the world's own term for the bytes: nothing is compared byte by byte -/
theorem code_word {y : MethodName} {bytes : ByteArray} {mx : Nat} {rt : Option FieldType} {a : Array Value} {s : State} {m : MethodId} {meth : Method} {c : Code} (h1 : s.methodNamed? y = some m) (h2 : s.vm.method? m = some meth) (h3 : meth.code = some c) (h4 : c.code = bytes)
    (h5 : (c.maxLocals == mx && c.exceptionTable.isEmpty && decide (c.maxStack ≤ mostOperands) && decide (meth.sig.returnType = rt) && !meth.locks && decide (parseMethodDescriptor y.desc = some meth.sig)) = true) : (Jvm.Cond.code y bytes mx rt).before a s = true := by
  simp only [Bool.and_eq_true, beq_iff_eq, Bool.not_eq_true', decide_eq_true_eq] at h5
  obtain ⟨⟨⟨⟨⟨g1, g2⟩, g3⟩, g4⟩, g5⟩, g6⟩ := h5
  simp [Cond.before, Cond.holds, Cond.value, h1, h2, h3, h4, g1, g2, g3, g4, g5, g6]
def isCode : Jvm.Cond → Bool
  | .code _ _ _ _ => true
  | _ => false
theorem all_split {L : List Jvm.Cond} {P : Jvm.Cond → Bool} (h1 : L.all (fun c => isCode c || P c) = true) (h2 : ∀ c ∈ L.filter isCode, P c = true) : L.all P = true := by
  refine List.all_eq_true.mpr fun c hc => ?_
  have h := List.all_eq_true.mp h1 c hc
  rcases Bool.eq_false_or_eq_true (isCode c) with hi | hi
  · exact h2 c (List.mem_filter.mpr ⟨hc, hi⟩)
  · simpa [hi] using h
set_option maxRecDepth 65536 in
theorem w_c0 : (Jvm.Cond.code x code maxLocals ret).before args0 about1 = true := code_word (m := ⟨1, 1⟩) (meth := k1m1) (c := k1c1) (by decide +kernel) rfl rfl rfl (by decide +kernel)
set_option maxRecDepth 65536 in
theorem w_c1 : (Jvm.Cond.code ({ cls := "com/example/problems_as_payloads/problemsaspayloads/PercentEncoding", name := "isUnreservedOrSubDelimiter", desc := "(I)Z" } : Jvm.MethodName) prog_4_method_2_code (1 : Nat) (Option.some Jvm.ClassFile.FieldType.boolean)).before args0 about1 = true := code_word (m := ⟨2, 1⟩) (meth := k2m1) (c := k2c1) (by decide +kernel) rfl rfl rfl (by decide +kernel)
set_option maxRecDepth 65536 in
theorem w_c2 : (Jvm.Cond.code ({ cls := "java/lang/String", name := "indexOf", desc := "(I)I" } : Jvm.MethodName) jdk_42_method_79_code (2 : Nat) (Option.some Jvm.ClassFile.FieldType.int)).before args0 about1 = true := code_word (m := ⟨8, 2⟩) (meth := k8m2) (c := k8c2) (by decide +kernel) rfl rfl rfl (by decide +kernel)
set_option maxRecDepth 65536 in
theorem w_c3 : (Jvm.Cond.code ({ cls := "java/lang/String", name := "indexOf", desc := "(II)I" } : Jvm.MethodName) jdk_42_method_80_code (3 : Nat) (Option.some Jvm.ClassFile.FieldType.int)).before args0 about1 = true := code_word (m := ⟨8, 3⟩) (meth := k8m3) (c := k8c3) (by decide +kernel) rfl rfl rfl (by decide +kernel)
set_option maxRecDepth 65536 in
theorem w_c4 : (Jvm.Cond.code ({ cls := "java/lang/String", name := "isLatin1", desc := "()Z" } : Jvm.MethodName) jdk_42_method_154_code (1 : Nat) (Option.some Jvm.ClassFile.FieldType.boolean)).before args0 about1 = true := code_word (m := ⟨8, 5⟩) (meth := k8m5) (c := k8c5) (by decide +kernel) rfl rfl rfl (by decide +kernel)
set_option maxRecDepth 65536 in
theorem w_c5 : (Jvm.Cond.code ({ cls := "java/lang/String", name := "length", desc := "()I" } : Jvm.MethodName) jdk_42_method_54_code (1 : Nat) (Option.some Jvm.ClassFile.FieldType.int)).before args0 about1 = true := code_word (m := ⟨8, 1⟩) (meth := k8m1) (c := k8c1) (by decide +kernel) rfl rfl rfl (by decide +kernel)
set_option maxRecDepth 65536 in
theorem w_c6 : (Jvm.Cond.code ({ cls := "java/lang/String", name := "coder", desc := "()B" } : Jvm.MethodName) jdk_42_method_152_code (1 : Nat) (Option.some Jvm.ClassFile.FieldType.byte)).before args0 about1 = true := code_word (m := ⟨8, 4⟩) (meth := k8m4) (c := k8c4) (by decide +kernel) rfl rfl rfl (by decide +kernel)
set_option maxRecDepth 65536 in
theorem w_c7 : (Jvm.Cond.code ({ cls := "java/lang/StringLatin1", name := "indexOf", desc := "([BIII)I" } : Jvm.MethodName) jdk_43_method_22_code (4 : Nat) (Option.some Jvm.ClassFile.FieldType.int)).before args0 about1 = true := code_word (m := ⟨9, 2⟩) (meth := k9m2) (c := k9c2) (by decide +kernel) rfl rfl rfl (by decide +kernel)
set_option maxRecDepth 65536 in
theorem w_c8 : (Jvm.Cond.code ({ cls := "java/lang/StringLatin1", name := "canEncode", desc := "(I)Z" } : Jvm.MethodName) jdk_43_method_4_code (1 : Nat) (Option.some Jvm.ClassFile.FieldType.boolean)).before args0 about1 = true := code_word (m := ⟨9, 1⟩) (meth := k9m1) (c := k9c1) (by decide +kernel) rfl rfl rfl (by decide +kernel)
set_option maxRecDepth 65536 in
theorem w_c9 : (Jvm.Cond.code ({ cls := "java/lang/Math", name := "max", desc := "(II)I" } : Jvm.MethodName) jdk_29_method_65_code (2 : Nat) (Option.some Jvm.ClassFile.FieldType.int)).before args0 about1 = true := code_word (m := ⟨10, 1⟩) (meth := k10m1) (c := k10c1) (by decide +kernel) rfl rfl rfl (by decide +kernel)
set_option maxRecDepth 65536 in
theorem w_c10 : (Jvm.Cond.code ({ cls := "java/lang/Math", name := "min", desc := "(II)I" } : Jvm.MethodName) jdk_29_method_69_code (2 : Nat) (Option.some Jvm.ClassFile.FieldType.int)).before args0 about1 = true := code_word (m := ⟨10, 2⟩) (meth := k10m2) (c := k10c2) (by decide +kernel) rfl rfl rfl (by decide +kernel)
set_option maxRecDepth 65536 in
theorem w_c11 : (Jvm.Cond.code ({ cls := "java/lang/StringLatin1", name := "indexOfChar", desc := "([BIII)I" } : Jvm.MethodName) jdk_43_method_23_code (6 : Nat) (Option.some Jvm.ClassFile.FieldType.int)).before args0 about1 = true := code_word (m := ⟨9, 3⟩) (meth := k9m3) (c := k9c3) (by decide +kernel) rfl rfl rfl (by decide +kernel)
set_option maxRecDepth 65536 in
theorem w_c12 : (Jvm.Cond.code ({ cls := "com/example/problems_as_payloads/problemsaspayloads/PercentEncodingIsUnreservedOrSubDelimiterPinLaw", name := "expected", desc := "(I)Z" } : Jvm.MethodName) method_3_code (1 : Nat) (Option.some Jvm.ClassFile.FieldType.boolean)).before args0 about1 = true := code_word (m := ⟨1, 2⟩) (meth := k1m2) (c := k1c2) (by decide +kernel) rfl rfl rfl (by decide +kernel)
def codes1 : List Jvm.Cond := [Jvm.Cond.code x code maxLocals ret, Jvm.Cond.code ({ cls := "com/example/problems_as_payloads/problemsaspayloads/PercentEncoding", name := "isUnreservedOrSubDelimiter", desc := "(I)Z" } : Jvm.MethodName) prog_4_method_2_code (1 : Nat) (Option.some Jvm.ClassFile.FieldType.boolean), Jvm.Cond.code ({ cls := "java/lang/String", name := "indexOf", desc := "(I)I" } : Jvm.MethodName) jdk_42_method_79_code (2 : Nat) (Option.some Jvm.ClassFile.FieldType.int), Jvm.Cond.code ({ cls := "java/lang/String", name := "indexOf", desc := "(II)I" } : Jvm.MethodName) jdk_42_method_80_code (3 : Nat) (Option.some Jvm.ClassFile.FieldType.int), Jvm.Cond.code ({ cls := "java/lang/String", name := "isLatin1", desc := "()Z" } : Jvm.MethodName) jdk_42_method_154_code (1 : Nat) (Option.some Jvm.ClassFile.FieldType.boolean), Jvm.Cond.code ({ cls := "java/lang/String", name := "length", desc := "()I" } : Jvm.MethodName) jdk_42_method_54_code (1 : Nat) (Option.some Jvm.ClassFile.FieldType.int), Jvm.Cond.code ({ cls := "java/lang/String", name := "coder", desc := "()B" } : Jvm.MethodName) jdk_42_method_152_code (1 : Nat) (Option.some Jvm.ClassFile.FieldType.byte), Jvm.Cond.code ({ cls := "java/lang/StringLatin1", name := "indexOf", desc := "([BIII)I" } : Jvm.MethodName) jdk_43_method_22_code (4 : Nat) (Option.some Jvm.ClassFile.FieldType.int), Jvm.Cond.code ({ cls := "java/lang/StringLatin1", name := "canEncode", desc := "(I)Z" } : Jvm.MethodName) jdk_43_method_4_code (1 : Nat) (Option.some Jvm.ClassFile.FieldType.boolean), Jvm.Cond.code ({ cls := "java/lang/Math", name := "max", desc := "(II)I" } : Jvm.MethodName) jdk_29_method_65_code (2 : Nat) (Option.some Jvm.ClassFile.FieldType.int), Jvm.Cond.code ({ cls := "java/lang/Math", name := "min", desc := "(II)I" } : Jvm.MethodName) jdk_29_method_69_code (2 : Nat) (Option.some Jvm.ClassFile.FieldType.int), Jvm.Cond.code ({ cls := "java/lang/StringLatin1", name := "indexOfChar", desc := "([BIII)I" } : Jvm.MethodName) jdk_43_method_23_code (6 : Nat) (Option.some Jvm.ClassFile.FieldType.int), Jvm.Cond.code ({ cls := "com/example/problems_as_payloads/problemsaspayloads/PercentEncodingIsUnreservedOrSubDelimiterPinLaw", name := "expected", desc := "(I)Z" } : Jvm.MethodName) method_3_code (1 : Nat) (Option.some Jvm.ClassFile.FieldType.boolean)]
set_option maxRecDepth 65536 in
theorem codes_eq : words1.filter isCode = codes1 := rfl
theorem w_codes : ∀ c ∈ words1.filter isCode, c.before args0 about1 = true := by
  rw [codes_eq]
  intro c hc
  simp only [codes1, List.mem_cons, List.not_mem_nil, or_false] at hc
  rcases hc with rfl | rfl | rfl | rfl | rfl | rfl | rfl | rfl | rfl | rfl | rfl | rfl | rfl
  · exact w_c0
  · exact w_c1
  · exact w_c2
  · exact w_c3
  · exact w_c4
  · exact w_c5
  · exact w_c6
  · exact w_c7
  · exact w_c8
  · exact w_c9
  · exact w_c10
  · exact w_c11
  · exact w_c12
set_option maxRecDepth 65536 in
theorem w_t1 : (words1.take 24).all (fun c => isCode c || c.before args0 about1) = true := by decide +kernel
set_option maxRecDepth 65536 in
theorem w_t2 : ((words1.drop 24).take 24).all (fun c => isCode c || c.before args0 about1) = true := by decide +kernel
set_option maxRecDepth 65536 in
theorem w_t3 : ((words1.drop 24).drop 24).all (fun c => isCode c || c.before args0 about1) = true := by decide +kernel
theorem w_tables : (allAtoms (Jvm.Cond.code x code maxLocals ret :: tables_1)).before args0 about1 = true := by
  rw [allAtoms_all]
  show words1.all (fun c => c.before args0 about1) = true
  refine all_split ?_ w_codes
  rw [← List.take_append_drop 24 words1, List.all_append, w_t1, ← List.take_append_drop 24 (words1.drop 24), List.all_append, w_t2, w_t3]
  rfl
set_option maxRecDepth 65536 in
theorem w_rest : rest_1_c.before args0 about1 = true := by decide +kernel
set_option maxRecDepth 65536 in
theorem w_case : (Jvm.Cond.and given_1 narrow_1).before args0 about1 = true := by decide +kernel
set_option maxRecDepth 65536 in
theorem w_consts : constsHeld consts_1 about1 := Jvm.Lit.constsHeldB_iff.mp (by decide +kernel)
theorem w_applies : (headSpec (Jvm.Cond.code x code maxLocals ret :: tables_1) room_1).applies x e0.platform about1 = true :=
  (Spec.applies_iff w_frames).mpr ⟨w_running, w_runnable, w_alone, w_named, w_hears, w_ripe, w_room, w_tables⟩
theorem atStart : AtStart classFile x code maxLocals ret World_1 tables_1 room_1 Calls_1 rest_1 Pre_1 launch0 p0 e0 about1 theMethod args0 below0 :=
  ⟨lists_1, trivial, launch0.admits_env _ _ _, launch0.least_env, fairChoices_fair.cas, fairChoices_fair.clock, w_frames, w_args, w_heap, w_applies, ⟨w_consts, trivial⟩, w_rest, w_case⟩
end start1
theorem witness_1 : WitnessClaimed_1 := ⟨start1.p0, start1.e0, start1.about1, start1.theMethod, start1.args0, start1.below0, start1.atStart⟩
end Jvm.Pilot.@@N@@
