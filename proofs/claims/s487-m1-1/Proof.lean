import JvmDerived
import JvmDerived.Pilot.@@N@@Statement
import JvmDerived.Pilot.@@N@@Code
set_option linter.unusedVariables false
set_option linter.unusedSimpArgs false
namespace Jvm.RoadKit
open Sem ClassFile Op Lib Jvm.Stand Jvm.Free Jvm.LawKit
section New
variable {p : Program} {l : Launch} {e : Env} {R : Room} {s : State} {m : MethodId} {args : Array Value} {below : List Frame} {meth : Method} {c : Code} {T : State} {locs : List Loc} {cells slots : Nat}
theorem retI (X : Stand p l e R s m args below meth c T locs cells slots) (hx : p.tables.exec = Jvm.exec) {pc : Nat} {Ls : Array Slot} {z : Int32} {rest : List Value} (hret : meth.sig.returnType = some .int) (hd : decode c.code pc = .ok (.ireturn, 1)) {fs : List Frame}
    (hl : ∀ (f : JFrame) (acts : List Action), f.method = m → f.locked = none → f.entered = [] → (doReturn e (T.setTop f) acts (some (.int z))).1 = T.setFrames fs) : Steps p.tables e below (T.setTop (mkF m pc Ls (.int z :: rest))) (T.setFrames fs) := by
  have hm' : T.vm.method? m = some meth := X.method'
  have hn : narrow .int (.int z) = .int z := rfl
  show Steps p.tables e below (T.setTop { method := m, pc := pc, locals := Ls, stack := _ :: rest, locked := none }) _
  jvm_step X.here [X.here.top, hx, hd, hm', hret, hn]
  first | (intro acts; rw [hl _ acts rfl rfl rfl]) | rw [hl _ _ rfl rfl rfl]
  exact Steps.refl _
end New
end Jvm.RoadKit
namespace Jvm.Pilot.@@N@@
open Jvm Jvm.ClassFile Sem Op Lib Jvm.Free Jvm.Stand Jvm.LawKit Jvm.RoadKit Bundle Jvm.Pilot.@@N@@.Jvm.D
theorem own_keep_ext {h h' : Heap} (K : Keep h h' []) : Ext h h' := ⟨K.1, fun a c q => K.2.1 a c q nin0⟩
theorem own_sta_keep {Z : State} {h h' : Heap} {C n d K : String} {a : Addr} {v : Value} (F : Sta Z h C n d v) (Kp : Keep h h' [a]) (E : Exa Z h a K) : Sta Z h' C n d v := by
  obtain ⟨cf, i, k, f, st, cell, h1, h2, h3, h4, h5, h6, h7⟩ := F
  obtain ⟨cell', k', g1, -, -, g4, -⟩ := E
  have ne : st ≠ a := by
    intro q
    subst q
    rw [h5] at g1
    cases g1
    rw [h6] at g4
    cases g4
  exact ⟨cf, i, k, f, st, cell, h1, h2, h3, h4, Kp.2.1 st cell h5 (ninS ne nin0), h6, h7⟩
theorem d1_0 : decode jdk_29_method_65_code 0 = .ok (.iload_n 0, 1) := by decide +kernel
theorem d1_1 : decode jdk_29_method_65_code 1 = .ok (.iload_n 1, 1) := by decide +kernel
theorem d1_2 : decode jdk_29_method_65_code 2 = .ok (.if_icmp .lt 7, 3) := by decide +kernel
theorem d1_9 : decode jdk_29_method_65_code 9 = .ok (.iload_n 1, 1) := by decide +kernel
theorem d1_10 : decode jdk_29_method_65_code 10 = .ok (.ireturn, 1) := by decide +kernel
theorem d1_5 : decode jdk_29_method_65_code 5 = .ok (.iload_n 0, 1) := by decide +kernel
theorem d1_6 : decode jdk_29_method_65_code 6 = .ok (.goto 4, 3) := by decide +kernel
def F_rm_max (xa : Int32) (xb : Int32) : Int32 := (if xa < xb then xb else xa)
theorem ef_rm_max (m : MethodId) (xa : Int32) (xb : Int32) : entryFrame m #[(.int xa), (.int xb)] 2 = mkF m 0 #[.val (.int xa), .val (.int xb)] [] := by first | (simp [entryFrame, mkF, argsToLocals, Value.category]; done) | rfl
def Q_rm_max (Z : State) (xa : Int32) (xb : Int32) (h0 : Heap) (n0 : Nat) (v : Option Value) (h : Heap) (L : List Loc) : Prop := v = some (.int (F_rm_max xa xb)) ∧ Fr n0 L ∧ h = h0
set_option maxRecDepth 65536 in
set_option maxHeartbeats 40000000 in
theorem rm_max (l : Launch) (Z : State) (a0 : Array Value) (hw : ∀ d ∈ tables_1, d.before a0 Z = true) (ws : List Jvm.Cond) (xa : Int32) (xb : Int32) (h0 : Heap) (n0 : Nat) (Z0 : n0 ≤ h0.size) :
    MetFree l (⟨"java/lang/Math", "max", "(II)I"⟩ : MethodName) (head1 (Jvm.Cond.code (⟨"java/lang/Math", "max", "(II)I"⟩ : MethodName) jdk_29_method_65_code 2 (some .int) :: ws) ({ frames := 0, cells := 0, slots := 0, locals := 0 } : Room)) (fun a U => a = #[(.int xa), (.int xb)] ∧ Z.Warmed39 U.vm ∧ U.heap = h0) (fun _ _ _ _ _ => True) (fun _ U o U' => ∃ v L, o = .returned v ∧ Q_rm_max Z xa xb h0 n0 v U'.heap L ∧ FrameEnd U o U' L ({ frames := 0, cells := 0, slots := 0, locals := 0 } : Room).cells ({ frames := 0, cells := 0, slots := 0, locals := 0 } : Room).slots) := by
  refine MetFree.of_bodySF (Jvm.Free.JP.mathPlain rfl (by decide +kernel)) hisR ?_
  intro p e s m args below meth c s₁ Bd hml0 hP hK
  obtain ⟨rfl, hZ, hh⟩ := hP
  have hx := Bd.exec
  have hby := Bd.bytes
  have hml : c.maxLocals = 2 := hml0
  have hown : s.vm.findClass "java/lang/Math" = some m.cls := findClass_of_methodNamed Bd.named
  have hnm := (name_of_methodNamed Bd.named Bd.method).1
  have X0 : Stand p l e ({ frames := 0, cells := 0, slots := 0, locals := 0 } : Room) s m #[(.int xa), (.int xb)] below meth c s₁ [] 0 0 := Stand.of_body Bd
  have e0 : s₁.heap = h0 := by rw [← hh, Bd.state]; rfl
  have N0 := Fr.nil n0
  have pre0 : ∀ t, Steps p.tables e below (s₁.setTop (mkF m 0 #[.val (.int xa), .val (.int xb)] [])) t → Steps p.tables e below (s₁.setTop (entryFrame m #[(.int xa), (.int xb)] 2)) t := fun t k => castTop (ef_rm_max m xa xb) k
  have pre1 : ∀ t, Steps p.tables e below (s₁.setTop (mkF m 2 #[.val (.int xa), .val (.int xb)] [(.int xb), (.int xa)])) t → Steps p.tables e below (s₁.setTop (entryFrame m #[(.int xa), (.int xb)] 2)) t := by
    intro t k
    refine pre0 t ?_
    refine XS.iloadN X0.here hx rfl (hb hby d1_0) rfl ?_
    show Steps p.tables e below (s₁.setTop (mkF m 1 #[.val (.int xa), .val (.int xb)] [(.int xa)])) _
    refine XS.iloadN X0.here hx rfl (hb hby d1_1) rfl ?_
    show Steps p.tables e below (s₁.setTop (mkF m 2 #[.val (.int xa), .val (.int xb)] [(.int xb), (.int xa)])) _
    exact k
  by_cases hc2 : xa < xb
  · have pre2 : ∀ t, Steps p.tables e below (s₁.setTop (mkF m 10 #[.val (.int xa), .val (.int xb)] [(.int xb)])) t → Steps p.tables e below (s₁.setTop (entryFrame m #[(.int xa), (.int xb)] 2)) t := by
      intro t k
      refine pre1 t ?_
      refine XS.icmpYes X0.here hx rfl (pc0 := 2) (pc' := 9) rfl (hb hby d1_2) rfl (tlt hc2).1 (by decide) (by decide) ?_
      show Steps p.tables e below (s₁.setTop (mkF m 9 #[.val (.int xa), .val (.int xb)] [])) _
      refine XS.iloadN X0.here hx rfl (hb hby d1_9) rfl ?_
      show Steps p.tables e below (s₁.setTop (mkF m 10 #[.val (.int xa), .val (.int xb)] [(.int xb)])) _
      exact k
    obtain ⟨fs, hr, hrun, hended, hW, hsame⟩ := X0.leave (v := some (.int xb)) (fun h => by rw [Bd.returns] at h; cases h)
    refine ⟨_, _, pre2 _ ?_, hrun, hended, _, _, rfl, ?_, ⟨_, rfl⟩, hW, hsame.mono (by decide) (by decide)⟩
    · exact retI X0 hx Bd.returns (hb hby d1_10) hr
    · show Q_rm_max Z xa xb h0 n0 _ s₁.heap _
      rw [e0]
      exact ⟨congrArg (fun z => some (Value.int z)) (show xb = (F_rm_max xa xb) from by rw [F_rm_max, if_pos hc2]), N0, rfl⟩
  · have pre3 : ∀ t, Steps p.tables e below (s₁.setTop (mkF m 10 #[.val (.int xa), .val (.int xb)] [(.int xa)])) t → Steps p.tables e below (s₁.setTop (entryFrame m #[(.int xa), (.int xb)] 2)) t := by
      intro t k
      refine pre1 t ?_
      refine XS.icmpNo X0.here hx rfl (hb hby d1_2) rfl (flt hc2).1 ?_
      show Steps p.tables e below (s₁.setTop (mkF m 5 #[.val (.int xa), .val (.int xb)] [])) _
      refine XS.iloadN X0.here hx rfl (hb hby d1_5) rfl ?_
      show Steps p.tables e below (s₁.setTop (mkF m 6 #[.val (.int xa), .val (.int xb)] [(.int xa)])) _
      refine XS.goto X0.here hx rfl (pc0 := 6) (pc' := 10) rfl (hb hby d1_6) (by decide) (by decide) ?_
      show Steps p.tables e below (s₁.setTop (mkF m 10 #[.val (.int xa), .val (.int xb)] [(.int xa)])) _
      exact k
    obtain ⟨fs, hr, hrun, hended, hW, hsame⟩ := X0.leave (v := some (.int xa)) (fun h => by rw [Bd.returns] at h; cases h)
    refine ⟨_, _, pre3 _ ?_, hrun, hended, _, _, rfl, ?_, ⟨_, rfl⟩, hW, hsame.mono (by decide) (by decide)⟩
    · exact retI X0 hx Bd.returns (hb hby d1_10) hr
    · show Q_rm_max Z xa xb h0 n0 _ s₁.heap _
      rw [e0]
      exact ⟨congrArg (fun z => some (Value.int z)) (show xa = (F_rm_max xa xb) from by rw [F_rm_max, if_neg hc2]), N0, rfl⟩
theorem d2_0 : decode prog_4_method_1_code 0 = .ok (.aload_n 0, 1) := by decide +kernel
theorem d2_1 : decode prog_4_method_1_code 1 = .ok (.invokespecial 1, 3) := by decide +kernel
theorem d2_4 : decode prog_4_method_1_code 4 = .ok (.iload_n 1, 1) := by decide +kernel
theorem d2_5 : decode prog_4_method_1_code 5 = .ok (.iconst 1, 1) := by decide +kernel
theorem d2_6 : decode prog_4_method_1_code 6 = .ok (.if_icmp .ge 17, 3) := by decide +kernel
theorem d2_23 : decode prog_4_method_1_code 23 = .ok (.aload_n 0, 1) := by decide +kernel
theorem d2_24 : decode prog_4_method_1_code 24 = .ok (.iload_n 1, 1) := by decide +kernel
theorem d2_25 : decode prog_4_method_1_code 25 = .ok (.putfield 16, 3) := by decide +kernel
theorem d2_28 : decode prog_4_method_1_code 28 = .ok (.return_, 1) := by decide +kernel
theorem pn0 : plainName "com/example/quorum_lease/quorumlease/core/Quorum" = true := by first | (simp [plainName, overriddenIn]; done) | decide +kernel
theorem ef_rm_init (m : MethodId) (ra : Addr) (xn : Int32) : entryFrame m #[(.ref ra), (.int xn)] 2 = mkF m 0 #[.val (.ref ra), .val (.int xn)] [] := by first | (simp [entryFrame, mkF, argsToLocals, Value.category]; done) | rfl
def Q_rm_init (Z : State) (ra : Addr) (xn : Int32) (h0 : Heap) (n0 : Nat) (v : Option Value) (h : Heap) (L : List Loc) : Prop := v = none ∧ Fr n0 L ∧ Keep h0 h [ra] ∧ Exa Z h ra "com/example/quorum_lease/quorumlease/core/Quorum" ∧ Fld Z h ra "com/example/quorum_lease/quorumlease/core/Quorum" "nodes" "I" (.int xn)
set_option maxRecDepth 65536 in
set_option maxHeartbeats 40000000 in
theorem rm_init (l : Launch) (Z : State) (a0 : Array Value) (hw : ∀ d ∈ tables_1, d.before a0 Z = true) (ws : List Jvm.Cond) (ra : Addr) (xn : Int32) (h0 : Heap) (n0 : Nat) (Z0 : n0 ≤ h0.size) (E_ra : Exa Z h0 ra "com/example/quorum_lease/quorumlease/core/Quorum") (g_ra : n0 ≤ ra) (F_nodes_ra : Fld Z h0 ra "com/example/quorum_lease/quorumlease/core/Quorum" "nodes" "I" (.int (0 : Int32))) (hn : ¬ (xn < (1 : Int32))) :
    MetFree l (⟨"com/example/quorum_lease/quorumlease/core/Quorum", "<init>", "(I)V"⟩ : MethodName) (head1 (Jvm.Cond.code (⟨"com/example/quorum_lease/quorumlease/core/Quorum", "<init>", "(I)V"⟩ : MethodName) prog_4_method_1_code 2 none :: ws) ({ frames := 1, cells := 0, slots := 0, locals := 12 } : Room)) (fun a U => a = #[(.ref ra), (.int xn)] ∧ Z.Warmed39 U.vm ∧ U.heap = h0) (fun _ _ _ _ _ => True) (fun _ U o U' => ∃ v L, o = .returned v ∧ Q_rm_init Z ra xn h0 n0 v U'.heap L ∧ FrameEnd U o U' L ({ frames := 1, cells := 0, slots := 0, locals := 12 } : Room).cells ({ frames := 1, cells := 0, slots := 0, locals := 12 } : Room).slots) := by
  refine MetFree.of_bodySF (plainFor_of_name pn0) hisR ?_
  intro p e s m args below meth c s₁ Bd hml0 hP hK
  obtain ⟨rfl, hZ, hh⟩ := hP
  have hx := Bd.exec
  have hby := Bd.bytes
  have hml : c.maxLocals = 2 := hml0
  have hown : s.vm.findClass "com/example/quorum_lease/quorumlease/core/Quorum" = some m.cls := findClass_of_methodNamed Bd.named
  have hnm := (name_of_methodNamed Bd.named Bd.method).1
  have X0 : Stand p l e ({ frames := 1, cells := 0, slots := 0, locals := 12 } : Room) s m #[(.ref ra), (.int xn)] below meth c s₁ [] 0 0 := Stand.of_body Bd
  have e0 : s₁.heap = h0 := by rw [← hh, Bd.state]; rfl
  have N0 := Fr.nil n0
  have pre0 : ∀ t, Steps p.tables e below (s₁.setTop (mkF m 0 #[.val (.ref ra), .val (.int xn)] [])) t → Steps p.tables e below (s₁.setTop (entryFrame m #[(.ref ra), (.int xn)] 2)) t := fun t k => castTop (ef_rm_init m ra xn) k
  have pre1 : ∀ t, Steps p.tables e below (s₁.setTop (mkF m 1 #[.val (.ref ra), .val (.int xn)] [(.ref ra)])) t → Steps p.tables e below (s₁.setTop (entryFrame m #[(.ref ra), (.int xn)] 2)) t := by
    intro t k
    refine pre0 t ?_
    refine XS.aloadN X0.here hx rfl (hb hby d2_0) rfl rfl ?_
    show Steps p.tables e below (s₁.setTop (mkF m 1 #[.val (.ref ra), .val (.int xn)] [(.ref ra)])) _
    exact k
  obtain ⟨T2, X2, e2, st2⟩ := initO X0 hx hZ hown (hw _ (List.mem_of_getElem? (i := 12) rfl)) (hw _ (List.mem_of_getElem? (i := 13) rfl)) (hw _ (List.mem_of_getElem? (i := 14) rfl)) e0 (g := (mkF m 1 #[.val (.ref ra), .val (.int xn)] [(.ref ra)])) rfl (by rw [hml]; rfl) rfl (hb hby d2_1) (by decide) (W := 0) (by show 2 * 0 + _ ≤ _; exact Nat.le_of_eq rfl) (by decide)
  have pre3 : ∀ t, Steps p.tables e below (T2.setTop (mkF m 4 #[.val (.ref ra), .val (.int xn)] [])) t → Steps p.tables e below (s₁.setTop (entryFrame m #[(.ref ra), (.int xn)] 2)) t := fun t k => pre1 t (st2 t k)
  have pre4 : ∀ t, Steps p.tables e below (T2.setTop (mkF m 25 #[.val (.ref ra), .val (.int xn)] [(.int xn), (.ref ra)])) t → Steps p.tables e below (s₁.setTop (entryFrame m #[(.ref ra), (.int xn)] 2)) t := by
    intro t k
    refine pre3 t ?_
    refine XS.iloadN X2.here hx rfl (hb hby d2_4) rfl ?_
    show Steps p.tables e below (T2.setTop (mkF m 5 #[.val (.ref ra), .val (.int xn)] [(.int xn)])) _
    refine XS.iconst X2.here hx rfl (hb hby d2_5) ?_
    show Steps p.tables e below (T2.setTop (mkF m 6 #[.val (.ref ra), .val (.int xn)] [(.int (1 : Int32)), (.int xn)])) _
    refine XS.icmpYes X2.here hx rfl (pc0 := 6) (pc' := 23) rfl (hb hby d2_6) rfl (flt (show ¬ (xn < (1 : Int32)) from hn)).2.1 (by decide) (by decide) ?_
    show Steps p.tables e below (T2.setTop (mkF m 23 #[.val (.ref ra), .val (.int xn)] [])) _
    refine XS.aloadN X2.here hx rfl (hb hby d2_23) rfl rfl ?_
    show Steps p.tables e below (T2.setTop (mkF m 24 #[.val (.ref ra), .val (.int xn)] [(.ref ra)])) _
    refine XS.iloadN X2.here hx rfl (hb hby d2_24) rfl ?_
    show Steps p.tables e below (T2.setTop (mkF m 25 #[.val (.ref ra), .val (.int xn)] [(.int xn), (.ref ra)])) _
    exact k
  obtain ⟨T5, h5, X5, e5, W5, st5⟩ := putF X2 hx hZ hown (host := "") (Or.inl (hw _ (List.mem_of_getElem? (i := 15) rfl))) Via.refl e2 F_nodes_ra E_ra (Or.inr ⟨(hw _ (List.mem_of_getElem? (i := 16) rfl)), rfl, hnm⟩) (hw _ (List.mem_of_getElem? (i := 7) rfl)) (ty := .int) (by decide) rfl rfl (g := (mkF m 25 #[.val (.ref ra), .val (.int xn)] [(.int xn), (.ref ra)])) rfl rfl (hb hby d2_25)
  have K5 : Keep h0 h5 [ra] := (Keep.refl h0 [ra]).wr W5 (Or.inl (by simp))
  have z5 : n0 ≤ h5.size := Nat.le_trans Z0 K5.1
  have N5 := Fr.snoc X5 N0 g_ra
  have Fw5 := F_nodes_ra.same W5
  have pre6 : ∀ t, Steps p.tables e below (T5.setTop (mkF m 28 #[.val (.ref ra), .val (.int xn)] [])) t → Steps p.tables e below (s₁.setTop (entryFrame m #[(.ref ra), (.int xn)] 2)) t := fun t k => pre4 t (st5 t k)
  obtain ⟨fs, hr, hrun, hended, hW, hsame⟩ := X5.leave (v := none) (fun _ => rfl)
  refine ⟨_, _, pre6 _ ?_, hrun, hended, _, _, rfl, ?_, ⟨_, rfl⟩, hW, hsame.mono (by decide) (by decide)⟩
  · exact X5.returnOut hx Bd.returns (hb hby d2_28) hr
  · show Q_rm_init Z ra xn h0 n0 _ T5.heap _
    rw [e5]
    exact ⟨rfl, N5, K5, (E_ra.wr W5), Fw5⟩
theorem d5_0 : decode prog_4_method_2_code 0 = .ok (.aload_n 0, 1) := by decide +kernel
theorem d5_1 : decode prog_4_method_2_code 1 = .ok (.getfield 16, 3) := by decide +kernel
theorem d5_4 : decode prog_4_method_2_code 4 = .ok (.iconst 2, 1) := by decide +kernel
theorem d5_5 : decode prog_4_method_2_code 5 = .ok (.idiv, 1) := by decide +kernel
theorem d5_6 : decode prog_4_method_2_code 6 = .ok (.iconst 1, 1) := by decide +kernel
theorem d5_7 : decode prog_4_method_2_code 7 = .ok (.iadd, 1) := by decide +kernel
theorem d5_8 : decode prog_4_method_2_code 8 = .ok (.ireturn, 1) := by decide +kernel
theorem ef_rm_maj (m : MethodId) (ra : Addr) : entryFrame m #[(.ref ra)] 1 = mkF m 0 #[.val (.ref ra)] [] := by first | (simp [entryFrame, mkF, argsToLocals, Value.category]; done) | rfl
def Q_rm_maj (Z : State) (ra : Addr) (xn : Int32) (h0 : Heap) (n0 : Nat) (v : Option Value) (h : Heap) (L : List Loc) : Prop := v = some (.int ((xn / (2 : Int32)) + (1 : Int32))) ∧ Fr n0 L ∧ h = h0
set_option maxRecDepth 65536 in
set_option maxHeartbeats 40000000 in
theorem rm_maj (l : Launch) (Z : State) (a0 : Array Value) (hw : ∀ d ∈ tables_1, d.before a0 Z = true) (ws : List Jvm.Cond) (ra : Addr) (xn : Int32) (h0 : Heap) (n0 : Nat) (Z0 : n0 ≤ h0.size) (F1 : Fld Z h0 ra "com/example/quorum_lease/quorumlease/core/Quorum" "nodes" "I" (.int xn)) :
    MetFree l (⟨"com/example/quorum_lease/quorumlease/core/Quorum", "majority", "()I"⟩ : MethodName) (head1 (Jvm.Cond.code (⟨"com/example/quorum_lease/quorumlease/core/Quorum", "majority", "()I"⟩ : MethodName) prog_4_method_2_code 1 (some .int) :: ws) ({ frames := 0, cells := 0, slots := 0, locals := 0 } : Room)) (fun a U => a = #[(.ref ra)] ∧ Z.Warmed39 U.vm ∧ U.heap = h0) (fun _ _ _ _ _ => True) (fun _ U o U' => ∃ v L, o = .returned v ∧ Q_rm_maj Z ra xn h0 n0 v U'.heap L ∧ FrameEnd U o U' L ({ frames := 0, cells := 0, slots := 0, locals := 0 } : Room).cells ({ frames := 0, cells := 0, slots := 0, locals := 0 } : Room).slots) := by
  refine MetFree.of_bodySF (plainFor_of_name pn0) hisR ?_
  intro p e s m args below meth c s₁ Bd hml0 hP hK
  obtain ⟨rfl, hZ, hh⟩ := hP
  have hx := Bd.exec
  have hby := Bd.bytes
  have hml : c.maxLocals = 1 := hml0
  have hown : s.vm.findClass "com/example/quorum_lease/quorumlease/core/Quorum" = some m.cls := findClass_of_methodNamed Bd.named
  have hnm := (name_of_methodNamed Bd.named Bd.method).1
  have X0 : Stand p l e ({ frames := 0, cells := 0, slots := 0, locals := 0 } : Room) s m #[(.ref ra)] below meth c s₁ [] 0 0 := Stand.of_body Bd
  have e0 : s₁.heap = h0 := by rw [← hh, Bd.state]; rfl
  have N0 := Fr.nil n0
  have pre0 : ∀ t, Steps p.tables e below (s₁.setTop (mkF m 0 #[.val (.ref ra)] [])) t → Steps p.tables e below (s₁.setTop (entryFrame m #[(.ref ra)] 1)) t := fun t k => castTop (ef_rm_maj m ra) k
  have pre1 : ∀ t, Steps p.tables e below (s₁.setTop (mkF m 1 #[.val (.ref ra)] [(.ref ra)])) t → Steps p.tables e below (s₁.setTop (entryFrame m #[(.ref ra)] 1)) t := by
    intro t k
    refine pre0 t ?_
    refine XS.aloadN X0.here hx rfl (hb hby d5_0) rfl rfl ?_
    show Steps p.tables e below (s₁.setTop (mkF m 1 #[.val (.ref ra)] [(.ref ra)])) _
    exact k
  obtain ⟨T2, X2, e2, st2⟩ := getF X0 hx hZ hown (host := "") (Or.inl (hw _ (List.mem_of_getElem? (i := 15) rfl))) Via.refl e0 F1 (g := (mkF m 1 #[.val (.ref ra)] [(.ref ra)])) rfl rfl (hb hby d5_1)
  have pre3 : ∀ t, Steps p.tables e below (T2.setTop (mkF m 4 #[.val (.ref ra)] [(.int xn)])) t → Steps p.tables e below (s₁.setTop (entryFrame m #[(.ref ra)] 1)) t := fun t k => pre1 t (st2 t k)
  have pre4 : ∀ t, Steps p.tables e below (T2.setTop (mkF m 8 #[.val (.ref ra)] [(.int ((xn / (2 : Int32)) + (1 : Int32)))])) t → Steps p.tables e below (s₁.setTop (entryFrame m #[(.ref ra)] 1)) t := by
    intro t k
    refine pre3 t ?_
    refine XS.iconst X2.here hx rfl (hb hby d5_4) ?_
    show Steps p.tables e below (T2.setTop (mkF m 5 #[.val (.ref ra)] [(.int (2 : Int32)), (.int xn)])) _
    refine XS.idiv X2.here hx rfl (hb hby d5_5) rfl (by decide) ?_
    show Steps p.tables e below (T2.setTop (mkF m 6 #[.val (.ref ra)] [(.int (xn / (2 : Int32)))])) _
    refine XS.iconst X2.here hx rfl (hb hby d5_6) ?_
    show Steps p.tables e below (T2.setTop (mkF m 7 #[.val (.ref ra)] [(.int (1 : Int32)), (.int (xn / (2 : Int32)))])) _
    refine XS.iadd X2.here hx rfl (hb hby d5_7) rfl ?_
    show Steps p.tables e below (T2.setTop (mkF m 8 #[.val (.ref ra)] [(.int ((xn / (2 : Int32)) + (1 : Int32)))])) _
    exact k
  obtain ⟨fs, hr, hrun, hended, hW, hsame⟩ := X2.leave (v := some (.int ((xn / (2 : Int32)) + (1 : Int32)))) (fun h => by rw [Bd.returns] at h; cases h)
  refine ⟨_, _, pre4 _ ?_, hrun, hended, _, _, rfl, ?_, ⟨_, rfl⟩, hW, hsame.mono (by decide) (by decide)⟩
  · exact retI X2 hx Bd.returns (hb hby d5_8) hr
  · show Q_rm_maj Z ra xn h0 n0 _ T2.heap _
    rw [e2]
    exact ⟨rfl, N0, rfl⟩
theorem d4_0 : decode prog_4_method_3_code 0 = .ok (.iload_n 1, 1) := by decide +kernel
theorem d4_1 : decode prog_4_method_3_code 1 = .ok (.aload_n 0, 1) := by decide +kernel
theorem d4_2 : decode prog_4_method_3_code 2 = .ok (.invokevirtual 22, 3) := by decide +kernel
theorem pd0 : parseMethodDescriptor "()I" = some ⟨[], some .int⟩ := by decide +kernel
theorem d4_5 : decode prog_4_method_3_code 5 = .ok (.if_icmp .ge 16, 3) := by decide +kernel
theorem d4_8 : decode prog_4_method_3_code 8 = .ok (.aload_n 0, 1) := by decide +kernel
theorem d4_9 : decode prog_4_method_3_code 9 = .ok (.getfield 16, 3) := by decide +kernel
theorem d4_12 : decode prog_4_method_3_code 12 = .ok (.iload_n 2, 1) := by decide +kernel
theorem d4_13 : decode prog_4_method_3_code 13 = .ok (.isub, 1) := by decide +kernel
theorem d4_14 : decode prog_4_method_3_code 14 = .ok (.aload_n 0, 1) := by decide +kernel
theorem d4_15 : decode prog_4_method_3_code 15 = .ok (.invokevirtual 22, 3) := by decide +kernel
theorem d4_18 : decode prog_4_method_3_code 18 = .ok (.if_icmp .ge 7, 3) := by decide +kernel
theorem d4_21 : decode prog_4_method_3_code 21 = .ok (.iconst 1, 1) := by decide +kernel
theorem d4_22 : decode prog_4_method_3_code 22 = .ok (.goto 4, 3) := by decide +kernel
theorem d4_26 : decode prog_4_method_3_code 26 = .ok (.ireturn, 1) := by decide +kernel
theorem d4_25 : decode prog_4_method_3_code 25 = .ok (.iconst 0, 1) := by decide +kernel
def F_rm_settled (xy : Int32) (xz : Int32) (xn : Int32) : Int32 := (if xy < ((xn / (2 : Int32)) + (1 : Int32)) then (if (xn - xz) < ((xn / (2 : Int32)) + (1 : Int32)) then (1 : Int32) else (0 : Int32)) else (1 : Int32))
theorem ef_rm_settled (m : MethodId) (ra : Addr) (xy : Int32) (xz : Int32) : entryFrame m #[(.ref ra), (.int xy), (.int xz)] 3 = mkF m 0 #[.val (.ref ra), .val (.int xy), .val (.int xz)] [] := by first | (simp [entryFrame, mkF, argsToLocals, Value.category]; done) | rfl
def Q_rm_settled (Z : State) (ra : Addr) (xy : Int32) (xz : Int32) (xn : Int32) (h0 : Heap) (n0 : Nat) (v : Option Value) (h : Heap) (L : List Loc) : Prop := v = some (.int (F_rm_settled xy xz xn)) ∧ Fr n0 L ∧ h = h0
set_option maxRecDepth 65536 in
set_option maxHeartbeats 40000000 in
theorem rm_settled (l : Launch) (Z : State) (a0 : Array Value) (hw : ∀ d ∈ tables_1, d.before a0 Z = true) (ws : List Jvm.Cond) (ra : Addr) (xy : Int32) (xz : Int32) (xn : Int32) (h0 : Heap) (n0 : Nat) (Z0 : n0 ≤ h0.size) (F1 : Fld Z h0 ra "com/example/quorum_lease/quorumlease/core/Quorum" "nodes" "I" (.int xn)) (E1 : Exa Z h0 ra "com/example/quorum_lease/quorumlease/core/Quorum") :
    MetFree l (⟨"com/example/quorum_lease/quorumlease/core/Quorum", "isSettled", "(II)Z"⟩ : MethodName) (head1 (Jvm.Cond.code (⟨"com/example/quorum_lease/quorumlease/core/Quorum", "isSettled", "(II)Z"⟩ : MethodName) prog_4_method_3_code 3 (some .boolean) :: ws) ({ frames := 1, cells := 0, slots := 0, locals := 13 } : Room)) (fun a U => a = #[(.ref ra), (.int xy), (.int xz)] ∧ Z.Warmed39 U.vm ∧ U.heap = h0) (fun _ _ _ _ _ => True) (fun _ U o U' => ∃ v L, o = .returned v ∧ Q_rm_settled Z ra xy xz xn h0 n0 v U'.heap L ∧ FrameEnd U o U' L ({ frames := 1, cells := 0, slots := 0, locals := 13 } : Room).cells ({ frames := 1, cells := 0, slots := 0, locals := 13 } : Room).slots) := by
  refine MetFree.of_bodySF (plainFor_of_name pn0) hisR ?_
  intro p e s m args below meth c s₁ Bd hml0 hP hK
  obtain ⟨rfl, hZ, hh⟩ := hP
  have hx := Bd.exec
  have hby := Bd.bytes
  have hml : c.maxLocals = 3 := hml0
  have hown : s.vm.findClass "com/example/quorum_lease/quorumlease/core/Quorum" = some m.cls := findClass_of_methodNamed Bd.named
  have hnm := (name_of_methodNamed Bd.named Bd.method).1
  have X0 : Stand p l e ({ frames := 1, cells := 0, slots := 0, locals := 13 } : Room) s m #[(.ref ra), (.int xy), (.int xz)] below meth c s₁ [] 0 0 := Stand.of_body Bd
  have e0 : s₁.heap = h0 := by rw [← hh, Bd.state]; rfl
  have N0 := Fr.nil n0
  have pre0 : ∀ t, Steps p.tables e below (s₁.setTop (mkF m 0 #[.val (.ref ra), .val (.int xy), .val (.int xz)] [])) t → Steps p.tables e below (s₁.setTop (entryFrame m #[(.ref ra), (.int xy), (.int xz)] 3)) t := fun t k => castTop (ef_rm_settled m ra xy xz) k
  have pre1 : ∀ t, Steps p.tables e below (s₁.setTop (mkF m 2 #[.val (.ref ra), .val (.int xy), .val (.int xz)] [(.ref ra), (.int xy)])) t → Steps p.tables e below (s₁.setTop (entryFrame m #[(.ref ra), (.int xy), (.int xz)] 3)) t := by
    intro t k
    refine pre0 t ?_
    refine XS.iloadN X0.here hx rfl (hb hby d4_0) rfl ?_
    show Steps p.tables e below (s₁.setTop (mkF m 1 #[.val (.ref ra), .val (.int xy), .val (.int xz)] [(.int xy)])) _
    refine XS.aloadN X0.here hx rfl (hb hby d4_1) rfl rfl ?_
    show Steps p.tables e below (s₁.setTop (mkF m 2 #[.val (.ref ra), .val (.int xy), .val (.int xz)] [(.ref ra), (.int xy)])) _
    exact k
  obtain ⟨cq2, kq2, q2a, q2b, q2c⟩ := isOf hZ e0 E1
  obtain ⟨_, _, ⟨T2, L2, k2, n2⟩, -, X2, ⟨Lc2, hQ2, l2, y2, z2⟩, st2⟩ := X0.virtualBack hx (y := (⟨"com/example/quorum_lease/quorumlease/core/Quorum", "majority", "()I"⟩ : MethodName)) (z := (⟨"com/example/quorum_lease/quorumlease/core/Quorum", "majority", "()I"⟩ : MethodName)) hown (mvT hZ (hw _ (List.mem_of_getElem? (i := 22) rfl))) (mvT hZ (hw _ (List.mem_of_getElem? (i := 23) rfl))) (notFace_of_selects (args := #[]) (mvT hZ (hw _ (List.mem_of_getElem? (i := 25) rfl)))) (mvT hZ (hw _ (List.mem_of_getElem? (i := 25) rfl))) (mvT hZ (hw _ (List.mem_of_getElem? (i := 24) rfl))) (by decide) (backOf (W := 1) (rm_maj l Z a0 hw [] ra xn h0 n0 Z0 F1) hZ (hw _ (List.mem_of_getElem? (i := 26) rfl)) (hw _ (List.mem_of_getElem? (i := 8) rfl)) (by decide) (by decide)) q2a q2c (g := (mkF m 2 #[.val (.ref ra), .val (.int xy), .val (.int xz)] [(.ref ra), (.int xy)])) rfl (by rw [hml]; rfl) (Steps.refl _) (argsL := []) (rest := [(.int xy)]) (lenOf pd0 rfl) rfl (by show 2 * 0 + _ ≤ _; exact Nat.le_of_eq rfl) (hb hby d4_2) (fun _ _ => ⟨rfl, e0, (by decide : 0 + 0 ≤ _), (by decide : 0 + 0 ≤ _)⟩)
  dsimp only [Pt.U, Pt.locs, Pt.cells, Pt.slots] at X2 l2 y2 z2 st2 hQ2
  subst l2 y2 z2
  obtain ⟨rfl, M2, e2⟩ := hQ2
  have N2 := Fr.app N0 M2
  have pre3 : ∀ t, Steps p.tables e below (T2.setTop (mkF m 5 #[.val (.ref ra), .val (.int xy), .val (.int xz)] [(.int ((xn / (2 : Int32)) + (1 : Int32))), (.int xy)])) t → Steps p.tables e below (s₁.setTop (entryFrame m #[(.ref ra), (.int xy), (.int xz)] 3)) t := fun t k => pre1 t (st2.trans k)
  by_cases hc5 : xy < ((xn / (2 : Int32)) + (1 : Int32))
  · have pre4 : ∀ t, Steps p.tables e below (T2.setTop (mkF m 9 #[.val (.ref ra), .val (.int xy), .val (.int xz)] [(.ref ra)])) t → Steps p.tables e below (s₁.setTop (entryFrame m #[(.ref ra), (.int xy), (.int xz)] 3)) t := by
      intro t k
      refine pre3 t ?_
      refine XS.icmpNo X2.here hx rfl (hb hby d4_5) rfl (tlt hc5).2.1 ?_
      show Steps p.tables e below (T2.setTop (mkF m 8 #[.val (.ref ra), .val (.int xy), .val (.int xz)] [])) _
      refine XS.aloadN X2.here hx rfl (hb hby d4_8) rfl rfl ?_
      show Steps p.tables e below (T2.setTop (mkF m 9 #[.val (.ref ra), .val (.int xy), .val (.int xz)] [(.ref ra)])) _
      exact k
    obtain ⟨T5, X5, e5, st5⟩ := getF X2 hx hZ hown (host := "") (Or.inl (hw _ (List.mem_of_getElem? (i := 15) rfl))) Via.refl e2 F1 (g := (mkF m 9 #[.val (.ref ra), .val (.int xy), .val (.int xz)] [(.ref ra)])) rfl rfl (hb hby d4_9)
    have pre6 : ∀ t, Steps p.tables e below (T5.setTop (mkF m 12 #[.val (.ref ra), .val (.int xy), .val (.int xz)] [(.int xn)])) t → Steps p.tables e below (s₁.setTop (entryFrame m #[(.ref ra), (.int xy), (.int xz)] 3)) t := fun t k => pre4 t (st5 t k)
    have pre7 : ∀ t, Steps p.tables e below (T5.setTop (mkF m 15 #[.val (.ref ra), .val (.int xy), .val (.int xz)] [(.ref ra), (.int (xn - xz))])) t → Steps p.tables e below (s₁.setTop (entryFrame m #[(.ref ra), (.int xy), (.int xz)] 3)) t := by
      intro t k
      refine pre6 t ?_
      refine XS.iloadN X5.here hx rfl (hb hby d4_12) rfl ?_
      show Steps p.tables e below (T5.setTop (mkF m 13 #[.val (.ref ra), .val (.int xy), .val (.int xz)] [(.int xz), (.int xn)])) _
      refine XS.isub X5.here hx rfl (hb hby d4_13) rfl ?_
      show Steps p.tables e below (T5.setTop (mkF m 14 #[.val (.ref ra), .val (.int xy), .val (.int xz)] [(.int (xn - xz))])) _
      refine XS.aloadN X5.here hx rfl (hb hby d4_14) rfl rfl ?_
      show Steps p.tables e below (T5.setTop (mkF m 15 #[.val (.ref ra), .val (.int xy), .val (.int xz)] [(.ref ra), (.int (xn - xz))])) _
      exact k
    obtain ⟨cq8, kq8, q8a, q8b, q8c⟩ := isOf hZ e5 E1
    obtain ⟨_, _, ⟨T8, L8, k8, n8⟩, -, X8, ⟨Lc8, hQ8, l8, y8, z8⟩, st8⟩ := X5.virtualBack hx (y := (⟨"com/example/quorum_lease/quorumlease/core/Quorum", "majority", "()I"⟩ : MethodName)) (z := (⟨"com/example/quorum_lease/quorumlease/core/Quorum", "majority", "()I"⟩ : MethodName)) hown (mvT hZ (hw _ (List.mem_of_getElem? (i := 22) rfl))) (mvT hZ (hw _ (List.mem_of_getElem? (i := 23) rfl))) (notFace_of_selects (args := #[]) (mvT hZ (hw _ (List.mem_of_getElem? (i := 25) rfl)))) (mvT hZ (hw _ (List.mem_of_getElem? (i := 25) rfl))) (mvT hZ (hw _ (List.mem_of_getElem? (i := 24) rfl))) (by decide) (backOf (W := 1) (rm_maj l Z a0 hw [] ra xn h0 n0 Z0 F1) hZ (hw _ (List.mem_of_getElem? (i := 26) rfl)) (hw _ (List.mem_of_getElem? (i := 8) rfl)) (by decide) (by decide)) q8a q8c (g := (mkF m 15 #[.val (.ref ra), .val (.int xy), .val (.int xz)] [(.ref ra), (.int (xn - xz))])) rfl (by rw [hml]; rfl) (Steps.refl _) (argsL := []) (rest := [(.int (xn - xz))]) (lenOf pd0 rfl) rfl (by show 2 * 0 + _ ≤ _; exact Nat.le_of_eq rfl) (hb hby d4_15) (fun _ _ => ⟨rfl, e5, (by decide : 0 + 0 ≤ _), (by decide : 0 + 0 ≤ _)⟩)
    dsimp only [Pt.U, Pt.locs, Pt.cells, Pt.slots] at X8 l8 y8 z8 st8 hQ8
    subst l8 y8 z8
    obtain ⟨rfl, M8, e8⟩ := hQ8
    have N8 := Fr.app N2 M8
    have pre9 : ∀ t, Steps p.tables e below (T8.setTop (mkF m 18 #[.val (.ref ra), .val (.int xy), .val (.int xz)] [(.int ((xn / (2 : Int32)) + (1 : Int32))), (.int (xn - xz))])) t → Steps p.tables e below (s₁.setTop (entryFrame m #[(.ref ra), (.int xy), (.int xz)] 3)) t := fun t k => pre7 t (st8.trans k)
    by_cases hc18 : (xn - xz) < ((xn / (2 : Int32)) + (1 : Int32))
    · have pre10 : ∀ t, Steps p.tables e below (T8.setTop (mkF m 26 #[.val (.ref ra), .val (.int xy), .val (.int xz)] [(.int (1 : Int32))])) t → Steps p.tables e below (s₁.setTop (entryFrame m #[(.ref ra), (.int xy), (.int xz)] 3)) t := by
        intro t k
        refine pre9 t ?_
        refine XS.icmpNo X8.here hx rfl (hb hby d4_18) rfl (tlt hc18).2.1 ?_
        show Steps p.tables e below (T8.setTop (mkF m 21 #[.val (.ref ra), .val (.int xy), .val (.int xz)] [])) _
        refine XS.iconst X8.here hx rfl (hb hby d4_21) ?_
        show Steps p.tables e below (T8.setTop (mkF m 22 #[.val (.ref ra), .val (.int xy), .val (.int xz)] [(.int (1 : Int32))])) _
        refine XS.goto X8.here hx rfl (pc0 := 22) (pc' := 26) rfl (hb hby d4_22) (by decide) (by decide) ?_
        show Steps p.tables e below (T8.setTop (mkF m 26 #[.val (.ref ra), .val (.int xy), .val (.int xz)] [(.int (1 : Int32))])) _
        exact k
      obtain ⟨fs, hr, hrun, hended, hW, hsame⟩ := X8.leave (v := some (.int (1 : Int32))) (fun h => by rw [Bd.returns] at h; cases h)
      refine ⟨_, _, pre10 _ ?_, hrun, hended, _, _, rfl, ?_, ⟨_, rfl⟩, hW, hsame.mono (by decide) (by decide)⟩
      · exact retN X8 hx (t := .boolean) Bd.returns (by simp) (hb hby d4_26) hr
      · show Q_rm_settled Z ra xy xz xn h0 n0 _ T8.heap _
        rw [e8]
        exact ⟨congrArg (fun z => some (Value.int z)) (show (1 : Int32) = (F_rm_settled xy xz xn) from by rw [F_rm_settled, if_pos hc5, if_pos hc18]), N8, rfl⟩
    · have pre11 : ∀ t, Steps p.tables e below (T8.setTop (mkF m 26 #[.val (.ref ra), .val (.int xy), .val (.int xz)] [(.int (0 : Int32))])) t → Steps p.tables e below (s₁.setTop (entryFrame m #[(.ref ra), (.int xy), (.int xz)] 3)) t := by
        intro t k
        refine pre9 t ?_
        refine XS.icmpYes X8.here hx rfl (pc0 := 18) (pc' := 25) rfl (hb hby d4_18) rfl (flt hc18).2.1 (by decide) (by decide) ?_
        show Steps p.tables e below (T8.setTop (mkF m 25 #[.val (.ref ra), .val (.int xy), .val (.int xz)] [])) _
        refine XS.iconst X8.here hx rfl (hb hby d4_25) ?_
        show Steps p.tables e below (T8.setTop (mkF m 26 #[.val (.ref ra), .val (.int xy), .val (.int xz)] [(.int (0 : Int32))])) _
        exact k
      obtain ⟨fs, hr, hrun, hended, hW, hsame⟩ := X8.leave (v := some (.int (0 : Int32))) (fun h => by rw [Bd.returns] at h; cases h)
      refine ⟨_, _, pre11 _ ?_, hrun, hended, _, _, rfl, ?_, ⟨_, rfl⟩, hW, hsame.mono (by decide) (by decide)⟩
      · exact retN X8 hx (t := .boolean) Bd.returns (by simp) (hb hby d4_26) hr
      · show Q_rm_settled Z ra xy xz xn h0 n0 _ T8.heap _
        rw [e8]
        exact ⟨congrArg (fun z => some (Value.int z)) (show (0 : Int32) = (F_rm_settled xy xz xn) from by rw [F_rm_settled, if_pos hc5, if_neg hc18]), N8, rfl⟩
  · have pre12 : ∀ t, Steps p.tables e below (T2.setTop (mkF m 26 #[.val (.ref ra), .val (.int xy), .val (.int xz)] [(.int (1 : Int32))])) t → Steps p.tables e below (s₁.setTop (entryFrame m #[(.ref ra), (.int xy), (.int xz)] 3)) t := by
      intro t k
      refine pre3 t ?_
      refine XS.icmpYes X2.here hx rfl (pc0 := 5) (pc' := 21) rfl (hb hby d4_5) rfl (flt hc5).2.1 (by decide) (by decide) ?_
      show Steps p.tables e below (T2.setTop (mkF m 21 #[.val (.ref ra), .val (.int xy), .val (.int xz)] [])) _
      refine XS.iconst X2.here hx rfl (hb hby d4_21) ?_
      show Steps p.tables e below (T2.setTop (mkF m 22 #[.val (.ref ra), .val (.int xy), .val (.int xz)] [(.int (1 : Int32))])) _
      refine XS.goto X2.here hx rfl (pc0 := 22) (pc' := 26) rfl (hb hby d4_22) (by decide) (by decide) ?_
      show Steps p.tables e below (T2.setTop (mkF m 26 #[.val (.ref ra), .val (.int xy), .val (.int xz)] [(.int (1 : Int32))])) _
      exact k
    obtain ⟨fs, hr, hrun, hended, hW, hsame⟩ := X2.leave (v := some (.int (1 : Int32))) (fun h => by rw [Bd.returns] at h; cases h)
    refine ⟨_, _, pre12 _ ?_, hrun, hended, _, _, rfl, ?_, ⟨_, rfl⟩, hW, hsame.mono (by decide) (by decide)⟩
    · exact retN X2 hx (t := .boolean) Bd.returns (by simp) (hb hby d4_26) hr
    · show Q_rm_settled Z ra xy xz xn h0 n0 _ T2.heap _
      rw [e2]
      exact ⟨congrArg (fun z => some (Value.int z)) (show (1 : Int32) = (F_rm_settled xy xz xn) from by rw [F_rm_settled, if_neg hc5]), N2, rfl⟩
theorem own_nn0 (xn nn : Int32) (h : nn = (F_rm_max (1 : Int32) (xn &&& (2147483647 : Int32)))) : 1 ≤ nn.toInt := by
  have e0 : (xn &&& (2147483647 : Int32)).toInt = xn.toInt % 2147483648 := c_mask xn (2147483647 : Int32) 31 (by decide) (by decide +kernel)
  have : (1 : Int32).toInt = 1 := rfl
  rw [h, F_rm_max]
  simp only [Int32.lt_iff_toInt_lt]
  split <;> omega
theorem own_nn (xn nn : Int32) (h : nn = (F_rm_max (1 : Int32) (xn &&& (2147483647 : Int32)))) : ¬ (nn < (1 : Int32)) := by
  have := own_nn0 xn nn h
  have : (1 : Int32).toInt = 1 := rfl
  rw [Int32.lt_iff_toInt_lt]
  omega
theorem own_rem (xa : Int32) (d : Int64) (D : Int) (hd : d.toInt = D) (h0 : 0 < D) (h1 : D ≤ 2147483648) : 0 ≤ ((((xa.toInt64) &&& (2147483647 : Int64)) - (((xa.toInt64) &&& (2147483647 : Int64)) / d) * d).toInt32).toInt ∧ ((((xa.toInt64) &&& (2147483647 : Int64)) - (((xa.toInt64) &&& (2147483647 : Int64)) / d) * d).toInt32).toInt < D := by
  rw [lrem_mod]
  generalize hz : ((xa.toInt64) &&& (2147483647 : Int64)) = z
  have z0 : 0 ≤ z.toInt := by
    rw [← hz, c_maskL _ (2147483647 : Int64) 31 (by decide) (by decide +kernel)]
    omega
  have m1 : (z % d).toInt = z.toInt % D := by rw [Int64.toInt_mod, Int.tmod_eq_emod_of_nonneg z0, hd]
  have m2 := Int.emod_nonneg z.toInt (show D ≠ 0 by omega)
  have m3 := Int.emod_lt_of_pos z.toInt h0
  have m4 := c_l2i (z % d)
  have m5 := rng32 (z % d).toInt32
  omega
theorem own_d1 (nn : Int32) (h : 1 ≤ nn.toInt) : ((nn.toInt64) + (1 : Int64)).toInt = nn.toInt + 1 ∧ ¬ (((nn.toInt64) + (1 : Int64)) = (0 : Int64)) := by
  have := rng32 nn
  have := c_i2l nn
  have := rng64 (nn.toInt64)
  have : (1 : Int64).toInt = 1 := rfl
  have := c_ladd nn.toInt64 (1 : Int64)
  have := rng64 (nn.toInt64 + (1 : Int64))
  have : (0 : Int64).toInt = 0 := rfl
  rw [← Int64.toInt_inj]
  omega
theorem own_d2 (nn yy : Int32) (h : 1 ≤ nn.toInt) (hy : 0 ≤ yy.toInt ∧ yy.toInt ≤ nn.toInt) : (((nn.toInt64) - (yy.toInt64)) + (1 : Int64)).toInt = nn.toInt - yy.toInt + 1 ∧ ¬ ((((nn.toInt64) - (yy.toInt64)) + (1 : Int64)) = (0 : Int64)) := by
  have := rng32 nn
  have := c_i2l nn
  have := rng64 (nn.toInt64)
  have := rng32 yy
  have := c_i2l yy
  have := rng64 (yy.toInt64)
  have := c_lsub nn.toInt64 yy.toInt64
  have := rng64 (nn.toInt64 - yy.toInt64)
  have : (1 : Int64).toInt = 1 := rfl
  have := c_ladd (nn.toInt64 - yy.toInt64) (1 : Int64)
  have := rng64 ((nn.toInt64 - yy.toInt64) + (1 : Int64))
  have : (0 : Int64).toInt = 0 := rfl
  rw [← Int64.toInt_inj]
  omega
theorem own_yy (xy nn yy : Int32) (h : 1 ≤ nn.toInt) (hy : yy = ((((xy.toInt64) &&& (2147483647 : Int64)) - (((xy.toInt64) &&& (2147483647 : Int64)) / ((nn.toInt64) + (1 : Int64))) * ((nn.toInt64) + (1 : Int64))).toInt32)) : 0 ≤ yy.toInt ∧ yy.toInt ≤ nn.toInt := by
  have r := rng32 nn
  have k := own_rem xy _ _ (own_d1 nn h).1 (by omega) (by omega)
  rw [← hy] at k
  omega
theorem own_zz (xz nn yy zz : Int32) (h : 1 ≤ nn.toInt) (hy : 0 ≤ yy.toInt ∧ yy.toInt ≤ nn.toInt) (hz : zz = ((((xz.toInt64) &&& (2147483647 : Int64)) - (((xz.toInt64) &&& (2147483647 : Int64)) / (((nn.toInt64) - (yy.toInt64)) + (1 : Int64))) * (((nn.toInt64) - (yy.toInt64)) + (1 : Int64))).toInt32)) : 0 ≤ zz.toInt ∧ zz.toInt ≤ nn.toInt - yy.toInt := by
  have r := rng32 nn
  have k := own_rem xz _ _ (own_d2 nn yy h hy).1 (by omega) (by omega)
  rw [← hz] at k
  omega
theorem own_law (nn yy zz u w r : Int32) (h : 1 ≤ nn.toInt) (hy : 0 ≤ yy.toInt ∧ yy.toInt ≤ nn.toInt) (hz : 0 ≤ zz.toInt ∧ zz.toInt ≤ nn.toInt - yy.toInt)
    (hu : u = (if (nn.toInt64) < ((2 : Int64) * (yy.toInt64)) then (1 : Int32) else (0 : Int32))) (hw : w = (if (nn.toInt64) < ((2 : Int64) * ((nn.toInt64) - (zz.toInt64))) then (0 : Int32) else (1 : Int32))) (hr : r = (if u = (0 : Int32) then (if w = (0 : Int32) then (0 : Int32) else (1 : Int32)) else (1 : Int32))) : F_rm_settled yy zz nn = r := by
  have : (2 : Int64).toInt = 2 := rfl
  have := rng32 yy
  have := c_i2l yy
  have := rng64 (yy.toInt64)
  have : (((2 : Int64) * yy.toInt64).toInt - (2 * yy.toInt64.toInt)) % 18446744073709551616 = 0 := c_lmul (2 : Int64) yy.toInt64
  have := rng64 ((2 : Int64) * yy.toInt64)
  have := rng32 nn
  have := c_i2l nn
  have := rng64 (nn.toInt64)
  have := rng32 zz
  have := c_i2l zz
  have := rng64 (zz.toInt64)
  have := c_lsub nn.toInt64 zz.toInt64
  have := rng64 (nn.toInt64 - zz.toInt64)
  have : (((2 : Int64) * (nn.toInt64 - zz.toInt64)).toInt - (2 * (nn.toInt64 - zz.toInt64).toInt)) % 18446744073709551616 = 0 := c_lmul (2 : Int64) (nn.toInt64 - zz.toInt64)
  have := rng64 ((2 : Int64) * (nn.toInt64 - zz.toInt64))
  have : (2 : Int32).toInt = 2 := rfl
  have := c_idiv nn (2 : Int32) 2 rfl (by decide)
  have := rng32 (nn / (2 : Int32))
  have : (1 : Int32).toInt = 1 := rfl
  have := c_iadd (nn / (2 : Int32)) (1 : Int32)
  have := rng32 ((nn / (2 : Int32)) + (1 : Int32))
  have := c_isub nn zz
  have := rng32 (nn - zz)
  have eu : u = (0 : Int32) ↔ ¬ ((nn.toInt64) < ((2 : Int64) * (yy.toInt64))) := by
    rw [hu]
    split <;> simp_all
  have ew : w = (0 : Int32) ↔ ((nn.toInt64) < ((2 : Int64) * ((nn.toInt64) - (zz.toInt64)))) := by
    rw [hw]
    split <;> simp_all
  rw [hr, F_rm_settled]
  simp only [eu, ew, Int32.lt_iff_toInt_lt, Int64.lt_iff_toInt_lt]
  repeat' split
  all_goals first | rfl | (exfalso; omega)
theorem pd1 : parseMethodDescriptor "(II)I" = some ⟨[.int, .int], some .int⟩ := by decide +kernel
theorem pd2 : parseMethodDescriptor "(I)V" = some ⟨[.int], none⟩ := by decide +kernel
theorem pd3 : parseMethodDescriptor "(II)Z" = some ⟨[.int, .int], some .boolean⟩ := by decide +kernel
theorem pn1 : plainName "com/example/quorum_lease/quorumlease/core/QuorumIsSettledPinLaw" = true := by first | (simp [plainName, overriddenIn]; done) | decide +kernel
theorem ef_rm0 (m : MethodId) (xn : Int32) (xy : Int32) (xz : Int32) : entryFrame m #[(.int xn), (.int xy), (.int xz)] maxLocals = mkF m 0 #[.val (.int xn), .val (.int xy), .val (.int xz), .unset, .unset, .unset, .unset, .unset, .unset, .unset, .unset] [] := by first | (simp [entryFrame, mkF, argsToLocals, Value.category, maxLocals]; done) | rfl
def Q_rm0 (Z : State) (xn : Int32) (xy : Int32) (xz : Int32) (h0 : Heap) (n0 : Nat) (v : Option Value) (h : Heap) (L : List Loc) : Prop := v = some (.int (1 : Int32)) ∧ Fr n0 L
set_option maxRecDepth 65536 in
set_option maxHeartbeats 40000000 in
theorem rm0 (l : Launch) (Z : State) (a0 : Array Value) (hw : ∀ d ∈ tables_1, d.before a0 Z = true) (ws : List Jvm.Cond) (xn : Int32) (xy : Int32) (xz : Int32) (h0 : Heap) (n0 : Nat) (Z0 : n0 ≤ h0.size) :
    MetFree l x (head1 (Jvm.Cond.code x code maxLocals ret :: ws) room_1) (fun a U => a = #[(.int xn), (.int xy), (.int xz)] ∧ Z.Warmed39 U.vm ∧ U.heap = h0) (fun _ _ _ _ _ => True) (fun _ U o U' => ∃ v L, o = .returned v ∧ Q_rm0 Z xn xy xz h0 n0 v U'.heap L ∧ FrameEnd U o U' L room_1.cells room_1.slots) := by
  refine MetFree.of_bodySF (plainFor_of_name pn1) hisR ?_
  intro p e s m args below meth c s₁ Bd hml0 hP hK
  obtain ⟨rfl, hZ, hh⟩ := hP
  have hx := Bd.exec
  have hby := Bd.bytes
  have hml : c.maxLocals = 11 := hml0
  have hown : s.vm.findClass "com/example/quorum_lease/quorumlease/core/QuorumIsSettledPinLaw" = some m.cls := findClass_of_methodNamed Bd.named
  have hnm := (name_of_methodNamed Bd.named Bd.method).1
  have X0 : Stand p l e room_1 s m #[(.int xn), (.int xy), (.int xz)] below meth c s₁ [] 0 0 := Stand.of_body Bd
  have e0 : s₁.heap = h0 := by rw [← hh, Bd.state]; rfl
  have N0 := Fr.nil n0
  have pre0 : ∀ t, Steps p.tables e below (s₁.setTop (mkF m 0 #[.val (.int xn), .val (.int xy), .val (.int xz), .unset, .unset, .unset, .unset, .unset, .unset, .unset, .unset] [])) t → Steps p.tables e below (s₁.setTop (entryFrame m #[(.int xn), (.int xy), (.int xz)] maxLocals)) t := fun t k => castTop (ef_rm0 m xn xy xz) k
  have pre1 : ∀ t, Steps p.tables e below (s₁.setTop (mkF m 5 #[.val (.int xn), .val (.int xy), .val (.int xz), .unset, .unset, .unset, .unset, .unset, .unset, .unset, .unset] [(.int (xn &&& (2147483647 : Int32))), (.int (1 : Int32))])) t → Steps p.tables e below (s₁.setTop (entryFrame m #[(.int xn), (.int xy), (.int xz)] maxLocals)) t := by
    intro t k
    refine pre0 t ?_
    refine XS.iconst X0.here hx rfl (hb hby at_0) ?_
    show Steps p.tables e below (s₁.setTop (mkF m 1 #[.val (.int xn), .val (.int xy), .val (.int xz), .unset, .unset, .unset, .unset, .unset, .unset, .unset, .unset] [(.int (1 : Int32))])) _
    refine XS.iloadN X0.here hx rfl (hb hby at_1) rfl ?_
    show Steps p.tables e below (s₁.setTop (mkF m 2 #[.val (.int xn), .val (.int xy), .val (.int xz), .unset, .unset, .unset, .unset, .unset, .unset, .unset, .unset] [(.int xn), (.int (1 : Int32))])) _
    refine X0.ldcInt hx hown (mvT hZ (hw _ (List.mem_of_getElem? (i := 0) rfl))) (g := (mkF m 2 #[.val (.int xn), .val (.int xy), .val (.int xz), .unset, .unset, .unset, .unset, .unset, .unset, .unset, .unset] [(.int xn), (.int (1 : Int32))])) rfl (hb hby at_2) _ ?_
    show Steps p.tables e below (s₁.setTop (mkF m 4 #[.val (.int xn), .val (.int xy), .val (.int xz), .unset, .unset, .unset, .unset, .unset, .unset, .unset, .unset] [(.int (2147483647 : Int32)), (.int xn), (.int (1 : Int32))])) _
    refine XS.iand X0.here hx rfl (hb hby at_4) rfl ?_
    show Steps p.tables e below (s₁.setTop (mkF m 5 #[.val (.int xn), .val (.int xy), .val (.int xz), .unset, .unset, .unset, .unset, .unset, .unset, .unset, .unset] [(.int (xn &&& (2147483647 : Int32))), (.int (1 : Int32))])) _
    exact k
  obtain ⟨_, _, ⟨T2, L2, k2, n2⟩, -, X2, ⟨Lc2, hQ2, l2, y2, z2⟩, st2⟩ := Jvm.LawKit.callS X0 hx (y := (⟨"java/lang/Math", "max", "(II)I"⟩ : MethodName)) hown (mvT hZ (hw _ (List.mem_of_getElem? (i := 1) rfl))) (mvT hZ (hw _ (List.mem_of_getElem? (i := 2) rfl))) (mvT hZ (hw _ (List.mem_of_getElem? (i := 3) rfl))) (mvT hZ (hw _ (List.mem_of_getElem? (i := 4) rfl))) (by decide) (backOf (W := 0) (rm_max l Z a0 hw [] (1 : Int32) (xn &&& (2147483647 : Int32)) h0 n0 Z0 ) hZ (hw _ (List.mem_of_getElem? (i := 4) rfl)) (hw _ (List.mem_of_getElem? (i := 3) rfl)) (by decide) (by decide)) (g := (mkF m 5 #[.val (.int xn), .val (.int xy), .val (.int xz), .unset, .unset, .unset, .unset, .unset, .unset, .unset, .unset] [(.int (xn &&& (2147483647 : Int32))), (.int (1 : Int32))])) rfl (by rw [hml]; rfl) (argsL := [(.int (1 : Int32)), (.int (xn &&& (2147483647 : Int32)))]) (rest := []) (lenOf pd1 rfl) rfl (by show 2 * 0 + _ ≤ _; exact Nat.le_of_eq rfl) (hb hby at_5) (fun _ _ => ⟨rfl, e0, (by decide : 0 + 0 ≤ _), (by decide : 0 + 0 ≤ _)⟩)
  dsimp only [Pt.U, Pt.locs, Pt.cells, Pt.slots] at X2 l2 y2 z2 st2 hQ2
  subst l2 y2 z2
  obtain ⟨rfl, M2, e2⟩ := hQ2
  have N2 := Fr.app N0 M2
  have pre3 : ∀ t, Steps p.tables e below (T2.setTop (mkF m 8 #[.val (.int xn), .val (.int xy), .val (.int xz), .unset, .unset, .unset, .unset, .unset, .unset, .unset, .unset] [(.int (F_rm_max (1 : Int32) (xn &&& (2147483647 : Int32))))])) t → Steps p.tables e below (s₁.setTop (entryFrame m #[(.int xn), (.int xy), (.int xz)] maxLocals)) t := fun t k => pre1 t (st2 t k)
  have pre4 : ∀ t, Steps p.tables e below (T2.setTop (mkF m 9 #[.val (.int xn), .val (.int xy), .val (.int xz), .val (.int (F_rm_max (1 : Int32) (xn &&& (2147483647 : Int32)))), .unset, .unset, .unset, .unset, .unset, .unset, .unset] [])) t → Steps p.tables e below (s₁.setTop (entryFrame m #[(.int xn), (.int xy), (.int xz)] maxLocals)) t := by
    intro t k
    refine pre3 t ?_
    refine XS.istoreN X2.here hx rfl (hb hby at_8) rfl (l' := #[.val (.int xn), .val (.int xy), .val (.int xz), .val (.int (F_rm_max (1 : Int32) (xn &&& (2147483647 : Int32)))), .unset, .unset, .unset, .unset, .unset, .unset, .unset]) rfl ?_
    show Steps p.tables e below (T2.setTop (mkF m 9 #[.val (.int xn), .val (.int xy), .val (.int xz), .val (.int (F_rm_max (1 : Int32) (xn &&& (2147483647 : Int32)))), .unset, .unset, .unset, .unset, .unset, .unset, .unset] [])) _
    exact k
  obtain ⟨nn, hnn⟩ : ∃ z : Int32, z = (F_rm_max (1 : Int32) (xn &&& (2147483647 : Int32))) := ⟨_, rfl⟩
  rw [← hnn] at pre4
  have pre5 : ∀ t, Steps p.tables e below (T2.setTop (mkF m 23 #[.val (.int xn), .val (.int xy), .val (.int xz), .val (.int nn), .val (.int ((((xy.toInt64) &&& (2147483647 : Int64)) - (((xy.toInt64) &&& (2147483647 : Int64)) / ((nn.toInt64) + (1 : Int64))) * ((nn.toInt64) + (1 : Int64))).toInt32)), .unset, .unset, .unset, .unset, .unset, .unset] [])) t → Steps p.tables e below (s₁.setTop (entryFrame m #[(.int xn), (.int xy), (.int xz)] maxLocals)) t := by
    intro t k
    refine pre4 t ?_
    refine XS.iloadN X2.here hx rfl (hb hby at_9) rfl ?_
    show Steps p.tables e below (T2.setTop (mkF m 10 #[.val (.int xn), .val (.int xy), .val (.int xz), .val (.int nn), .unset, .unset, .unset, .unset, .unset, .unset, .unset] [(.int xy)])) _
    refine XS.i2l X2.here hx rfl (hb hby at_10) rfl ?_
    show Steps p.tables e below (T2.setTop (mkF m 11 #[.val (.int xn), .val (.int xy), .val (.int xz), .val (.int nn), .unset, .unset, .unset, .unset, .unset, .unset, .unset] [(.long (xy.toInt64))])) _
    refine X2.ldc2Long hx hown (mvT hZ (hw _ (List.mem_of_getElem? (i := 5) rfl))) (g := (mkF m 11 #[.val (.int xn), .val (.int xy), .val (.int xz), .val (.int nn), .unset, .unset, .unset, .unset, .unset, .unset, .unset] [(.long (xy.toInt64))])) rfl (hb hby at_11) _ ?_
    show Steps p.tables e below (T2.setTop (mkF m 14 #[.val (.int xn), .val (.int xy), .val (.int xz), .val (.int nn), .unset, .unset, .unset, .unset, .unset, .unset, .unset] [(.long (2147483647 : Int64)), (.long (xy.toInt64))])) _
    refine XS.land X2.here hx rfl (hb hby at_14) rfl ?_
    show Steps p.tables e below (T2.setTop (mkF m 15 #[.val (.int xn), .val (.int xy), .val (.int xz), .val (.int nn), .unset, .unset, .unset, .unset, .unset, .unset, .unset] [(.long ((xy.toInt64) &&& (2147483647 : Int64)))])) _
    refine XS.iloadN X2.here hx rfl (hb hby at_15) rfl ?_
    show Steps p.tables e below (T2.setTop (mkF m 16 #[.val (.int xn), .val (.int xy), .val (.int xz), .val (.int nn), .unset, .unset, .unset, .unset, .unset, .unset, .unset] [(.int nn), (.long ((xy.toInt64) &&& (2147483647 : Int64)))])) _
    refine XS.i2l X2.here hx rfl (hb hby at_16) rfl ?_
    show Steps p.tables e below (T2.setTop (mkF m 17 #[.val (.int xn), .val (.int xy), .val (.int xz), .val (.int nn), .unset, .unset, .unset, .unset, .unset, .unset, .unset] [(.long (nn.toInt64)), (.long ((xy.toInt64) &&& (2147483647 : Int64)))])) _
    refine XS.lconst X2.here hx rfl (hb hby at_17) ?_
    show Steps p.tables e below (T2.setTop (mkF m 18 #[.val (.int xn), .val (.int xy), .val (.int xz), .val (.int nn), .unset, .unset, .unset, .unset, .unset, .unset, .unset] [(.long (1 : Int64)), (.long (nn.toInt64)), (.long ((xy.toInt64) &&& (2147483647 : Int64)))])) _
    refine XS.ladd X2.here hx rfl (hb hby at_18) rfl ?_
    show Steps p.tables e below (T2.setTop (mkF m 19 #[.val (.int xn), .val (.int xy), .val (.int xz), .val (.int nn), .unset, .unset, .unset, .unset, .unset, .unset, .unset] [(.long ((nn.toInt64) + (1 : Int64))), (.long ((xy.toInt64) &&& (2147483647 : Int64)))])) _
    refine XS.lrem X2.here hx rfl (hb hby at_19) rfl (own_d1 nn (own_nn0 xn nn hnn)).2 ?_
    show Steps p.tables e below (T2.setTop (mkF m 20 #[.val (.int xn), .val (.int xy), .val (.int xz), .val (.int nn), .unset, .unset, .unset, .unset, .unset, .unset, .unset] [(.long (((xy.toInt64) &&& (2147483647 : Int64)) - (((xy.toInt64) &&& (2147483647 : Int64)) / ((nn.toInt64) + (1 : Int64))) * ((nn.toInt64) + (1 : Int64))))])) _
    refine XS.l2i X2.here hx rfl (hb hby at_20) rfl ?_
    show Steps p.tables e below (T2.setTop (mkF m 21 #[.val (.int xn), .val (.int xy), .val (.int xz), .val (.int nn), .unset, .unset, .unset, .unset, .unset, .unset, .unset] [(.int ((((xy.toInt64) &&& (2147483647 : Int64)) - (((xy.toInt64) &&& (2147483647 : Int64)) / ((nn.toInt64) + (1 : Int64))) * ((nn.toInt64) + (1 : Int64))).toInt32))])) _
    refine XS.istore X2.here hx rfl (hb hby at_21) rfl (l' := #[.val (.int xn), .val (.int xy), .val (.int xz), .val (.int nn), .val (.int ((((xy.toInt64) &&& (2147483647 : Int64)) - (((xy.toInt64) &&& (2147483647 : Int64)) / ((nn.toInt64) + (1 : Int64))) * ((nn.toInt64) + (1 : Int64))).toInt32)), .unset, .unset, .unset, .unset, .unset, .unset]) rfl ?_
    show Steps p.tables e below (T2.setTop (mkF m 23 #[.val (.int xn), .val (.int xy), .val (.int xz), .val (.int nn), .val (.int ((((xy.toInt64) &&& (2147483647 : Int64)) - (((xy.toInt64) &&& (2147483647 : Int64)) / ((nn.toInt64) + (1 : Int64))) * ((nn.toInt64) + (1 : Int64))).toInt32)), .unset, .unset, .unset, .unset, .unset, .unset] [])) _
    exact k
  obtain ⟨yy, hyy⟩ : ∃ z : Int32, z = ((((xy.toInt64) &&& (2147483647 : Int64)) - (((xy.toInt64) &&& (2147483647 : Int64)) / ((nn.toInt64) + (1 : Int64))) * ((nn.toInt64) + (1 : Int64))).toInt32) := ⟨_, rfl⟩
  rw [← hyy] at pre5
  have pre6 : ∀ t, Steps p.tables e below (T2.setTop (mkF m 41 #[.val (.int xn), .val (.int xy), .val (.int xz), .val (.int nn), .val (.int yy), .val (.int ((((xz.toInt64) &&& (2147483647 : Int64)) - (((xz.toInt64) &&& (2147483647 : Int64)) / (((nn.toInt64) - (yy.toInt64)) + (1 : Int64))) * (((nn.toInt64) - (yy.toInt64)) + (1 : Int64))).toInt32)), .unset, .unset, .unset, .unset, .unset] [])) t → Steps p.tables e below (s₁.setTop (entryFrame m #[(.int xn), (.int xy), (.int xz)] maxLocals)) t := by
    intro t k
    refine pre5 t ?_
    refine XS.iloadN X2.here hx rfl (hb hby at_23) rfl ?_
    show Steps p.tables e below (T2.setTop (mkF m 24 #[.val (.int xn), .val (.int xy), .val (.int xz), .val (.int nn), .val (.int yy), .unset, .unset, .unset, .unset, .unset, .unset] [(.int xz)])) _
    refine XS.i2l X2.here hx rfl (hb hby at_24) rfl ?_
    show Steps p.tables e below (T2.setTop (mkF m 25 #[.val (.int xn), .val (.int xy), .val (.int xz), .val (.int nn), .val (.int yy), .unset, .unset, .unset, .unset, .unset, .unset] [(.long (xz.toInt64))])) _
    refine X2.ldc2Long hx hown (mvT hZ (hw _ (List.mem_of_getElem? (i := 5) rfl))) (g := (mkF m 25 #[.val (.int xn), .val (.int xy), .val (.int xz), .val (.int nn), .val (.int yy), .unset, .unset, .unset, .unset, .unset, .unset] [(.long (xz.toInt64))])) rfl (hb hby at_25) _ ?_
    show Steps p.tables e below (T2.setTop (mkF m 28 #[.val (.int xn), .val (.int xy), .val (.int xz), .val (.int nn), .val (.int yy), .unset, .unset, .unset, .unset, .unset, .unset] [(.long (2147483647 : Int64)), (.long (xz.toInt64))])) _
    refine XS.land X2.here hx rfl (hb hby at_28) rfl ?_
    show Steps p.tables e below (T2.setTop (mkF m 29 #[.val (.int xn), .val (.int xy), .val (.int xz), .val (.int nn), .val (.int yy), .unset, .unset, .unset, .unset, .unset, .unset] [(.long ((xz.toInt64) &&& (2147483647 : Int64)))])) _
    refine XS.iloadN X2.here hx rfl (hb hby at_29) rfl ?_
    show Steps p.tables e below (T2.setTop (mkF m 30 #[.val (.int xn), .val (.int xy), .val (.int xz), .val (.int nn), .val (.int yy), .unset, .unset, .unset, .unset, .unset, .unset] [(.int nn), (.long ((xz.toInt64) &&& (2147483647 : Int64)))])) _
    refine XS.i2l X2.here hx rfl (hb hby at_30) rfl ?_
    show Steps p.tables e below (T2.setTop (mkF m 31 #[.val (.int xn), .val (.int xy), .val (.int xz), .val (.int nn), .val (.int yy), .unset, .unset, .unset, .unset, .unset, .unset] [(.long (nn.toInt64)), (.long ((xz.toInt64) &&& (2147483647 : Int64)))])) _
    refine XS.iload X2.here hx rfl (hb hby at_31) rfl ?_
    show Steps p.tables e below (T2.setTop (mkF m 33 #[.val (.int xn), .val (.int xy), .val (.int xz), .val (.int nn), .val (.int yy), .unset, .unset, .unset, .unset, .unset, .unset] [(.int yy), (.long (nn.toInt64)), (.long ((xz.toInt64) &&& (2147483647 : Int64)))])) _
    refine XS.i2l X2.here hx rfl (hb hby at_33) rfl ?_
    show Steps p.tables e below (T2.setTop (mkF m 34 #[.val (.int xn), .val (.int xy), .val (.int xz), .val (.int nn), .val (.int yy), .unset, .unset, .unset, .unset, .unset, .unset] [(.long (yy.toInt64)), (.long (nn.toInt64)), (.long ((xz.toInt64) &&& (2147483647 : Int64)))])) _
    refine XS.lsub X2.here hx rfl (hb hby at_34) rfl ?_
    show Steps p.tables e below (T2.setTop (mkF m 35 #[.val (.int xn), .val (.int xy), .val (.int xz), .val (.int nn), .val (.int yy), .unset, .unset, .unset, .unset, .unset, .unset] [(.long ((nn.toInt64) - (yy.toInt64))), (.long ((xz.toInt64) &&& (2147483647 : Int64)))])) _
    refine XS.lconst X2.here hx rfl (hb hby at_35) ?_
    show Steps p.tables e below (T2.setTop (mkF m 36 #[.val (.int xn), .val (.int xy), .val (.int xz), .val (.int nn), .val (.int yy), .unset, .unset, .unset, .unset, .unset, .unset] [(.long (1 : Int64)), (.long ((nn.toInt64) - (yy.toInt64))), (.long ((xz.toInt64) &&& (2147483647 : Int64)))])) _
    refine XS.ladd X2.here hx rfl (hb hby at_36) rfl ?_
    show Steps p.tables e below (T2.setTop (mkF m 37 #[.val (.int xn), .val (.int xy), .val (.int xz), .val (.int nn), .val (.int yy), .unset, .unset, .unset, .unset, .unset, .unset] [(.long (((nn.toInt64) - (yy.toInt64)) + (1 : Int64))), (.long ((xz.toInt64) &&& (2147483647 : Int64)))])) _
    refine XS.lrem X2.here hx rfl (hb hby at_37) rfl (own_d2 nn yy (own_nn0 xn nn hnn) (own_yy xy nn yy (own_nn0 xn nn hnn) hyy)).2 ?_
    show Steps p.tables e below (T2.setTop (mkF m 38 #[.val (.int xn), .val (.int xy), .val (.int xz), .val (.int nn), .val (.int yy), .unset, .unset, .unset, .unset, .unset, .unset] [(.long (((xz.toInt64) &&& (2147483647 : Int64)) - (((xz.toInt64) &&& (2147483647 : Int64)) / (((nn.toInt64) - (yy.toInt64)) + (1 : Int64))) * (((nn.toInt64) - (yy.toInt64)) + (1 : Int64))))])) _
    refine XS.l2i X2.here hx rfl (hb hby at_38) rfl ?_
    show Steps p.tables e below (T2.setTop (mkF m 39 #[.val (.int xn), .val (.int xy), .val (.int xz), .val (.int nn), .val (.int yy), .unset, .unset, .unset, .unset, .unset, .unset] [(.int ((((xz.toInt64) &&& (2147483647 : Int64)) - (((xz.toInt64) &&& (2147483647 : Int64)) / (((nn.toInt64) - (yy.toInt64)) + (1 : Int64))) * (((nn.toInt64) - (yy.toInt64)) + (1 : Int64))).toInt32))])) _
    refine XS.istore X2.here hx rfl (hb hby at_39) rfl (l' := #[.val (.int xn), .val (.int xy), .val (.int xz), .val (.int nn), .val (.int yy), .val (.int ((((xz.toInt64) &&& (2147483647 : Int64)) - (((xz.toInt64) &&& (2147483647 : Int64)) / (((nn.toInt64) - (yy.toInt64)) + (1 : Int64))) * (((nn.toInt64) - (yy.toInt64)) + (1 : Int64))).toInt32)), .unset, .unset, .unset, .unset, .unset]) rfl ?_
    show Steps p.tables e below (T2.setTop (mkF m 41 #[.val (.int xn), .val (.int xy), .val (.int xz), .val (.int nn), .val (.int yy), .val (.int ((((xz.toInt64) &&& (2147483647 : Int64)) - (((xz.toInt64) &&& (2147483647 : Int64)) / (((nn.toInt64) - (yy.toInt64)) + (1 : Int64))) * (((nn.toInt64) - (yy.toInt64)) + (1 : Int64))).toInt32)), .unset, .unset, .unset, .unset, .unset] [])) _
    exact k
  obtain ⟨zz, hzz⟩ : ∃ z : Int32, z = ((((xz.toInt64) &&& (2147483647 : Int64)) - (((xz.toInt64) &&& (2147483647 : Int64)) / (((nn.toInt64) - (yy.toInt64)) + (1 : Int64))) * (((nn.toInt64) - (yy.toInt64)) + (1 : Int64))).toInt32) := ⟨_, rfl⟩
  rw [← hzz] at pre6
  obtain ⟨T7, h7, X7, e7, E7, A7, D7, -, st7⟩ := newO X2 hx hZ hown (hw _ (List.mem_of_getElem? (i := 6) rfl)) (hw _ (List.mem_of_getElem? (i := 7) rfl)) (hw _ (List.mem_of_getElem? (i := 8) rfl)) e2 (g := (mkF m 41 #[.val (.int xn), .val (.int xy), .val (.int xz), .val (.int nn), .val (.int yy), .val (.int zz), .unset, .unset, .unset, .unset, .unset] [])) rfl (hb hby at_41) (by decide) (by decide)
  obtain ⟨b7, g7⟩ : ∃ z, z = h0.size := ⟨_, rfl⟩
  rw [← g7] at A7 D7 st7
  have g_b7 : n0 ≤ b7 := Nat.le_trans Z0 (Nat.le_of_eq g7.symm)
  have sz_b7 : h0.size ≤ b7 := Nat.le_trans (Keep.refl h0 ([] : List Addr)).1 (Nat.le_of_eq g7.symm)
  have K7 : Keep h0 h7 ([] : List Addr) := (Keep.refl h0 ([] : List Addr)).ext E7
  have z7 : n0 ≤ h7.size := Nat.le_trans Z0 K7.1
  have F_nodes_b7 : Fld Z h7 b7 "com/example/quorum_lease/quorumlease/core/Quorum" "nodes" "I" (.int (0 : Int32)) := D7 (Or.inr (hw _ (List.mem_of_getElem? (i := 16) rfl))) (ty := .int) (by decide)
  have pre8 : ∀ t, Steps p.tables e below (T7.setTop (mkF m 44 #[.val (.int xn), .val (.int xy), .val (.int xz), .val (.int nn), .val (.int yy), .val (.int zz), .unset, .unset, .unset, .unset, .unset] [(.ref b7)])) t → Steps p.tables e below (s₁.setTop (entryFrame m #[(.int xn), (.int xy), (.int xz)] maxLocals)) t := fun t k => pre6 t (st7 t k)
  have pre9 : ∀ t, Steps p.tables e below (T7.setTop (mkF m 46 #[.val (.int xn), .val (.int xy), .val (.int xz), .val (.int nn), .val (.int yy), .val (.int zz), .unset, .unset, .unset, .unset, .unset] [(.int nn), (.ref b7), (.ref b7)])) t → Steps p.tables e below (s₁.setTop (entryFrame m #[(.int xn), (.int xy), (.int xz)] maxLocals)) t := by
    intro t k
    refine pre8 t ?_
    refine XS.dup X7.here hx rfl (hb hby at_44) rfl rfl ?_
    show Steps p.tables e below (T7.setTop (mkF m 45 #[.val (.int xn), .val (.int xy), .val (.int xz), .val (.int nn), .val (.int yy), .val (.int zz), .unset, .unset, .unset, .unset, .unset] [(.ref b7), (.ref b7)])) _
    refine XS.iloadN X7.here hx rfl (hb hby at_45) rfl ?_
    show Steps p.tables e below (T7.setTop (mkF m 46 #[.val (.int xn), .val (.int xy), .val (.int xz), .val (.int nn), .val (.int yy), .val (.int zz), .unset, .unset, .unset, .unset, .unset] [(.int nn), (.ref b7), (.ref b7)])) _
    exact k
  obtain ⟨_, _, ⟨T10, L10, k10, n10⟩, -, X10, ⟨Lc10, hQ10, l10, y10, z10⟩, st10⟩ := X7.specialBack hx (y := (⟨"com/example/quorum_lease/quorumlease/core/Quorum", "<init>", "(I)V"⟩ : MethodName)) rfl hown (mvT hZ (hw _ (List.mem_of_getElem? (i := 9) rfl))) (mvT hZ (hw _ (List.mem_of_getElem? (i := 10) rfl))) (mvT hZ (hw _ (List.mem_of_getElem? (i := 11) rfl))) (by decide) (backOf (W := 1) (rm_init l Z a0 hw [] b7 nn h7 n0 z7 A7 (g_b7) F_nodes_b7 (own_nn xn nn hnn)) hZ (hw _ (List.mem_of_getElem? (i := 11) rfl)) (hw _ (List.mem_of_getElem? (i := 8) rfl)) (by decide) (by decide)) (g := (mkF m 46 #[.val (.int xn), .val (.int xy), .val (.int xz), .val (.int nn), .val (.int yy), .val (.int zz), .unset, .unset, .unset, .unset, .unset] [(.int nn), (.ref b7), (.ref b7)])) rfl (by rw [hml]; rfl) (Steps.refl _) (a := b7) (argsL := [(.int nn)]) (rest := [(.ref b7)]) (lenOf pd2 rfl) rfl (by show 2 * 0 + _ ≤ _; exact Nat.le_of_eq rfl) (hb hby at_46) (fun _ _ => ⟨rfl, e7, (by decide : 1 + 0 ≤ _), (by decide : 1 + 0 ≤ _)⟩)
  dsimp only [Pt.U, Pt.locs, Pt.cells, Pt.slots] at X10 l10 y10 z10 st10 hQ10
  subst l10 y10 z10
  obtain ⟨rfl, M10, kp10, f10_0, f10_1⟩ := hQ10
  have K10 : Keep h0 T10.heap ([] : List Addr) := K7.trans kp10 (allS (P := fun x => x ∈ ([] : List Addr) ∨ h0.size ≤ x) (Or.inr sz_b7) all0)
  have zz10 : n0 ≤ T10.heap.size := Nat.le_trans Z0 K10.1
  have N10 := Fr.app N2 M10
  have pre11 : ∀ t, Steps p.tables e below (T10.setTop (mkF m 49 #[.val (.int xn), .val (.int xy), .val (.int xz), .val (.int nn), .val (.int yy), .val (.int zz), .unset, .unset, .unset, .unset, .unset] [(.ref b7)])) t → Steps p.tables e below (s₁.setTop (entryFrame m #[(.int xn), (.int xy), (.int xz)] maxLocals)) t := fun t k => pre9 t (st10.trans k)
  have pre12 : ∀ t, Steps p.tables e below (T10.setTop (mkF m 57 #[.val (.int xn), .val (.int xy), .val (.int xz), .val (.int nn), .val (.int yy), .val (.int zz), .val (.ref b7), .unset, .unset, .unset, .unset] [(.int zz), (.int yy), (.ref b7)])) t → Steps p.tables e below (s₁.setTop (entryFrame m #[(.int xn), (.int xy), (.int xz)] maxLocals)) t := by
    intro t k
    refine pre11 t ?_
    refine XS.astore X10.here hx rfl (hb hby at_49) rfl rfl (l' := #[.val (.int xn), .val (.int xy), .val (.int xz), .val (.int nn), .val (.int yy), .val (.int zz), .val (.ref b7), .unset, .unset, .unset, .unset]) rfl ?_
    show Steps p.tables e below (T10.setTop (mkF m 51 #[.val (.int xn), .val (.int xy), .val (.int xz), .val (.int nn), .val (.int yy), .val (.int zz), .val (.ref b7), .unset, .unset, .unset, .unset] [])) _
    refine XS.aload X10.here hx rfl (hb hby at_51) rfl rfl ?_
    show Steps p.tables e below (T10.setTop (mkF m 53 #[.val (.int xn), .val (.int xy), .val (.int xz), .val (.int nn), .val (.int yy), .val (.int zz), .val (.ref b7), .unset, .unset, .unset, .unset] [(.ref b7)])) _
    refine XS.iload X10.here hx rfl (hb hby at_53) rfl ?_
    show Steps p.tables e below (T10.setTop (mkF m 55 #[.val (.int xn), .val (.int xy), .val (.int xz), .val (.int nn), .val (.int yy), .val (.int zz), .val (.ref b7), .unset, .unset, .unset, .unset] [(.int yy), (.ref b7)])) _
    refine XS.iload X10.here hx rfl (hb hby at_55) rfl ?_
    show Steps p.tables e below (T10.setTop (mkF m 57 #[.val (.int xn), .val (.int xy), .val (.int xz), .val (.int nn), .val (.int yy), .val (.int zz), .val (.ref b7), .unset, .unset, .unset, .unset] [(.int zz), (.int yy), (.ref b7)])) _
    exact k
  obtain ⟨cq13, kq13, q13a, q13b, q13c⟩ := isOf hZ rfl f10_0
  obtain ⟨_, _, ⟨T13, L13, k13, n13⟩, -, X13, ⟨Lc13, hQ13, l13, y13, z13⟩, st13⟩ := X10.virtualBack hx (y := (⟨"com/example/quorum_lease/quorumlease/core/Quorum", "isSettled", "(II)Z"⟩ : MethodName)) (z := (⟨"com/example/quorum_lease/quorumlease/core/Quorum", "isSettled", "(II)Z"⟩ : MethodName)) hown (mvT hZ (hw _ (List.mem_of_getElem? (i := 17) rfl))) (mvT hZ (hw _ (List.mem_of_getElem? (i := 18) rfl))) (notFace_of_selects (args := #[]) (mvT hZ (hw _ (List.mem_of_getElem? (i := 20) rfl)))) (mvT hZ (hw _ (List.mem_of_getElem? (i := 20) rfl))) (mvT hZ (hw _ (List.mem_of_getElem? (i := 19) rfl))) (by decide) (backOf (W := 0) (rm_settled l Z a0 hw [] b7 yy zz nn T10.heap n0 zz10 f10_1 f10_0) hZ (hw _ (List.mem_of_getElem? (i := 21) rfl)) (hw _ (List.mem_of_getElem? (i := 8) rfl)) (by decide) (by decide)) q13a q13c (g := (mkF m 57 #[.val (.int xn), .val (.int xy), .val (.int xz), .val (.int nn), .val (.int yy), .val (.int zz), .val (.ref b7), .unset, .unset, .unset, .unset] [(.int zz), (.int yy), (.ref b7)])) rfl (by rw [hml]; rfl) (Steps.refl _) (argsL := [(.int yy), (.int zz)]) (rest := []) (lenOf pd3 rfl) rfl (by show 2 * 0 + _ ≤ _; exact Nat.le_of_eq rfl) (hb hby at_57) (fun _ _ => ⟨rfl, rfl, (by decide : 1 + 0 ≤ _), (by decide : 1 + 0 ≤ _)⟩)
  dsimp only [Pt.U, Pt.locs, Pt.cells, Pt.slots] at X13 l13 y13 z13 st13 hQ13
  subst l13 y13 z13
  obtain ⟨rfl, M13, e13⟩ := hQ13
  have N13 := Fr.app N10 M13
  have pre14 : ∀ t, Steps p.tables e below (T13.setTop (mkF m 60 #[.val (.int xn), .val (.int xy), .val (.int xz), .val (.int nn), .val (.int yy), .val (.int zz), .val (.ref b7), .unset, .unset, .unset, .unset] [(.int (F_rm_settled yy zz nn))])) t → Steps p.tables e below (s₁.setTop (entryFrame m #[(.int xn), (.int xy), (.int xz)] maxLocals)) t := fun t k => pre12 t (st13.trans k)
  have pre15 : ∀ t, Steps p.tables e below (T13.setTop (mkF m 72 #[.val (.int xn), .val (.int xy), .val (.int xz), .val (.int nn), .val (.int yy), .val (.int zz), .val (.ref b7), .val (.int (F_rm_settled yy zz nn)), .unset, .unset, .unset] [(.int (lcmpW ((2 : Int64) * (yy.toInt64)) (nn.toInt64)))])) t → Steps p.tables e below (s₁.setTop (entryFrame m #[(.int xn), (.int xy), (.int xz)] maxLocals)) t := by
    intro t k
    refine pre14 t ?_
    refine XS.istore X13.here hx rfl (hb hby at_60) rfl (l' := #[.val (.int xn), .val (.int xy), .val (.int xz), .val (.int nn), .val (.int yy), .val (.int zz), .val (.ref b7), .val (.int (F_rm_settled yy zz nn)), .unset, .unset, .unset]) rfl ?_
    show Steps p.tables e below (T13.setTop (mkF m 62 #[.val (.int xn), .val (.int xy), .val (.int xz), .val (.int nn), .val (.int yy), .val (.int zz), .val (.ref b7), .val (.int (F_rm_settled yy zz nn)), .unset, .unset, .unset] [])) _
    refine X13.ldc2Long hx hown (mvT hZ (hw _ (List.mem_of_getElem? (i := 27) rfl))) (g := (mkF m 62 #[.val (.int xn), .val (.int xy), .val (.int xz), .val (.int nn), .val (.int yy), .val (.int zz), .val (.ref b7), .val (.int (F_rm_settled yy zz nn)), .unset, .unset, .unset] [])) rfl (hb hby at_62) _ ?_
    show Steps p.tables e below (T13.setTop (mkF m 65 #[.val (.int xn), .val (.int xy), .val (.int xz), .val (.int nn), .val (.int yy), .val (.int zz), .val (.ref b7), .val (.int (F_rm_settled yy zz nn)), .unset, .unset, .unset] [(.long (2 : Int64))])) _
    refine XS.iload X13.here hx rfl (hb hby at_65) rfl ?_
    show Steps p.tables e below (T13.setTop (mkF m 67 #[.val (.int xn), .val (.int xy), .val (.int xz), .val (.int nn), .val (.int yy), .val (.int zz), .val (.ref b7), .val (.int (F_rm_settled yy zz nn)), .unset, .unset, .unset] [(.int yy), (.long (2 : Int64))])) _
    refine XS.i2l X13.here hx rfl (hb hby at_67) rfl ?_
    show Steps p.tables e below (T13.setTop (mkF m 68 #[.val (.int xn), .val (.int xy), .val (.int xz), .val (.int nn), .val (.int yy), .val (.int zz), .val (.ref b7), .val (.int (F_rm_settled yy zz nn)), .unset, .unset, .unset] [(.long (yy.toInt64)), (.long (2 : Int64))])) _
    refine XS.lmul X13.here hx rfl (hb hby at_68) rfl ?_
    show Steps p.tables e below (T13.setTop (mkF m 69 #[.val (.int xn), .val (.int xy), .val (.int xz), .val (.int nn), .val (.int yy), .val (.int zz), .val (.ref b7), .val (.int (F_rm_settled yy zz nn)), .unset, .unset, .unset] [(.long ((2 : Int64) * (yy.toInt64)))])) _
    refine XS.iloadN X13.here hx rfl (hb hby at_69) rfl ?_
    show Steps p.tables e below (T13.setTop (mkF m 70 #[.val (.int xn), .val (.int xy), .val (.int xz), .val (.int nn), .val (.int yy), .val (.int zz), .val (.ref b7), .val (.int (F_rm_settled yy zz nn)), .unset, .unset, .unset] [(.int nn), (.long ((2 : Int64) * (yy.toInt64)))])) _
    refine XS.i2l X13.here hx rfl (hb hby at_70) rfl ?_
    show Steps p.tables e below (T13.setTop (mkF m 71 #[.val (.int xn), .val (.int xy), .val (.int xz), .val (.int nn), .val (.int yy), .val (.int zz), .val (.ref b7), .val (.int (F_rm_settled yy zz nn)), .unset, .unset, .unset] [(.long (nn.toInt64)), (.long ((2 : Int64) * (yy.toInt64)))])) _
    refine XS.lcmp X13.here hx rfl (hb hby at_71) rfl ?_
    show Steps p.tables e below (T13.setTop (mkF m 72 #[.val (.int xn), .val (.int xy), .val (.int xz), .val (.int nn), .val (.int yy), .val (.int zz), .val (.ref b7), .val (.int (F_rm_settled yy zz nn)), .unset, .unset, .unset] [(.int (lcmpW ((2 : Int64) * (yy.toInt64)) (nn.toInt64)))])) _
    exact k
  obtain ⟨v72, hv72⟩ : ∃ z : Int32, z = (if (nn.toInt64) < ((2 : Int64) * (yy.toInt64)) then (1 : Int32) else (0 : Int32)) := ⟨_, rfl⟩
  have pre16 : ∀ t, Steps p.tables e below (T13.setTop (mkF m 80 #[.val (.int xn), .val (.int xy), .val (.int xz), .val (.int nn), .val (.int yy), .val (.int zz), .val (.ref b7), .val (.int (F_rm_settled yy zz nn)), .unset, .unset, .unset] [(.int v72)])) t → Steps p.tables e below (s₁.setTop (entryFrame m #[(.int xn), (.int xy), (.int xz)] maxLocals)) t := by
    intro t k
    refine pre15 t ?_
    by_cases hc72 : (nn.toInt64) < ((2 : Int64) * (yy.toInt64))
    · refine XS.ifNo X13.here hx rfl (hb hby at_72) rfl ((if0 _ _).trans (tlt ((lw_gt _ _).mpr hc72)).2.2.2) ?_
      show Steps p.tables e below (T13.setTop (mkF m 75 #[.val (.int xn), .val (.int xy), .val (.int xz), .val (.int nn), .val (.int yy), .val (.int zz), .val (.ref b7), .val (.int (F_rm_settled yy zz nn)), .unset, .unset, .unset] [])) _
      refine XS.iconst X13.here hx rfl (hb hby at_75) ?_
      show Steps p.tables e below (T13.setTop (mkF m 76 #[.val (.int xn), .val (.int xy), .val (.int xz), .val (.int nn), .val (.int yy), .val (.int zz), .val (.ref b7), .val (.int (F_rm_settled yy zz nn)), .unset, .unset, .unset] [(.int (1 : Int32))])) _
      refine XS.goto X13.here hx rfl (pc0 := 76) (pc' := 80) rfl (hb hby at_76) (by decide) (by decide) ?_
      show Steps p.tables e below (T13.setTop (mkF m 80 #[.val (.int xn), .val (.int xy), .val (.int xz), .val (.int nn), .val (.int yy), .val (.int zz), .val (.ref b7), .val (.int (F_rm_settled yy zz nn)), .unset, .unset, .unset] [(.int (1 : Int32))])) _
      rw [show v72 = (1 : Int32) from by rw [hv72, if_pos hc72]] at k
      exact k
    · refine XS.ifYes X13.here hx rfl (pc0 := 72) (pc' := 79) rfl (hb hby at_72) rfl ((if0 _ _).trans (flt (mt (lw_gt _ _).mp hc72)).2.2.2) (by decide) (by decide) ?_
      show Steps p.tables e below (T13.setTop (mkF m 79 #[.val (.int xn), .val (.int xy), .val (.int xz), .val (.int nn), .val (.int yy), .val (.int zz), .val (.ref b7), .val (.int (F_rm_settled yy zz nn)), .unset, .unset, .unset] [])) _
      refine XS.iconst X13.here hx rfl (hb hby at_79) ?_
      show Steps p.tables e below (T13.setTop (mkF m 80 #[.val (.int xn), .val (.int xy), .val (.int xz), .val (.int nn), .val (.int yy), .val (.int zz), .val (.ref b7), .val (.int (F_rm_settled yy zz nn)), .unset, .unset, .unset] [(.int (0 : Int32))])) _
      rw [show v72 = (0 : Int32) from by rw [hv72, if_neg hc72]] at k
      exact k
  have pre17 : ∀ t, Steps p.tables e below (T13.setTop (mkF m 95 #[.val (.int xn), .val (.int xy), .val (.int xz), .val (.int nn), .val (.int yy), .val (.int zz), .val (.ref b7), .val (.int (F_rm_settled yy zz nn)), .val (.int v72), .unset, .unset] [(.int (lcmpW ((2 : Int64) * ((nn.toInt64) - (zz.toInt64))) (nn.toInt64)))])) t → Steps p.tables e below (s₁.setTop (entryFrame m #[(.int xn), (.int xy), (.int xz)] maxLocals)) t := by
    intro t k
    refine pre16 t ?_
    refine XS.istore X13.here hx rfl (hb hby at_80) rfl (l' := #[.val (.int xn), .val (.int xy), .val (.int xz), .val (.int nn), .val (.int yy), .val (.int zz), .val (.ref b7), .val (.int (F_rm_settled yy zz nn)), .val (.int v72), .unset, .unset]) rfl ?_
    show Steps p.tables e below (T13.setTop (mkF m 82 #[.val (.int xn), .val (.int xy), .val (.int xz), .val (.int nn), .val (.int yy), .val (.int zz), .val (.ref b7), .val (.int (F_rm_settled yy zz nn)), .val (.int v72), .unset, .unset] [])) _
    refine X13.ldc2Long hx hown (mvT hZ (hw _ (List.mem_of_getElem? (i := 27) rfl))) (g := (mkF m 82 #[.val (.int xn), .val (.int xy), .val (.int xz), .val (.int nn), .val (.int yy), .val (.int zz), .val (.ref b7), .val (.int (F_rm_settled yy zz nn)), .val (.int v72), .unset, .unset] [])) rfl (hb hby at_82) _ ?_
    show Steps p.tables e below (T13.setTop (mkF m 85 #[.val (.int xn), .val (.int xy), .val (.int xz), .val (.int nn), .val (.int yy), .val (.int zz), .val (.ref b7), .val (.int (F_rm_settled yy zz nn)), .val (.int v72), .unset, .unset] [(.long (2 : Int64))])) _
    refine XS.iloadN X13.here hx rfl (hb hby at_85) rfl ?_
    show Steps p.tables e below (T13.setTop (mkF m 86 #[.val (.int xn), .val (.int xy), .val (.int xz), .val (.int nn), .val (.int yy), .val (.int zz), .val (.ref b7), .val (.int (F_rm_settled yy zz nn)), .val (.int v72), .unset, .unset] [(.int nn), (.long (2 : Int64))])) _
    refine XS.i2l X13.here hx rfl (hb hby at_86) rfl ?_
    show Steps p.tables e below (T13.setTop (mkF m 87 #[.val (.int xn), .val (.int xy), .val (.int xz), .val (.int nn), .val (.int yy), .val (.int zz), .val (.ref b7), .val (.int (F_rm_settled yy zz nn)), .val (.int v72), .unset, .unset] [(.long (nn.toInt64)), (.long (2 : Int64))])) _
    refine XS.iload X13.here hx rfl (hb hby at_87) rfl ?_
    show Steps p.tables e below (T13.setTop (mkF m 89 #[.val (.int xn), .val (.int xy), .val (.int xz), .val (.int nn), .val (.int yy), .val (.int zz), .val (.ref b7), .val (.int (F_rm_settled yy zz nn)), .val (.int v72), .unset, .unset] [(.int zz), (.long (nn.toInt64)), (.long (2 : Int64))])) _
    refine XS.i2l X13.here hx rfl (hb hby at_89) rfl ?_
    show Steps p.tables e below (T13.setTop (mkF m 90 #[.val (.int xn), .val (.int xy), .val (.int xz), .val (.int nn), .val (.int yy), .val (.int zz), .val (.ref b7), .val (.int (F_rm_settled yy zz nn)), .val (.int v72), .unset, .unset] [(.long (zz.toInt64)), (.long (nn.toInt64)), (.long (2 : Int64))])) _
    refine XS.lsub X13.here hx rfl (hb hby at_90) rfl ?_
    show Steps p.tables e below (T13.setTop (mkF m 91 #[.val (.int xn), .val (.int xy), .val (.int xz), .val (.int nn), .val (.int yy), .val (.int zz), .val (.ref b7), .val (.int (F_rm_settled yy zz nn)), .val (.int v72), .unset, .unset] [(.long ((nn.toInt64) - (zz.toInt64))), (.long (2 : Int64))])) _
    refine XS.lmul X13.here hx rfl (hb hby at_91) rfl ?_
    show Steps p.tables e below (T13.setTop (mkF m 92 #[.val (.int xn), .val (.int xy), .val (.int xz), .val (.int nn), .val (.int yy), .val (.int zz), .val (.ref b7), .val (.int (F_rm_settled yy zz nn)), .val (.int v72), .unset, .unset] [(.long ((2 : Int64) * ((nn.toInt64) - (zz.toInt64))))])) _
    refine XS.iloadN X13.here hx rfl (hb hby at_92) rfl ?_
    show Steps p.tables e below (T13.setTop (mkF m 93 #[.val (.int xn), .val (.int xy), .val (.int xz), .val (.int nn), .val (.int yy), .val (.int zz), .val (.ref b7), .val (.int (F_rm_settled yy zz nn)), .val (.int v72), .unset, .unset] [(.int nn), (.long ((2 : Int64) * ((nn.toInt64) - (zz.toInt64))))])) _
    refine XS.i2l X13.here hx rfl (hb hby at_93) rfl ?_
    show Steps p.tables e below (T13.setTop (mkF m 94 #[.val (.int xn), .val (.int xy), .val (.int xz), .val (.int nn), .val (.int yy), .val (.int zz), .val (.ref b7), .val (.int (F_rm_settled yy zz nn)), .val (.int v72), .unset, .unset] [(.long (nn.toInt64)), (.long ((2 : Int64) * ((nn.toInt64) - (zz.toInt64))))])) _
    refine XS.lcmp X13.here hx rfl (hb hby at_94) rfl ?_
    show Steps p.tables e below (T13.setTop (mkF m 95 #[.val (.int xn), .val (.int xy), .val (.int xz), .val (.int nn), .val (.int yy), .val (.int zz), .val (.ref b7), .val (.int (F_rm_settled yy zz nn)), .val (.int v72), .unset, .unset] [(.int (lcmpW ((2 : Int64) * ((nn.toInt64) - (zz.toInt64))) (nn.toInt64)))])) _
    exact k
  obtain ⟨v95, hv95⟩ : ∃ z : Int32, z = (if (nn.toInt64) < ((2 : Int64) * ((nn.toInt64) - (zz.toInt64))) then (0 : Int32) else (1 : Int32)) := ⟨_, rfl⟩
  have pre18 : ∀ t, Steps p.tables e below (T13.setTop (mkF m 103 #[.val (.int xn), .val (.int xy), .val (.int xz), .val (.int nn), .val (.int yy), .val (.int zz), .val (.ref b7), .val (.int (F_rm_settled yy zz nn)), .val (.int v72), .unset, .unset] [(.int v95)])) t → Steps p.tables e below (s₁.setTop (entryFrame m #[(.int xn), (.int xy), (.int xz)] maxLocals)) t := by
    intro t k
    refine pre17 t ?_
    by_cases hc95 : (nn.toInt64) < ((2 : Int64) * ((nn.toInt64) - (zz.toInt64)))
    · refine XS.ifYes X13.here hx rfl (pc0 := 95) (pc' := 102) rfl (hb hby at_95) rfl ((if0 _ _).trans (tlt ((lw_gt _ _).mpr hc95)).2.2.1) (by decide) (by decide) ?_
      show Steps p.tables e below (T13.setTop (mkF m 102 #[.val (.int xn), .val (.int xy), .val (.int xz), .val (.int nn), .val (.int yy), .val (.int zz), .val (.ref b7), .val (.int (F_rm_settled yy zz nn)), .val (.int v72), .unset, .unset] [])) _
      refine XS.iconst X13.here hx rfl (hb hby at_102) ?_
      show Steps p.tables e below (T13.setTop (mkF m 103 #[.val (.int xn), .val (.int xy), .val (.int xz), .val (.int nn), .val (.int yy), .val (.int zz), .val (.ref b7), .val (.int (F_rm_settled yy zz nn)), .val (.int v72), .unset, .unset] [(.int (0 : Int32))])) _
      rw [show v95 = (0 : Int32) from by rw [hv95, if_pos hc95]] at k
      exact k
    · refine XS.ifNo X13.here hx rfl (hb hby at_95) rfl ((if0 _ _).trans (flt (mt (lw_gt _ _).mp hc95)).2.2.1) ?_
      show Steps p.tables e below (T13.setTop (mkF m 98 #[.val (.int xn), .val (.int xy), .val (.int xz), .val (.int nn), .val (.int yy), .val (.int zz), .val (.ref b7), .val (.int (F_rm_settled yy zz nn)), .val (.int v72), .unset, .unset] [])) _
      refine XS.iconst X13.here hx rfl (hb hby at_98) ?_
      show Steps p.tables e below (T13.setTop (mkF m 99 #[.val (.int xn), .val (.int xy), .val (.int xz), .val (.int nn), .val (.int yy), .val (.int zz), .val (.ref b7), .val (.int (F_rm_settled yy zz nn)), .val (.int v72), .unset, .unset] [(.int (1 : Int32))])) _
      refine XS.goto X13.here hx rfl (pc0 := 99) (pc' := 103) rfl (hb hby at_99) (by decide) (by decide) ?_
      show Steps p.tables e below (T13.setTop (mkF m 103 #[.val (.int xn), .val (.int xy), .val (.int xz), .val (.int nn), .val (.int yy), .val (.int zz), .val (.ref b7), .val (.int (F_rm_settled yy zz nn)), .val (.int v72), .unset, .unset] [(.int (1 : Int32))])) _
      rw [show v95 = (1 : Int32) from by rw [hv95, if_neg hc95]] at k
      exact k
  have pre19 : ∀ t, Steps p.tables e below (T13.setTop (mkF m 107 #[.val (.int xn), .val (.int xy), .val (.int xz), .val (.int nn), .val (.int yy), .val (.int zz), .val (.ref b7), .val (.int (F_rm_settled yy zz nn)), .val (.int v72), .val (.int v95), .unset] [(.int v72)])) t → Steps p.tables e below (s₁.setTop (entryFrame m #[(.int xn), (.int xy), (.int xz)] maxLocals)) t := by
    intro t k
    refine pre18 t ?_
    refine XS.istore X13.here hx rfl (hb hby at_103) rfl (l' := #[.val (.int xn), .val (.int xy), .val (.int xz), .val (.int nn), .val (.int yy), .val (.int zz), .val (.ref b7), .val (.int (F_rm_settled yy zz nn)), .val (.int v72), .val (.int v95), .unset]) rfl ?_
    show Steps p.tables e below (T13.setTop (mkF m 105 #[.val (.int xn), .val (.int xy), .val (.int xz), .val (.int nn), .val (.int yy), .val (.int zz), .val (.ref b7), .val (.int (F_rm_settled yy zz nn)), .val (.int v72), .val (.int v95), .unset] [])) _
    refine XS.iload X13.here hx rfl (hb hby at_105) rfl ?_
    show Steps p.tables e below (T13.setTop (mkF m 107 #[.val (.int xn), .val (.int xy), .val (.int xz), .val (.int nn), .val (.int yy), .val (.int zz), .val (.ref b7), .val (.int (F_rm_settled yy zz nn)), .val (.int v72), .val (.int v95), .unset] [(.int v72)])) _
    exact k
  obtain ⟨v107, hv107⟩ : ∃ z : Int32, z = (if v72 = (0 : Int32) then (if v95 = (0 : Int32) then (0 : Int32) else (1 : Int32)) else (1 : Int32)) := ⟨_, rfl⟩
  have pre20 : ∀ t, Steps p.tables e below (T13.setTop (mkF m 120 #[.val (.int xn), .val (.int xy), .val (.int xz), .val (.int nn), .val (.int yy), .val (.int zz), .val (.ref b7), .val (.int (F_rm_settled yy zz nn)), .val (.int v72), .val (.int v95), .unset] [(.int v107)])) t → Steps p.tables e below (s₁.setTop (entryFrame m #[(.int xn), (.int xy), (.int xz)] maxLocals)) t := by
    intro t k
    refine pre19 t ?_
    by_cases hc107 : v72 = (0 : Int32)
    · refine XS.ifNo X13.here hx rfl (hb hby at_107) rfl ((if0 _ _).trans (teq hc107).2) ?_
      show Steps p.tables e below (T13.setTop (mkF m 110 #[.val (.int xn), .val (.int xy), .val (.int xz), .val (.int nn), .val (.int yy), .val (.int zz), .val (.ref b7), .val (.int (F_rm_settled yy zz nn)), .val (.int v72), .val (.int v95), .unset] [])) _
      refine XS.iload X13.here hx rfl (hb hby at_110) rfl ?_
      show Steps p.tables e below (T13.setTop (mkF m 112 #[.val (.int xn), .val (.int xy), .val (.int xz), .val (.int nn), .val (.int yy), .val (.int zz), .val (.ref b7), .val (.int (F_rm_settled yy zz nn)), .val (.int v72), .val (.int v95), .unset] [(.int v95)])) _
      by_cases hc112 : v95 = (0 : Int32)
      · refine XS.ifYes X13.here hx rfl (pc0 := 112) (pc' := 119) rfl (hb hby at_112) rfl ((if0 _ _).trans (teq hc112).1) (by decide) (by decide) ?_
        show Steps p.tables e below (T13.setTop (mkF m 119 #[.val (.int xn), .val (.int xy), .val (.int xz), .val (.int nn), .val (.int yy), .val (.int zz), .val (.ref b7), .val (.int (F_rm_settled yy zz nn)), .val (.int v72), .val (.int v95), .unset] [])) _
        refine XS.iconst X13.here hx rfl (hb hby at_119) ?_
        show Steps p.tables e below (T13.setTop (mkF m 120 #[.val (.int xn), .val (.int xy), .val (.int xz), .val (.int nn), .val (.int yy), .val (.int zz), .val (.ref b7), .val (.int (F_rm_settled yy zz nn)), .val (.int v72), .val (.int v95), .unset] [(.int (0 : Int32))])) _
        rw [show v107 = (0 : Int32) from by rw [hv107, if_pos hc107, if_pos hc112]] at k
        exact k
      · refine XS.ifNo X13.here hx rfl (hb hby at_112) rfl ((if0 _ _).trans (feq hc112).1) ?_
        show Steps p.tables e below (T13.setTop (mkF m 115 #[.val (.int xn), .val (.int xy), .val (.int xz), .val (.int nn), .val (.int yy), .val (.int zz), .val (.ref b7), .val (.int (F_rm_settled yy zz nn)), .val (.int v72), .val (.int v95), .unset] [])) _
        refine XS.iconst X13.here hx rfl (hb hby at_115) ?_
        show Steps p.tables e below (T13.setTop (mkF m 116 #[.val (.int xn), .val (.int xy), .val (.int xz), .val (.int nn), .val (.int yy), .val (.int zz), .val (.ref b7), .val (.int (F_rm_settled yy zz nn)), .val (.int v72), .val (.int v95), .unset] [(.int (1 : Int32))])) _
        refine XS.goto X13.here hx rfl (pc0 := 116) (pc' := 120) rfl (hb hby at_116) (by decide) (by decide) ?_
        show Steps p.tables e below (T13.setTop (mkF m 120 #[.val (.int xn), .val (.int xy), .val (.int xz), .val (.int nn), .val (.int yy), .val (.int zz), .val (.ref b7), .val (.int (F_rm_settled yy zz nn)), .val (.int v72), .val (.int v95), .unset] [(.int (1 : Int32))])) _
        rw [show v107 = (1 : Int32) from by rw [hv107, if_pos hc107, if_neg hc112]] at k
        exact k
    · refine XS.ifYes X13.here hx rfl (pc0 := 107) (pc' := 115) rfl (hb hby at_107) rfl ((if0 _ _).trans (feq hc107).2) (by decide) (by decide) ?_
      show Steps p.tables e below (T13.setTop (mkF m 115 #[.val (.int xn), .val (.int xy), .val (.int xz), .val (.int nn), .val (.int yy), .val (.int zz), .val (.ref b7), .val (.int (F_rm_settled yy zz nn)), .val (.int v72), .val (.int v95), .unset] [])) _
      refine XS.iconst X13.here hx rfl (hb hby at_115) ?_
      show Steps p.tables e below (T13.setTop (mkF m 116 #[.val (.int xn), .val (.int xy), .val (.int xz), .val (.int nn), .val (.int yy), .val (.int zz), .val (.ref b7), .val (.int (F_rm_settled yy zz nn)), .val (.int v72), .val (.int v95), .unset] [(.int (1 : Int32))])) _
      refine XS.goto X13.here hx rfl (pc0 := 116) (pc' := 120) rfl (hb hby at_116) (by decide) (by decide) ?_
      show Steps p.tables e below (T13.setTop (mkF m 120 #[.val (.int xn), .val (.int xy), .val (.int xz), .val (.int nn), .val (.int yy), .val (.int zz), .val (.ref b7), .val (.int (F_rm_settled yy zz nn)), .val (.int v72), .val (.int v95), .unset] [(.int (1 : Int32))])) _
      rw [show v107 = (1 : Int32) from by rw [hv107, if_neg hc107]] at k
      exact k
  have pre21 : ∀ t, Steps p.tables e below (T13.setTop (mkF m 134 #[.val (.int xn), .val (.int xy), .val (.int xz), .val (.int nn), .val (.int yy), .val (.int zz), .val (.ref b7), .val (.int (F_rm_settled yy zz nn)), .val (.int v72), .val (.int v95), .val (.int v107)] [(.int (1 : Int32))])) t → Steps p.tables e below (s₁.setTop (entryFrame m #[(.int xn), (.int xy), (.int xz)] maxLocals)) t := by
    intro t k
    refine pre20 t ?_
    refine XS.istore X13.here hx rfl (hb hby at_120) rfl (l' := #[.val (.int xn), .val (.int xy), .val (.int xz), .val (.int nn), .val (.int yy), .val (.int zz), .val (.ref b7), .val (.int (F_rm_settled yy zz nn)), .val (.int v72), .val (.int v95), .val (.int v107)]) rfl ?_
    show Steps p.tables e below (T13.setTop (mkF m 122 #[.val (.int xn), .val (.int xy), .val (.int xz), .val (.int nn), .val (.int yy), .val (.int zz), .val (.ref b7), .val (.int (F_rm_settled yy zz nn)), .val (.int v72), .val (.int v95), .val (.int v107)] [])) _
    refine XS.iload X13.here hx rfl (hb hby at_122) rfl ?_
    show Steps p.tables e below (T13.setTop (mkF m 124 #[.val (.int xn), .val (.int xy), .val (.int xz), .val (.int nn), .val (.int yy), .val (.int zz), .val (.ref b7), .val (.int (F_rm_settled yy zz nn)), .val (.int v72), .val (.int v95), .val (.int v107)] [(.int (F_rm_settled yy zz nn))])) _
    refine XS.iload X13.here hx rfl (hb hby at_124) rfl ?_
    show Steps p.tables e below (T13.setTop (mkF m 126 #[.val (.int xn), .val (.int xy), .val (.int xz), .val (.int nn), .val (.int yy), .val (.int zz), .val (.ref b7), .val (.int (F_rm_settled yy zz nn)), .val (.int v72), .val (.int v95), .val (.int v107)] [(.int v107), (.int (F_rm_settled yy zz nn))])) _
    refine XS.icmpNo X13.here hx rfl (hb hby at_126) rfl (teq (show (F_rm_settled yy zz nn) = v107 from own_law nn yy zz v72 v95 v107 (own_nn0 xn nn hnn) (own_yy xy nn yy (own_nn0 xn nn hnn) hyy) (own_zz xz nn yy zz (own_nn0 xn nn hnn) (own_yy xy nn yy (own_nn0 xn nn hnn) hyy) hzz) hv72 hv95 hv107)).2 ?_
    show Steps p.tables e below (T13.setTop (mkF m 129 #[.val (.int xn), .val (.int xy), .val (.int xz), .val (.int nn), .val (.int yy), .val (.int zz), .val (.ref b7), .val (.int (F_rm_settled yy zz nn)), .val (.int v72), .val (.int v95), .val (.int v107)] [])) _
    refine XS.iconst X13.here hx rfl (hb hby at_129) ?_
    show Steps p.tables e below (T13.setTop (mkF m 130 #[.val (.int xn), .val (.int xy), .val (.int xz), .val (.int nn), .val (.int yy), .val (.int zz), .val (.ref b7), .val (.int (F_rm_settled yy zz nn)), .val (.int v72), .val (.int v95), .val (.int v107)] [(.int (1 : Int32))])) _
    refine XS.goto X13.here hx rfl (pc0 := 130) (pc' := 134) rfl (hb hby at_130) (by decide) (by decide) ?_
    show Steps p.tables e below (T13.setTop (mkF m 134 #[.val (.int xn), .val (.int xy), .val (.int xz), .val (.int nn), .val (.int yy), .val (.int zz), .val (.ref b7), .val (.int (F_rm_settled yy zz nn)), .val (.int v72), .val (.int v95), .val (.int v107)] [(.int (1 : Int32))])) _
    exact k
  obtain ⟨fs, hr, hrun, hended, hW, hsame⟩ := X13.leave (v := some (.int (1 : Int32))) (fun h => by rw [Bd.returns] at h; cases h)
  refine ⟨_, _, pre21 _ ?_, hrun, hended, _, _, rfl, ?_, ⟨_, rfl⟩, hW, hsame.mono (by decide) (by decide)⟩
  · exact retN X13 hx (t := .boolean) Bd.returns (by simp) (hb hby at_134) hr
  · show Q_rm0 Z xn xy xz h0 n0 _ T13.heap _
    rw [e13]
    exact ⟨rfl, N13⟩
set_option maxRecDepth 65536 in
set_option maxHeartbeats 40000000 in
theorem comes_1 {Post : Tables → Env → Array Value → State → Outcome → State → Prop} (hpost : ∀ tb e args s v u, (limb_1_1.after args s (.returned v) u = true ∧ limb_1_2.after args s (.returned v) u = true ∧ True) → FrameEnd s (.returned v) u (Jvm.fieldLocs frame_1_writes args s ++ Jvm.arrayLocs frame_1_arrays args s ++ Jvm.staticLocs frame_1_statics s) 16 128 → Post tb e args s (.returned v) u) :
    ArmFor flags0 classFile x code maxLocals ret World_1 tables_1 room_1 Calls_1 rest_1 Pre_1 Post := by
  intro l hfl _ _ p e ha hc hk s m args below hf hA hF happ hP
  obtain ⟨hcalls, hrest, hpre⟩ := hP
  obtain ⟨-, -, -, hnamed, -, -, -, hat⟩ := (Spec.applies_iff hf).mp happ
  obtain ⟨hg, hn⟩ := and_e (Cond.before_iff.mp (show (Jvm.Cond.and given_1 narrow_1).before args s = true from hpre))
  obtain ⟨ga1, gb1⟩ := and_e hg
  obtain ⟨ga2, gb2⟩ := and_e gb1
  obtain ⟨ga3, gb3⟩ := and_e gb2
  obtain ⟨w0, w1, w2, rfl⟩ : ∃ w0 w1 w2 : Value, args = #[w0, w1, w2] := by
    have hs : args.size = 3 := by simpa [Cond.value, given_1] using ga1
    obtain ⟨L⟩ := args
    match L, hs with
    | [w0, w1, w2], _ => exact ⟨w0, w1, w2, rfl⟩
  have hw := fun d (hd : d ∈ tables_1) => atoms_spec (ws := Jvm.Cond.code x code maxLocals ret :: tables_1) hat d (List.mem_cons_of_mem _ hd)
  have hfit : Fit s := fun {y c} hc i hi => by
    obtain ⟨ha, rfl⟩ := Array.getElem?_eq_some_iff.mp hc
    have q := List.all_eq_true.mp ((Array.all_eq_true_iff_forall_mem.mp hF) _ (Array.getElem_mem ha)) i (List.mem_range.mpr hi)
    simpa [Array.getElem?_eq_getElem hi] using q
  obtain ⟨i0, ei0⟩ := is_v ga2
  obtain rfl : w0 = (.int i0) := Option.some.inj ei0
  obtain ⟨i1, ei1⟩ := is_v ga3
  obtain rfl : w1 = (.int i1) := Option.some.inj ei1
  obtain ⟨i2, ei2⟩ := is_v gb3
  obtain rfl : w2 = (.int i2) := Option.some.inj ei2
  obtain ⟨n, o, h1, h2, h3, _, L, rfl, ⟨rfl, N⟩, hq⟩ := rm0 l s _ hw tables_1 i0 i1 i2 s.heap s.heap.size (Nat.le_refl _)  p e ha hc hk s m _ below hf ((Spec.applies_iff_loose hf).mp happ).1 ⟨rfl, State.Warmed39.refl s, rfl⟩ trivial
  refine ⟨n, _, h1, h2, h3, hpost _ _ _ _ _ _ ⟨Cond.after_iff.mpr rfl, Cond.after_iff.mpr (eq_i res_at (Term.int_eval (1)) rfl), trivial⟩ ⟨hq.1, hq.2.1, (hq.2.2.sift fun y hy => Or.inr (N y hy)).mono (by decide) (by decide)⟩⟩
theorem main_1_1 : Claimed_1_1 := comes_1 fun _ _ _ _ _ _ h hF => ⟨h.1, hF⟩
theorem main_1_2 : Claimed_1_2 := comes_1 fun _ _ _ _ _ _ h hF => ⟨h.2.1, hF⟩
end Jvm.Pilot.@@N@@
namespace Jvm.Pilot.@@N@@
open Jvm Jvm.ClassFile Sem Op Lib Jvm.Free Jvm.Stand Jvm.Pilot.@@N@@.Jvm.D
/-! MADE BY PROGRAM (witnessworld.py) out of the Statement's table words and the real class files: 10 classes; the members and pool entries that the words name. The judged class is class 1, her method 1. -/
namespace start1
open Jvm.ClassFile
def u (s : String) : CpInfo := .utf8 (stringToUtf16 s)
/-- a pool by its gaps: so many unusable entries, then the entry; so many at the end -/
def gap : Nat → List CpInfo → List CpInfo
  | 0, r => r
  | n + 1, r => .unusable :: gap n r
def poolList (es : List (Nat × CpInfo)) (last : Nat) : List CpInfo := es.foldr (fun e r => gap e.1 (e.2 :: r)) (gap last [])
def pool (es : List (Nat × CpInfo)) (last : Nat) : Array CpInfo := ⟨poolList es last⟩
def fileOf (pool : Array CpInfo) (this : Nat) (attrs : Array Attribute := #[]) (ms : Array MethodInfo := #[]) (fl : Nat := 33) (sup : Nat := 0) (ifs : Array Nat := #[]) (fds : Array FieldInfo := #[]) : ClassFile where
  minorVersion := 0
  majorVersion := 65
  constantPool := pool
  accessFlags := fl
  thisClass := this
  superClass := sup
  interfaces := ifs
  fields := fds
  methods := ms
  attributes := attrs
def plain (name : String) (sup : Option ClassId) : Class where
  name := name
  kind := .ordinary
  loader := none
  accessFlags := 33
  super := sup
  interfaces := #[]
  cf := none
  fields := #[]
  methods := #[]
  instanceTypes := #[]
  staticTypes := #[]
  resolved := #[]
  callSites := []
  init := .initialized
  statics := none
  mirror := none

def pool0 : Array CpInfo := pool [(5, u "<init>"), (0, u "()V"), (1, .class_ 10), (1, u "java/lang/Object")] 113

def k0c0 : Code := { maxStack := 0, maxLocals := 1, code := object_method_1_code, exceptionTable := #[], attributes := #[] }
def k0m0 : Method := { name := "<init>", desc := "()V", sig := { parameters := [], returnType := none }, accessFlags := 1, code := some k0c0 }
/-- java/lang/Object -/
def k0 : Class := { plain "java/lang/Object" none with
  accessFlags := 33
  interfaces := #[]
  cf := some (fileOf pool0 8 #[] #[{ accessFlags := 1, nameIndex := 5, descriptorIndex := 6, attributes := #[] }] 33 0 #[] #[])
  fields := #[]
  methods := #[k0m0]
  instanceTypes := #[]
  staticTypes := #[]
  resolved := Array.replicate 124 none
  statics := none }

def pool1 : Array CpInfo := pool [(2, .class_ 4), (1, u "java/lang/Object"), (0, u "<init>"), (0, u "()V"), (0, .integer 2147483647), (0, .methodref 9 10), (0, .class_ 11), (0, .nameAndType 12 13), (0, u "java/lang/Math"), (0, u "max"), (0, u "(II)I"), (0, .long 2147483647), (1, .class_ 17), (0, u "com/example/quorum_lease/quorumlease/core/Quorum"), (0, .methodref 16 19), (0, .nameAndType 5 20), (0, u "(I)V"), (0, .methodref 16 22), (0, .nameAndType 23 24), (0, u "isSettled"), (0, u "(II)Z"), (0, .long 2), (1, .class_ 28), (0, u "com/example/quorum_lease/quorumlease/core/QuorumIsSettledPinLaw"), (2, u "law"), (0, u "(III)Z")] 3

def k1m0 : Method := { name := "<init>", desc := "()V", sig := { parameters := [], returnType := none }, accessFlags := 2, code := none }
def k1c1 : Code := { maxStack := 6, maxLocals := 11, code := code, exceptionTable := #[], attributes := #[] }
def k1m1 : Method := { name := "law", desc := "(III)Z", sig := { parameters := [.int, .int, .int], returnType := some .boolean }, accessFlags := 9, code := some k1c1 }
/-- com/example/quorum_lease/quorumlease/core/QuorumIsSettledPinLaw -/
def k1 : Class := { plain "com/example/quorum_lease/quorumlease/core/QuorumIsSettledPinLaw" (some 0) with
  accessFlags := 49
  interfaces := #[]
  cf := some (fileOf pool1 27 #[] #[{ accessFlags := 2, nameIndex := 5, descriptorIndex := 6, attributes := #[] }, { accessFlags := 9, nameIndex := 31, descriptorIndex := 32, attributes := #[] }] 49 2 #[] #[])
  fields := #[]
  methods := #[k1m0, k1m1]
  instanceTypes := #[]
  staticTypes := #[]
  resolved := Array.replicate 36 none
  statics := none }

def pool2 : Array CpInfo := pool [(1, .class_ 2), (0, u "java/lang/Math"), (1, .class_ 6), (1, u "java/lang/Object"), (0, u "<init>"), (0, u "()V"), (89, .class_ 100), (1, u "java/lang/Math$RandomNumberGeneratorHolder"), (71, u "negativeZeroFloatBits"), (0, u "J"), (2, u "negativeZeroDoubleBits"), (21, u "max"), (46, u "$assertionsDisabled"), (0, u "Z"), (88, u "(II)I"), (2, u "twoToTheDoubleScaleDown"), (0, u "D"), (4, u "twoToTheDoubleScaleUp"), (9, u "E"), (3, u "PI"), (2, u "TAU"), (2, u "DEGREES_TO_RADIANS"), (0, u "RADIANS_TO_DEGREES")] 94

def k2m0 : Method := { name := "<init>", desc := "()V", sig := { parameters := [], returnType := none }, accessFlags := 2, code := none }
def k2c1 : Code := { maxStack := 2, maxLocals := 2, code := jdk_29_method_65_code, exceptionTable := #[], attributes := #[] }
def k2m1 : Method := { name := "max", desc := "(II)I", sig := { parameters := [.int, .int], returnType := some .int }, accessFlags := 9, code := some k2c1 }
/-- java/lang/Math -/
def k2 : Class := { plain "java/lang/Math" (some 0) with
  accessFlags := 49
  interfaces := #[]
  cf := some (fileOf pool2 1 #[.nestMembers #[98]] #[{ accessFlags := 2, nameIndex := 7, descriptorIndex := 8, attributes := #[] }, { accessFlags := 9, nameIndex := 198, descriptorIndex := 335, attributes := #[] }] 49 4 #[] #[{ accessFlags := 25, nameIndex := 354, descriptorIndex := 339, attributes := #[] }, { accessFlags := 25, nameIndex := 358, descriptorIndex := 339, attributes := #[] }, { accessFlags := 25, nameIndex := 361, descriptorIndex := 339, attributes := #[] }, { accessFlags := 26, nameIndex := 364, descriptorIndex := 339, attributes := #[] }, { accessFlags := 26, nameIndex := 365, descriptorIndex := 339, attributes := #[] }, { accessFlags := 26, nameIndex := 172, descriptorIndex := 173, attributes := #[] }, { accessFlags := 26, nameIndex := 176, descriptorIndex := 173, attributes := #[] }, { accessFlags := 8, nameIndex := 344, descriptorIndex := 339, attributes := #[] }, { accessFlags := 8, nameIndex := 338, descriptorIndex := 339, attributes := #[] }, { accessFlags := 4120, nameIndex := 245, descriptorIndex := 246, attributes := #[] }])
  fields := #[{ name := "E", type := .double, accessFlags := 25, slot := 0, constantValue := 0 }, { name := "PI", type := .double, accessFlags := 25, slot := 1, constantValue := 0 }, { name := "TAU", type := .double, accessFlags := 25, slot := 2, constantValue := 0 }, { name := "DEGREES_TO_RADIANS", type := .double, accessFlags := 26, slot := 3, constantValue := 0 }, { name := "RADIANS_TO_DEGREES", type := .double, accessFlags := 26, slot := 4, constantValue := 0 }, { name := "negativeZeroFloatBits", type := .long, accessFlags := 26, slot := 5, constantValue := 0 }, { name := "negativeZeroDoubleBits", type := .long, accessFlags := 26, slot := 6, constantValue := 0 }, { name := "twoToTheDoubleScaleUp", type := .double, accessFlags := 8, slot := 7, constantValue := 0 }, { name := "twoToTheDoubleScaleDown", type := .double, accessFlags := 8, slot := 8, constantValue := 0 }, { name := "$assertionsDisabled", type := .boolean, accessFlags := 4120, slot := 9, constantValue := 0 }]
  methods := #[k2m0, k2m1]
  instanceTypes := #[]
  staticTypes := #[.double, .double, .double, .double, .double, .long, .long, .double, .double, .boolean]
  resolved := Array.replicate 460 none
  statics := none }

def pool3 : Array CpInfo := pool [(1, .methodref 2 3), (0, .class_ 4), (0, .nameAndType 5 6), (0, u "java/lang/Object"), (0, u "<init>"), (0, u "()V"), (9, .fieldref 17 18), (0, .class_ 19), (0, .nameAndType 20 21), (0, u "com/example/quorum_lease/quorumlease/core/Quorum"), (0, u "nodes"), (0, u "I"), (0, .methodref 17 23), (0, .nameAndType 24 25), (0, u "majority"), (0, u "()I"), (56, u "DRIFT_FLOOR_NANOS"), (0, u "J"), (15, u "DRIFT_DIVISOR"), (1, u "(I)V"), (3, u "isSettled"), (0, u "(II)Z")] 29

def k3c0 : Code := { maxStack := 3, maxLocals := 2, code := prog_4_method_1_code, exceptionTable := #[], attributes := #[] }
def k3m0 : Method := { name := "<init>", desc := "(I)V", sig := { parameters := [.int], returnType := none }, accessFlags := 1, code := some k3c0 }
def k3c1 : Code := { maxStack := 2, maxLocals := 1, code := prog_4_method_2_code, exceptionTable := #[], attributes := #[] }
def k3m1 : Method := { name := "majority", desc := "()I", sig := { parameters := [], returnType := some .int }, accessFlags := 1, code := some k3c1 }
def k3c2 : Code := { maxStack := 2, maxLocals := 3, code := prog_4_method_3_code, exceptionTable := #[], attributes := #[] }
def k3m2 : Method := { name := "isSettled", desc := "(II)Z", sig := { parameters := [.int, .int], returnType := some .boolean }, accessFlags := 1, code := some k3c2 }
/-- com/example/quorum_lease/quorumlease/core/Quorum -/
def k3 : Class := { plain "com/example/quorum_lease/quorumlease/core/Quorum" (some 0) with
  accessFlags := 49
  interfaces := #[]
  cf := some (fileOf pool3 17 #[] #[{ accessFlags := 1, nameIndex := 5, descriptorIndex := 101, attributes := #[] }, { accessFlags := 1, nameIndex := 24, descriptorIndex := 25, attributes := #[] }, { accessFlags := 1, nameIndex := 105, descriptorIndex := 106, attributes := #[] }] 49 2 #[] #[{ accessFlags := 26, nameIndex := 99, descriptorIndex := 83, attributes := #[] }, { accessFlags := 26, nameIndex := 82, descriptorIndex := 83, attributes := #[] }, { accessFlags := 18, nameIndex := 20, descriptorIndex := 21, attributes := #[] }])
  fields := #[{ name := "DRIFT_DIVISOR", type := .long, accessFlags := 26, slot := 0, constantValue := 0 }, { name := "DRIFT_FLOOR_NANOS", type := .long, accessFlags := 26, slot := 1, constantValue := 0 }, { name := "nodes", type := .int, accessFlags := 18, slot := 0, constantValue := 0 }]
  methods := #[k3m0, k3m1, k3m2]
  instanceTypes := #[.int]
  staticTypes := #[.long, .long]
  resolved := Array.replicate 136 none
  statics := none }

def pool4 : Array CpInfo := pool [(1, u "java/lang/Cloneable"), (0, .class_ 1), (0, u "java/lang/Object"), (0, .class_ 3)] 3

/-- java/lang/Cloneable -/
def k4 : Class := { plain "java/lang/Cloneable" (some 0) with
  accessFlags := 1537
  interfaces := #[]
  cf := some (fileOf pool4 2 #[] #[] 1537 4 #[] #[])
  fields := #[]
  methods := #[]
  instanceTypes := #[]
  staticTypes := #[]
  resolved := Array.replicate 8 none
  statics := none }

def pool5 : Array CpInfo := pool [(1, u "java/io/Serializable"), (0, .class_ 1), (0, u "java/lang/Object"), (0, .class_ 3)] 3

/-- java/io/Serializable -/
def k5 : Class := { plain "java/io/Serializable" (some 0) with
  accessFlags := 1537
  interfaces := #[]
  cf := some (fileOf pool5 2 #[] #[] 1537 4 #[] #[])
  fields := #[]
  methods := #[]
  instanceTypes := #[]
  staticTypes := #[]
  resolved := Array.replicate 8 none
  statics := none }

/-- the primitive byte -/
def k6 : Class := { plain "byte" none with kind := .primitive 'B', accessFlags := 0x411 }
/-- [B -/
def k7 : Class := { plain "[B" (some 0) with kind := .array 6 .byte, interfaces := #[4, 5], accessFlags := 1041 }

/-- the primitive int -/
def k8 : Class := { plain "int" none with kind := .primitive 'I', accessFlags := 0x411 }
/-- [I -/
def k9 : Class := { plain "[I" (some 0) with kind := .array 8 .int, interfaces := #[4, 5], accessFlags := 1041 }

def heap : Heap := #[]
def classes : Array Class := #[k0, k1, k2, k3, k4, k5, k6, k7, k8, k9]
def interned : List (Array UInt16 × Addr) := []
def slotsUsed : Nat := 0
def theMethod : MethodId := ⟨1, 1⟩
def args0 : Array Value := #[.int 5, .int 5, .int 5]
def aboutOver (below : List Frame) : State where
  vm := { classes := classes, interned := interned.toArray }
  heap := heap
  slotsUsed := slotsUsed
  threads := #[{ frames := .invoking theMethod args0 :: below }]
def below0 : List Frame := [.native { method := ⟨0, 0⟩, args := #[] }]
def about1 : State := aboutOver below0
def p0 : Program := .bare "" "" ""
def e0 : Env := launch0.env 0 0 0
theorem w_frames : about1.frames = Frame.invoking theMethod args0 :: below0 := rfl
set_option maxRecDepth 65536 in
theorem w_args : argsFit about1.vm theMethod args0 = true := by decide +kernel
set_option maxRecDepth 65536 in
theorem w_heap : heapFits about1 = true := by decide +kernel
set_option maxRecDepth 65536 in
theorem w_runnable : about1.curStatus? = some .runnable := by decide +kernel
set_option maxRecDepth 65536 in
theorem w_alone : about1.alone = true := by decide +kernel
set_option maxRecDepth 65536 in
theorem w_named : about1.methodNamed? x = some theMethod := by decide +kernel
set_option maxRecDepth 65536 in
theorem w_hears : about1.hears theMethod below0 = true := by decide +kernel
set_option maxRecDepth 65536 in
theorem w_ripe : about1.ripe theMethod args0 below0 = true := by decide +kernel
theorem w_running : about1.status = .running := rfl
set_option maxRecDepth 65536 in
theorem w_room : about1.hasRoom e0.platform room_1 = true :=
  launch0.hasRoom_least _ room_1 (by decide +kernel) (by decide +kernel) (by decide +kernel) (by decide +kernel) (by decide +kernel) (by decide +kernel)
theorem allAtoms_all (ts : List Jvm.Cond) (a : Array Jvm.Value) (st : Jvm.State) : (allAtoms ts).before a st = ts.all (fun c => c.before a st) := by
  induction ts with
  | nil => rfl
  | cons c t ih =>
    show (Jvm.Cond.and c (allAtoms t)).before a st = _
    rw [Jvm.Cond.before_and, ih, List.all_cons]
def words1 : List Jvm.Cond := Jvm.Cond.code x code maxLocals ret :: tables_1
/-- a 'code' word, met by the world's own term for the bytes: nothing is compared byte by byte -/
theorem code_word {y : MethodName} {bytes : ByteArray} {mx : Nat} {rt : Option FieldType} {a : Array Value} {s : State} {m : MethodId} {meth : Method} {c : Code} (h1 : s.methodNamed? y = some m) (h2 : s.vm.method? m = some meth) (h3 : meth.code = some c) (h4 : c.code = bytes)
    (h5 : (c.maxLocals == mx && c.exceptionTable.isEmpty && decide (c.maxStack ≤ mostOperands) && decide (meth.sig.returnType = rt) && !meth.locks && decide (parseMethodDescriptor y.desc = some meth.sig)) = true) : (Jvm.Cond.code y bytes mx rt).before a s = true := by
  simp only [Bool.and_eq_true, beq_iff_eq, Bool.not_eq_true', decide_eq_true_eq] at h5
  obtain ⟨⟨⟨⟨⟨g1, g2⟩, g3⟩, g4⟩, g5⟩, g6⟩ := h5
  simp [Cond.before, Cond.holds, Cond.value, h1, h2, h3, h4, g1, g2, g3, g4, g5, g6]
def isCode : Jvm.Cond → Bool
  | .code _ _ _ _ => true
  | _ => false
theorem all_split {L : List Jvm.Cond} {P : Jvm.Cond → Bool} (h1 : L.all (fun c => isCode c || P c) = true) (h2 : ∀ c ∈ L.filter isCode, P c = true) : L.all P = true := by
  refine List.all_eq_true.mpr fun c hc => ?_
  have h := List.all_eq_true.mp h1 c hc
  rcases Bool.eq_false_or_eq_true (isCode c) with hi | hi
  · exact h2 c (List.mem_filter.mpr ⟨hc, hi⟩)
  · simpa [hi] using h
set_option maxRecDepth 65536 in
theorem w_c0 : (Jvm.Cond.code x code maxLocals ret).before args0 about1 = true := code_word (m := ⟨1, 1⟩) (meth := k1m1) (c := k1c1) (by decide +kernel) rfl rfl rfl (by decide +kernel)
set_option maxRecDepth 65536 in
theorem w_c1 : (Jvm.Cond.code ({ cls := "java/lang/Math", name := "max", desc := "(II)I" } : Jvm.MethodName) jdk_29_method_65_code (2 : Nat) (Option.some Jvm.ClassFile.FieldType.int)).before args0 about1 = true := code_word (m := ⟨2, 1⟩) (meth := k2m1) (c := k2c1) (by decide +kernel) rfl rfl rfl (by decide +kernel)
set_option maxRecDepth 65536 in
theorem w_c2 : (Jvm.Cond.code ({ cls := "com/example/quorum_lease/quorumlease/core/Quorum", name := "<init>", desc := "(I)V" } : Jvm.MethodName) prog_4_method_1_code (2 : Nat) (Option.none : Option Jvm.ClassFile.FieldType)).before args0 about1 = true := code_word (m := ⟨3, 0⟩) (meth := k3m0) (c := k3c0) (by decide +kernel) rfl rfl rfl (by decide +kernel)
set_option maxRecDepth 65536 in
theorem w_c3 : (Jvm.Cond.code ({ cls := "java/lang/Object", name := "<init>", desc := "()V" } : Jvm.MethodName) object_method_1_code (1 : Nat) (Option.none : Option Jvm.ClassFile.FieldType)).before args0 about1 = true := code_word (m := ⟨0, 0⟩) (meth := k0m0) (c := k0c0) (by decide +kernel) rfl rfl rfl (by decide +kernel)
set_option maxRecDepth 65536 in
theorem w_c4 : (Jvm.Cond.code ({ cls := "com/example/quorum_lease/quorumlease/core/Quorum", name := "isSettled", desc := "(II)Z" } : Jvm.MethodName) prog_4_method_3_code (3 : Nat) (Option.some Jvm.ClassFile.FieldType.boolean)).before args0 about1 = true := code_word (m := ⟨3, 2⟩) (meth := k3m2) (c := k3c2) (by decide +kernel) rfl rfl rfl (by decide +kernel)
set_option maxRecDepth 65536 in
theorem w_c5 : (Jvm.Cond.code ({ cls := "com/example/quorum_lease/quorumlease/core/Quorum", name := "majority", desc := "()I" } : Jvm.MethodName) prog_4_method_2_code (1 : Nat) (Option.some Jvm.ClassFile.FieldType.int)).before args0 about1 = true := code_word (m := ⟨3, 1⟩) (meth := k3m1) (c := k3c1) (by decide +kernel) rfl rfl rfl (by decide +kernel)
def codes1 : List Jvm.Cond := [Jvm.Cond.code x code maxLocals ret, Jvm.Cond.code ({ cls := "java/lang/Math", name := "max", desc := "(II)I" } : Jvm.MethodName) jdk_29_method_65_code (2 : Nat) (Option.some Jvm.ClassFile.FieldType.int), Jvm.Cond.code ({ cls := "com/example/quorum_lease/quorumlease/core/Quorum", name := "<init>", desc := "(I)V" } : Jvm.MethodName) prog_4_method_1_code (2 : Nat) (Option.none : Option Jvm.ClassFile.FieldType), Jvm.Cond.code ({ cls := "java/lang/Object", name := "<init>", desc := "()V" } : Jvm.MethodName) object_method_1_code (1 : Nat) (Option.none : Option Jvm.ClassFile.FieldType), Jvm.Cond.code ({ cls := "com/example/quorum_lease/quorumlease/core/Quorum", name := "isSettled", desc := "(II)Z" } : Jvm.MethodName) prog_4_method_3_code (3 : Nat) (Option.some Jvm.ClassFile.FieldType.boolean), Jvm.Cond.code ({ cls := "com/example/quorum_lease/quorumlease/core/Quorum", name := "majority", desc := "()I" } : Jvm.MethodName) prog_4_method_2_code (1 : Nat) (Option.some Jvm.ClassFile.FieldType.int)]
set_option maxRecDepth 65536 in
theorem codes_eq : words1.filter isCode = codes1 := rfl
theorem w_codes : ∀ c ∈ words1.filter isCode, c.before args0 about1 = true := by
  rw [codes_eq]
  intro c hc
  simp only [codes1, List.mem_cons, List.not_mem_nil, or_false] at hc
  rcases hc with rfl | rfl | rfl | rfl | rfl | rfl
  · exact w_c0
  · exact w_c1
  · exact w_c2
  · exact w_c3
  · exact w_c4
  · exact w_c5
set_option maxRecDepth 65536 in
theorem w_t1 : (words1.take 24).all (fun c => isCode c || c.before args0 about1) = true := by decide +kernel
set_option maxRecDepth 65536 in
theorem w_t2 : (words1.drop 24).all (fun c => isCode c || c.before args0 about1) = true := by decide +kernel
theorem w_tables : (allAtoms (Jvm.Cond.code x code maxLocals ret :: tables_1)).before args0 about1 = true := by
  rw [allAtoms_all]
  show words1.all (fun c => c.before args0 about1) = true
  refine all_split ?_ w_codes
  rw [← List.take_append_drop 24 words1, List.all_append, w_t1, w_t2]
  rfl
set_option maxRecDepth 65536 in
theorem w_case : (Jvm.Cond.and given_1 narrow_1).before args0 about1 = true := by decide +kernel
theorem w_applies : (headSpec (Jvm.Cond.code x code maxLocals ret :: tables_1) room_1).applies x e0.platform about1 = true :=
  (Spec.applies_iff w_frames).mpr ⟨w_running, w_runnable, w_alone, w_named, w_hears, w_ripe, w_room, w_tables⟩
theorem atStart : AtStart classFile x code maxLocals ret World_1 tables_1 room_1 Calls_1 rest_1 Pre_1 launch0 p0 e0 about1 theMethod args0 below0 :=
  ⟨lists_1, trivial, launch0.admits_env _ _ _, launch0.least_env, fairChoices_fair.cas, fairChoices_fair.clock, w_frames, w_args, w_heap, w_applies, trivial, trivial, w_case⟩
end start1
theorem witness_1 : WitnessClaimed_1 := ⟨start1.p0, start1.e0, start1.about1, start1.theMethod, start1.args0, start1.below0, start1.atStart⟩
end Jvm.Pilot.@@N@@
