import JvmDerived
import JvmDerived.Pilot.@@N@@Statement
import JvmDerived.Pilot.@@N@@Code
set_option linter.unusedVariables false
set_option linter.unusedSimpArgs false
namespace Jvm.RoadKit
open Sem ClassFile Op Lib Jvm.Stand Jvm.Free Jvm.LawKit
section New
variable {p : Program} {l : Launch} {e : Env} {R : Room} {s : State} {m : MethodId} {args : Array Value} {below : List Frame} {meth : Method} {c : Code} {T : State} {locs : List Loc} {cells slots : Nat}
theorem retI (X : Stand p l e R s m args below meth c T locs cells slots) (hx : p.tables.exec = Jvm.exec) {pc : Nat} {Ls : Array Slot} {z : Int32} {rest : List Value} (hret : meth.sig.returnType = some .int) (hd : decode c.code pc = .ok (.ireturn, 1)) {fs : List Frame}
    (hl : ∀ (f : JFrame) (acts : List Action), f.method = m → f.locked = none → f.entered = [] → (doReturn e (T.setTop f) acts (some (.int z))).1 = T.setFrames fs) : Steps p.tables e below (T.setTop (mkF m pc Ls (.int z :: rest))) (T.setFrames fs) := by
  have hm' : T.vm.method? m = some meth := X.method'
  have hn : narrow .int (.int z) = .int z := rfl
  show Steps p.tables e below (T.setTop { method := m, pc := pc, locals := Ls, stack := _ :: rest, locked := none }) _
  jvm_step X.here [X.here.top, hx, hd, hm', hret, hn]
  first | (intro acts; rw [hl _ acts rfl rfl rfl]) | rw [hl _ _ rfl rfl rfl]
  exact Steps.refl _
end New
end Jvm.RoadKit
namespace Jvm.Pilot.@@N@@
open Jvm Jvm.ClassFile Sem Op Lib Jvm.Free Jvm.Stand Jvm.LawKit Jvm.RoadKit Bundle Jvm.Pilot.@@N@@.Jvm.D
theorem own_keep_ext {h h' : Heap} (K : Keep h h' []) : Ext h h' := ⟨K.1, fun a c q => K.2.1 a c q nin0⟩
theorem own_sta_keep {Z : State} {h h' : Heap} {C n d K : String} {a : Addr} {v : Value} (F : Sta Z h C n d v) (Kp : Keep h h' [a]) (E : Exa Z h a K) : Sta Z h' C n d v := by
  obtain ⟨cf, i, k, f, st, cell, h1, h2, h3, h4, h5, h6, h7⟩ := F
  obtain ⟨cell', k', g1, -, -, g4, -⟩ := E
  have ne : st ≠ a := by
    intro q
    subst q
    rw [h5] at g1
    cases g1
    rw [h6] at g4
    cases g4
  exact ⟨cf, i, k, f, st, cell, h1, h2, h3, h4, Kp.2.1 st cell h5 (ninS ne nin0), h6, h7⟩
theorem d2_0 : decode jdk_30_method_1_code 0 = .ok (.aload_n 0, 1) := by decide +kernel
theorem d2_1 : decode jdk_30_method_1_code 1 = .ok (.invokespecial 1, 3) := by decide +kernel
theorem d2_4 : decode jdk_30_method_1_code 4 = .ok (.return_, 1) := by decide +kernel
theorem pn0 : plainName "java/lang/Record" = true := by first | (simp [plainName, overriddenIn]; done) | decide +kernel
theorem ef_rm_rec (m : MethodId) (ra : Addr) : entryFrame m #[(.ref ra)] 1 = mkF m 0 #[.val (.ref ra)] [] := by first | (simp [entryFrame, mkF, argsToLocals, Value.category]; done) | rfl
def Q_rm_rec (Z : State) (ra : Addr) (h0 : Heap) (n0 : Nat) (v : Option Value) (h : Heap) (L : List Loc) : Prop := v = none ∧ Fr n0 L ∧ h = h0
set_option maxRecDepth 65536 in
set_option maxHeartbeats 40000000 in
theorem rm_rec (l : Launch) (Z : State) (a0 : Array Value) (hw : ∀ d ∈ tables_1, d.before a0 Z = true) (ws : List Jvm.Cond) (ra : Addr) (h0 : Heap) (n0 : Nat) (Z0 : n0 ≤ h0.size) :
    MetFree l (⟨"java/lang/Record", "<init>", "()V"⟩ : MethodName) (head1 (Jvm.Cond.code (⟨"java/lang/Record", "<init>", "()V"⟩ : MethodName) jdk_30_method_1_code 1 none :: ws) ({ frames := 1, cells := 0, slots := 0, locals := 12 } : Room)) (fun a U => a = #[(.ref ra)] ∧ Z.Warmed39 U.vm ∧ U.heap = h0) (fun _ _ _ _ _ => True) (fun _ U o U' => ∃ v L, o = .returned v ∧ Q_rm_rec Z ra h0 n0 v U'.heap L ∧ FrameEnd U o U' L ({ frames := 1, cells := 0, slots := 0, locals := 12 } : Room).cells ({ frames := 1, cells := 0, slots := 0, locals := 12 } : Room).slots) := by
  refine MetFree.of_bodySF (plainFor_of_name pn0) hisR ?_
  intro p e s m args below meth c s₁ Bd hml0 hP hK
  obtain ⟨rfl, hZ, hh⟩ := hP
  have hx := Bd.exec
  have hby := Bd.bytes
  have hml : c.maxLocals = 1 := hml0
  have hown : s.vm.findClass "java/lang/Record" = some m.cls := findClass_of_methodNamed Bd.named
  have hnm := (name_of_methodNamed Bd.named Bd.method).1
  have X0 : Stand p l e ({ frames := 1, cells := 0, slots := 0, locals := 12 } : Room) s m #[(.ref ra)] below meth c s₁ [] 0 0 := Stand.of_body Bd
  have e0 : s₁.heap = h0 := by rw [← hh, Bd.state]; rfl
  have N0 := Fr.nil n0
  have pre0 : ∀ t, Steps p.tables e below (s₁.setTop (mkF m 0 #[.val (.ref ra)] [])) t → Steps p.tables e below (s₁.setTop (entryFrame m #[(.ref ra)] 1)) t := fun t k => castTop (ef_rm_rec m ra) k
  have pre1 : ∀ t, Steps p.tables e below (s₁.setTop (mkF m 1 #[.val (.ref ra)] [(.ref ra)])) t → Steps p.tables e below (s₁.setTop (entryFrame m #[(.ref ra)] 1)) t := by
    intro t k
    refine pre0 t ?_
    refine XS.aloadN X0.here hx rfl (hb hby d2_0) rfl rfl ?_
    show Steps p.tables e below (s₁.setTop (mkF m 1 #[.val (.ref ra)] [(.ref ra)])) _
    exact k
  obtain ⟨T2, X2, e2, st2⟩ := initO X0 hx hZ hown (hw _ (List.mem_of_getElem? (i := 14) rfl)) (hw _ (List.mem_of_getElem? (i := 15) rfl)) (hw _ (List.mem_of_getElem? (i := 16) rfl)) e0 (g := (mkF m 1 #[.val (.ref ra)] [(.ref ra)])) rfl (by rw [hml]; rfl) rfl (hb hby d2_1) (by decide) (W := 0) (by show 2 * 0 + _ ≤ _; exact Nat.le_of_eq rfl) (by decide)
  have pre3 : ∀ t, Steps p.tables e below (T2.setTop (mkF m 4 #[.val (.ref ra)] [])) t → Steps p.tables e below (s₁.setTop (entryFrame m #[(.ref ra)] 1)) t := fun t k => pre1 t (st2 t k)
  obtain ⟨fs, hr, hrun, hended, hW, hsame⟩ := X2.leave (v := none) (fun _ => rfl)
  refine ⟨_, _, pre3 _ ?_, hrun, hended, _, _, rfl, ?_, ⟨_, rfl⟩, hW, hsame.mono (by decide) (by decide)⟩
  · exact X2.returnOut hx Bd.returns (hb hby d2_4) hr
  · show Q_rm_rec Z ra h0 n0 _ T2.heap _
    rw [e2]
    exact ⟨rfl, N0, rfl⟩
theorem d1_0 : decode prog_10_method_1_code 0 = .ok (.aload_n 0, 1) := by decide +kernel
theorem d1_1 : decode prog_10_method_1_code 1 = .ok (.invokespecial 1, 3) := by decide +kernel
theorem pd0 : parseMethodDescriptor "()V" = some ⟨[], none⟩ := by decide +kernel
theorem d1_4 : decode prog_10_method_1_code 4 = .ok (.aload_n 0, 1) := by decide +kernel
theorem d1_5 : decode prog_10_method_1_code 5 = .ok (.lload_n 1, 1) := by decide +kernel
theorem d1_6 : decode prog_10_method_1_code 6 = .ok (.putfield 7, 3) := by decide +kernel
theorem d1_9 : decode prog_10_method_1_code 9 = .ok (.aload_n 0, 1) := by decide +kernel
theorem d1_10 : decode prog_10_method_1_code 10 = .ok (.iload_n 3, 1) := by decide +kernel
theorem d1_11 : decode prog_10_method_1_code 11 = .ok (.putfield 13, 3) := by decide +kernel
theorem d1_14 : decode prog_10_method_1_code 14 = .ok (.return_, 1) := by decide +kernel
theorem pn1 : plainName "com/example/narrow_gate/narrowgate/algorithm/Stamp" = true := by first | (simp [plainName, overriddenIn]; done) | decide +kernel
theorem ef_rm_init (m : MethodId) (ra : Addr) (xt : Int64) (xn : Int32) : entryFrame m #[(.ref ra), (.long xt), (.int xn)] 4 = mkF m 0 #[.val (.ref ra), .val (.long xt), .second, .val (.int xn)] [] := by first | (simp [entryFrame, mkF, argsToLocals, Value.category]; done) | rfl
def Q_rm_init (Z : State) (ra : Addr) (xt : Int64) (xn : Int32) (h0 : Heap) (n0 : Nat) (v : Option Value) (h : Heap) (L : List Loc) : Prop := v = none ∧ Fr n0 L ∧ Keep h0 h [ra] ∧ Exa Z h ra "com/example/narrow_gate/narrowgate/algorithm/Stamp" ∧ Fld Z h ra "com/example/narrow_gate/narrowgate/algorithm/Stamp" "time" "J" (.long xt) ∧ Fld Z h ra "com/example/narrow_gate/narrowgate/algorithm/Stamp" "node" "I" (.int xn)
set_option maxRecDepth 65536 in
set_option maxHeartbeats 40000000 in
theorem rm_init (l : Launch) (Z : State) (a0 : Array Value) (hw : ∀ d ∈ tables_1, d.before a0 Z = true) (ws : List Jvm.Cond) (ra : Addr) (xt : Int64) (xn : Int32) (h0 : Heap) (n0 : Nat) (Z0 : n0 ≤ h0.size) (E_ra : Exa Z h0 ra "com/example/narrow_gate/narrowgate/algorithm/Stamp") (g_ra : n0 ≤ ra) (F_time_ra : Fld Z h0 ra "com/example/narrow_gate/narrowgate/algorithm/Stamp" "time" "J" (.long (0 : Int64))) (F_node_ra : Fld Z h0 ra "com/example/narrow_gate/narrowgate/algorithm/Stamp" "node" "I" (.int (0 : Int32))) :
    MetFree l (⟨"com/example/narrow_gate/narrowgate/algorithm/Stamp", "<init>", "(JI)V"⟩ : MethodName) (head1 (Jvm.Cond.code (⟨"com/example/narrow_gate/narrowgate/algorithm/Stamp", "<init>", "(JI)V"⟩ : MethodName) prog_10_method_1_code 4 none :: ws) ({ frames := 2, cells := 0, slots := 0, locals := 24 } : Room)) (fun a U => a = #[(.ref ra), (.long xt), (.int xn)] ∧ Z.Warmed39 U.vm ∧ U.heap = h0) (fun _ _ _ _ _ => True) (fun _ U o U' => ∃ v L, o = .returned v ∧ Q_rm_init Z ra xt xn h0 n0 v U'.heap L ∧ FrameEnd U o U' L ({ frames := 2, cells := 0, slots := 0, locals := 24 } : Room).cells ({ frames := 2, cells := 0, slots := 0, locals := 24 } : Room).slots) := by
  refine MetFree.of_bodySF (plainFor_of_name pn1) hisR ?_
  intro p e s m args below meth c s₁ Bd hml0 hP hK
  obtain ⟨rfl, hZ, hh⟩ := hP
  have hx := Bd.exec
  have hby := Bd.bytes
  have hml : c.maxLocals = 4 := hml0
  have hown : s.vm.findClass "com/example/narrow_gate/narrowgate/algorithm/Stamp" = some m.cls := findClass_of_methodNamed Bd.named
  have hnm := (name_of_methodNamed Bd.named Bd.method).1
  have X0 : Stand p l e ({ frames := 2, cells := 0, slots := 0, locals := 24 } : Room) s m #[(.ref ra), (.long xt), (.int xn)] below meth c s₁ [] 0 0 := Stand.of_body Bd
  have e0 : s₁.heap = h0 := by rw [← hh, Bd.state]; rfl
  have N0 := Fr.nil n0
  have pre0 : ∀ t, Steps p.tables e below (s₁.setTop (mkF m 0 #[.val (.ref ra), .val (.long xt), .second, .val (.int xn)] [])) t → Steps p.tables e below (s₁.setTop (entryFrame m #[(.ref ra), (.long xt), (.int xn)] 4)) t := fun t k => castTop (ef_rm_init m ra xt xn) k
  have pre1 : ∀ t, Steps p.tables e below (s₁.setTop (mkF m 1 #[.val (.ref ra), .val (.long xt), .second, .val (.int xn)] [(.ref ra)])) t → Steps p.tables e below (s₁.setTop (entryFrame m #[(.ref ra), (.long xt), (.int xn)] 4)) t := by
    intro t k
    refine pre0 t ?_
    refine XS.aloadN X0.here hx rfl (hb hby d1_0) rfl rfl ?_
    show Steps p.tables e below (s₁.setTop (mkF m 1 #[.val (.ref ra), .val (.long xt), .second, .val (.int xn)] [(.ref ra)])) _
    exact k
  obtain ⟨_, _, ⟨T2, L2, k2, n2⟩, -, X2, ⟨Lc2, hQ2, l2, y2, z2⟩, st2⟩ := X0.specialBack hx (y := (⟨"java/lang/Record", "<init>", "()V"⟩ : MethodName)) rfl hown (mvT hZ (hw _ (List.mem_of_getElem? (i := 9) rfl))) (mvT hZ (hw _ (List.mem_of_getElem? (i := 10) rfl))) (mvT hZ (hw _ (List.mem_of_getElem? (i := 13) rfl))) (by decide) (backOf (W := 0) (rm_rec l Z a0 hw [] ra h0 n0 Z0 ) hZ (hw _ (List.mem_of_getElem? (i := 13) rfl)) (hw _ (List.mem_of_getElem? (i := 12) rfl)) (by decide) (by decide)) (g := (mkF m 1 #[.val (.ref ra), .val (.long xt), .second, .val (.int xn)] [(.ref ra)])) rfl (by rw [hml]; rfl) (Steps.refl _) (a := ra) (argsL := []) (rest := []) (lenOf pd0 rfl) rfl (by show 2 * 0 + _ ≤ _; exact Nat.le_of_eq rfl) (hb hby d1_1) (fun _ _ => ⟨rfl, e0, (by decide : 0 + 0 ≤ _), (by decide : 0 + 0 ≤ _)⟩)
  dsimp only [Pt.U, Pt.locs, Pt.cells, Pt.slots] at X2 l2 y2 z2 st2 hQ2
  subst l2 y2 z2
  obtain ⟨rfl, M2, e2⟩ := hQ2
  have N2 := Fr.app N0 M2
  have pre3 : ∀ t, Steps p.tables e below (T2.setTop (mkF m 4 #[.val (.ref ra), .val (.long xt), .second, .val (.int xn)] [])) t → Steps p.tables e below (s₁.setTop (entryFrame m #[(.ref ra), (.long xt), (.int xn)] 4)) t := fun t k => pre1 t (st2.trans k)
  have pre4 : ∀ t, Steps p.tables e below (T2.setTop (mkF m 6 #[.val (.ref ra), .val (.long xt), .second, .val (.int xn)] [(.long xt), (.ref ra)])) t → Steps p.tables e below (s₁.setTop (entryFrame m #[(.ref ra), (.long xt), (.int xn)] 4)) t := by
    intro t k
    refine pre3 t ?_
    refine XS.aloadN X2.here hx rfl (hb hby d1_4) rfl rfl ?_
    show Steps p.tables e below (T2.setTop (mkF m 5 #[.val (.ref ra), .val (.long xt), .second, .val (.int xn)] [(.ref ra)])) _
    refine XS.lloadN X2.here hx rfl (hb hby d1_5) rfl ?_
    show Steps p.tables e below (T2.setTop (mkF m 6 #[.val (.ref ra), .val (.long xt), .second, .val (.int xn)] [(.long xt), (.ref ra)])) _
    exact k
  obtain ⟨T5, h5, X5, e5, W5, st5⟩ := putF X2 hx hZ hown (host := "") (Or.inl (hw _ (List.mem_of_getElem? (i := 17) rfl))) Via.refl e2 F_time_ra E_ra (Or.inr ⟨(hw _ (List.mem_of_getElem? (i := 18) rfl)), rfl, hnm⟩) (hw _ (List.mem_of_getElem? (i := 4) rfl)) (ty := .long) (by decide) rfl rfl (g := (mkF m 6 #[.val (.ref ra), .val (.long xt), .second, .val (.int xn)] [(.long xt), (.ref ra)])) rfl rfl (hb hby d1_6)
  have K5 : Keep h0 h5 [ra] := (Keep.refl h0 [ra]).wr W5 (Or.inl (by simp))
  have z5 : n0 ≤ h5.size := Nat.le_trans Z0 K5.1
  have N5 := Fr.snoc X5 N2 g_ra
  have Fw5 := F_time_ra.same W5
  have pre6 : ∀ t, Steps p.tables e below (T5.setTop (mkF m 9 #[.val (.ref ra), .val (.long xt), .second, .val (.int xn)] [])) t → Steps p.tables e below (s₁.setTop (entryFrame m #[(.ref ra), (.long xt), (.int xn)] 4)) t := fun t k => pre4 t (st5 t k)
  have pre7 : ∀ t, Steps p.tables e below (T5.setTop (mkF m 11 #[.val (.ref ra), .val (.long xt), .second, .val (.int xn)] [(.int xn), (.ref ra)])) t → Steps p.tables e below (s₁.setTop (entryFrame m #[(.ref ra), (.long xt), (.int xn)] 4)) t := by
    intro t k
    refine pre6 t ?_
    refine XS.aloadN X5.here hx rfl (hb hby d1_9) rfl rfl ?_
    show Steps p.tables e below (T5.setTop (mkF m 10 #[.val (.ref ra), .val (.long xt), .second, .val (.int xn)] [(.ref ra)])) _
    refine XS.iloadN X5.here hx rfl (hb hby d1_10) rfl ?_
    show Steps p.tables e below (T5.setTop (mkF m 11 #[.val (.ref ra), .val (.long xt), .second, .val (.int xn)] [(.int xn), (.ref ra)])) _
    exact k
  have f8 := (E_ra.wr W5)
  have f9 := (F_node_ra.other W5 (Or.inr (slot_ne (Or.inr (hw _ (List.mem_of_getElem? (i := 20) rfl))) (Or.inr (hw _ (List.mem_of_getElem? (i := 18) rfl))) (by decide) (t := .int) (t' := .long) (by decide) (by decide))))
  obtain ⟨T10, h10, X10, e10, W10, st10⟩ := putF X5 hx hZ hown (host := "") (Or.inl (hw _ (List.mem_of_getElem? (i := 19) rfl))) Via.refl e5 f9 f8 (Or.inr ⟨(hw _ (List.mem_of_getElem? (i := 20) rfl)), rfl, hnm⟩) (hw _ (List.mem_of_getElem? (i := 4) rfl)) (ty := .int) (by decide) rfl rfl (g := (mkF m 11 #[.val (.ref ra), .val (.long xt), .second, .val (.int xn)] [(.int xn), (.ref ra)])) rfl rfl (hb hby d1_11)
  have K10 : Keep h0 h10 [ra] := K5.wr W10 (Or.inl (by simp))
  have z10 : n0 ≤ h10.size := Nat.le_trans Z0 K10.1
  have N10 := Fr.snoc X10 N5 g_ra
  have Fw10 := f9.same W10
  have pre11 : ∀ t, Steps p.tables e below (T10.setTop (mkF m 14 #[.val (.ref ra), .val (.long xt), .second, .val (.int xn)] [])) t → Steps p.tables e below (s₁.setTop (entryFrame m #[(.ref ra), (.long xt), (.int xn)] 4)) t := fun t k => pre7 t (st10 t k)
  obtain ⟨fs, hr, hrun, hended, hW, hsame⟩ := X10.leave (v := none) (fun _ => rfl)
  refine ⟨_, _, pre11 _ ?_, hrun, hended, _, _, rfl, ?_, ⟨_, rfl⟩, hW, hsame.mono (by decide) (by decide)⟩
  · exact X10.returnOut hx Bd.returns (hb hby d1_14) hr
  · show Q_rm_init Z ra xt xn h0 n0 _ T10.heap _
    rw [e10]
    exact ⟨rfl, N10, K10, (f8.wr W10), (Fw5.other W10 (Or.inr (slot_ne (Or.inr (hw _ (List.mem_of_getElem? (i := 18) rfl))) (Or.inr (hw _ (List.mem_of_getElem? (i := 20) rfl))) (by decide) (t := .long) (t' := .int) (by decide) (by decide)))), Fw10⟩
theorem d4_0 : decode prog_10_method_4_code 0 = .ok (.aload_n 0, 1) := by decide +kernel
theorem d4_1 : decode prog_10_method_4_code 1 = .ok (.getfield 7, 3) := by decide +kernel
theorem d4_4 : decode prog_10_method_4_code 4 = .ok (.iload_n 1, 1) := by decide +kernel
theorem d4_5 : decode prog_10_method_4_code 5 = .ok (.i2l, 1) := by decide +kernel
theorem d4_6 : decode prog_10_method_4_code 6 = .ok (.lconst 1, 1) := by decide +kernel
theorem d4_7 : decode prog_10_method_4_code 7 = .ok (.ladd, 1) := by decide +kernel
theorem d4_8 : decode prog_10_method_4_code 8 = .ok (.lmul, 1) := by decide +kernel
theorem d4_9 : decode prog_10_method_4_code 9 = .ok (.aload_n 0, 1) := by decide +kernel
theorem d4_10 : decode prog_10_method_4_code 10 = .ok (.getfield 13, 3) := by decide +kernel
theorem d4_13 : decode prog_10_method_4_code 13 = .ok (.i2l, 1) := by decide +kernel
theorem d4_14 : decode prog_10_method_4_code 14 = .ok (.ladd, 1) := by decide +kernel
theorem d4_15 : decode prog_10_method_4_code 15 = .ok (.lreturn, 1) := by decide +kernel
theorem ef_rm_fence (m : MethodId) (ra : Addr) (xh : Int32) : entryFrame m #[(.ref ra), (.int xh)] 2 = mkF m 0 #[.val (.ref ra), .val (.int xh)] [] := by first | (simp [entryFrame, mkF, argsToLocals, Value.category]; done) | rfl
def Q_rm_fence (Z : State) (ra : Addr) (xh : Int32) (xt : Int64) (xn : Int32) (h0 : Heap) (n0 : Nat) (v : Option Value) (h : Heap) (L : List Loc) : Prop := v = some (.long ((xt * ((xh.toInt64) + (1 : Int64))) + (xn.toInt64))) ∧ Fr n0 L ∧ h = h0
set_option maxRecDepth 65536 in
set_option maxHeartbeats 40000000 in
theorem rm_fence (l : Launch) (Z : State) (a0 : Array Value) (hw : ∀ d ∈ tables_1, d.before a0 Z = true) (ws : List Jvm.Cond) (ra : Addr) (xh : Int32) (xt : Int64) (xn : Int32) (h0 : Heap) (n0 : Nat) (Z0 : n0 ≤ h0.size) (F1 : Fld Z h0 ra "com/example/narrow_gate/narrowgate/algorithm/Stamp" "time" "J" (.long xt)) (F2 : Fld Z h0 ra "com/example/narrow_gate/narrowgate/algorithm/Stamp" "node" "I" (.int xn)) :
    MetFree l (⟨"com/example/narrow_gate/narrowgate/algorithm/Stamp", "fence", "(I)J"⟩ : MethodName) (head1 (Jvm.Cond.code (⟨"com/example/narrow_gate/narrowgate/algorithm/Stamp", "fence", "(I)J"⟩ : MethodName) prog_10_method_4_code 2 (some .long) :: ws) ({ frames := 0, cells := 0, slots := 0, locals := 0 } : Room)) (fun a U => a = #[(.ref ra), (.int xh)] ∧ Z.Warmed39 U.vm ∧ U.heap = h0) (fun _ _ _ _ _ => True) (fun _ U o U' => ∃ v L, o = .returned v ∧ Q_rm_fence Z ra xh xt xn h0 n0 v U'.heap L ∧ FrameEnd U o U' L ({ frames := 0, cells := 0, slots := 0, locals := 0 } : Room).cells ({ frames := 0, cells := 0, slots := 0, locals := 0 } : Room).slots) := by
  refine MetFree.of_bodySF (plainFor_of_name pn1) hisR ?_
  intro p e s m args below meth c s₁ Bd hml0 hP hK
  obtain ⟨rfl, hZ, hh⟩ := hP
  have hx := Bd.exec
  have hby := Bd.bytes
  have hml : c.maxLocals = 2 := hml0
  have hown : s.vm.findClass "com/example/narrow_gate/narrowgate/algorithm/Stamp" = some m.cls := findClass_of_methodNamed Bd.named
  have hnm := (name_of_methodNamed Bd.named Bd.method).1
  have X0 : Stand p l e ({ frames := 0, cells := 0, slots := 0, locals := 0 } : Room) s m #[(.ref ra), (.int xh)] below meth c s₁ [] 0 0 := Stand.of_body Bd
  have e0 : s₁.heap = h0 := by rw [← hh, Bd.state]; rfl
  have N0 := Fr.nil n0
  have pre0 : ∀ t, Steps p.tables e below (s₁.setTop (mkF m 0 #[.val (.ref ra), .val (.int xh)] [])) t → Steps p.tables e below (s₁.setTop (entryFrame m #[(.ref ra), (.int xh)] 2)) t := fun t k => castTop (ef_rm_fence m ra xh) k
  have pre1 : ∀ t, Steps p.tables e below (s₁.setTop (mkF m 1 #[.val (.ref ra), .val (.int xh)] [(.ref ra)])) t → Steps p.tables e below (s₁.setTop (entryFrame m #[(.ref ra), (.int xh)] 2)) t := by
    intro t k
    refine pre0 t ?_
    refine XS.aloadN X0.here hx rfl (hb hby d4_0) rfl rfl ?_
    show Steps p.tables e below (s₁.setTop (mkF m 1 #[.val (.ref ra), .val (.int xh)] [(.ref ra)])) _
    exact k
  obtain ⟨T2, X2, e2, st2⟩ := getF X0 hx hZ hown (host := "") (Or.inl (hw _ (List.mem_of_getElem? (i := 17) rfl))) Via.refl e0 F1 (g := (mkF m 1 #[.val (.ref ra), .val (.int xh)] [(.ref ra)])) rfl rfl (hb hby d4_1)
  have pre3 : ∀ t, Steps p.tables e below (T2.setTop (mkF m 4 #[.val (.ref ra), .val (.int xh)] [(.long xt)])) t → Steps p.tables e below (s₁.setTop (entryFrame m #[(.ref ra), (.int xh)] 2)) t := fun t k => pre1 t (st2 t k)
  have pre4 : ∀ t, Steps p.tables e below (T2.setTop (mkF m 10 #[.val (.ref ra), .val (.int xh)] [(.ref ra), (.long (xt * ((xh.toInt64) + (1 : Int64))))])) t → Steps p.tables e below (s₁.setTop (entryFrame m #[(.ref ra), (.int xh)] 2)) t := by
    intro t k
    refine pre3 t ?_
    refine XS.iloadN X2.here hx rfl (hb hby d4_4) rfl ?_
    show Steps p.tables e below (T2.setTop (mkF m 5 #[.val (.ref ra), .val (.int xh)] [(.int xh), (.long xt)])) _
    refine XS.i2l X2.here hx rfl (hb hby d4_5) rfl ?_
    show Steps p.tables e below (T2.setTop (mkF m 6 #[.val (.ref ra), .val (.int xh)] [(.long (xh.toInt64)), (.long xt)])) _
    refine XS.lconst X2.here hx rfl (hb hby d4_6) ?_
    show Steps p.tables e below (T2.setTop (mkF m 7 #[.val (.ref ra), .val (.int xh)] [(.long (1 : Int64)), (.long (xh.toInt64)), (.long xt)])) _
    refine XS.ladd X2.here hx rfl (hb hby d4_7) rfl ?_
    show Steps p.tables e below (T2.setTop (mkF m 8 #[.val (.ref ra), .val (.int xh)] [(.long ((xh.toInt64) + (1 : Int64))), (.long xt)])) _
    refine XS.lmul X2.here hx rfl (hb hby d4_8) rfl ?_
    show Steps p.tables e below (T2.setTop (mkF m 9 #[.val (.ref ra), .val (.int xh)] [(.long (xt * ((xh.toInt64) + (1 : Int64))))])) _
    refine XS.aloadN X2.here hx rfl (hb hby d4_9) rfl rfl ?_
    show Steps p.tables e below (T2.setTop (mkF m 10 #[.val (.ref ra), .val (.int xh)] [(.ref ra), (.long (xt * ((xh.toInt64) + (1 : Int64))))])) _
    exact k
  obtain ⟨T5, X5, e5, st5⟩ := getF X2 hx hZ hown (host := "") (Or.inl (hw _ (List.mem_of_getElem? (i := 19) rfl))) Via.refl e2 F2 (g := (mkF m 10 #[.val (.ref ra), .val (.int xh)] [(.ref ra), (.long (xt * ((xh.toInt64) + (1 : Int64))))])) rfl rfl (hb hby d4_10)
  have pre6 : ∀ t, Steps p.tables e below (T5.setTop (mkF m 13 #[.val (.ref ra), .val (.int xh)] [(.int xn), (.long (xt * ((xh.toInt64) + (1 : Int64))))])) t → Steps p.tables e below (s₁.setTop (entryFrame m #[(.ref ra), (.int xh)] 2)) t := fun t k => pre4 t (st5 t k)
  have pre7 : ∀ t, Steps p.tables e below (T5.setTop (mkF m 15 #[.val (.ref ra), .val (.int xh)] [(.long ((xt * ((xh.toInt64) + (1 : Int64))) + (xn.toInt64)))])) t → Steps p.tables e below (s₁.setTop (entryFrame m #[(.ref ra), (.int xh)] 2)) t := by
    intro t k
    refine pre6 t ?_
    refine XS.i2l X5.here hx rfl (hb hby d4_13) rfl ?_
    show Steps p.tables e below (T5.setTop (mkF m 14 #[.val (.ref ra), .val (.int xh)] [(.long (xn.toInt64)), (.long (xt * ((xh.toInt64) + (1 : Int64))))])) _
    refine XS.ladd X5.here hx rfl (hb hby d4_14) rfl ?_
    show Steps p.tables e below (T5.setTop (mkF m 15 #[.val (.ref ra), .val (.int xh)] [(.long ((xt * ((xh.toInt64) + (1 : Int64))) + (xn.toInt64)))])) _
    exact k
  obtain ⟨fs, hr, hrun, hended, hW, hsame⟩ := X5.leave (v := some (.long ((xt * ((xh.toInt64) + (1 : Int64))) + (xn.toInt64)))) (fun h => by rw [Bd.returns] at h; cases h)
  refine ⟨_, _, pre7 _ ?_, hrun, hended, _, _, rfl, ?_, ⟨_, rfl⟩, hW, hsame.mono (by decide) (by decide)⟩
  · exact retOut X5 hx Bd.returns rfl (Or.inr (Or.inl ⟨rfl, rfl, _, rfl⟩)) (hb hby d4_15) hr
  · show Q_rm_fence Z ra xh xt xn h0 n0 _ T5.heap _
    rw [e5]
    exact ⟨rfl, N0, rfl⟩
theorem own_mul (T1 T2 N1 N2 H : Int) (h0 : 0 ≤ N1) (h1 : N1 < H) (h2 : 0 ≤ N2) (h3 : N2 < H) (h : T1 < T2) : T1 * H + N1 < T2 * H + N2 := by
  have : (T1 + 1) * H ≤ T2 * H := Int.mul_le_mul_of_nonneg_right (by omega) (by omega)
  rw [Int.add_mul] at this
  omega
theorem own_rem (xa : Int32) (hh : Int32) (hp : Int64) (h0 : 0 ≤ hh.toInt) (hhp : hp = ((hh.toInt64) + (1 : Int64))) :
    0 ≤ (((xa.toInt64) &&& (2147483647 : Int64)) - (((xa.toInt64) &&& (2147483647 : Int64)) / hp) * hp).toInt32.toInt ∧ (((xa.toInt64) &&& (2147483647 : Int64)) - (((xa.toInt64) &&& (2147483647 : Int64)) / hp) * hp).toInt32.toInt ≤ hh.toInt := by
  have e1 : hp.toInt = hh.toInt + 1 := by
    subst hhp
    have := rng32 hh
    have := c_i2l hh
    have := rng64 (hh.toInt64)
    have : (1 : Int64).toInt = 1 := rfl
    have := c_ladd hh.toInt64 (1 : Int64)
    have := rng64 (hh.toInt64 + (1 : Int64))
    omega
  rw [lrem_mod]
  generalize hz : ((xa.toInt64) &&& (2147483647 : Int64)) = z
  have z0 : 0 ≤ z.toInt := by
    rw [← hz, c_maskL _ (2147483647 : Int64) 31 (by decide) (by decide +kernel)]
    omega
  have r1 := rng32 hh
  have m1 : (z % hp).toInt = z.toInt % (hh.toInt + 1) := by rw [Int64.toInt_mod, Int.tmod_eq_emod_of_nonneg z0, e1]
  have m2 := Int.emod_nonneg z.toInt (show hh.toInt + 1 ≠ 0 by omega)
  have m3 := Int.emod_lt_of_pos z.toInt (show 0 < hh.toInt + 1 by omega)
  have m4 := c_l2i (z % hp)
  have m5 := rng32 (z % hp).toInt32
  omega
theorem own_hp (xh hh : Int32) (hp : Int64) (h1 : hh = (xh &&& (2147483647 : Int32))) (h2 : hp = ((hh.toInt64) + (1 : Int64))) : 0 ≤ hh.toInt ∧ hp.toInt = hh.toInt + 1 ∧ ¬ (hp = (0 : Int64)) ∧ ¬ (hp = (-1 : Int64)) := by
  have e0 : hh.toInt = xh.toInt % 2147483648 := by rw [h1]; exact c_mask xh (2147483647 : Int32) 31 (by decide) (by decide +kernel)
  clear h1
  subst h2
  have := rng32 hh
  have := c_i2l hh
  have := rng64 (hh.toInt64)
  have : (1 : Int64).toInt = 1 := rfl
  have := c_ladd hh.toInt64 (1 : Int64)
  have := rng64 (hh.toInt64 + (1 : Int64))
  have : (0 : Int64).toInt = 0 := rfl
  have : (-1 : Int64).toInt = -1 := rfl
  simp only [← Int64.toInt_inj]
  omega
theorem own_t (x y : Int64) (h : y = (x &&& (4294967295 : Int64))) : 0 ≤ y.toInt ∧ y.toInt < 4294967296 := by
  rw [h, c_maskL _ (4294967295 : Int64) 32 (by decide) (by decide +kernel)]
  omega
theorem own_f (xt : Int64) (xn xh : Int32) (t0 : 0 ≤ xt.toInt ∧ xt.toInt < 4294967296) (h0 : 0 ≤ xh.toInt) (n0 : 0 ≤ xn.toInt ∧ xn.toInt ≤ xh.toInt) : ((xt * ((xh.toInt64) + (1 : Int64))) + (xn.toInt64)).toInt = xt.toInt * (xh.toInt + 1) + xn.toInt := by
  have := rng64 xt
  have := rng32 xh
  have := c_i2l xh
  have := rng64 (xh.toInt64)
  have : (1 : Int64).toInt = 1 := rfl
  have := c_ladd xh.toInt64 (1 : Int64)
  have := rng64 (xh.toInt64 + (1 : Int64))
  have := c_lmul xt (xh.toInt64 + (1 : Int64))
  have := rng64 (xt * (xh.toInt64 + (1 : Int64)))
  have := rng32 xn
  have := c_i2l xn
  have := rng64 (xn.toInt64)
  have := c_ladd (xt * (xh.toInt64 + (1 : Int64))) xn.toInt64
  have := rng64 ((xt * (xh.toInt64 + (1 : Int64))) + xn.toInt64)
  have e1 : ((xh.toInt64) + (1 : Int64)).toInt = xh.toInt + 1 := by omega
  have m1 := c_lmul xt ((xh.toInt64) + (1 : Int64))
  rw [e1] at m1
  have q0 : 0 ≤ xt.toInt * (xh.toInt + 1) := Int.mul_nonneg (by omega) (by omega)
  have q1 : xt.toInt * (xh.toInt + 1) ≤ xt.toInt * 2147483648 := Int.mul_le_mul_of_nonneg_left (by omega) (by omega)
  omega
theorem own_back (xt ff hp : Int64) (xn xh : Int32) (t0 : 0 ≤ xt.toInt ∧ xt.toInt < 4294967296) (h0 : 0 ≤ xh.toInt) (n0 : 0 ≤ xn.toInt ∧ xn.toInt ≤ xh.toInt) (hf : ff = ((xt * ((xh.toInt64) + (1 : Int64))) + (xn.toInt64))) (e1 : hp.toInt = xh.toInt + 1) (hm : ¬ (hp = (-1 : Int64))) :
    ¬ (ff < (0 : Int64)) ∧ (ff / hp) = xt ∧ (ff - (ff / hp) * hp) = (xn.toInt64) := by
  have k := own_f xt xn xh t0 h0 n0
  rw [← hf] at k
  have q0 : 0 ≤ xt.toInt * (xh.toInt + 1) := Int.mul_nonneg (by omega) (by omega)
  have hz : (0 : Int64).toInt = 0 := rfl
  have f0 : 0 ≤ ff.toInt := by omega
  refine ⟨by rw [Int64.lt_iff_toInt_lt]; omega, ?_, ?_⟩
  · apply Int64.toInt_inj.mp
    rw [(c_ldiv ff hp _ e1 hm).1 f0, k, Int.add_comm, Int.add_mul_ediv_right _ _ (by omega), Int.ediv_eq_zero_of_lt (by omega) (by omega), Int.zero_add]
  · apply Int64.toInt_inj.mp
    rw [(c_lrem ff hp _ e1).1 f0, k, Int.add_comm, Int.add_mul_emod_self_right, Int.emod_eq_of_lt (by omega) (by omega), c_i2l]
theorem own_cmp (t1 t2 f1 f2 : Int64) (n1 n2 xh : Int32) (a0 : 0 ≤ t1.toInt ∧ t1.toInt < 4294967296) (b0 : 0 ≤ t2.toInt ∧ t2.toInt < 4294967296) (h0 : 0 ≤ xh.toInt) (a1 : 0 ≤ n1.toInt ∧ n1.toInt ≤ xh.toInt) (b1 : 0 ≤ n2.toInt ∧ n2.toInt ≤ xh.toInt) (hf1 : f1 = ((t1 * ((xh.toInt64) + (1 : Int64))) + (n1.toInt64))) (hf2 : f2 = ((t2 * ((xh.toInt64) + (1 : Int64))) + (n2.toInt64))) :
    (f1 < f2 ↔ (t1 < t2 ∨ (t1 = t2 ∧ n1 < n2))) ∧ (f1 = f2 ↔ (t1 = t2 ∧ n1 = n2)) := by
  have k1 := own_f t1 n1 xh a0 h0 a1
  have k2 := own_f t2 n2 xh b0 h0 b1
  rw [← hf1] at k1
  rw [← hf2] at k2
  simp only [Int64.lt_iff_toInt_lt, Int32.lt_iff_toInt_lt, ← Int64.toInt_inj, ← Int32.toInt_inj]
  have u1 := own_mul t1.toInt t2.toInt n1.toInt n2.toInt (xh.toInt + 1) (by omega) (by omega) (by omega) (by omega)
  have u2 := own_mul t2.toInt t1.toInt n2.toInt n1.toInt (xh.toInt + 1) (by omega) (by omega) (by omega) (by omega)
  have u3 : t1.toInt = t2.toInt → t1.toInt * (xh.toInt + 1) = t2.toInt * (xh.toInt + 1) := fun q => by rw [q]
  omega
theorem own_t2 (xb t1 v : Int64) (P : Prop) [Decidable P] (a0 : 0 ≤ t1.toInt ∧ t1.toInt < 4294967296) (hv : v = (if P then (xb &&& (4294967295 : Int64)) else t1)) : 0 ≤ v.toInt ∧ v.toInt < 4294967296 := by
  rw [hv]
  split
  · exact own_t xb _ rfl
  · exact a0
theorem own_n2 (xb hh n1 v : Int32) (hp : Int64) (P : Prop) [Decidable P] (h0 : 0 ≤ hh.toInt) (hhp : hp = ((hh.toInt64) + (1 : Int64))) (a0 : 0 ≤ n1.toInt ∧ n1.toInt ≤ hh.toInt) (hv : v = (if P then (((xb.toInt64) &&& (2147483647 : Int64)) - (((xb.toInt64) &&& (2147483647 : Int64)) / hp) * hp).toInt32 else n1)) : 0 ≤ v.toInt ∧ v.toInt ≤ hh.toInt := by
  rw [hv]
  split
  · exact own_rem xb hh hp h0 hhp
  · exact a0
theorem pd1 : parseMethodDescriptor "(JI)V" = some ⟨[.long, .int], none⟩ := by decide +kernel
theorem pd2 : parseMethodDescriptor "(I)J" = some ⟨[.int], some .long⟩ := by decide +kernel
theorem pn2 : plainName "com/example/narrow_gate/narrowgate/algorithm/StampFencePinLaw" = true := by first | (simp [plainName, overriddenIn]; done) | decide +kernel
theorem own_fin1 (P A B D : Prop) [Decidable P] [Decidable A] [Decidable B] [Decidable D] (v w : Int32) (_u : True) (h : P ↔ (A ∨ (B ∧ D))) (hv : v = (if P then (1 : Int32) else (0 : Int32))) (hw : w = (if A then (1 : Int32) else (if B then (if D then (1 : Int32) else (0 : Int32)) else (0 : Int32)))) : v = w := by
  rw [hv, hw]
  by_cases a : A <;> by_cases b : B <;> by_cases d : D <;> simp [h, a, b, d]
theorem own_fin2 (P B D : Prop) [Decidable P] [Decidable B] [Decidable D] (v w : Int32) (h : P ↔ (B ∧ D)) (hv : v = (if P then (1 : Int32) else (0 : Int32))) (hw : w = (if B then (if D then (1 : Int32) else (0 : Int32)) else (0 : Int32))) : v = w := by
  rw [hv, hw]
  by_cases b : B <;> by_cases d : D <;> simp [h, b, d]
theorem ef_rm0 (m : MethodId) (xta : Int64) (xna : Int32) (xtb : Int64) (xnb : Int32) (xh : Int32) (xsel : Int32) : entryFrame m #[(.long xta), (.int xna), (.long xtb), (.int xnb), (.int xh), (.int xsel)] maxLocals = mkF m 0 #[.val (.long xta), .second, .val (.int xna), .val (.long xtb), .second, .val (.int xnb), .val (.int xh), .val (.int xsel), .unset, .unset, .unset, .unset, .unset, .unset, .unset, .unset, .unset, .unset, .unset, .unset, .unset, .unset, .unset, .unset, .unset] [] := by first | (simp [entryFrame, mkF, argsToLocals, Value.category, maxLocals]; done) | rfl
def Q_rm0 (Z : State) (xta : Int64) (xna : Int32) (xtb : Int64) (xnb : Int32) (xh : Int32) (xsel : Int32) (h0 : Heap) (n0 : Nat) (v : Option Value) (h : Heap) (L : List Loc) : Prop := v = some (.int (1 : Int32)) ∧ Fr n0 L
set_option maxRecDepth 65536 in
set_option maxHeartbeats 40000000 in
theorem rm0 (l : Launch) (Z : State) (a0 : Array Value) (hw : ∀ d ∈ tables_1, d.before a0 Z = true) (ws : List Jvm.Cond) (xta : Int64) (xna : Int32) (xtb : Int64) (xnb : Int32) (xh : Int32) (xsel : Int32) (h0 : Heap) (n0 : Nat) (Z0 : n0 ≤ h0.size) :
    MetFree l x (head1 (Jvm.Cond.code x code maxLocals ret :: ws) room_1) (fun a U => a = #[(.long xta), (.int xna), (.long xtb), (.int xnb), (.int xh), (.int xsel)] ∧ Z.Warmed39 U.vm ∧ U.heap = h0) (fun _ _ _ _ _ => True) (fun _ U o U' => ∃ v L, o = .returned v ∧ Q_rm0 Z xta xna xtb xnb xh xsel h0 n0 v U'.heap L ∧ FrameEnd U o U' L room_1.cells room_1.slots) := by
  refine MetFree.of_bodySF (plainFor_of_name pn2) hisR ?_
  intro p e s m args below meth c s₁ Bd hml0 hP hK
  obtain ⟨rfl, hZ, hh⟩ := hP
  have hx := Bd.exec
  have hby := Bd.bytes
  have hml : c.maxLocals = 25 := hml0
  have hown : s.vm.findClass "com/example/narrow_gate/narrowgate/algorithm/StampFencePinLaw" = some m.cls := findClass_of_methodNamed Bd.named
  have hnm := (name_of_methodNamed Bd.named Bd.method).1
  have X0 : Stand p l e room_1 s m #[(.long xta), (.int xna), (.long xtb), (.int xnb), (.int xh), (.int xsel)] below meth c s₁ [] 0 0 := Stand.of_body Bd
  have e0 : s₁.heap = h0 := by rw [← hh, Bd.state]; rfl
  have N0 := Fr.nil n0
  have pre0 : ∀ t, Steps p.tables e below (s₁.setTop (mkF m 0 #[.val (.long xta), .second, .val (.int xna), .val (.long xtb), .second, .val (.int xnb), .val (.int xh), .val (.int xsel), .unset, .unset, .unset, .unset, .unset, .unset, .unset, .unset, .unset, .unset, .unset, .unset, .unset, .unset, .unset, .unset, .unset] [])) t → Steps p.tables e below (s₁.setTop (entryFrame m #[(.long xta), (.int xna), (.long xtb), (.int xnb), (.int xh), (.int xsel)] maxLocals)) t := fun t k => castTop (ef_rm0 m xta xna xtb xnb xh xsel) k
  have pre1 : ∀ t, Steps p.tables e below (s₁.setTop (mkF m 7 #[.val (.long xta), .second, .val (.int xna), .val (.long xtb), .second, .val (.int xnb), .val (.int xh), .val (.int xsel), .val (.int (xh &&& (2147483647 : Int32))), .unset, .unset, .unset, .unset, .unset, .unset, .unset, .unset, .unset, .unset, .unset, .unset, .unset, .unset, .unset, .unset] [])) t → Steps p.tables e below (s₁.setTop (entryFrame m #[(.long xta), (.int xna), (.long xtb), (.int xnb), (.int xh), (.int xsel)] maxLocals)) t := by
    intro t k
    refine pre0 t ?_
    refine XS.iload X0.here hx rfl (hb hby at_0) rfl ?_
    show Steps p.tables e below (s₁.setTop (mkF m 2 #[.val (.long xta), .second, .val (.int xna), .val (.long xtb), .second, .val (.int xnb), .val (.int xh), .val (.int xsel), .unset, .unset, .unset, .unset, .unset, .unset, .unset, .unset, .unset, .unset, .unset, .unset, .unset, .unset, .unset, .unset, .unset] [(.int xh)])) _
    refine X0.ldcInt hx hown (mvT hZ (hw _ (List.mem_of_getElem? (i := 0) rfl))) (g := (mkF m 2 #[.val (.long xta), .second, .val (.int xna), .val (.long xtb), .second, .val (.int xnb), .val (.int xh), .val (.int xsel), .unset, .unset, .unset, .unset, .unset, .unset, .unset, .unset, .unset, .unset, .unset, .unset, .unset, .unset, .unset, .unset, .unset] [(.int xh)])) rfl (hb hby at_2) _ ?_
    show Steps p.tables e below (s₁.setTop (mkF m 4 #[.val (.long xta), .second, .val (.int xna), .val (.long xtb), .second, .val (.int xnb), .val (.int xh), .val (.int xsel), .unset, .unset, .unset, .unset, .unset, .unset, .unset, .unset, .unset, .unset, .unset, .unset, .unset, .unset, .unset, .unset, .unset] [(.int (2147483647 : Int32)), (.int xh)])) _
    refine XS.iand X0.here hx rfl (hb hby at_4) rfl ?_
    show Steps p.tables e below (s₁.setTop (mkF m 5 #[.val (.long xta), .second, .val (.int xna), .val (.long xtb), .second, .val (.int xnb), .val (.int xh), .val (.int xsel), .unset, .unset, .unset, .unset, .unset, .unset, .unset, .unset, .unset, .unset, .unset, .unset, .unset, .unset, .unset, .unset, .unset] [(.int (xh &&& (2147483647 : Int32)))])) _
    refine XS.istore X0.here hx rfl (hb hby at_5) rfl (l' := #[.val (.long xta), .second, .val (.int xna), .val (.long xtb), .second, .val (.int xnb), .val (.int xh), .val (.int xsel), .val (.int (xh &&& (2147483647 : Int32))), .unset, .unset, .unset, .unset, .unset, .unset, .unset, .unset, .unset, .unset, .unset, .unset, .unset, .unset, .unset, .unset]) rfl ?_
    show Steps p.tables e below (s₁.setTop (mkF m 7 #[.val (.long xta), .second, .val (.int xna), .val (.long xtb), .second, .val (.int xnb), .val (.int xh), .val (.int xsel), .val (.int (xh &&& (2147483647 : Int32))), .unset, .unset, .unset, .unset, .unset, .unset, .unset, .unset, .unset, .unset, .unset, .unset, .unset, .unset, .unset, .unset] [])) _
    exact k
  obtain ⟨hh, hhh⟩ : ∃ z : Int32, z = (xh &&& (2147483647 : Int32)) := ⟨_, rfl⟩
  rw [← hhh] at pre1
  have pre2 : ∀ t, Steps p.tables e below (s₁.setTop (mkF m 14 #[.val (.long xta), .second, .val (.int xna), .val (.long xtb), .second, .val (.int xnb), .val (.int xh), .val (.int xsel), .val (.int hh), .val (.long ((hh.toInt64) + (1 : Int64))), .second, .unset, .unset, .unset, .unset, .unset, .unset, .unset, .unset, .unset, .unset, .unset, .unset, .unset, .unset] [])) t → Steps p.tables e below (s₁.setTop (entryFrame m #[(.long xta), (.int xna), (.long xtb), (.int xnb), (.int xh), (.int xsel)] maxLocals)) t := by
    intro t k
    refine pre1 t ?_
    refine XS.iload X0.here hx rfl (hb hby at_7) rfl ?_
    show Steps p.tables e below (s₁.setTop (mkF m 9 #[.val (.long xta), .second, .val (.int xna), .val (.long xtb), .second, .val (.int xnb), .val (.int xh), .val (.int xsel), .val (.int hh), .unset, .unset, .unset, .unset, .unset, .unset, .unset, .unset, .unset, .unset, .unset, .unset, .unset, .unset, .unset, .unset] [(.int hh)])) _
    refine XS.i2l X0.here hx rfl (hb hby at_9) rfl ?_
    show Steps p.tables e below (s₁.setTop (mkF m 10 #[.val (.long xta), .second, .val (.int xna), .val (.long xtb), .second, .val (.int xnb), .val (.int xh), .val (.int xsel), .val (.int hh), .unset, .unset, .unset, .unset, .unset, .unset, .unset, .unset, .unset, .unset, .unset, .unset, .unset, .unset, .unset, .unset] [(.long (hh.toInt64))])) _
    refine XS.lconst X0.here hx rfl (hb hby at_10) ?_
    show Steps p.tables e below (s₁.setTop (mkF m 11 #[.val (.long xta), .second, .val (.int xna), .val (.long xtb), .second, .val (.int xnb), .val (.int xh), .val (.int xsel), .val (.int hh), .unset, .unset, .unset, .unset, .unset, .unset, .unset, .unset, .unset, .unset, .unset, .unset, .unset, .unset, .unset, .unset] [(.long (1 : Int64)), (.long (hh.toInt64))])) _
    refine XS.ladd X0.here hx rfl (hb hby at_11) rfl ?_
    show Steps p.tables e below (s₁.setTop (mkF m 12 #[.val (.long xta), .second, .val (.int xna), .val (.long xtb), .second, .val (.int xnb), .val (.int xh), .val (.int xsel), .val (.int hh), .unset, .unset, .unset, .unset, .unset, .unset, .unset, .unset, .unset, .unset, .unset, .unset, .unset, .unset, .unset, .unset] [(.long ((hh.toInt64) + (1 : Int64)))])) _
    refine XS.lstore X0.here hx rfl (hb hby at_12) rfl (l' := #[.val (.long xta), .second, .val (.int xna), .val (.long xtb), .second, .val (.int xnb), .val (.int xh), .val (.int xsel), .val (.int hh), .val (.long ((hh.toInt64) + (1 : Int64))), .second, .unset, .unset, .unset, .unset, .unset, .unset, .unset, .unset, .unset, .unset, .unset, .unset, .unset, .unset]) rfl ?_
    show Steps p.tables e below (s₁.setTop (mkF m 14 #[.val (.long xta), .second, .val (.int xna), .val (.long xtb), .second, .val (.int xnb), .val (.int xh), .val (.int xsel), .val (.int hh), .val (.long ((hh.toInt64) + (1 : Int64))), .second, .unset, .unset, .unset, .unset, .unset, .unset, .unset, .unset, .unset, .unset, .unset, .unset, .unset, .unset] [])) _
    exact k
  obtain ⟨hp, hhp⟩ : ∃ z : Int64, z = ((hh.toInt64) + (1 : Int64)) := ⟨_, rfl⟩
  rw [← hhp] at pre2
  have pre3 : ∀ t, Steps p.tables e below (s₁.setTop (mkF m 21 #[.val (.long xta), .second, .val (.int xna), .val (.long xtb), .second, .val (.int xnb), .val (.int xh), .val (.int xsel), .val (.int hh), .val (.long hp), .second, .val (.long (xta &&& (4294967295 : Int64))), .second, .unset, .unset, .unset, .unset, .unset, .unset, .unset, .unset, .unset, .unset, .unset, .unset] [])) t → Steps p.tables e below (s₁.setTop (entryFrame m #[(.long xta), (.int xna), (.long xtb), (.int xnb), (.int xh), (.int xsel)] maxLocals)) t := by
    intro t k
    refine pre2 t ?_
    refine XS.lloadN X0.here hx rfl (hb hby at_14) rfl ?_
    show Steps p.tables e below (s₁.setTop (mkF m 15 #[.val (.long xta), .second, .val (.int xna), .val (.long xtb), .second, .val (.int xnb), .val (.int xh), .val (.int xsel), .val (.int hh), .val (.long hp), .second, .unset, .unset, .unset, .unset, .unset, .unset, .unset, .unset, .unset, .unset, .unset, .unset, .unset, .unset] [(.long xta)])) _
    refine X0.ldc2Long hx hown (mvT hZ (hw _ (List.mem_of_getElem? (i := 1) rfl))) (g := (mkF m 15 #[.val (.long xta), .second, .val (.int xna), .val (.long xtb), .second, .val (.int xnb), .val (.int xh), .val (.int xsel), .val (.int hh), .val (.long hp), .second, .unset, .unset, .unset, .unset, .unset, .unset, .unset, .unset, .unset, .unset, .unset, .unset, .unset, .unset] [(.long xta)])) rfl (hb hby at_15) _ ?_
    show Steps p.tables e below (s₁.setTop (mkF m 18 #[.val (.long xta), .second, .val (.int xna), .val (.long xtb), .second, .val (.int xnb), .val (.int xh), .val (.int xsel), .val (.int hh), .val (.long hp), .second, .unset, .unset, .unset, .unset, .unset, .unset, .unset, .unset, .unset, .unset, .unset, .unset, .unset, .unset] [(.long (4294967295 : Int64)), (.long xta)])) _
    refine XS.land X0.here hx rfl (hb hby at_18) rfl ?_
    show Steps p.tables e below (s₁.setTop (mkF m 19 #[.val (.long xta), .second, .val (.int xna), .val (.long xtb), .second, .val (.int xnb), .val (.int xh), .val (.int xsel), .val (.int hh), .val (.long hp), .second, .unset, .unset, .unset, .unset, .unset, .unset, .unset, .unset, .unset, .unset, .unset, .unset, .unset, .unset] [(.long (xta &&& (4294967295 : Int64)))])) _
    refine XS.lstore X0.here hx rfl (hb hby at_19) rfl (l' := #[.val (.long xta), .second, .val (.int xna), .val (.long xtb), .second, .val (.int xnb), .val (.int xh), .val (.int xsel), .val (.int hh), .val (.long hp), .second, .val (.long (xta &&& (4294967295 : Int64))), .second, .unset, .unset, .unset, .unset, .unset, .unset, .unset, .unset, .unset, .unset, .unset, .unset]) rfl ?_
    show Steps p.tables e below (s₁.setTop (mkF m 21 #[.val (.long xta), .second, .val (.int xna), .val (.long xtb), .second, .val (.int xnb), .val (.int xh), .val (.int xsel), .val (.int hh), .val (.long hp), .second, .val (.long (xta &&& (4294967295 : Int64))), .second, .unset, .unset, .unset, .unset, .unset, .unset, .unset, .unset, .unset, .unset, .unset, .unset] [])) _
    exact k
  obtain ⟨t1, ht1⟩ : ∃ z : Int64, z = (xta &&& (4294967295 : Int64)) := ⟨_, rfl⟩
  rw [← ht1] at pre3
  have pre4 : ∀ t, Steps p.tables e below (s₁.setTop (mkF m 33 #[.val (.long xta), .second, .val (.int xna), .val (.long xtb), .second, .val (.int xnb), .val (.int xh), .val (.int xsel), .val (.int hh), .val (.long hp), .second, .val (.long t1), .second, .val (.int ((((xna.toInt64) &&& (2147483647 : Int64)) - (((xna.toInt64) &&& (2147483647 : Int64)) / hp) * hp).toInt32)), .unset, .unset, .unset, .unset, .unset, .unset, .unset, .unset, .unset, .unset, .unset] [])) t → Steps p.tables e below (s₁.setTop (entryFrame m #[(.long xta), (.int xna), (.long xtb), (.int xnb), (.int xh), (.int xsel)] maxLocals)) t := by
    intro t k
    refine pre3 t ?_
    refine XS.iloadN X0.here hx rfl (hb hby at_21) rfl ?_
    show Steps p.tables e below (s₁.setTop (mkF m 22 #[.val (.long xta), .second, .val (.int xna), .val (.long xtb), .second, .val (.int xnb), .val (.int xh), .val (.int xsel), .val (.int hh), .val (.long hp), .second, .val (.long t1), .second, .unset, .unset, .unset, .unset, .unset, .unset, .unset, .unset, .unset, .unset, .unset, .unset] [(.int xna)])) _
    refine XS.i2l X0.here hx rfl (hb hby at_22) rfl ?_
    show Steps p.tables e below (s₁.setTop (mkF m 23 #[.val (.long xta), .second, .val (.int xna), .val (.long xtb), .second, .val (.int xnb), .val (.int xh), .val (.int xsel), .val (.int hh), .val (.long hp), .second, .val (.long t1), .second, .unset, .unset, .unset, .unset, .unset, .unset, .unset, .unset, .unset, .unset, .unset, .unset] [(.long (xna.toInt64))])) _
    refine X0.ldc2Long hx hown (mvT hZ (hw _ (List.mem_of_getElem? (i := 2) rfl))) (g := (mkF m 23 #[.val (.long xta), .second, .val (.int xna), .val (.long xtb), .second, .val (.int xnb), .val (.int xh), .val (.int xsel), .val (.int hh), .val (.long hp), .second, .val (.long t1), .second, .unset, .unset, .unset, .unset, .unset, .unset, .unset, .unset, .unset, .unset, .unset, .unset] [(.long (xna.toInt64))])) rfl (hb hby at_23) _ ?_
    show Steps p.tables e below (s₁.setTop (mkF m 26 #[.val (.long xta), .second, .val (.int xna), .val (.long xtb), .second, .val (.int xnb), .val (.int xh), .val (.int xsel), .val (.int hh), .val (.long hp), .second, .val (.long t1), .second, .unset, .unset, .unset, .unset, .unset, .unset, .unset, .unset, .unset, .unset, .unset, .unset] [(.long (2147483647 : Int64)), (.long (xna.toInt64))])) _
    refine XS.land X0.here hx rfl (hb hby at_26) rfl ?_
    show Steps p.tables e below (s₁.setTop (mkF m 27 #[.val (.long xta), .second, .val (.int xna), .val (.long xtb), .second, .val (.int xnb), .val (.int xh), .val (.int xsel), .val (.int hh), .val (.long hp), .second, .val (.long t1), .second, .unset, .unset, .unset, .unset, .unset, .unset, .unset, .unset, .unset, .unset, .unset, .unset] [(.long ((xna.toInt64) &&& (2147483647 : Int64)))])) _
    refine XS.lload X0.here hx rfl (hb hby at_27) rfl ?_
    show Steps p.tables e below (s₁.setTop (mkF m 29 #[.val (.long xta), .second, .val (.int xna), .val (.long xtb), .second, .val (.int xnb), .val (.int xh), .val (.int xsel), .val (.int hh), .val (.long hp), .second, .val (.long t1), .second, .unset, .unset, .unset, .unset, .unset, .unset, .unset, .unset, .unset, .unset, .unset, .unset] [(.long hp), (.long ((xna.toInt64) &&& (2147483647 : Int64)))])) _
    refine XS.lrem X0.here hx rfl (hb hby at_29) rfl (own_hp xh hh hp hhh hhp).2.2.1 ?_
    show Steps p.tables e below (s₁.setTop (mkF m 30 #[.val (.long xta), .second, .val (.int xna), .val (.long xtb), .second, .val (.int xnb), .val (.int xh), .val (.int xsel), .val (.int hh), .val (.long hp), .second, .val (.long t1), .second, .unset, .unset, .unset, .unset, .unset, .unset, .unset, .unset, .unset, .unset, .unset, .unset] [(.long (((xna.toInt64) &&& (2147483647 : Int64)) - (((xna.toInt64) &&& (2147483647 : Int64)) / hp) * hp))])) _
    refine XS.l2i X0.here hx rfl (hb hby at_30) rfl ?_
    show Steps p.tables e below (s₁.setTop (mkF m 31 #[.val (.long xta), .second, .val (.int xna), .val (.long xtb), .second, .val (.int xnb), .val (.int xh), .val (.int xsel), .val (.int hh), .val (.long hp), .second, .val (.long t1), .second, .unset, .unset, .unset, .unset, .unset, .unset, .unset, .unset, .unset, .unset, .unset, .unset] [(.int ((((xna.toInt64) &&& (2147483647 : Int64)) - (((xna.toInt64) &&& (2147483647 : Int64)) / hp) * hp).toInt32))])) _
    refine XS.istore X0.here hx rfl (hb hby at_31) rfl (l' := #[.val (.long xta), .second, .val (.int xna), .val (.long xtb), .second, .val (.int xnb), .val (.int xh), .val (.int xsel), .val (.int hh), .val (.long hp), .second, .val (.long t1), .second, .val (.int ((((xna.toInt64) &&& (2147483647 : Int64)) - (((xna.toInt64) &&& (2147483647 : Int64)) / hp) * hp).toInt32)), .unset, .unset, .unset, .unset, .unset, .unset, .unset, .unset, .unset, .unset, .unset]) rfl ?_
    show Steps p.tables e below (s₁.setTop (mkF m 33 #[.val (.long xta), .second, .val (.int xna), .val (.long xtb), .second, .val (.int xnb), .val (.int xh), .val (.int xsel), .val (.int hh), .val (.long hp), .second, .val (.long t1), .second, .val (.int ((((xna.toInt64) &&& (2147483647 : Int64)) - (((xna.toInt64) &&& (2147483647 : Int64)) / hp) * hp).toInt32)), .unset, .unset, .unset, .unset, .unset, .unset, .unset, .unset, .unset, .unset, .unset] [])) _
    exact k
  obtain ⟨n1, hn1⟩ : ∃ z : Int32, z = ((((xna.toInt64) &&& (2147483647 : Int64)) - (((xna.toInt64) &&& (2147483647 : Int64)) / hp) * hp).toInt32) := ⟨_, rfl⟩
  rw [← hn1] at pre4
  have pre5 : ∀ t, Steps p.tables e below (s₁.setTop (mkF m 37 #[.val (.long xta), .second, .val (.int xna), .val (.long xtb), .second, .val (.int xnb), .val (.int xh), .val (.int xsel), .val (.int hh), .val (.long hp), .second, .val (.long t1), .second, .val (.int n1), .unset, .unset, .unset, .unset, .unset, .unset, .unset, .unset, .unset, .unset, .unset] [(.int (xsel &&& (1 : Int32)))])) t → Steps p.tables e below (s₁.setTop (entryFrame m #[(.long xta), (.int xna), (.long xtb), (.int xnb), (.int xh), (.int xsel)] maxLocals)) t := by
    intro t k
    refine pre4 t ?_
    refine XS.iload X0.here hx rfl (hb hby at_33) rfl ?_
    show Steps p.tables e below (s₁.setTop (mkF m 35 #[.val (.long xta), .second, .val (.int xna), .val (.long xtb), .second, .val (.int xnb), .val (.int xh), .val (.int xsel), .val (.int hh), .val (.long hp), .second, .val (.long t1), .second, .val (.int n1), .unset, .unset, .unset, .unset, .unset, .unset, .unset, .unset, .unset, .unset, .unset] [(.int xsel)])) _
    refine XS.iconst X0.here hx rfl (hb hby at_35) ?_
    show Steps p.tables e below (s₁.setTop (mkF m 36 #[.val (.long xta), .second, .val (.int xna), .val (.long xtb), .second, .val (.int xnb), .val (.int xh), .val (.int xsel), .val (.int hh), .val (.long hp), .second, .val (.long t1), .second, .val (.int n1), .unset, .unset, .unset, .unset, .unset, .unset, .unset, .unset, .unset, .unset, .unset] [(.int (1 : Int32)), (.int xsel)])) _
    refine XS.iand X0.here hx rfl (hb hby at_36) rfl ?_
    show Steps p.tables e below (s₁.setTop (mkF m 37 #[.val (.long xta), .second, .val (.int xna), .val (.long xtb), .second, .val (.int xnb), .val (.int xh), .val (.int xsel), .val (.int hh), .val (.long hp), .second, .val (.long t1), .second, .val (.int n1), .unset, .unset, .unset, .unset, .unset, .unset, .unset, .unset, .unset, .unset, .unset] [(.int (xsel &&& (1 : Int32)))])) _
    exact k
  obtain ⟨v37, hv37⟩ : ∃ z : Int64, z = (if (xsel &&& (1 : Int32)) = (0 : Int32) then (xtb &&& (4294967295 : Int64)) else t1) := ⟨_, rfl⟩
  have pre6 : ∀ t, Steps p.tables e below (s₁.setTop (mkF m 50 #[.val (.long xta), .second, .val (.int xna), .val (.long xtb), .second, .val (.int xnb), .val (.int xh), .val (.int xsel), .val (.int hh), .val (.long hp), .second, .val (.long t1), .second, .val (.int n1), .unset, .unset, .unset, .unset, .unset, .unset, .unset, .unset, .unset, .unset, .unset] [(.long v37)])) t → Steps p.tables e below (s₁.setTop (entryFrame m #[(.long xta), (.int xna), (.long xtb), (.int xnb), (.int xh), (.int xsel)] maxLocals)) t := by
    intro t k
    refine pre5 t ?_
    by_cases hc37 : (xsel &&& (1 : Int32)) = (0 : Int32)
    · refine XS.ifYes X0.here hx rfl (pc0 := 37) (pc' := 45) rfl (hb hby at_37) rfl ((if0 _ _).trans (teq hc37).1) (by decide) (by decide) ?_
      show Steps p.tables e below (s₁.setTop (mkF m 45 #[.val (.long xta), .second, .val (.int xna), .val (.long xtb), .second, .val (.int xnb), .val (.int xh), .val (.int xsel), .val (.int hh), .val (.long hp), .second, .val (.long t1), .second, .val (.int n1), .unset, .unset, .unset, .unset, .unset, .unset, .unset, .unset, .unset, .unset, .unset] [])) _
      refine XS.lloadN X0.here hx rfl (hb hby at_45) rfl ?_
      show Steps p.tables e below (s₁.setTop (mkF m 46 #[.val (.long xta), .second, .val (.int xna), .val (.long xtb), .second, .val (.int xnb), .val (.int xh), .val (.int xsel), .val (.int hh), .val (.long hp), .second, .val (.long t1), .second, .val (.int n1), .unset, .unset, .unset, .unset, .unset, .unset, .unset, .unset, .unset, .unset, .unset] [(.long xtb)])) _
      refine X0.ldc2Long hx hown (mvT hZ (hw _ (List.mem_of_getElem? (i := 1) rfl))) (g := (mkF m 46 #[.val (.long xta), .second, .val (.int xna), .val (.long xtb), .second, .val (.int xnb), .val (.int xh), .val (.int xsel), .val (.int hh), .val (.long hp), .second, .val (.long t1), .second, .val (.int n1), .unset, .unset, .unset, .unset, .unset, .unset, .unset, .unset, .unset, .unset, .unset] [(.long xtb)])) rfl (hb hby at_46) _ ?_
      show Steps p.tables e below (s₁.setTop (mkF m 49 #[.val (.long xta), .second, .val (.int xna), .val (.long xtb), .second, .val (.int xnb), .val (.int xh), .val (.int xsel), .val (.int hh), .val (.long hp), .second, .val (.long t1), .second, .val (.int n1), .unset, .unset, .unset, .unset, .unset, .unset, .unset, .unset, .unset, .unset, .unset] [(.long (4294967295 : Int64)), (.long xtb)])) _
      refine XS.land X0.here hx rfl (hb hby at_49) rfl ?_
      show Steps p.tables e below (s₁.setTop (mkF m 50 #[.val (.long xta), .second, .val (.int xna), .val (.long xtb), .second, .val (.int xnb), .val (.int xh), .val (.int xsel), .val (.int hh), .val (.long hp), .second, .val (.long t1), .second, .val (.int n1), .unset, .unset, .unset, .unset, .unset, .unset, .unset, .unset, .unset, .unset, .unset] [(.long (xtb &&& (4294967295 : Int64)))])) _
      rw [show v37 = (xtb &&& (4294967295 : Int64)) from by rw [hv37, if_pos hc37]] at k
      exact k
    · refine XS.ifNo X0.here hx rfl (hb hby at_37) rfl ((if0 _ _).trans (feq hc37).1) ?_
      show Steps p.tables e below (s₁.setTop (mkF m 40 #[.val (.long xta), .second, .val (.int xna), .val (.long xtb), .second, .val (.int xnb), .val (.int xh), .val (.int xsel), .val (.int hh), .val (.long hp), .second, .val (.long t1), .second, .val (.int n1), .unset, .unset, .unset, .unset, .unset, .unset, .unset, .unset, .unset, .unset, .unset] [])) _
      refine XS.lload X0.here hx rfl (hb hby at_40) rfl ?_
      show Steps p.tables e below (s₁.setTop (mkF m 42 #[.val (.long xta), .second, .val (.int xna), .val (.long xtb), .second, .val (.int xnb), .val (.int xh), .val (.int xsel), .val (.int hh), .val (.long hp), .second, .val (.long t1), .second, .val (.int n1), .unset, .unset, .unset, .unset, .unset, .unset, .unset, .unset, .unset, .unset, .unset] [(.long t1)])) _
      refine XS.goto X0.here hx rfl (pc0 := 42) (pc' := 50) rfl (hb hby at_42) (by decide) (by decide) ?_
      show Steps p.tables e below (s₁.setTop (mkF m 50 #[.val (.long xta), .second, .val (.int xna), .val (.long xtb), .second, .val (.int xnb), .val (.int xh), .val (.int xsel), .val (.int hh), .val (.long hp), .second, .val (.long t1), .second, .val (.int n1), .unset, .unset, .unset, .unset, .unset, .unset, .unset, .unset, .unset, .unset, .unset] [(.long t1)])) _
      rw [show v37 = t1 from by rw [hv37, if_neg hc37]] at k
      exact k
  have pre7 : ∀ t, Steps p.tables e below (s₁.setTop (mkF m 56 #[.val (.long xta), .second, .val (.int xna), .val (.long xtb), .second, .val (.int xnb), .val (.int xh), .val (.int xsel), .val (.int hh), .val (.long hp), .second, .val (.long t1), .second, .val (.int n1), .val (.long v37), .second, .unset, .unset, .unset, .unset, .unset, .unset, .unset, .unset, .unset] [(.int (xsel &&& (2 : Int32)))])) t → Steps p.tables e below (s₁.setTop (entryFrame m #[(.long xta), (.int xna), (.long xtb), (.int xnb), (.int xh), (.int xsel)] maxLocals)) t := by
    intro t k
    refine pre6 t ?_
    refine XS.lstore X0.here hx rfl (hb hby at_50) rfl (l' := #[.val (.long xta), .second, .val (.int xna), .val (.long xtb), .second, .val (.int xnb), .val (.int xh), .val (.int xsel), .val (.int hh), .val (.long hp), .second, .val (.long t1), .second, .val (.int n1), .val (.long v37), .second, .unset, .unset, .unset, .unset, .unset, .unset, .unset, .unset, .unset]) rfl ?_
    show Steps p.tables e below (s₁.setTop (mkF m 52 #[.val (.long xta), .second, .val (.int xna), .val (.long xtb), .second, .val (.int xnb), .val (.int xh), .val (.int xsel), .val (.int hh), .val (.long hp), .second, .val (.long t1), .second, .val (.int n1), .val (.long v37), .second, .unset, .unset, .unset, .unset, .unset, .unset, .unset, .unset, .unset] [])) _
    refine XS.iload X0.here hx rfl (hb hby at_52) rfl ?_
    show Steps p.tables e below (s₁.setTop (mkF m 54 #[.val (.long xta), .second, .val (.int xna), .val (.long xtb), .second, .val (.int xnb), .val (.int xh), .val (.int xsel), .val (.int hh), .val (.long hp), .second, .val (.long t1), .second, .val (.int n1), .val (.long v37), .second, .unset, .unset, .unset, .unset, .unset, .unset, .unset, .unset, .unset] [(.int xsel)])) _
    refine XS.iconst X0.here hx rfl (hb hby at_54) ?_
    show Steps p.tables e below (s₁.setTop (mkF m 55 #[.val (.long xta), .second, .val (.int xna), .val (.long xtb), .second, .val (.int xnb), .val (.int xh), .val (.int xsel), .val (.int hh), .val (.long hp), .second, .val (.long t1), .second, .val (.int n1), .val (.long v37), .second, .unset, .unset, .unset, .unset, .unset, .unset, .unset, .unset, .unset] [(.int (2 : Int32)), (.int xsel)])) _
    refine XS.iand X0.here hx rfl (hb hby at_55) rfl ?_
    show Steps p.tables e below (s₁.setTop (mkF m 56 #[.val (.long xta), .second, .val (.int xna), .val (.long xtb), .second, .val (.int xnb), .val (.int xh), .val (.int xsel), .val (.int hh), .val (.long hp), .second, .val (.long t1), .second, .val (.int n1), .val (.long v37), .second, .unset, .unset, .unset, .unset, .unset, .unset, .unset, .unset, .unset] [(.int (xsel &&& (2 : Int32)))])) _
    exact k
  obtain ⟨v56, hv56⟩ : ∃ z : Int32, z = (if (xsel &&& (2 : Int32)) = (0 : Int32) then ((((xnb.toInt64) &&& (2147483647 : Int64)) - (((xnb.toInt64) &&& (2147483647 : Int64)) / hp) * hp).toInt32) else n1) := ⟨_, rfl⟩
  have pre8 : ∀ t, Steps p.tables e below (s₁.setTop (mkF m 75 #[.val (.long xta), .second, .val (.int xna), .val (.long xtb), .second, .val (.int xnb), .val (.int xh), .val (.int xsel), .val (.int hh), .val (.long hp), .second, .val (.long t1), .second, .val (.int n1), .val (.long v37), .second, .unset, .unset, .unset, .unset, .unset, .unset, .unset, .unset, .unset] [(.int v56)])) t → Steps p.tables e below (s₁.setTop (entryFrame m #[(.long xta), (.int xna), (.long xtb), (.int xnb), (.int xh), (.int xsel)] maxLocals)) t := by
    intro t k
    refine pre7 t ?_
    by_cases hc56 : (xsel &&& (2 : Int32)) = (0 : Int32)
    · refine XS.ifYes X0.here hx rfl (pc0 := 56) (pc' := 64) rfl (hb hby at_56) rfl ((if0 _ _).trans (teq hc56).1) (by decide) (by decide) ?_
      show Steps p.tables e below (s₁.setTop (mkF m 64 #[.val (.long xta), .second, .val (.int xna), .val (.long xtb), .second, .val (.int xnb), .val (.int xh), .val (.int xsel), .val (.int hh), .val (.long hp), .second, .val (.long t1), .second, .val (.int n1), .val (.long v37), .second, .unset, .unset, .unset, .unset, .unset, .unset, .unset, .unset, .unset] [])) _
      refine XS.iload X0.here hx rfl (hb hby at_64) rfl ?_
      show Steps p.tables e below (s₁.setTop (mkF m 66 #[.val (.long xta), .second, .val (.int xna), .val (.long xtb), .second, .val (.int xnb), .val (.int xh), .val (.int xsel), .val (.int hh), .val (.long hp), .second, .val (.long t1), .second, .val (.int n1), .val (.long v37), .second, .unset, .unset, .unset, .unset, .unset, .unset, .unset, .unset, .unset] [(.int xnb)])) _
      refine XS.i2l X0.here hx rfl (hb hby at_66) rfl ?_
      show Steps p.tables e below (s₁.setTop (mkF m 67 #[.val (.long xta), .second, .val (.int xna), .val (.long xtb), .second, .val (.int xnb), .val (.int xh), .val (.int xsel), .val (.int hh), .val (.long hp), .second, .val (.long t1), .second, .val (.int n1), .val (.long v37), .second, .unset, .unset, .unset, .unset, .unset, .unset, .unset, .unset, .unset] [(.long (xnb.toInt64))])) _
      refine X0.ldc2Long hx hown (mvT hZ (hw _ (List.mem_of_getElem? (i := 2) rfl))) (g := (mkF m 67 #[.val (.long xta), .second, .val (.int xna), .val (.long xtb), .second, .val (.int xnb), .val (.int xh), .val (.int xsel), .val (.int hh), .val (.long hp), .second, .val (.long t1), .second, .val (.int n1), .val (.long v37), .second, .unset, .unset, .unset, .unset, .unset, .unset, .unset, .unset, .unset] [(.long (xnb.toInt64))])) rfl (hb hby at_67) _ ?_
      show Steps p.tables e below (s₁.setTop (mkF m 70 #[.val (.long xta), .second, .val (.int xna), .val (.long xtb), .second, .val (.int xnb), .val (.int xh), .val (.int xsel), .val (.int hh), .val (.long hp), .second, .val (.long t1), .second, .val (.int n1), .val (.long v37), .second, .unset, .unset, .unset, .unset, .unset, .unset, .unset, .unset, .unset] [(.long (2147483647 : Int64)), (.long (xnb.toInt64))])) _
      refine XS.land X0.here hx rfl (hb hby at_70) rfl ?_
      show Steps p.tables e below (s₁.setTop (mkF m 71 #[.val (.long xta), .second, .val (.int xna), .val (.long xtb), .second, .val (.int xnb), .val (.int xh), .val (.int xsel), .val (.int hh), .val (.long hp), .second, .val (.long t1), .second, .val (.int n1), .val (.long v37), .second, .unset, .unset, .unset, .unset, .unset, .unset, .unset, .unset, .unset] [(.long ((xnb.toInt64) &&& (2147483647 : Int64)))])) _
      refine XS.lload X0.here hx rfl (hb hby at_71) rfl ?_
      show Steps p.tables e below (s₁.setTop (mkF m 73 #[.val (.long xta), .second, .val (.int xna), .val (.long xtb), .second, .val (.int xnb), .val (.int xh), .val (.int xsel), .val (.int hh), .val (.long hp), .second, .val (.long t1), .second, .val (.int n1), .val (.long v37), .second, .unset, .unset, .unset, .unset, .unset, .unset, .unset, .unset, .unset] [(.long hp), (.long ((xnb.toInt64) &&& (2147483647 : Int64)))])) _
      refine XS.lrem X0.here hx rfl (hb hby at_73) rfl (own_hp xh hh hp hhh hhp).2.2.1 ?_
      show Steps p.tables e below (s₁.setTop (mkF m 74 #[.val (.long xta), .second, .val (.int xna), .val (.long xtb), .second, .val (.int xnb), .val (.int xh), .val (.int xsel), .val (.int hh), .val (.long hp), .second, .val (.long t1), .second, .val (.int n1), .val (.long v37), .second, .unset, .unset, .unset, .unset, .unset, .unset, .unset, .unset, .unset] [(.long (((xnb.toInt64) &&& (2147483647 : Int64)) - (((xnb.toInt64) &&& (2147483647 : Int64)) / hp) * hp))])) _
      refine XS.l2i X0.here hx rfl (hb hby at_74) rfl ?_
      show Steps p.tables e below (s₁.setTop (mkF m 75 #[.val (.long xta), .second, .val (.int xna), .val (.long xtb), .second, .val (.int xnb), .val (.int xh), .val (.int xsel), .val (.int hh), .val (.long hp), .second, .val (.long t1), .second, .val (.int n1), .val (.long v37), .second, .unset, .unset, .unset, .unset, .unset, .unset, .unset, .unset, .unset] [(.int ((((xnb.toInt64) &&& (2147483647 : Int64)) - (((xnb.toInt64) &&& (2147483647 : Int64)) / hp) * hp).toInt32))])) _
      rw [show v56 = ((((xnb.toInt64) &&& (2147483647 : Int64)) - (((xnb.toInt64) &&& (2147483647 : Int64)) / hp) * hp).toInt32) from by rw [hv56, if_pos hc56]] at k
      exact k
    · refine XS.ifNo X0.here hx rfl (hb hby at_56) rfl ((if0 _ _).trans (feq hc56).1) ?_
      show Steps p.tables e below (s₁.setTop (mkF m 59 #[.val (.long xta), .second, .val (.int xna), .val (.long xtb), .second, .val (.int xnb), .val (.int xh), .val (.int xsel), .val (.int hh), .val (.long hp), .second, .val (.long t1), .second, .val (.int n1), .val (.long v37), .second, .unset, .unset, .unset, .unset, .unset, .unset, .unset, .unset, .unset] [])) _
      refine XS.iload X0.here hx rfl (hb hby at_59) rfl ?_
      show Steps p.tables e below (s₁.setTop (mkF m 61 #[.val (.long xta), .second, .val (.int xna), .val (.long xtb), .second, .val (.int xnb), .val (.int xh), .val (.int xsel), .val (.int hh), .val (.long hp), .second, .val (.long t1), .second, .val (.int n1), .val (.long v37), .second, .unset, .unset, .unset, .unset, .unset, .unset, .unset, .unset, .unset] [(.int n1)])) _
      refine XS.goto X0.here hx rfl (pc0 := 61) (pc' := 75) rfl (hb hby at_61) (by decide) (by decide) ?_
      show Steps p.tables e below (s₁.setTop (mkF m 75 #[.val (.long xta), .second, .val (.int xna), .val (.long xtb), .second, .val (.int xnb), .val (.int xh), .val (.int xsel), .val (.int hh), .val (.long hp), .second, .val (.long t1), .second, .val (.int n1), .val (.long v37), .second, .unset, .unset, .unset, .unset, .unset, .unset, .unset, .unset, .unset] [(.int n1)])) _
      rw [show v56 = n1 from by rw [hv56, if_neg hc56]] at k
      exact k
  have pre9 : ∀ t, Steps p.tables e below (s₁.setTop (mkF m 77 #[.val (.long xta), .second, .val (.int xna), .val (.long xtb), .second, .val (.int xnb), .val (.int xh), .val (.int xsel), .val (.int hh), .val (.long hp), .second, .val (.long t1), .second, .val (.int n1), .val (.long v37), .second, .val (.int v56), .unset, .unset, .unset, .unset, .unset, .unset, .unset, .unset] [])) t → Steps p.tables e below (s₁.setTop (entryFrame m #[(.long xta), (.int xna), (.long xtb), (.int xnb), (.int xh), (.int xsel)] maxLocals)) t := by
    intro t k
    refine pre8 t ?_
    refine XS.istore X0.here hx rfl (hb hby at_75) rfl (l' := #[.val (.long xta), .second, .val (.int xna), .val (.long xtb), .second, .val (.int xnb), .val (.int xh), .val (.int xsel), .val (.int hh), .val (.long hp), .second, .val (.long t1), .second, .val (.int n1), .val (.long v37), .second, .val (.int v56), .unset, .unset, .unset, .unset, .unset, .unset, .unset, .unset]) rfl ?_
    show Steps p.tables e below (s₁.setTop (mkF m 77 #[.val (.long xta), .second, .val (.int xna), .val (.long xtb), .second, .val (.int xnb), .val (.int xh), .val (.int xsel), .val (.int hh), .val (.long hp), .second, .val (.long t1), .second, .val (.int n1), .val (.long v37), .second, .val (.int v56), .unset, .unset, .unset, .unset, .unset, .unset, .unset, .unset] [])) _
    exact k
  obtain ⟨T10, h10, X10, e10, E10, A10, D10, -, st10⟩ := newO X0 hx hZ hown (hw _ (List.mem_of_getElem? (i := 3) rfl)) (hw _ (List.mem_of_getElem? (i := 4) rfl)) (hw _ (List.mem_of_getElem? (i := 5) rfl)) e0 (g := (mkF m 77 #[.val (.long xta), .second, .val (.int xna), .val (.long xtb), .second, .val (.int xnb), .val (.int xh), .val (.int xsel), .val (.int hh), .val (.long hp), .second, .val (.long t1), .second, .val (.int n1), .val (.long v37), .second, .val (.int v56), .unset, .unset, .unset, .unset, .unset, .unset, .unset, .unset] [])) rfl (hb hby at_77) (by decide) (by decide)
  obtain ⟨b10, g10⟩ : ∃ z, z = h0.size := ⟨_, rfl⟩
  rw [← g10] at A10 D10 st10
  have g_b10 : n0 ≤ b10 := Nat.le_trans Z0 (Nat.le_of_eq g10.symm)
  have sz_b10 : h0.size ≤ b10 := Nat.le_trans (Keep.refl h0 ([] : List Addr)).1 (Nat.le_of_eq g10.symm)
  have K10 : Keep h0 h10 ([] : List Addr) := (Keep.refl h0 ([] : List Addr)).ext E10
  have z10 : n0 ≤ h10.size := Nat.le_trans Z0 K10.1
  have F_time_b10 : Fld Z h10 b10 "com/example/narrow_gate/narrowgate/algorithm/Stamp" "time" "J" (.long (0 : Int64)) := D10 (Or.inr (hw _ (List.mem_of_getElem? (i := 18) rfl))) (ty := .long) (by decide)
  have F_node_b10 : Fld Z h10 b10 "com/example/narrow_gate/narrowgate/algorithm/Stamp" "node" "I" (.int (0 : Int32)) := D10 (Or.inr (hw _ (List.mem_of_getElem? (i := 20) rfl))) (ty := .int) (by decide)
  have pre11 : ∀ t, Steps p.tables e below (T10.setTop (mkF m 80 #[.val (.long xta), .second, .val (.int xna), .val (.long xtb), .second, .val (.int xnb), .val (.int xh), .val (.int xsel), .val (.int hh), .val (.long hp), .second, .val (.long t1), .second, .val (.int n1), .val (.long v37), .second, .val (.int v56), .unset, .unset, .unset, .unset, .unset, .unset, .unset, .unset] [(.ref b10)])) t → Steps p.tables e below (s₁.setTop (entryFrame m #[(.long xta), (.int xna), (.long xtb), (.int xnb), (.int xh), (.int xsel)] maxLocals)) t := fun t k => pre9 t (st10 t k)
  have pre12 : ∀ t, Steps p.tables e below (T10.setTop (mkF m 85 #[.val (.long xta), .second, .val (.int xna), .val (.long xtb), .second, .val (.int xnb), .val (.int xh), .val (.int xsel), .val (.int hh), .val (.long hp), .second, .val (.long t1), .second, .val (.int n1), .val (.long v37), .second, .val (.int v56), .unset, .unset, .unset, .unset, .unset, .unset, .unset, .unset] [(.int n1), (.long t1), (.ref b10), (.ref b10)])) t → Steps p.tables e below (s₁.setTop (entryFrame m #[(.long xta), (.int xna), (.long xtb), (.int xnb), (.int xh), (.int xsel)] maxLocals)) t := by
    intro t k
    refine pre11 t ?_
    refine XS.dup X10.here hx rfl (hb hby at_80) rfl rfl ?_
    show Steps p.tables e below (T10.setTop (mkF m 81 #[.val (.long xta), .second, .val (.int xna), .val (.long xtb), .second, .val (.int xnb), .val (.int xh), .val (.int xsel), .val (.int hh), .val (.long hp), .second, .val (.long t1), .second, .val (.int n1), .val (.long v37), .second, .val (.int v56), .unset, .unset, .unset, .unset, .unset, .unset, .unset, .unset] [(.ref b10), (.ref b10)])) _
    refine XS.lload X10.here hx rfl (hb hby at_81) rfl ?_
    show Steps p.tables e below (T10.setTop (mkF m 83 #[.val (.long xta), .second, .val (.int xna), .val (.long xtb), .second, .val (.int xnb), .val (.int xh), .val (.int xsel), .val (.int hh), .val (.long hp), .second, .val (.long t1), .second, .val (.int n1), .val (.long v37), .second, .val (.int v56), .unset, .unset, .unset, .unset, .unset, .unset, .unset, .unset] [(.long t1), (.ref b10), (.ref b10)])) _
    refine XS.iload X10.here hx rfl (hb hby at_83) rfl ?_
    show Steps p.tables e below (T10.setTop (mkF m 85 #[.val (.long xta), .second, .val (.int xna), .val (.long xtb), .second, .val (.int xnb), .val (.int xh), .val (.int xsel), .val (.int hh), .val (.long hp), .second, .val (.long t1), .second, .val (.int n1), .val (.long v37), .second, .val (.int v56), .unset, .unset, .unset, .unset, .unset, .unset, .unset, .unset] [(.int n1), (.long t1), (.ref b10), (.ref b10)])) _
    exact k
  obtain ⟨_, _, ⟨T13, L13, k13, n13⟩, -, X13, ⟨Lc13, hQ13, l13, y13, z13⟩, st13⟩ := X10.specialBack hx (y := (⟨"com/example/narrow_gate/narrowgate/algorithm/Stamp", "<init>", "(JI)V"⟩ : MethodName)) rfl hown (mvT hZ (hw _ (List.mem_of_getElem? (i := 6) rfl))) (mvT hZ (hw _ (List.mem_of_getElem? (i := 7) rfl))) (mvT hZ (hw _ (List.mem_of_getElem? (i := 8) rfl))) (by decide) (backOf (W := 1) (rm_init l Z a0 hw [] b10 t1 n1 h10 n0 z10 A10 (g_b10) F_time_b10 F_node_b10) hZ (hw _ (List.mem_of_getElem? (i := 8) rfl)) (hw _ (List.mem_of_getElem? (i := 5) rfl)) (by decide) (by decide)) (g := (mkF m 85 #[.val (.long xta), .second, .val (.int xna), .val (.long xtb), .second, .val (.int xnb), .val (.int xh), .val (.int xsel), .val (.int hh), .val (.long hp), .second, .val (.long t1), .second, .val (.int n1), .val (.long v37), .second, .val (.int v56), .unset, .unset, .unset, .unset, .unset, .unset, .unset, .unset] [(.int n1), (.long t1), (.ref b10), (.ref b10)])) rfl (by rw [hml]; rfl) (Steps.refl _) (a := b10) (argsL := [(.long t1), (.int n1)]) (rest := [(.ref b10)]) (lenOf pd1 rfl) rfl (by show 2 * 0 + _ ≤ _; exact Nat.le_of_eq rfl) (hb hby at_85) (fun _ _ => ⟨rfl, e10, (by decide : 1 + 0 ≤ _), (by decide : 2 + 0 ≤ _)⟩)
  dsimp only [Pt.U, Pt.locs, Pt.cells, Pt.slots] at X13 l13 y13 z13 st13 hQ13
  subst l13 y13 z13
  obtain ⟨rfl, M13, kp13, f13_0, f13_1, f13_2⟩ := hQ13
  have K13 : Keep h0 T13.heap ([] : List Addr) := K10.trans kp13 (allS (P := fun x => x ∈ ([] : List Addr) ∨ h0.size ≤ x) (Or.inr sz_b10) all0)
  have zz13 : n0 ≤ T13.heap.size := Nat.le_trans Z0 K13.1
  have N13 := Fr.app N0 M13
  have pre14 : ∀ t, Steps p.tables e below (T13.setTop (mkF m 88 #[.val (.long xta), .second, .val (.int xna), .val (.long xtb), .second, .val (.int xnb), .val (.int xh), .val (.int xsel), .val (.int hh), .val (.long hp), .second, .val (.long t1), .second, .val (.int n1), .val (.long v37), .second, .val (.int v56), .unset, .unset, .unset, .unset, .unset, .unset, .unset, .unset] [(.ref b10)])) t → Steps p.tables e below (s₁.setTop (entryFrame m #[(.long xta), (.int xna), (.long xtb), (.int xnb), (.int xh), (.int xsel)] maxLocals)) t := fun t k => pre12 t (st13.trans k)
  have pre15 : ∀ t, Steps p.tables e below (T13.setTop (mkF m 90 #[.val (.long xta), .second, .val (.int xna), .val (.long xtb), .second, .val (.int xnb), .val (.int xh), .val (.int xsel), .val (.int hh), .val (.long hp), .second, .val (.long t1), .second, .val (.int n1), .val (.long v37), .second, .val (.int v56), .unset, .unset, .unset, .unset, .unset, .unset, .unset, .unset] [(.int hh), (.ref b10)])) t → Steps p.tables e below (s₁.setTop (entryFrame m #[(.long xta), (.int xna), (.long xtb), (.int xnb), (.int xh), (.int xsel)] maxLocals)) t := by
    intro t k
    refine pre14 t ?_
    refine XS.iload X13.here hx rfl (hb hby at_88) rfl ?_
    show Steps p.tables e below (T13.setTop (mkF m 90 #[.val (.long xta), .second, .val (.int xna), .val (.long xtb), .second, .val (.int xnb), .val (.int xh), .val (.int xsel), .val (.int hh), .val (.long hp), .second, .val (.long t1), .second, .val (.int n1), .val (.long v37), .second, .val (.int v56), .unset, .unset, .unset, .unset, .unset, .unset, .unset, .unset] [(.int hh), (.ref b10)])) _
    exact k
  obtain ⟨cq16, kq16, q16a, q16b, q16c⟩ := isOf hZ rfl f13_0
  obtain ⟨_, _, ⟨T16, L16, k16, n16⟩, -, X16, ⟨Lc16, hQ16, l16, y16, z16⟩, st16⟩ := X13.virtualBack hx (y := (⟨"com/example/narrow_gate/narrowgate/algorithm/Stamp", "fence", "(I)J"⟩ : MethodName)) (z := (⟨"com/example/narrow_gate/narrowgate/algorithm/Stamp", "fence", "(I)J"⟩ : MethodName)) hown (mvT hZ (hw _ (List.mem_of_getElem? (i := 21) rfl))) (mvT hZ (hw _ (List.mem_of_getElem? (i := 22) rfl))) (notFace_of_selects (args := #[]) (mvT hZ (hw _ (List.mem_of_getElem? (i := 24) rfl)))) (mvT hZ (hw _ (List.mem_of_getElem? (i := 24) rfl))) (mvT hZ (hw _ (List.mem_of_getElem? (i := 23) rfl))) (by decide) (backOf (W := 0) (rm_fence l Z a0 hw [] b10 hh t1 n1 T13.heap n0 zz13 f13_1 f13_2) hZ (hw _ (List.mem_of_getElem? (i := 25) rfl)) (hw _ (List.mem_of_getElem? (i := 5) rfl)) (by decide) (by decide)) q16a q16c (g := (mkF m 90 #[.val (.long xta), .second, .val (.int xna), .val (.long xtb), .second, .val (.int xnb), .val (.int xh), .val (.int xsel), .val (.int hh), .val (.long hp), .second, .val (.long t1), .second, .val (.int n1), .val (.long v37), .second, .val (.int v56), .unset, .unset, .unset, .unset, .unset, .unset, .unset, .unset] [(.int hh), (.ref b10)])) rfl (by rw [hml]; rfl) (Steps.refl _) (argsL := [(.int hh)]) (rest := []) (lenOf pd2 rfl) rfl (by show 2 * 0 + _ ≤ _; exact Nat.le_of_eq rfl) (hb hby at_90) (fun _ _ => ⟨rfl, rfl, (by decide : 1 + 0 ≤ _), (by decide : 2 + 0 ≤ _)⟩)
  dsimp only [Pt.U, Pt.locs, Pt.cells, Pt.slots] at X16 l16 y16 z16 st16 hQ16
  subst l16 y16 z16
  obtain ⟨rfl, M16, e16⟩ := hQ16
  have N16 := Fr.app N13 M16
  have pre17 : ∀ t, Steps p.tables e below (T16.setTop (mkF m 93 #[.val (.long xta), .second, .val (.int xna), .val (.long xtb), .second, .val (.int xnb), .val (.int xh), .val (.int xsel), .val (.int hh), .val (.long hp), .second, .val (.long t1), .second, .val (.int n1), .val (.long v37), .second, .val (.int v56), .unset, .unset, .unset, .unset, .unset, .unset, .unset, .unset] [(.long ((t1 * ((hh.toInt64) + (1 : Int64))) + (n1.toInt64)))])) t → Steps p.tables e below (s₁.setTop (entryFrame m #[(.long xta), (.int xna), (.long xtb), (.int xnb), (.int xh), (.int xsel)] maxLocals)) t := fun t k => pre15 t (st16.trans k)
  have pre18 : ∀ t, Steps p.tables e below (T16.setTop (mkF m 95 #[.val (.long xta), .second, .val (.int xna), .val (.long xtb), .second, .val (.int xnb), .val (.int xh), .val (.int xsel), .val (.int hh), .val (.long hp), .second, .val (.long t1), .second, .val (.int n1), .val (.long v37), .second, .val (.int v56), .val (.long ((t1 * ((hh.toInt64) + (1 : Int64))) + (n1.toInt64))), .second, .unset, .unset, .unset, .unset, .unset, .unset] [])) t → Steps p.tables e below (s₁.setTop (entryFrame m #[(.long xta), (.int xna), (.long xtb), (.int xnb), (.int xh), (.int xsel)] maxLocals)) t := by
    intro t k
    refine pre17 t ?_
    refine XS.lstore X16.here hx rfl (hb hby at_93) rfl (l' := #[.val (.long xta), .second, .val (.int xna), .val (.long xtb), .second, .val (.int xnb), .val (.int xh), .val (.int xsel), .val (.int hh), .val (.long hp), .second, .val (.long t1), .second, .val (.int n1), .val (.long v37), .second, .val (.int v56), .val (.long ((t1 * ((hh.toInt64) + (1 : Int64))) + (n1.toInt64))), .second, .unset, .unset, .unset, .unset, .unset, .unset]) rfl ?_
    show Steps p.tables e below (T16.setTop (mkF m 95 #[.val (.long xta), .second, .val (.int xna), .val (.long xtb), .second, .val (.int xnb), .val (.int xh), .val (.int xsel), .val (.int hh), .val (.long hp), .second, .val (.long t1), .second, .val (.int n1), .val (.long v37), .second, .val (.int v56), .val (.long ((t1 * ((hh.toInt64) + (1 : Int64))) + (n1.toInt64))), .second, .unset, .unset, .unset, .unset, .unset, .unset] [])) _
    exact k
  obtain ⟨f1, hf1⟩ : ∃ z : Int64, z = ((t1 * ((hh.toInt64) + (1 : Int64))) + (n1.toInt64)) := ⟨_, rfl⟩
  rw [← hf1] at pre18
  obtain ⟨T19, h19, X19, e19, E19, A19, D19, -, st19⟩ := newO X16 hx hZ hown (hw _ (List.mem_of_getElem? (i := 3) rfl)) (hw _ (List.mem_of_getElem? (i := 4) rfl)) (hw _ (List.mem_of_getElem? (i := 5) rfl)) e16 (g := (mkF m 95 #[.val (.long xta), .second, .val (.int xna), .val (.long xtb), .second, .val (.int xnb), .val (.int xh), .val (.int xsel), .val (.int hh), .val (.long hp), .second, .val (.long t1), .second, .val (.int n1), .val (.long v37), .second, .val (.int v56), .val (.long f1), .second, .unset, .unset, .unset, .unset, .unset, .unset] [])) rfl (hb hby at_95) (by decide) (by decide)
  obtain ⟨b19, g19⟩ : ∃ z, z = T13.heap.size := ⟨_, rfl⟩
  rw [← g19] at A19 D19 st19
  have g_b19 : n0 ≤ b19 := Nat.le_trans zz13 (Nat.le_of_eq g19.symm)
  have sz_b19 : h0.size ≤ b19 := Nat.le_trans K13.1 (Nat.le_of_eq g19.symm)
  have K19 : Keep h0 h19 ([] : List Addr) := K13.ext E19
  have z19 : n0 ≤ h19.size := Nat.le_trans Z0 K19.1
  have F_time_b19 : Fld Z h19 b19 "com/example/narrow_gate/narrowgate/algorithm/Stamp" "time" "J" (.long (0 : Int64)) := D19 (Or.inr (hw _ (List.mem_of_getElem? (i := 18) rfl))) (ty := .long) (by decide)
  have F_node_b19 : Fld Z h19 b19 "com/example/narrow_gate/narrowgate/algorithm/Stamp" "node" "I" (.int (0 : Int32)) := D19 (Or.inr (hw _ (List.mem_of_getElem? (i := 20) rfl))) (ty := .int) (by decide)
  have pre20 : ∀ t, Steps p.tables e below (T19.setTop (mkF m 98 #[.val (.long xta), .second, .val (.int xna), .val (.long xtb), .second, .val (.int xnb), .val (.int xh), .val (.int xsel), .val (.int hh), .val (.long hp), .second, .val (.long t1), .second, .val (.int n1), .val (.long v37), .second, .val (.int v56), .val (.long f1), .second, .unset, .unset, .unset, .unset, .unset, .unset] [(.ref b19)])) t → Steps p.tables e below (s₁.setTop (entryFrame m #[(.long xta), (.int xna), (.long xtb), (.int xnb), (.int xh), (.int xsel)] maxLocals)) t := fun t k => pre18 t (st19 t k)
  have pre21 : ∀ t, Steps p.tables e below (T19.setTop (mkF m 103 #[.val (.long xta), .second, .val (.int xna), .val (.long xtb), .second, .val (.int xnb), .val (.int xh), .val (.int xsel), .val (.int hh), .val (.long hp), .second, .val (.long t1), .second, .val (.int n1), .val (.long v37), .second, .val (.int v56), .val (.long f1), .second, .unset, .unset, .unset, .unset, .unset, .unset] [(.int v56), (.long v37), (.ref b19), (.ref b19)])) t → Steps p.tables e below (s₁.setTop (entryFrame m #[(.long xta), (.int xna), (.long xtb), (.int xnb), (.int xh), (.int xsel)] maxLocals)) t := by
    intro t k
    refine pre20 t ?_
    refine XS.dup X19.here hx rfl (hb hby at_98) rfl rfl ?_
    show Steps p.tables e below (T19.setTop (mkF m 99 #[.val (.long xta), .second, .val (.int xna), .val (.long xtb), .second, .val (.int xnb), .val (.int xh), .val (.int xsel), .val (.int hh), .val (.long hp), .second, .val (.long t1), .second, .val (.int n1), .val (.long v37), .second, .val (.int v56), .val (.long f1), .second, .unset, .unset, .unset, .unset, .unset, .unset] [(.ref b19), (.ref b19)])) _
    refine XS.lload X19.here hx rfl (hb hby at_99) rfl ?_
    show Steps p.tables e below (T19.setTop (mkF m 101 #[.val (.long xta), .second, .val (.int xna), .val (.long xtb), .second, .val (.int xnb), .val (.int xh), .val (.int xsel), .val (.int hh), .val (.long hp), .second, .val (.long t1), .second, .val (.int n1), .val (.long v37), .second, .val (.int v56), .val (.long f1), .second, .unset, .unset, .unset, .unset, .unset, .unset] [(.long v37), (.ref b19), (.ref b19)])) _
    refine XS.iload X19.here hx rfl (hb hby at_101) rfl ?_
    show Steps p.tables e below (T19.setTop (mkF m 103 #[.val (.long xta), .second, .val (.int xna), .val (.long xtb), .second, .val (.int xnb), .val (.int xh), .val (.int xsel), .val (.int hh), .val (.long hp), .second, .val (.long t1), .second, .val (.int n1), .val (.long v37), .second, .val (.int v56), .val (.long f1), .second, .unset, .unset, .unset, .unset, .unset, .unset] [(.int v56), (.long v37), (.ref b19), (.ref b19)])) _
    exact k
  obtain ⟨_, _, ⟨T22, L22, k22, n22⟩, -, X22, ⟨Lc22, hQ22, l22, y22, z22⟩, st22⟩ := X19.specialBack hx (y := (⟨"com/example/narrow_gate/narrowgate/algorithm/Stamp", "<init>", "(JI)V"⟩ : MethodName)) rfl hown (mvT hZ (hw _ (List.mem_of_getElem? (i := 6) rfl))) (mvT hZ (hw _ (List.mem_of_getElem? (i := 7) rfl))) (mvT hZ (hw _ (List.mem_of_getElem? (i := 8) rfl))) (by decide) (backOf (W := 1) (rm_init l Z a0 hw [] b19 v37 v56 h19 n0 z19 A19 (g_b19) F_time_b19 F_node_b19) hZ (hw _ (List.mem_of_getElem? (i := 8) rfl)) (hw _ (List.mem_of_getElem? (i := 5) rfl)) (by decide) (by decide)) (g := (mkF m 103 #[.val (.long xta), .second, .val (.int xna), .val (.long xtb), .second, .val (.int xnb), .val (.int xh), .val (.int xsel), .val (.int hh), .val (.long hp), .second, .val (.long t1), .second, .val (.int n1), .val (.long v37), .second, .val (.int v56), .val (.long f1), .second, .unset, .unset, .unset, .unset, .unset, .unset] [(.int v56), (.long v37), (.ref b19), (.ref b19)])) rfl (by rw [hml]; rfl) (Steps.refl _) (a := b19) (argsL := [(.long v37), (.int v56)]) (rest := [(.ref b19)]) (lenOf pd1 rfl) rfl (by show 2 * 0 + _ ≤ _; exact Nat.le_of_eq rfl) (hb hby at_103) (fun _ _ => ⟨rfl, e19, (by decide : 2 + 0 ≤ _), (by decide : 4 + 0 ≤ _)⟩)
  dsimp only [Pt.U, Pt.locs, Pt.cells, Pt.slots] at X22 l22 y22 z22 st22 hQ22
  subst l22 y22 z22
  obtain ⟨rfl, M22, kp22, f22_0, f22_1, f22_2⟩ := hQ22
  have K22 : Keep h0 T22.heap ([] : List Addr) := K19.trans kp22 (allS (P := fun x => x ∈ ([] : List Addr) ∨ h0.size ≤ x) (Or.inr sz_b19) all0)
  have zz22 : n0 ≤ T22.heap.size := Nat.le_trans Z0 K22.1
  have N22 := Fr.app N16 M22
  have pre23 : ∀ t, Steps p.tables e below (T22.setTop (mkF m 106 #[.val (.long xta), .second, .val (.int xna), .val (.long xtb), .second, .val (.int xnb), .val (.int xh), .val (.int xsel), .val (.int hh), .val (.long hp), .second, .val (.long t1), .second, .val (.int n1), .val (.long v37), .second, .val (.int v56), .val (.long f1), .second, .unset, .unset, .unset, .unset, .unset, .unset] [(.ref b19)])) t → Steps p.tables e below (s₁.setTop (entryFrame m #[(.long xta), (.int xna), (.long xtb), (.int xnb), (.int xh), (.int xsel)] maxLocals)) t := fun t k => pre21 t (st22.trans k)
  have pre24 : ∀ t, Steps p.tables e below (T22.setTop (mkF m 108 #[.val (.long xta), .second, .val (.int xna), .val (.long xtb), .second, .val (.int xnb), .val (.int xh), .val (.int xsel), .val (.int hh), .val (.long hp), .second, .val (.long t1), .second, .val (.int n1), .val (.long v37), .second, .val (.int v56), .val (.long f1), .second, .unset, .unset, .unset, .unset, .unset, .unset] [(.int hh), (.ref b19)])) t → Steps p.tables e below (s₁.setTop (entryFrame m #[(.long xta), (.int xna), (.long xtb), (.int xnb), (.int xh), (.int xsel)] maxLocals)) t := by
    intro t k
    refine pre23 t ?_
    refine XS.iload X22.here hx rfl (hb hby at_106) rfl ?_
    show Steps p.tables e below (T22.setTop (mkF m 108 #[.val (.long xta), .second, .val (.int xna), .val (.long xtb), .second, .val (.int xnb), .val (.int xh), .val (.int xsel), .val (.int hh), .val (.long hp), .second, .val (.long t1), .second, .val (.int n1), .val (.long v37), .second, .val (.int v56), .val (.long f1), .second, .unset, .unset, .unset, .unset, .unset, .unset] [(.int hh), (.ref b19)])) _
    exact k
  obtain ⟨cq25, kq25, q25a, q25b, q25c⟩ := isOf hZ rfl f22_0
  obtain ⟨_, _, ⟨T25, L25, k25, n25⟩, -, X25, ⟨Lc25, hQ25, l25, y25, z25⟩, st25⟩ := X22.virtualBack hx (y := (⟨"com/example/narrow_gate/narrowgate/algorithm/Stamp", "fence", "(I)J"⟩ : MethodName)) (z := (⟨"com/example/narrow_gate/narrowgate/algorithm/Stamp", "fence", "(I)J"⟩ : MethodName)) hown (mvT hZ (hw _ (List.mem_of_getElem? (i := 21) rfl))) (mvT hZ (hw _ (List.mem_of_getElem? (i := 22) rfl))) (notFace_of_selects (args := #[]) (mvT hZ (hw _ (List.mem_of_getElem? (i := 24) rfl)))) (mvT hZ (hw _ (List.mem_of_getElem? (i := 24) rfl))) (mvT hZ (hw _ (List.mem_of_getElem? (i := 23) rfl))) (by decide) (backOf (W := 0) (rm_fence l Z a0 hw [] b19 hh v37 v56 T22.heap n0 zz22 f22_1 f22_2) hZ (hw _ (List.mem_of_getElem? (i := 25) rfl)) (hw _ (List.mem_of_getElem? (i := 5) rfl)) (by decide) (by decide)) q25a q25c (g := (mkF m 108 #[.val (.long xta), .second, .val (.int xna), .val (.long xtb), .second, .val (.int xnb), .val (.int xh), .val (.int xsel), .val (.int hh), .val (.long hp), .second, .val (.long t1), .second, .val (.int n1), .val (.long v37), .second, .val (.int v56), .val (.long f1), .second, .unset, .unset, .unset, .unset, .unset, .unset] [(.int hh), (.ref b19)])) rfl (by rw [hml]; rfl) (Steps.refl _) (argsL := [(.int hh)]) (rest := []) (lenOf pd2 rfl) rfl (by show 2 * 0 + _ ≤ _; exact Nat.le_of_eq rfl) (hb hby at_108) (fun _ _ => ⟨rfl, rfl, (by decide : 2 + 0 ≤ _), (by decide : 4 + 0 ≤ _)⟩)
  dsimp only [Pt.U, Pt.locs, Pt.cells, Pt.slots] at X25 l25 y25 z25 st25 hQ25
  subst l25 y25 z25
  obtain ⟨rfl, M25, e25⟩ := hQ25
  have N25 := Fr.app N22 M25
  have pre26 : ∀ t, Steps p.tables e below (T25.setTop (mkF m 111 #[.val (.long xta), .second, .val (.int xna), .val (.long xtb), .second, .val (.int xnb), .val (.int xh), .val (.int xsel), .val (.int hh), .val (.long hp), .second, .val (.long t1), .second, .val (.int n1), .val (.long v37), .second, .val (.int v56), .val (.long f1), .second, .unset, .unset, .unset, .unset, .unset, .unset] [(.long ((v37 * ((hh.toInt64) + (1 : Int64))) + (v56.toInt64)))])) t → Steps p.tables e below (s₁.setTop (entryFrame m #[(.long xta), (.int xna), (.long xtb), (.int xnb), (.int xh), (.int xsel)] maxLocals)) t := fun t k => pre24 t (st25.trans k)
  have pre27 : ∀ t, Steps p.tables e below (T25.setTop (mkF m 113 #[.val (.long xta), .second, .val (.int xna), .val (.long xtb), .second, .val (.int xnb), .val (.int xh), .val (.int xsel), .val (.int hh), .val (.long hp), .second, .val (.long t1), .second, .val (.int n1), .val (.long v37), .second, .val (.int v56), .val (.long f1), .second, .val (.long ((v37 * ((hh.toInt64) + (1 : Int64))) + (v56.toInt64))), .second, .unset, .unset, .unset, .unset] [])) t → Steps p.tables e below (s₁.setTop (entryFrame m #[(.long xta), (.int xna), (.long xtb), (.int xnb), (.int xh), (.int xsel)] maxLocals)) t := by
    intro t k
    refine pre26 t ?_
    refine XS.lstore X25.here hx rfl (hb hby at_111) rfl (l' := #[.val (.long xta), .second, .val (.int xna), .val (.long xtb), .second, .val (.int xnb), .val (.int xh), .val (.int xsel), .val (.int hh), .val (.long hp), .second, .val (.long t1), .second, .val (.int n1), .val (.long v37), .second, .val (.int v56), .val (.long f1), .second, .val (.long ((v37 * ((hh.toInt64) + (1 : Int64))) + (v56.toInt64))), .second, .unset, .unset, .unset, .unset]) rfl ?_
    show Steps p.tables e below (T25.setTop (mkF m 113 #[.val (.long xta), .second, .val (.int xna), .val (.long xtb), .second, .val (.int xnb), .val (.int xh), .val (.int xsel), .val (.int hh), .val (.long hp), .second, .val (.long t1), .second, .val (.int n1), .val (.long v37), .second, .val (.int v56), .val (.long f1), .second, .val (.long ((v37 * ((hh.toInt64) + (1 : Int64))) + (v56.toInt64))), .second, .unset, .unset, .unset, .unset] [])) _
    exact k
  obtain ⟨f2, hf2⟩ : ∃ z : Int64, z = ((v37 * ((hh.toInt64) + (1 : Int64))) + (v56.toInt64)) := ⟨_, rfl⟩
  rw [← hf2] at pre27
  have pre28 : ∀ t, Steps p.tables e below (T25.setTop (mkF m 192 #[.val (.long xta), .second, .val (.int xna), .val (.long xtb), .second, .val (.int xnb), .val (.int xh), .val (.int xsel), .val (.int hh), .val (.long hp), .second, .val (.long t1), .second, .val (.int n1), .val (.long v37), .second, .val (.int v56), .val (.long f1), .second, .val (.long f2), .second, .val (.int (1 : Int32)), .val (.int (1 : Int32)), .unset, .unset] [(.int (lcmpW t1 v37))])) t → Steps p.tables e below (s₁.setTop (entryFrame m #[(.long xta), (.int xna), (.long xtb), (.int xnb), (.int xh), (.int xsel)] maxLocals)) t := by
    intro t k
    refine pre27 t ?_
    refine XS.lload X25.here hx rfl (hb hby at_113) rfl ?_
    show Steps p.tables e below (T25.setTop (mkF m 115 #[.val (.long xta), .second, .val (.int xna), .val (.long xtb), .second, .val (.int xnb), .val (.int xh), .val (.int xsel), .val (.int hh), .val (.long hp), .second, .val (.long t1), .second, .val (.int n1), .val (.long v37), .second, .val (.int v56), .val (.long f1), .second, .val (.long f2), .second, .unset, .unset, .unset, .unset] [(.long f1)])) _
    refine XS.lconst X25.here hx rfl (hb hby at_115) ?_
    show Steps p.tables e below (T25.setTop (mkF m 116 #[.val (.long xta), .second, .val (.int xna), .val (.long xtb), .second, .val (.int xnb), .val (.int xh), .val (.int xsel), .val (.int hh), .val (.long hp), .second, .val (.long t1), .second, .val (.int n1), .val (.long v37), .second, .val (.int v56), .val (.long f1), .second, .val (.long f2), .second, .unset, .unset, .unset, .unset] [(.long (0 : Int64)), (.long f1)])) _
    refine XS.lcmp X25.here hx rfl (hb hby at_116) rfl ?_
    show Steps p.tables e below (T25.setTop (mkF m 117 #[.val (.long xta), .second, .val (.int xna), .val (.long xtb), .second, .val (.int xnb), .val (.int xh), .val (.int xsel), .val (.int hh), .val (.long hp), .second, .val (.long t1), .second, .val (.int n1), .val (.long v37), .second, .val (.int v56), .val (.long f1), .second, .val (.long f2), .second, .unset, .unset, .unset, .unset] [(.int (lcmpW f1 (0 : Int64)))])) _
    refine XS.ifNo X25.here hx rfl (hb hby at_117) rfl ((if0 _ _).trans (flt (mt (lw_lt _ _).mp (show ¬ (f1 < (0 : Int64)) from (own_back t1 f1 hp n1 hh (own_t xta t1 ht1) (own_hp xh hh hp hhh hhp).1 (by rw [hn1]; exact own_rem xna hh hp (own_hp xh hh hp hhh hhp).1 hhp) hf1 (own_hp xh hh hp hhh hhp).2.1 (own_hp xh hh hp hhh hhp).2.2.2).1))).1) ?_
    show Steps p.tables e below (T25.setTop (mkF m 120 #[.val (.long xta), .second, .val (.int xna), .val (.long xtb), .second, .val (.int xnb), .val (.int xh), .val (.int xsel), .val (.int hh), .val (.long hp), .second, .val (.long t1), .second, .val (.int n1), .val (.long v37), .second, .val (.int v56), .val (.long f1), .second, .val (.long f2), .second, .unset, .unset, .unset, .unset] [])) _
    refine XS.lload X25.here hx rfl (hb hby at_120) rfl ?_
    show Steps p.tables e below (T25.setTop (mkF m 122 #[.val (.long xta), .second, .val (.int xna), .val (.long xtb), .second, .val (.int xnb), .val (.int xh), .val (.int xsel), .val (.int hh), .val (.long hp), .second, .val (.long t1), .second, .val (.int n1), .val (.long v37), .second, .val (.int v56), .val (.long f1), .second, .val (.long f2), .second, .unset, .unset, .unset, .unset] [(.long f1)])) _
    refine XS.lload X25.here hx rfl (hb hby at_122) rfl ?_
    show Steps p.tables e below (T25.setTop (mkF m 124 #[.val (.long xta), .second, .val (.int xna), .val (.long xtb), .second, .val (.int xnb), .val (.int xh), .val (.int xsel), .val (.int hh), .val (.long hp), .second, .val (.long t1), .second, .val (.int n1), .val (.long v37), .second, .val (.int v56), .val (.long f1), .second, .val (.long f2), .second, .unset, .unset, .unset, .unset] [(.long hp), (.long f1)])) _
    refine XS.ldiv X25.here hx rfl (hb hby at_124) rfl (own_hp xh hh hp hhh hhp).2.2.1 ?_
    show Steps p.tables e below (T25.setTop (mkF m 125 #[.val (.long xta), .second, .val (.int xna), .val (.long xtb), .second, .val (.int xnb), .val (.int xh), .val (.int xsel), .val (.int hh), .val (.long hp), .second, .val (.long t1), .second, .val (.int n1), .val (.long v37), .second, .val (.int v56), .val (.long f1), .second, .val (.long f2), .second, .unset, .unset, .unset, .unset] [(.long (f1 / hp))])) _
    refine XS.lload X25.here hx rfl (hb hby at_125) rfl ?_
    show Steps p.tables e below (T25.setTop (mkF m 127 #[.val (.long xta), .second, .val (.int xna), .val (.long xtb), .second, .val (.int xnb), .val (.int xh), .val (.int xsel), .val (.int hh), .val (.long hp), .second, .val (.long t1), .second, .val (.int n1), .val (.long v37), .second, .val (.int v56), .val (.long f1), .second, .val (.long f2), .second, .unset, .unset, .unset, .unset] [(.long t1), (.long (f1 / hp))])) _
    refine XS.lcmp X25.here hx rfl (hb hby at_127) rfl ?_
    show Steps p.tables e below (T25.setTop (mkF m 128 #[.val (.long xta), .second, .val (.int xna), .val (.long xtb), .second, .val (.int xnb), .val (.int xh), .val (.int xsel), .val (.int hh), .val (.long hp), .second, .val (.long t1), .second, .val (.int n1), .val (.long v37), .second, .val (.int v56), .val (.long f1), .second, .val (.long f2), .second, .unset, .unset, .unset, .unset] [(.int (lcmpW (f1 / hp) t1))])) _
    refine XS.ifNo X25.here hx rfl (hb hby at_128) rfl ((if0 _ _).trans (teq ((lw_eq _ _).mpr (show (f1 / hp) = t1 from (own_back t1 f1 hp n1 hh (own_t xta t1 ht1) (own_hp xh hh hp hhh hhp).1 (by rw [hn1]; exact own_rem xna hh hp (own_hp xh hh hp hhh hhp).1 hhp) hf1 (own_hp xh hh hp hhh hhp).2.1 (own_hp xh hh hp hhh hhp).2.2.2).2.1))).2) ?_
    show Steps p.tables e below (T25.setTop (mkF m 131 #[.val (.long xta), .second, .val (.int xna), .val (.long xtb), .second, .val (.int xnb), .val (.int xh), .val (.int xsel), .val (.int hh), .val (.long hp), .second, .val (.long t1), .second, .val (.int n1), .val (.long v37), .second, .val (.int v56), .val (.long f1), .second, .val (.long f2), .second, .unset, .unset, .unset, .unset] [])) _
    refine XS.lload X25.here hx rfl (hb hby at_131) rfl ?_
    show Steps p.tables e below (T25.setTop (mkF m 133 #[.val (.long xta), .second, .val (.int xna), .val (.long xtb), .second, .val (.int xnb), .val (.int xh), .val (.int xsel), .val (.int hh), .val (.long hp), .second, .val (.long t1), .second, .val (.int n1), .val (.long v37), .second, .val (.int v56), .val (.long f1), .second, .val (.long f2), .second, .unset, .unset, .unset, .unset] [(.long f1)])) _
    refine XS.lload X25.here hx rfl (hb hby at_133) rfl ?_
    show Steps p.tables e below (T25.setTop (mkF m 135 #[.val (.long xta), .second, .val (.int xna), .val (.long xtb), .second, .val (.int xnb), .val (.int xh), .val (.int xsel), .val (.int hh), .val (.long hp), .second, .val (.long t1), .second, .val (.int n1), .val (.long v37), .second, .val (.int v56), .val (.long f1), .second, .val (.long f2), .second, .unset, .unset, .unset, .unset] [(.long hp), (.long f1)])) _
    refine XS.lrem X25.here hx rfl (hb hby at_135) rfl (own_hp xh hh hp hhh hhp).2.2.1 ?_
    show Steps p.tables e below (T25.setTop (mkF m 136 #[.val (.long xta), .second, .val (.int xna), .val (.long xtb), .second, .val (.int xnb), .val (.int xh), .val (.int xsel), .val (.int hh), .val (.long hp), .second, .val (.long t1), .second, .val (.int n1), .val (.long v37), .second, .val (.int v56), .val (.long f1), .second, .val (.long f2), .second, .unset, .unset, .unset, .unset] [(.long (f1 - (f1 / hp) * hp))])) _
    refine XS.iload X25.here hx rfl (hb hby at_136) rfl ?_
    show Steps p.tables e below (T25.setTop (mkF m 138 #[.val (.long xta), .second, .val (.int xna), .val (.long xtb), .second, .val (.int xnb), .val (.int xh), .val (.int xsel), .val (.int hh), .val (.long hp), .second, .val (.long t1), .second, .val (.int n1), .val (.long v37), .second, .val (.int v56), .val (.long f1), .second, .val (.long f2), .second, .unset, .unset, .unset, .unset] [(.int n1), (.long (f1 - (f1 / hp) * hp))])) _
    refine XS.i2l X25.here hx rfl (hb hby at_138) rfl ?_
    show Steps p.tables e below (T25.setTop (mkF m 139 #[.val (.long xta), .second, .val (.int xna), .val (.long xtb), .second, .val (.int xnb), .val (.int xh), .val (.int xsel), .val (.int hh), .val (.long hp), .second, .val (.long t1), .second, .val (.int n1), .val (.long v37), .second, .val (.int v56), .val (.long f1), .second, .val (.long f2), .second, .unset, .unset, .unset, .unset] [(.long (n1.toInt64)), (.long (f1 - (f1 / hp) * hp))])) _
    refine XS.lcmp X25.here hx rfl (hb hby at_139) rfl ?_
    show Steps p.tables e below (T25.setTop (mkF m 140 #[.val (.long xta), .second, .val (.int xna), .val (.long xtb), .second, .val (.int xnb), .val (.int xh), .val (.int xsel), .val (.int hh), .val (.long hp), .second, .val (.long t1), .second, .val (.int n1), .val (.long v37), .second, .val (.int v56), .val (.long f1), .second, .val (.long f2), .second, .unset, .unset, .unset, .unset] [(.int (lcmpW (f1 - (f1 / hp) * hp) (n1.toInt64)))])) _
    refine XS.ifNo X25.here hx rfl (hb hby at_140) rfl ((if0 _ _).trans (teq ((lw_eq _ _).mpr (show (f1 - (f1 / hp) * hp) = (n1.toInt64) from (own_back t1 f1 hp n1 hh (own_t xta t1 ht1) (own_hp xh hh hp hhh hhp).1 (by rw [hn1]; exact own_rem xna hh hp (own_hp xh hh hp hhh hhp).1 hhp) hf1 (own_hp xh hh hp hhh hhp).2.1 (own_hp xh hh hp hhh hhp).2.2.2).2.2))).2) ?_
    show Steps p.tables e below (T25.setTop (mkF m 143 #[.val (.long xta), .second, .val (.int xna), .val (.long xtb), .second, .val (.int xnb), .val (.int xh), .val (.int xsel), .val (.int hh), .val (.long hp), .second, .val (.long t1), .second, .val (.int n1), .val (.long v37), .second, .val (.int v56), .val (.long f1), .second, .val (.long f2), .second, .unset, .unset, .unset, .unset] [])) _
    refine XS.iconst X25.here hx rfl (hb hby at_143) ?_
    show Steps p.tables e below (T25.setTop (mkF m 144 #[.val (.long xta), .second, .val (.int xna), .val (.long xtb), .second, .val (.int xnb), .val (.int xh), .val (.int xsel), .val (.int hh), .val (.long hp), .second, .val (.long t1), .second, .val (.int n1), .val (.long v37), .second, .val (.int v56), .val (.long f1), .second, .val (.long f2), .second, .unset, .unset, .unset, .unset] [(.int (1 : Int32))])) _
    refine XS.goto X25.here hx rfl (pc0 := 144) (pc' := 148) rfl (hb hby at_144) (by decide) (by decide) ?_
    show Steps p.tables e below (T25.setTop (mkF m 148 #[.val (.long xta), .second, .val (.int xna), .val (.long xtb), .second, .val (.int xnb), .val (.int xh), .val (.int xsel), .val (.int hh), .val (.long hp), .second, .val (.long t1), .second, .val (.int n1), .val (.long v37), .second, .val (.int v56), .val (.long f1), .second, .val (.long f2), .second, .unset, .unset, .unset, .unset] [(.int (1 : Int32))])) _
    refine XS.istore X25.here hx rfl (hb hby at_148) rfl (l' := #[.val (.long xta), .second, .val (.int xna), .val (.long xtb), .second, .val (.int xnb), .val (.int xh), .val (.int xsel), .val (.int hh), .val (.long hp), .second, .val (.long t1), .second, .val (.int n1), .val (.long v37), .second, .val (.int v56), .val (.long f1), .second, .val (.long f2), .second, .val (.int (1 : Int32)), .unset, .unset, .unset]) rfl ?_
    show Steps p.tables e below (T25.setTop (mkF m 150 #[.val (.long xta), .second, .val (.int xna), .val (.long xtb), .second, .val (.int xnb), .val (.int xh), .val (.int xsel), .val (.int hh), .val (.long hp), .second, .val (.long t1), .second, .val (.int n1), .val (.long v37), .second, .val (.int v56), .val (.long f1), .second, .val (.long f2), .second, .val (.int (1 : Int32)), .unset, .unset, .unset] [])) _
    refine XS.lload X25.here hx rfl (hb hby at_150) rfl ?_
    show Steps p.tables e below (T25.setTop (mkF m 152 #[.val (.long xta), .second, .val (.int xna), .val (.long xtb), .second, .val (.int xnb), .val (.int xh), .val (.int xsel), .val (.int hh), .val (.long hp), .second, .val (.long t1), .second, .val (.int n1), .val (.long v37), .second, .val (.int v56), .val (.long f1), .second, .val (.long f2), .second, .val (.int (1 : Int32)), .unset, .unset, .unset] [(.long f2)])) _
    refine XS.lconst X25.here hx rfl (hb hby at_152) ?_
    show Steps p.tables e below (T25.setTop (mkF m 153 #[.val (.long xta), .second, .val (.int xna), .val (.long xtb), .second, .val (.int xnb), .val (.int xh), .val (.int xsel), .val (.int hh), .val (.long hp), .second, .val (.long t1), .second, .val (.int n1), .val (.long v37), .second, .val (.int v56), .val (.long f1), .second, .val (.long f2), .second, .val (.int (1 : Int32)), .unset, .unset, .unset] [(.long (0 : Int64)), (.long f2)])) _
    refine XS.lcmp X25.here hx rfl (hb hby at_153) rfl ?_
    show Steps p.tables e below (T25.setTop (mkF m 154 #[.val (.long xta), .second, .val (.int xna), .val (.long xtb), .second, .val (.int xnb), .val (.int xh), .val (.int xsel), .val (.int hh), .val (.long hp), .second, .val (.long t1), .second, .val (.int n1), .val (.long v37), .second, .val (.int v56), .val (.long f1), .second, .val (.long f2), .second, .val (.int (1 : Int32)), .unset, .unset, .unset] [(.int (lcmpW f2 (0 : Int64)))])) _
    refine XS.ifNo X25.here hx rfl (hb hby at_154) rfl ((if0 _ _).trans (flt (mt (lw_lt _ _).mp (show ¬ (f2 < (0 : Int64)) from (own_back v37 f2 hp v56 hh (own_t2 xtb t1 v37 _ (own_t xta t1 ht1) hv37) (own_hp xh hh hp hhh hhp).1 (own_n2 xnb hh n1 v56 hp _ (own_hp xh hh hp hhh hhp).1 hhp (by rw [hn1]; exact own_rem xna hh hp (own_hp xh hh hp hhh hhp).1 hhp) hv56) hf2 (own_hp xh hh hp hhh hhp).2.1 (own_hp xh hh hp hhh hhp).2.2.2).1))).1) ?_
    show Steps p.tables e below (T25.setTop (mkF m 157 #[.val (.long xta), .second, .val (.int xna), .val (.long xtb), .second, .val (.int xnb), .val (.int xh), .val (.int xsel), .val (.int hh), .val (.long hp), .second, .val (.long t1), .second, .val (.int n1), .val (.long v37), .second, .val (.int v56), .val (.long f1), .second, .val (.long f2), .second, .val (.int (1 : Int32)), .unset, .unset, .unset] [])) _
    refine XS.lload X25.here hx rfl (hb hby at_157) rfl ?_
    show Steps p.tables e below (T25.setTop (mkF m 159 #[.val (.long xta), .second, .val (.int xna), .val (.long xtb), .second, .val (.int xnb), .val (.int xh), .val (.int xsel), .val (.int hh), .val (.long hp), .second, .val (.long t1), .second, .val (.int n1), .val (.long v37), .second, .val (.int v56), .val (.long f1), .second, .val (.long f2), .second, .val (.int (1 : Int32)), .unset, .unset, .unset] [(.long f2)])) _
    refine XS.lload X25.here hx rfl (hb hby at_159) rfl ?_
    show Steps p.tables e below (T25.setTop (mkF m 161 #[.val (.long xta), .second, .val (.int xna), .val (.long xtb), .second, .val (.int xnb), .val (.int xh), .val (.int xsel), .val (.int hh), .val (.long hp), .second, .val (.long t1), .second, .val (.int n1), .val (.long v37), .second, .val (.int v56), .val (.long f1), .second, .val (.long f2), .second, .val (.int (1 : Int32)), .unset, .unset, .unset] [(.long hp), (.long f2)])) _
    refine XS.ldiv X25.here hx rfl (hb hby at_161) rfl (own_hp xh hh hp hhh hhp).2.2.1 ?_
    show Steps p.tables e below (T25.setTop (mkF m 162 #[.val (.long xta), .second, .val (.int xna), .val (.long xtb), .second, .val (.int xnb), .val (.int xh), .val (.int xsel), .val (.int hh), .val (.long hp), .second, .val (.long t1), .second, .val (.int n1), .val (.long v37), .second, .val (.int v56), .val (.long f1), .second, .val (.long f2), .second, .val (.int (1 : Int32)), .unset, .unset, .unset] [(.long (f2 / hp))])) _
    refine XS.lload X25.here hx rfl (hb hby at_162) rfl ?_
    show Steps p.tables e below (T25.setTop (mkF m 164 #[.val (.long xta), .second, .val (.int xna), .val (.long xtb), .second, .val (.int xnb), .val (.int xh), .val (.int xsel), .val (.int hh), .val (.long hp), .second, .val (.long t1), .second, .val (.int n1), .val (.long v37), .second, .val (.int v56), .val (.long f1), .second, .val (.long f2), .second, .val (.int (1 : Int32)), .unset, .unset, .unset] [(.long v37), (.long (f2 / hp))])) _
    refine XS.lcmp X25.here hx rfl (hb hby at_164) rfl ?_
    show Steps p.tables e below (T25.setTop (mkF m 165 #[.val (.long xta), .second, .val (.int xna), .val (.long xtb), .second, .val (.int xnb), .val (.int xh), .val (.int xsel), .val (.int hh), .val (.long hp), .second, .val (.long t1), .second, .val (.int n1), .val (.long v37), .second, .val (.int v56), .val (.long f1), .second, .val (.long f2), .second, .val (.int (1 : Int32)), .unset, .unset, .unset] [(.int (lcmpW (f2 / hp) v37))])) _
    refine XS.ifNo X25.here hx rfl (hb hby at_165) rfl ((if0 _ _).trans (teq ((lw_eq _ _).mpr (show (f2 / hp) = v37 from (own_back v37 f2 hp v56 hh (own_t2 xtb t1 v37 _ (own_t xta t1 ht1) hv37) (own_hp xh hh hp hhh hhp).1 (own_n2 xnb hh n1 v56 hp _ (own_hp xh hh hp hhh hhp).1 hhp (by rw [hn1]; exact own_rem xna hh hp (own_hp xh hh hp hhh hhp).1 hhp) hv56) hf2 (own_hp xh hh hp hhh hhp).2.1 (own_hp xh hh hp hhh hhp).2.2.2).2.1))).2) ?_
    show Steps p.tables e below (T25.setTop (mkF m 168 #[.val (.long xta), .second, .val (.int xna), .val (.long xtb), .second, .val (.int xnb), .val (.int xh), .val (.int xsel), .val (.int hh), .val (.long hp), .second, .val (.long t1), .second, .val (.int n1), .val (.long v37), .second, .val (.int v56), .val (.long f1), .second, .val (.long f2), .second, .val (.int (1 : Int32)), .unset, .unset, .unset] [])) _
    refine XS.lload X25.here hx rfl (hb hby at_168) rfl ?_
    show Steps p.tables e below (T25.setTop (mkF m 170 #[.val (.long xta), .second, .val (.int xna), .val (.long xtb), .second, .val (.int xnb), .val (.int xh), .val (.int xsel), .val (.int hh), .val (.long hp), .second, .val (.long t1), .second, .val (.int n1), .val (.long v37), .second, .val (.int v56), .val (.long f1), .second, .val (.long f2), .second, .val (.int (1 : Int32)), .unset, .unset, .unset] [(.long f2)])) _
    refine XS.lload X25.here hx rfl (hb hby at_170) rfl ?_
    show Steps p.tables e below (T25.setTop (mkF m 172 #[.val (.long xta), .second, .val (.int xna), .val (.long xtb), .second, .val (.int xnb), .val (.int xh), .val (.int xsel), .val (.int hh), .val (.long hp), .second, .val (.long t1), .second, .val (.int n1), .val (.long v37), .second, .val (.int v56), .val (.long f1), .second, .val (.long f2), .second, .val (.int (1 : Int32)), .unset, .unset, .unset] [(.long hp), (.long f2)])) _
    refine XS.lrem X25.here hx rfl (hb hby at_172) rfl (own_hp xh hh hp hhh hhp).2.2.1 ?_
    show Steps p.tables e below (T25.setTop (mkF m 173 #[.val (.long xta), .second, .val (.int xna), .val (.long xtb), .second, .val (.int xnb), .val (.int xh), .val (.int xsel), .val (.int hh), .val (.long hp), .second, .val (.long t1), .second, .val (.int n1), .val (.long v37), .second, .val (.int v56), .val (.long f1), .second, .val (.long f2), .second, .val (.int (1 : Int32)), .unset, .unset, .unset] [(.long (f2 - (f2 / hp) * hp))])) _
    refine XS.iload X25.here hx rfl (hb hby at_173) rfl ?_
    show Steps p.tables e below (T25.setTop (mkF m 175 #[.val (.long xta), .second, .val (.int xna), .val (.long xtb), .second, .val (.int xnb), .val (.int xh), .val (.int xsel), .val (.int hh), .val (.long hp), .second, .val (.long t1), .second, .val (.int n1), .val (.long v37), .second, .val (.int v56), .val (.long f1), .second, .val (.long f2), .second, .val (.int (1 : Int32)), .unset, .unset, .unset] [(.int v56), (.long (f2 - (f2 / hp) * hp))])) _
    refine XS.i2l X25.here hx rfl (hb hby at_175) rfl ?_
    show Steps p.tables e below (T25.setTop (mkF m 176 #[.val (.long xta), .second, .val (.int xna), .val (.long xtb), .second, .val (.int xnb), .val (.int xh), .val (.int xsel), .val (.int hh), .val (.long hp), .second, .val (.long t1), .second, .val (.int n1), .val (.long v37), .second, .val (.int v56), .val (.long f1), .second, .val (.long f2), .second, .val (.int (1 : Int32)), .unset, .unset, .unset] [(.long (v56.toInt64)), (.long (f2 - (f2 / hp) * hp))])) _
    refine XS.lcmp X25.here hx rfl (hb hby at_176) rfl ?_
    show Steps p.tables e below (T25.setTop (mkF m 177 #[.val (.long xta), .second, .val (.int xna), .val (.long xtb), .second, .val (.int xnb), .val (.int xh), .val (.int xsel), .val (.int hh), .val (.long hp), .second, .val (.long t1), .second, .val (.int n1), .val (.long v37), .second, .val (.int v56), .val (.long f1), .second, .val (.long f2), .second, .val (.int (1 : Int32)), .unset, .unset, .unset] [(.int (lcmpW (f2 - (f2 / hp) * hp) (v56.toInt64)))])) _
    refine XS.ifNo X25.here hx rfl (hb hby at_177) rfl ((if0 _ _).trans (teq ((lw_eq _ _).mpr (show (f2 - (f2 / hp) * hp) = (v56.toInt64) from (own_back v37 f2 hp v56 hh (own_t2 xtb t1 v37 _ (own_t xta t1 ht1) hv37) (own_hp xh hh hp hhh hhp).1 (own_n2 xnb hh n1 v56 hp _ (own_hp xh hh hp hhh hhp).1 hhp (by rw [hn1]; exact own_rem xna hh hp (own_hp xh hh hp hhh hhp).1 hhp) hv56) hf2 (own_hp xh hh hp hhh hhp).2.1 (own_hp xh hh hp hhh hhp).2.2.2).2.2))).2) ?_
    show Steps p.tables e below (T25.setTop (mkF m 180 #[.val (.long xta), .second, .val (.int xna), .val (.long xtb), .second, .val (.int xnb), .val (.int xh), .val (.int xsel), .val (.int hh), .val (.long hp), .second, .val (.long t1), .second, .val (.int n1), .val (.long v37), .second, .val (.int v56), .val (.long f1), .second, .val (.long f2), .second, .val (.int (1 : Int32)), .unset, .unset, .unset] [])) _
    refine XS.iconst X25.here hx rfl (hb hby at_180) ?_
    show Steps p.tables e below (T25.setTop (mkF m 181 #[.val (.long xta), .second, .val (.int xna), .val (.long xtb), .second, .val (.int xnb), .val (.int xh), .val (.int xsel), .val (.int hh), .val (.long hp), .second, .val (.long t1), .second, .val (.int n1), .val (.long v37), .second, .val (.int v56), .val (.long f1), .second, .val (.long f2), .second, .val (.int (1 : Int32)), .unset, .unset, .unset] [(.int (1 : Int32))])) _
    refine XS.goto X25.here hx rfl (pc0 := 181) (pc' := 185) rfl (hb hby at_181) (by decide) (by decide) ?_
    show Steps p.tables e below (T25.setTop (mkF m 185 #[.val (.long xta), .second, .val (.int xna), .val (.long xtb), .second, .val (.int xnb), .val (.int xh), .val (.int xsel), .val (.int hh), .val (.long hp), .second, .val (.long t1), .second, .val (.int n1), .val (.long v37), .second, .val (.int v56), .val (.long f1), .second, .val (.long f2), .second, .val (.int (1 : Int32)), .unset, .unset, .unset] [(.int (1 : Int32))])) _
    refine XS.istore X25.here hx rfl (hb hby at_185) rfl (l' := #[.val (.long xta), .second, .val (.int xna), .val (.long xtb), .second, .val (.int xnb), .val (.int xh), .val (.int xsel), .val (.int hh), .val (.long hp), .second, .val (.long t1), .second, .val (.int n1), .val (.long v37), .second, .val (.int v56), .val (.long f1), .second, .val (.long f2), .second, .val (.int (1 : Int32)), .val (.int (1 : Int32)), .unset, .unset]) rfl ?_
    show Steps p.tables e below (T25.setTop (mkF m 187 #[.val (.long xta), .second, .val (.int xna), .val (.long xtb), .second, .val (.int xnb), .val (.int xh), .val (.int xsel), .val (.int hh), .val (.long hp), .second, .val (.long t1), .second, .val (.int n1), .val (.long v37), .second, .val (.int v56), .val (.long f1), .second, .val (.long f2), .second, .val (.int (1 : Int32)), .val (.int (1 : Int32)), .unset, .unset] [])) _
    refine XS.lload X25.here hx rfl (hb hby at_187) rfl ?_
    show Steps p.tables e below (T25.setTop (mkF m 189 #[.val (.long xta), .second, .val (.int xna), .val (.long xtb), .second, .val (.int xnb), .val (.int xh), .val (.int xsel), .val (.int hh), .val (.long hp), .second, .val (.long t1), .second, .val (.int n1), .val (.long v37), .second, .val (.int v56), .val (.long f1), .second, .val (.long f2), .second, .val (.int (1 : Int32)), .val (.int (1 : Int32)), .unset, .unset] [(.long t1)])) _
    refine XS.lload X25.here hx rfl (hb hby at_189) rfl ?_
    show Steps p.tables e below (T25.setTop (mkF m 191 #[.val (.long xta), .second, .val (.int xna), .val (.long xtb), .second, .val (.int xnb), .val (.int xh), .val (.int xsel), .val (.int hh), .val (.long hp), .second, .val (.long t1), .second, .val (.int n1), .val (.long v37), .second, .val (.int v56), .val (.long f1), .second, .val (.long f2), .second, .val (.int (1 : Int32)), .val (.int (1 : Int32)), .unset, .unset] [(.long v37), (.long t1)])) _
    refine XS.lcmp X25.here hx rfl (hb hby at_191) rfl ?_
    show Steps p.tables e below (T25.setTop (mkF m 192 #[.val (.long xta), .second, .val (.int xna), .val (.long xtb), .second, .val (.int xnb), .val (.int xh), .val (.int xsel), .val (.int hh), .val (.long hp), .second, .val (.long t1), .second, .val (.int n1), .val (.long v37), .second, .val (.int v56), .val (.long f1), .second, .val (.long f2), .second, .val (.int (1 : Int32)), .val (.int (1 : Int32)), .unset, .unset] [(.int (lcmpW t1 v37))])) _
    exact k
  obtain ⟨v192, hv192⟩ : ∃ z : Int32, z = (if t1 < v37 then (1 : Int32) else (if t1 = v37 then (if n1 < v56 then (1 : Int32) else (0 : Int32)) else (0 : Int32))) := ⟨_, rfl⟩
  have pre29 : ∀ t, Steps p.tables e below (T25.setTop (mkF m 215 #[.val (.long xta), .second, .val (.int xna), .val (.long xtb), .second, .val (.int xnb), .val (.int xh), .val (.int xsel), .val (.int hh), .val (.long hp), .second, .val (.long t1), .second, .val (.int n1), .val (.long v37), .second, .val (.int v56), .val (.long f1), .second, .val (.long f2), .second, .val (.int (1 : Int32)), .val (.int (1 : Int32)), .unset, .unset] [(.int v192)])) t → Steps p.tables e below (s₁.setTop (entryFrame m #[(.long xta), (.int xna), (.long xtb), (.int xnb), (.int xh), (.int xsel)] maxLocals)) t := by
    intro t k
    refine pre28 t ?_
    by_cases hc192 : t1 < v37
    · refine XS.ifYes X25.here hx rfl (pc0 := 192) (pc' := 210) rfl (hb hby at_192) rfl ((if0 _ _).trans (tlt ((lw_lt _ _).mpr hc192)).1) (by decide) (by decide) ?_
      show Steps p.tables e below (T25.setTop (mkF m 210 #[.val (.long xta), .second, .val (.int xna), .val (.long xtb), .second, .val (.int xnb), .val (.int xh), .val (.int xsel), .val (.int hh), .val (.long hp), .second, .val (.long t1), .second, .val (.int n1), .val (.long v37), .second, .val (.int v56), .val (.long f1), .second, .val (.long f2), .second, .val (.int (1 : Int32)), .val (.int (1 : Int32)), .unset, .unset] [])) _
      refine XS.iconst X25.here hx rfl (hb hby at_210) ?_
      show Steps p.tables e below (T25.setTop (mkF m 211 #[.val (.long xta), .second, .val (.int xna), .val (.long xtb), .second, .val (.int xnb), .val (.int xh), .val (.int xsel), .val (.int hh), .val (.long hp), .second, .val (.long t1), .second, .val (.int n1), .val (.long v37), .second, .val (.int v56), .val (.long f1), .second, .val (.long f2), .second, .val (.int (1 : Int32)), .val (.int (1 : Int32)), .unset, .unset] [(.int (1 : Int32))])) _
      refine XS.goto X25.here hx rfl (pc0 := 211) (pc' := 215) rfl (hb hby at_211) (by decide) (by decide) ?_
      show Steps p.tables e below (T25.setTop (mkF m 215 #[.val (.long xta), .second, .val (.int xna), .val (.long xtb), .second, .val (.int xnb), .val (.int xh), .val (.int xsel), .val (.int hh), .val (.long hp), .second, .val (.long t1), .second, .val (.int n1), .val (.long v37), .second, .val (.int v56), .val (.long f1), .second, .val (.long f2), .second, .val (.int (1 : Int32)), .val (.int (1 : Int32)), .unset, .unset] [(.int (1 : Int32))])) _
      rw [show v192 = (1 : Int32) from by rw [hv192, if_pos hc192]] at k
      exact k
    · refine XS.ifNo X25.here hx rfl (hb hby at_192) rfl ((if0 _ _).trans (flt (mt (lw_lt _ _).mp hc192)).1) ?_
      show Steps p.tables e below (T25.setTop (mkF m 195 #[.val (.long xta), .second, .val (.int xna), .val (.long xtb), .second, .val (.int xnb), .val (.int xh), .val (.int xsel), .val (.int hh), .val (.long hp), .second, .val (.long t1), .second, .val (.int n1), .val (.long v37), .second, .val (.int v56), .val (.long f1), .second, .val (.long f2), .second, .val (.int (1 : Int32)), .val (.int (1 : Int32)), .unset, .unset] [])) _
      refine XS.lload X25.here hx rfl (hb hby at_195) rfl ?_
      show Steps p.tables e below (T25.setTop (mkF m 197 #[.val (.long xta), .second, .val (.int xna), .val (.long xtb), .second, .val (.int xnb), .val (.int xh), .val (.int xsel), .val (.int hh), .val (.long hp), .second, .val (.long t1), .second, .val (.int n1), .val (.long v37), .second, .val (.int v56), .val (.long f1), .second, .val (.long f2), .second, .val (.int (1 : Int32)), .val (.int (1 : Int32)), .unset, .unset] [(.long t1)])) _
      refine XS.lload X25.here hx rfl (hb hby at_197) rfl ?_
      show Steps p.tables e below (T25.setTop (mkF m 199 #[.val (.long xta), .second, .val (.int xna), .val (.long xtb), .second, .val (.int xnb), .val (.int xh), .val (.int xsel), .val (.int hh), .val (.long hp), .second, .val (.long t1), .second, .val (.int n1), .val (.long v37), .second, .val (.int v56), .val (.long f1), .second, .val (.long f2), .second, .val (.int (1 : Int32)), .val (.int (1 : Int32)), .unset, .unset] [(.long v37), (.long t1)])) _
      refine XS.lcmp X25.here hx rfl (hb hby at_199) rfl ?_
      show Steps p.tables e below (T25.setTop (mkF m 200 #[.val (.long xta), .second, .val (.int xna), .val (.long xtb), .second, .val (.int xnb), .val (.int xh), .val (.int xsel), .val (.int hh), .val (.long hp), .second, .val (.long t1), .second, .val (.int n1), .val (.long v37), .second, .val (.int v56), .val (.long f1), .second, .val (.long f2), .second, .val (.int (1 : Int32)), .val (.int (1 : Int32)), .unset, .unset] [(.int (lcmpW t1 v37))])) _
      by_cases hc200 : t1 = v37
      · refine XS.ifNo X25.here hx rfl (hb hby at_200) rfl ((if0 _ _).trans (teq ((lw_eq _ _).mpr hc200)).2) ?_
        show Steps p.tables e below (T25.setTop (mkF m 203 #[.val (.long xta), .second, .val (.int xna), .val (.long xtb), .second, .val (.int xnb), .val (.int xh), .val (.int xsel), .val (.int hh), .val (.long hp), .second, .val (.long t1), .second, .val (.int n1), .val (.long v37), .second, .val (.int v56), .val (.long f1), .second, .val (.long f2), .second, .val (.int (1 : Int32)), .val (.int (1 : Int32)), .unset, .unset] [])) _
        refine XS.iload X25.here hx rfl (hb hby at_203) rfl ?_
        show Steps p.tables e below (T25.setTop (mkF m 205 #[.val (.long xta), .second, .val (.int xna), .val (.long xtb), .second, .val (.int xnb), .val (.int xh), .val (.int xsel), .val (.int hh), .val (.long hp), .second, .val (.long t1), .second, .val (.int n1), .val (.long v37), .second, .val (.int v56), .val (.long f1), .second, .val (.long f2), .second, .val (.int (1 : Int32)), .val (.int (1 : Int32)), .unset, .unset] [(.int n1)])) _
        refine XS.iload X25.here hx rfl (hb hby at_205) rfl ?_
        show Steps p.tables e below (T25.setTop (mkF m 207 #[.val (.long xta), .second, .val (.int xna), .val (.long xtb), .second, .val (.int xnb), .val (.int xh), .val (.int xsel), .val (.int hh), .val (.long hp), .second, .val (.long t1), .second, .val (.int n1), .val (.long v37), .second, .val (.int v56), .val (.long f1), .second, .val (.long f2), .second, .val (.int (1 : Int32)), .val (.int (1 : Int32)), .unset, .unset] [(.int v56), (.int n1)])) _
        by_cases hc207 : n1 < v56
        · refine XS.icmpNo X25.here hx rfl (hb hby at_207) rfl (tlt hc207).2.1 ?_
          show Steps p.tables e below (T25.setTop (mkF m 210 #[.val (.long xta), .second, .val (.int xna), .val (.long xtb), .second, .val (.int xnb), .val (.int xh), .val (.int xsel), .val (.int hh), .val (.long hp), .second, .val (.long t1), .second, .val (.int n1), .val (.long v37), .second, .val (.int v56), .val (.long f1), .second, .val (.long f2), .second, .val (.int (1 : Int32)), .val (.int (1 : Int32)), .unset, .unset] [])) _
          refine XS.iconst X25.here hx rfl (hb hby at_210) ?_
          show Steps p.tables e below (T25.setTop (mkF m 211 #[.val (.long xta), .second, .val (.int xna), .val (.long xtb), .second, .val (.int xnb), .val (.int xh), .val (.int xsel), .val (.int hh), .val (.long hp), .second, .val (.long t1), .second, .val (.int n1), .val (.long v37), .second, .val (.int v56), .val (.long f1), .second, .val (.long f2), .second, .val (.int (1 : Int32)), .val (.int (1 : Int32)), .unset, .unset] [(.int (1 : Int32))])) _
          refine XS.goto X25.here hx rfl (pc0 := 211) (pc' := 215) rfl (hb hby at_211) (by decide) (by decide) ?_
          show Steps p.tables e below (T25.setTop (mkF m 215 #[.val (.long xta), .second, .val (.int xna), .val (.long xtb), .second, .val (.int xnb), .val (.int xh), .val (.int xsel), .val (.int hh), .val (.long hp), .second, .val (.long t1), .second, .val (.int n1), .val (.long v37), .second, .val (.int v56), .val (.long f1), .second, .val (.long f2), .second, .val (.int (1 : Int32)), .val (.int (1 : Int32)), .unset, .unset] [(.int (1 : Int32))])) _
          rw [show v192 = (1 : Int32) from by rw [hv192, if_neg hc192, if_pos hc200, if_pos hc207]] at k
          exact k
        · refine XS.icmpYes X25.here hx rfl (pc0 := 207) (pc' := 214) rfl (hb hby at_207) rfl (flt hc207).2.1 (by decide) (by decide) ?_
          show Steps p.tables e below (T25.setTop (mkF m 214 #[.val (.long xta), .second, .val (.int xna), .val (.long xtb), .second, .val (.int xnb), .val (.int xh), .val (.int xsel), .val (.int hh), .val (.long hp), .second, .val (.long t1), .second, .val (.int n1), .val (.long v37), .second, .val (.int v56), .val (.long f1), .second, .val (.long f2), .second, .val (.int (1 : Int32)), .val (.int (1 : Int32)), .unset, .unset] [])) _
          refine XS.iconst X25.here hx rfl (hb hby at_214) ?_
          show Steps p.tables e below (T25.setTop (mkF m 215 #[.val (.long xta), .second, .val (.int xna), .val (.long xtb), .second, .val (.int xnb), .val (.int xh), .val (.int xsel), .val (.int hh), .val (.long hp), .second, .val (.long t1), .second, .val (.int n1), .val (.long v37), .second, .val (.int v56), .val (.long f1), .second, .val (.long f2), .second, .val (.int (1 : Int32)), .val (.int (1 : Int32)), .unset, .unset] [(.int (0 : Int32))])) _
          rw [show v192 = (0 : Int32) from by rw [hv192, if_neg hc192, if_pos hc200, if_neg hc207]] at k
          exact k
      · refine XS.ifYes X25.here hx rfl (pc0 := 200) (pc' := 214) rfl (hb hby at_200) rfl ((if0 _ _).trans (feq (mt (lw_eq _ _).mp hc200)).2) (by decide) (by decide) ?_
        show Steps p.tables e below (T25.setTop (mkF m 214 #[.val (.long xta), .second, .val (.int xna), .val (.long xtb), .second, .val (.int xnb), .val (.int xh), .val (.int xsel), .val (.int hh), .val (.long hp), .second, .val (.long t1), .second, .val (.int n1), .val (.long v37), .second, .val (.int v56), .val (.long f1), .second, .val (.long f2), .second, .val (.int (1 : Int32)), .val (.int (1 : Int32)), .unset, .unset] [])) _
        refine XS.iconst X25.here hx rfl (hb hby at_214) ?_
        show Steps p.tables e below (T25.setTop (mkF m 215 #[.val (.long xta), .second, .val (.int xna), .val (.long xtb), .second, .val (.int xnb), .val (.int xh), .val (.int xsel), .val (.int hh), .val (.long hp), .second, .val (.long t1), .second, .val (.int n1), .val (.long v37), .second, .val (.int v56), .val (.long f1), .second, .val (.long f2), .second, .val (.int (1 : Int32)), .val (.int (1 : Int32)), .unset, .unset] [(.int (0 : Int32))])) _
        rw [show v192 = (0 : Int32) from by rw [hv192, if_neg hc192, if_neg hc200]] at k
        exact k
  have pre30 : ∀ t, Steps p.tables e below (T25.setTop (mkF m 222 #[.val (.long xta), .second, .val (.int xna), .val (.long xtb), .second, .val (.int xnb), .val (.int xh), .val (.int xsel), .val (.int hh), .val (.long hp), .second, .val (.long t1), .second, .val (.int n1), .val (.long v37), .second, .val (.int v56), .val (.long f1), .second, .val (.long f2), .second, .val (.int (1 : Int32)), .val (.int (1 : Int32)), .val (.int v192), .unset] [(.int (lcmpW t1 v37))])) t → Steps p.tables e below (s₁.setTop (entryFrame m #[(.long xta), (.int xna), (.long xtb), (.int xnb), (.int xh), (.int xsel)] maxLocals)) t := by
    intro t k
    refine pre29 t ?_
    refine XS.istore X25.here hx rfl (hb hby at_215) rfl (l' := #[.val (.long xta), .second, .val (.int xna), .val (.long xtb), .second, .val (.int xnb), .val (.int xh), .val (.int xsel), .val (.int hh), .val (.long hp), .second, .val (.long t1), .second, .val (.int n1), .val (.long v37), .second, .val (.int v56), .val (.long f1), .second, .val (.long f2), .second, .val (.int (1 : Int32)), .val (.int (1 : Int32)), .val (.int v192), .unset]) rfl ?_
    show Steps p.tables e below (T25.setTop (mkF m 217 #[.val (.long xta), .second, .val (.int xna), .val (.long xtb), .second, .val (.int xnb), .val (.int xh), .val (.int xsel), .val (.int hh), .val (.long hp), .second, .val (.long t1), .second, .val (.int n1), .val (.long v37), .second, .val (.int v56), .val (.long f1), .second, .val (.long f2), .second, .val (.int (1 : Int32)), .val (.int (1 : Int32)), .val (.int v192), .unset] [])) _
    refine XS.lload X25.here hx rfl (hb hby at_217) rfl ?_
    show Steps p.tables e below (T25.setTop (mkF m 219 #[.val (.long xta), .second, .val (.int xna), .val (.long xtb), .second, .val (.int xnb), .val (.int xh), .val (.int xsel), .val (.int hh), .val (.long hp), .second, .val (.long t1), .second, .val (.int n1), .val (.long v37), .second, .val (.int v56), .val (.long f1), .second, .val (.long f2), .second, .val (.int (1 : Int32)), .val (.int (1 : Int32)), .val (.int v192), .unset] [(.long t1)])) _
    refine XS.lload X25.here hx rfl (hb hby at_219) rfl ?_
    show Steps p.tables e below (T25.setTop (mkF m 221 #[.val (.long xta), .second, .val (.int xna), .val (.long xtb), .second, .val (.int xnb), .val (.int xh), .val (.int xsel), .val (.int hh), .val (.long hp), .second, .val (.long t1), .second, .val (.int n1), .val (.long v37), .second, .val (.int v56), .val (.long f1), .second, .val (.long f2), .second, .val (.int (1 : Int32)), .val (.int (1 : Int32)), .val (.int v192), .unset] [(.long v37), (.long t1)])) _
    refine XS.lcmp X25.here hx rfl (hb hby at_221) rfl ?_
    show Steps p.tables e below (T25.setTop (mkF m 222 #[.val (.long xta), .second, .val (.int xna), .val (.long xtb), .second, .val (.int xnb), .val (.int xh), .val (.int xsel), .val (.int hh), .val (.long hp), .second, .val (.long t1), .second, .val (.int n1), .val (.long v37), .second, .val (.int v56), .val (.long f1), .second, .val (.long f2), .second, .val (.int (1 : Int32)), .val (.int (1 : Int32)), .val (.int v192), .unset] [(.int (lcmpW t1 v37))])) _
    exact k
  obtain ⟨v222, hv222⟩ : ∃ z : Int32, z = (if t1 = v37 then (if n1 = v56 then (1 : Int32) else (0 : Int32)) else (0 : Int32)) := ⟨_, rfl⟩
  have pre31 : ∀ t, Steps p.tables e below (T25.setTop (mkF m 237 #[.val (.long xta), .second, .val (.int xna), .val (.long xtb), .second, .val (.int xnb), .val (.int xh), .val (.int xsel), .val (.int hh), .val (.long hp), .second, .val (.long t1), .second, .val (.int n1), .val (.long v37), .second, .val (.int v56), .val (.long f1), .second, .val (.long f2), .second, .val (.int (1 : Int32)), .val (.int (1 : Int32)), .val (.int v192), .unset] [(.int v222)])) t → Steps p.tables e below (s₁.setTop (entryFrame m #[(.long xta), (.int xna), (.long xtb), (.int xnb), (.int xh), (.int xsel)] maxLocals)) t := by
    intro t k
    refine pre30 t ?_
    by_cases hc222 : t1 = v37
    · refine XS.ifNo X25.here hx rfl (hb hby at_222) rfl ((if0 _ _).trans (teq ((lw_eq _ _).mpr hc222)).2) ?_
      show Steps p.tables e below (T25.setTop (mkF m 225 #[.val (.long xta), .second, .val (.int xna), .val (.long xtb), .second, .val (.int xnb), .val (.int xh), .val (.int xsel), .val (.int hh), .val (.long hp), .second, .val (.long t1), .second, .val (.int n1), .val (.long v37), .second, .val (.int v56), .val (.long f1), .second, .val (.long f2), .second, .val (.int (1 : Int32)), .val (.int (1 : Int32)), .val (.int v192), .unset] [])) _
      refine XS.iload X25.here hx rfl (hb hby at_225) rfl ?_
      show Steps p.tables e below (T25.setTop (mkF m 227 #[.val (.long xta), .second, .val (.int xna), .val (.long xtb), .second, .val (.int xnb), .val (.int xh), .val (.int xsel), .val (.int hh), .val (.long hp), .second, .val (.long t1), .second, .val (.int n1), .val (.long v37), .second, .val (.int v56), .val (.long f1), .second, .val (.long f2), .second, .val (.int (1 : Int32)), .val (.int (1 : Int32)), .val (.int v192), .unset] [(.int n1)])) _
      refine XS.iload X25.here hx rfl (hb hby at_227) rfl ?_
      show Steps p.tables e below (T25.setTop (mkF m 229 #[.val (.long xta), .second, .val (.int xna), .val (.long xtb), .second, .val (.int xnb), .val (.int xh), .val (.int xsel), .val (.int hh), .val (.long hp), .second, .val (.long t1), .second, .val (.int n1), .val (.long v37), .second, .val (.int v56), .val (.long f1), .second, .val (.long f2), .second, .val (.int (1 : Int32)), .val (.int (1 : Int32)), .val (.int v192), .unset] [(.int v56), (.int n1)])) _
      by_cases hc229 : n1 = v56
      · refine XS.icmpNo X25.here hx rfl (hb hby at_229) rfl (teq hc229).2 ?_
        show Steps p.tables e below (T25.setTop (mkF m 232 #[.val (.long xta), .second, .val (.int xna), .val (.long xtb), .second, .val (.int xnb), .val (.int xh), .val (.int xsel), .val (.int hh), .val (.long hp), .second, .val (.long t1), .second, .val (.int n1), .val (.long v37), .second, .val (.int v56), .val (.long f1), .second, .val (.long f2), .second, .val (.int (1 : Int32)), .val (.int (1 : Int32)), .val (.int v192), .unset] [])) _
        refine XS.iconst X25.here hx rfl (hb hby at_232) ?_
        show Steps p.tables e below (T25.setTop (mkF m 233 #[.val (.long xta), .second, .val (.int xna), .val (.long xtb), .second, .val (.int xnb), .val (.int xh), .val (.int xsel), .val (.int hh), .val (.long hp), .second, .val (.long t1), .second, .val (.int n1), .val (.long v37), .second, .val (.int v56), .val (.long f1), .second, .val (.long f2), .second, .val (.int (1 : Int32)), .val (.int (1 : Int32)), .val (.int v192), .unset] [(.int (1 : Int32))])) _
        refine XS.goto X25.here hx rfl (pc0 := 233) (pc' := 237) rfl (hb hby at_233) (by decide) (by decide) ?_
        show Steps p.tables e below (T25.setTop (mkF m 237 #[.val (.long xta), .second, .val (.int xna), .val (.long xtb), .second, .val (.int xnb), .val (.int xh), .val (.int xsel), .val (.int hh), .val (.long hp), .second, .val (.long t1), .second, .val (.int n1), .val (.long v37), .second, .val (.int v56), .val (.long f1), .second, .val (.long f2), .second, .val (.int (1 : Int32)), .val (.int (1 : Int32)), .val (.int v192), .unset] [(.int (1 : Int32))])) _
        rw [show v222 = (1 : Int32) from by rw [hv222, if_pos hc222, if_pos hc229]] at k
        exact k
      · refine XS.icmpYes X25.here hx rfl (pc0 := 229) (pc' := 236) rfl (hb hby at_229) rfl (feq hc229).2 (by decide) (by decide) ?_
        show Steps p.tables e below (T25.setTop (mkF m 236 #[.val (.long xta), .second, .val (.int xna), .val (.long xtb), .second, .val (.int xnb), .val (.int xh), .val (.int xsel), .val (.int hh), .val (.long hp), .second, .val (.long t1), .second, .val (.int n1), .val (.long v37), .second, .val (.int v56), .val (.long f1), .second, .val (.long f2), .second, .val (.int (1 : Int32)), .val (.int (1 : Int32)), .val (.int v192), .unset] [])) _
        refine XS.iconst X25.here hx rfl (hb hby at_236) ?_
        show Steps p.tables e below (T25.setTop (mkF m 237 #[.val (.long xta), .second, .val (.int xna), .val (.long xtb), .second, .val (.int xnb), .val (.int xh), .val (.int xsel), .val (.int hh), .val (.long hp), .second, .val (.long t1), .second, .val (.int n1), .val (.long v37), .second, .val (.int v56), .val (.long f1), .second, .val (.long f2), .second, .val (.int (1 : Int32)), .val (.int (1 : Int32)), .val (.int v192), .unset] [(.int (0 : Int32))])) _
        rw [show v222 = (0 : Int32) from by rw [hv222, if_pos hc222, if_neg hc229]] at k
        exact k
    · refine XS.ifYes X25.here hx rfl (pc0 := 222) (pc' := 236) rfl (hb hby at_222) rfl ((if0 _ _).trans (feq (mt (lw_eq _ _).mp hc222)).2) (by decide) (by decide) ?_
      show Steps p.tables e below (T25.setTop (mkF m 236 #[.val (.long xta), .second, .val (.int xna), .val (.long xtb), .second, .val (.int xnb), .val (.int xh), .val (.int xsel), .val (.int hh), .val (.long hp), .second, .val (.long t1), .second, .val (.int n1), .val (.long v37), .second, .val (.int v56), .val (.long f1), .second, .val (.long f2), .second, .val (.int (1 : Int32)), .val (.int (1 : Int32)), .val (.int v192), .unset] [])) _
      refine XS.iconst X25.here hx rfl (hb hby at_236) ?_
      show Steps p.tables e below (T25.setTop (mkF m 237 #[.val (.long xta), .second, .val (.int xna), .val (.long xtb), .second, .val (.int xnb), .val (.int xh), .val (.int xsel), .val (.int hh), .val (.long hp), .second, .val (.long t1), .second, .val (.int n1), .val (.long v37), .second, .val (.int v56), .val (.long f1), .second, .val (.long f2), .second, .val (.int (1 : Int32)), .val (.int (1 : Int32)), .val (.int v192), .unset] [(.int (0 : Int32))])) _
      rw [show v222 = (0 : Int32) from by rw [hv222, if_neg hc222]] at k
      exact k
  have pre32 : ∀ t, Steps p.tables e below (T25.setTop (mkF m 254 #[.val (.long xta), .second, .val (.int xna), .val (.long xtb), .second, .val (.int xnb), .val (.int xh), .val (.int xsel), .val (.int hh), .val (.long hp), .second, .val (.long t1), .second, .val (.int n1), .val (.long v37), .second, .val (.int v56), .val (.long f1), .second, .val (.long f2), .second, .val (.int (1 : Int32)), .val (.int (1 : Int32)), .val (.int v192), .val (.int v222)] [(.int (lcmpW f1 f2))])) t → Steps p.tables e below (s₁.setTop (entryFrame m #[(.long xta), (.int xna), (.long xtb), (.int xnb), (.int xh), (.int xsel)] maxLocals)) t := by
    intro t k
    refine pre31 t ?_
    refine XS.istore X25.here hx rfl (hb hby at_237) rfl (l' := #[.val (.long xta), .second, .val (.int xna), .val (.long xtb), .second, .val (.int xnb), .val (.int xh), .val (.int xsel), .val (.int hh), .val (.long hp), .second, .val (.long t1), .second, .val (.int n1), .val (.long v37), .second, .val (.int v56), .val (.long f1), .second, .val (.long f2), .second, .val (.int (1 : Int32)), .val (.int (1 : Int32)), .val (.int v192), .val (.int v222)]) rfl ?_
    show Steps p.tables e below (T25.setTop (mkF m 239 #[.val (.long xta), .second, .val (.int xna), .val (.long xtb), .second, .val (.int xnb), .val (.int xh), .val (.int xsel), .val (.int hh), .val (.long hp), .second, .val (.long t1), .second, .val (.int n1), .val (.long v37), .second, .val (.int v56), .val (.long f1), .second, .val (.long f2), .second, .val (.int (1 : Int32)), .val (.int (1 : Int32)), .val (.int v192), .val (.int v222)] [])) _
    refine XS.iload X25.here hx rfl (hb hby at_239) rfl ?_
    show Steps p.tables e below (T25.setTop (mkF m 241 #[.val (.long xta), .second, .val (.int xna), .val (.long xtb), .second, .val (.int xnb), .val (.int xh), .val (.int xsel), .val (.int hh), .val (.long hp), .second, .val (.long t1), .second, .val (.int n1), .val (.long v37), .second, .val (.int v56), .val (.long f1), .second, .val (.long f2), .second, .val (.int (1 : Int32)), .val (.int (1 : Int32)), .val (.int v192), .val (.int v222)] [(.int (1 : Int32))])) _
    refine XS.ifNo X25.here hx rfl (hb hby at_241) rfl ((if0 _ _).trans (feq (show ¬ ((1 : Int32) = (0 : Int32)) from by decide)).1) ?_
    show Steps p.tables e below (T25.setTop (mkF m 244 #[.val (.long xta), .second, .val (.int xna), .val (.long xtb), .second, .val (.int xnb), .val (.int xh), .val (.int xsel), .val (.int hh), .val (.long hp), .second, .val (.long t1), .second, .val (.int n1), .val (.long v37), .second, .val (.int v56), .val (.long f1), .second, .val (.long f2), .second, .val (.int (1 : Int32)), .val (.int (1 : Int32)), .val (.int v192), .val (.int v222)] [])) _
    refine XS.iload X25.here hx rfl (hb hby at_244) rfl ?_
    show Steps p.tables e below (T25.setTop (mkF m 246 #[.val (.long xta), .second, .val (.int xna), .val (.long xtb), .second, .val (.int xnb), .val (.int xh), .val (.int xsel), .val (.int hh), .val (.long hp), .second, .val (.long t1), .second, .val (.int n1), .val (.long v37), .second, .val (.int v56), .val (.long f1), .second, .val (.long f2), .second, .val (.int (1 : Int32)), .val (.int (1 : Int32)), .val (.int v192), .val (.int v222)] [(.int (1 : Int32))])) _
    refine XS.ifNo X25.here hx rfl (hb hby at_246) rfl ((if0 _ _).trans (feq (show ¬ ((1 : Int32) = (0 : Int32)) from by decide)).1) ?_
    show Steps p.tables e below (T25.setTop (mkF m 249 #[.val (.long xta), .second, .val (.int xna), .val (.long xtb), .second, .val (.int xnb), .val (.int xh), .val (.int xsel), .val (.int hh), .val (.long hp), .second, .val (.long t1), .second, .val (.int n1), .val (.long v37), .second, .val (.int v56), .val (.long f1), .second, .val (.long f2), .second, .val (.int (1 : Int32)), .val (.int (1 : Int32)), .val (.int v192), .val (.int v222)] [])) _
    refine XS.lload X25.here hx rfl (hb hby at_249) rfl ?_
    show Steps p.tables e below (T25.setTop (mkF m 251 #[.val (.long xta), .second, .val (.int xna), .val (.long xtb), .second, .val (.int xnb), .val (.int xh), .val (.int xsel), .val (.int hh), .val (.long hp), .second, .val (.long t1), .second, .val (.int n1), .val (.long v37), .second, .val (.int v56), .val (.long f1), .second, .val (.long f2), .second, .val (.int (1 : Int32)), .val (.int (1 : Int32)), .val (.int v192), .val (.int v222)] [(.long f1)])) _
    refine XS.lload X25.here hx rfl (hb hby at_251) rfl ?_
    show Steps p.tables e below (T25.setTop (mkF m 253 #[.val (.long xta), .second, .val (.int xna), .val (.long xtb), .second, .val (.int xnb), .val (.int xh), .val (.int xsel), .val (.int hh), .val (.long hp), .second, .val (.long t1), .second, .val (.int n1), .val (.long v37), .second, .val (.int v56), .val (.long f1), .second, .val (.long f2), .second, .val (.int (1 : Int32)), .val (.int (1 : Int32)), .val (.int v192), .val (.int v222)] [(.long f2), (.long f1)])) _
    refine XS.lcmp X25.here hx rfl (hb hby at_253) rfl ?_
    show Steps p.tables e below (T25.setTop (mkF m 254 #[.val (.long xta), .second, .val (.int xna), .val (.long xtb), .second, .val (.int xnb), .val (.int xh), .val (.int xsel), .val (.int hh), .val (.long hp), .second, .val (.long t1), .second, .val (.int n1), .val (.long v37), .second, .val (.int v56), .val (.long f1), .second, .val (.long f2), .second, .val (.int (1 : Int32)), .val (.int (1 : Int32)), .val (.int v192), .val (.int v222)] [(.int (lcmpW f1 f2))])) _
    exact k
  obtain ⟨v254, hv254⟩ : ∃ z : Int32, z = (if f1 < f2 then (1 : Int32) else (0 : Int32)) := ⟨_, rfl⟩
  have pre33 : ∀ t, Steps p.tables e below (T25.setTop (mkF m 262 #[.val (.long xta), .second, .val (.int xna), .val (.long xtb), .second, .val (.int xnb), .val (.int xh), .val (.int xsel), .val (.int hh), .val (.long hp), .second, .val (.long t1), .second, .val (.int n1), .val (.long v37), .second, .val (.int v56), .val (.long f1), .second, .val (.long f2), .second, .val (.int (1 : Int32)), .val (.int (1 : Int32)), .val (.int v192), .val (.int v222)] [(.int v254)])) t → Steps p.tables e below (s₁.setTop (entryFrame m #[(.long xta), (.int xna), (.long xtb), (.int xnb), (.int xh), (.int xsel)] maxLocals)) t := by
    intro t k
    refine pre32 t ?_
    by_cases hc254 : f1 < f2
    · refine XS.ifNo X25.here hx rfl (hb hby at_254) rfl ((if0 _ _).trans (tlt ((lw_lt _ _).mpr hc254)).2.1) ?_
      show Steps p.tables e below (T25.setTop (mkF m 257 #[.val (.long xta), .second, .val (.int xna), .val (.long xtb), .second, .val (.int xnb), .val (.int xh), .val (.int xsel), .val (.int hh), .val (.long hp), .second, .val (.long t1), .second, .val (.int n1), .val (.long v37), .second, .val (.int v56), .val (.long f1), .second, .val (.long f2), .second, .val (.int (1 : Int32)), .val (.int (1 : Int32)), .val (.int v192), .val (.int v222)] [])) _
      refine XS.iconst X25.here hx rfl (hb hby at_257) ?_
      show Steps p.tables e below (T25.setTop (mkF m 258 #[.val (.long xta), .second, .val (.int xna), .val (.long xtb), .second, .val (.int xnb), .val (.int xh), .val (.int xsel), .val (.int hh), .val (.long hp), .second, .val (.long t1), .second, .val (.int n1), .val (.long v37), .second, .val (.int v56), .val (.long f1), .second, .val (.long f2), .second, .val (.int (1 : Int32)), .val (.int (1 : Int32)), .val (.int v192), .val (.int v222)] [(.int (1 : Int32))])) _
      refine XS.goto X25.here hx rfl (pc0 := 258) (pc' := 262) rfl (hb hby at_258) (by decide) (by decide) ?_
      show Steps p.tables e below (T25.setTop (mkF m 262 #[.val (.long xta), .second, .val (.int xna), .val (.long xtb), .second, .val (.int xnb), .val (.int xh), .val (.int xsel), .val (.int hh), .val (.long hp), .second, .val (.long t1), .second, .val (.int n1), .val (.long v37), .second, .val (.int v56), .val (.long f1), .second, .val (.long f2), .second, .val (.int (1 : Int32)), .val (.int (1 : Int32)), .val (.int v192), .val (.int v222)] [(.int (1 : Int32))])) _
      rw [show v254 = (1 : Int32) from by rw [hv254, if_pos hc254]] at k
      exact k
    · refine XS.ifYes X25.here hx rfl (pc0 := 254) (pc' := 261) rfl (hb hby at_254) rfl ((if0 _ _).trans (flt (mt (lw_lt _ _).mp hc254)).2.1) (by decide) (by decide) ?_
      show Steps p.tables e below (T25.setTop (mkF m 261 #[.val (.long xta), .second, .val (.int xna), .val (.long xtb), .second, .val (.int xnb), .val (.int xh), .val (.int xsel), .val (.int hh), .val (.long hp), .second, .val (.long t1), .second, .val (.int n1), .val (.long v37), .second, .val (.int v56), .val (.long f1), .second, .val (.long f2), .second, .val (.int (1 : Int32)), .val (.int (1 : Int32)), .val (.int v192), .val (.int v222)] [])) _
      refine XS.iconst X25.here hx rfl (hb hby at_261) ?_
      show Steps p.tables e below (T25.setTop (mkF m 262 #[.val (.long xta), .second, .val (.int xna), .val (.long xtb), .second, .val (.int xnb), .val (.int xh), .val (.int xsel), .val (.int hh), .val (.long hp), .second, .val (.long t1), .second, .val (.int n1), .val (.long v37), .second, .val (.int v56), .val (.long f1), .second, .val (.long f2), .second, .val (.int (1 : Int32)), .val (.int (1 : Int32)), .val (.int v192), .val (.int v222)] [(.int (0 : Int32))])) _
      rw [show v254 = (0 : Int32) from by rw [hv254, if_neg hc254]] at k
      exact k
  have pre34 : ∀ t, Steps p.tables e below (T25.setTop (mkF m 272 #[.val (.long xta), .second, .val (.int xna), .val (.long xtb), .second, .val (.int xnb), .val (.int xh), .val (.int xsel), .val (.int hh), .val (.long hp), .second, .val (.long t1), .second, .val (.int n1), .val (.long v37), .second, .val (.int v56), .val (.long f1), .second, .val (.long f2), .second, .val (.int (1 : Int32)), .val (.int (1 : Int32)), .val (.int v192), .val (.int v222)] [(.int (lcmpW f1 f2))])) t → Steps p.tables e below (s₁.setTop (entryFrame m #[(.long xta), (.int xna), (.long xtb), (.int xnb), (.int xh), (.int xsel)] maxLocals)) t := by
    intro t k
    refine pre33 t ?_
    refine XS.iload X25.here hx rfl (hb hby at_262) rfl ?_
    show Steps p.tables e below (T25.setTop (mkF m 264 #[.val (.long xta), .second, .val (.int xna), .val (.long xtb), .second, .val (.int xnb), .val (.int xh), .val (.int xsel), .val (.int hh), .val (.long hp), .second, .val (.long t1), .second, .val (.int n1), .val (.long v37), .second, .val (.int v56), .val (.long f1), .second, .val (.long f2), .second, .val (.int (1 : Int32)), .val (.int (1 : Int32)), .val (.int v192), .val (.int v222)] [(.int v192), (.int v254)])) _
    refine XS.icmpNo X25.here hx rfl (hb hby at_264) rfl (teq (show v254 = v192 from own_fin1 _ _ _ _ _ _ trivial (own_cmp t1 v37 f1 f2 n1 v56 hh (own_t xta t1 ht1) (own_t2 xtb t1 v37 _ (own_t xta t1 ht1) hv37) (own_hp xh hh hp hhh hhp).1 (by rw [hn1]; exact own_rem xna hh hp (own_hp xh hh hp hhh hhp).1 hhp) (own_n2 xnb hh n1 v56 hp _ (own_hp xh hh hp hhh hhp).1 hhp (by rw [hn1]; exact own_rem xna hh hp (own_hp xh hh hp hhh hhp).1 hhp) hv56) hf1 hf2).1 hv254 hv192)).2 ?_
    show Steps p.tables e below (T25.setTop (mkF m 267 #[.val (.long xta), .second, .val (.int xna), .val (.long xtb), .second, .val (.int xnb), .val (.int xh), .val (.int xsel), .val (.int hh), .val (.long hp), .second, .val (.long t1), .second, .val (.int n1), .val (.long v37), .second, .val (.int v56), .val (.long f1), .second, .val (.long f2), .second, .val (.int (1 : Int32)), .val (.int (1 : Int32)), .val (.int v192), .val (.int v222)] [])) _
    refine XS.lload X25.here hx rfl (hb hby at_267) rfl ?_
    show Steps p.tables e below (T25.setTop (mkF m 269 #[.val (.long xta), .second, .val (.int xna), .val (.long xtb), .second, .val (.int xnb), .val (.int xh), .val (.int xsel), .val (.int hh), .val (.long hp), .second, .val (.long t1), .second, .val (.int n1), .val (.long v37), .second, .val (.int v56), .val (.long f1), .second, .val (.long f2), .second, .val (.int (1 : Int32)), .val (.int (1 : Int32)), .val (.int v192), .val (.int v222)] [(.long f1)])) _
    refine XS.lload X25.here hx rfl (hb hby at_269) rfl ?_
    show Steps p.tables e below (T25.setTop (mkF m 271 #[.val (.long xta), .second, .val (.int xna), .val (.long xtb), .second, .val (.int xnb), .val (.int xh), .val (.int xsel), .val (.int hh), .val (.long hp), .second, .val (.long t1), .second, .val (.int n1), .val (.long v37), .second, .val (.int v56), .val (.long f1), .second, .val (.long f2), .second, .val (.int (1 : Int32)), .val (.int (1 : Int32)), .val (.int v192), .val (.int v222)] [(.long f2), (.long f1)])) _
    refine XS.lcmp X25.here hx rfl (hb hby at_271) rfl ?_
    show Steps p.tables e below (T25.setTop (mkF m 272 #[.val (.long xta), .second, .val (.int xna), .val (.long xtb), .second, .val (.int xnb), .val (.int xh), .val (.int xsel), .val (.int hh), .val (.long hp), .second, .val (.long t1), .second, .val (.int n1), .val (.long v37), .second, .val (.int v56), .val (.long f1), .second, .val (.long f2), .second, .val (.int (1 : Int32)), .val (.int (1 : Int32)), .val (.int v192), .val (.int v222)] [(.int (lcmpW f1 f2))])) _
    exact k
  obtain ⟨v272, hv272⟩ : ∃ z : Int32, z = (if f1 = f2 then (1 : Int32) else (0 : Int32)) := ⟨_, rfl⟩
  have pre35 : ∀ t, Steps p.tables e below (T25.setTop (mkF m 280 #[.val (.long xta), .second, .val (.int xna), .val (.long xtb), .second, .val (.int xnb), .val (.int xh), .val (.int xsel), .val (.int hh), .val (.long hp), .second, .val (.long t1), .second, .val (.int n1), .val (.long v37), .second, .val (.int v56), .val (.long f1), .second, .val (.long f2), .second, .val (.int (1 : Int32)), .val (.int (1 : Int32)), .val (.int v192), .val (.int v222)] [(.int v272)])) t → Steps p.tables e below (s₁.setTop (entryFrame m #[(.long xta), (.int xna), (.long xtb), (.int xnb), (.int xh), (.int xsel)] maxLocals)) t := by
    intro t k
    refine pre34 t ?_
    by_cases hc272 : f1 = f2
    · refine XS.ifNo X25.here hx rfl (hb hby at_272) rfl ((if0 _ _).trans (teq ((lw_eq _ _).mpr hc272)).2) ?_
      show Steps p.tables e below (T25.setTop (mkF m 275 #[.val (.long xta), .second, .val (.int xna), .val (.long xtb), .second, .val (.int xnb), .val (.int xh), .val (.int xsel), .val (.int hh), .val (.long hp), .second, .val (.long t1), .second, .val (.int n1), .val (.long v37), .second, .val (.int v56), .val (.long f1), .second, .val (.long f2), .second, .val (.int (1 : Int32)), .val (.int (1 : Int32)), .val (.int v192), .val (.int v222)] [])) _
      refine XS.iconst X25.here hx rfl (hb hby at_275) ?_
      show Steps p.tables e below (T25.setTop (mkF m 276 #[.val (.long xta), .second, .val (.int xna), .val (.long xtb), .second, .val (.int xnb), .val (.int xh), .val (.int xsel), .val (.int hh), .val (.long hp), .second, .val (.long t1), .second, .val (.int n1), .val (.long v37), .second, .val (.int v56), .val (.long f1), .second, .val (.long f2), .second, .val (.int (1 : Int32)), .val (.int (1 : Int32)), .val (.int v192), .val (.int v222)] [(.int (1 : Int32))])) _
      refine XS.goto X25.here hx rfl (pc0 := 276) (pc' := 280) rfl (hb hby at_276) (by decide) (by decide) ?_
      show Steps p.tables e below (T25.setTop (mkF m 280 #[.val (.long xta), .second, .val (.int xna), .val (.long xtb), .second, .val (.int xnb), .val (.int xh), .val (.int xsel), .val (.int hh), .val (.long hp), .second, .val (.long t1), .second, .val (.int n1), .val (.long v37), .second, .val (.int v56), .val (.long f1), .second, .val (.long f2), .second, .val (.int (1 : Int32)), .val (.int (1 : Int32)), .val (.int v192), .val (.int v222)] [(.int (1 : Int32))])) _
      rw [show v272 = (1 : Int32) from by rw [hv272, if_pos hc272]] at k
      exact k
    · refine XS.ifYes X25.here hx rfl (pc0 := 272) (pc' := 279) rfl (hb hby at_272) rfl ((if0 _ _).trans (feq (mt (lw_eq _ _).mp hc272)).2) (by decide) (by decide) ?_
      show Steps p.tables e below (T25.setTop (mkF m 279 #[.val (.long xta), .second, .val (.int xna), .val (.long xtb), .second, .val (.int xnb), .val (.int xh), .val (.int xsel), .val (.int hh), .val (.long hp), .second, .val (.long t1), .second, .val (.int n1), .val (.long v37), .second, .val (.int v56), .val (.long f1), .second, .val (.long f2), .second, .val (.int (1 : Int32)), .val (.int (1 : Int32)), .val (.int v192), .val (.int v222)] [])) _
      refine XS.iconst X25.here hx rfl (hb hby at_279) ?_
      show Steps p.tables e below (T25.setTop (mkF m 280 #[.val (.long xta), .second, .val (.int xna), .val (.long xtb), .second, .val (.int xnb), .val (.int xh), .val (.int xsel), .val (.int hh), .val (.long hp), .second, .val (.long t1), .second, .val (.int n1), .val (.long v37), .second, .val (.int v56), .val (.long f1), .second, .val (.long f2), .second, .val (.int (1 : Int32)), .val (.int (1 : Int32)), .val (.int v192), .val (.int v222)] [(.int (0 : Int32))])) _
      rw [show v272 = (0 : Int32) from by rw [hv272, if_neg hc272]] at k
      exact k
  have pre36 : ∀ t, Steps p.tables e below (T25.setTop (mkF m 290 #[.val (.long xta), .second, .val (.int xna), .val (.long xtb), .second, .val (.int xnb), .val (.int xh), .val (.int xsel), .val (.int hh), .val (.long hp), .second, .val (.long t1), .second, .val (.int n1), .val (.long v37), .second, .val (.int v56), .val (.long f1), .second, .val (.long f2), .second, .val (.int (1 : Int32)), .val (.int (1 : Int32)), .val (.int v192), .val (.int v222)] [(.int (1 : Int32))])) t → Steps p.tables e below (s₁.setTop (entryFrame m #[(.long xta), (.int xna), (.long xtb), (.int xnb), (.int xh), (.int xsel)] maxLocals)) t := by
    intro t k
    refine pre35 t ?_
    refine XS.iload X25.here hx rfl (hb hby at_280) rfl ?_
    show Steps p.tables e below (T25.setTop (mkF m 282 #[.val (.long xta), .second, .val (.int xna), .val (.long xtb), .second, .val (.int xnb), .val (.int xh), .val (.int xsel), .val (.int hh), .val (.long hp), .second, .val (.long t1), .second, .val (.int n1), .val (.long v37), .second, .val (.int v56), .val (.long f1), .second, .val (.long f2), .second, .val (.int (1 : Int32)), .val (.int (1 : Int32)), .val (.int v192), .val (.int v222)] [(.int v222), (.int v272)])) _
    refine XS.icmpNo X25.here hx rfl (hb hby at_282) rfl (teq (show v272 = v222 from own_fin2 _ _ _ _ _ (own_cmp t1 v37 f1 f2 n1 v56 hh (own_t xta t1 ht1) (own_t2 xtb t1 v37 _ (own_t xta t1 ht1) hv37) (own_hp xh hh hp hhh hhp).1 (by rw [hn1]; exact own_rem xna hh hp (own_hp xh hh hp hhh hhp).1 hhp) (own_n2 xnb hh n1 v56 hp _ (own_hp xh hh hp hhh hhp).1 hhp (by rw [hn1]; exact own_rem xna hh hp (own_hp xh hh hp hhh hhp).1 hhp) hv56) hf1 hf2).2 hv272 hv222)).2 ?_
    show Steps p.tables e below (T25.setTop (mkF m 285 #[.val (.long xta), .second, .val (.int xna), .val (.long xtb), .second, .val (.int xnb), .val (.int xh), .val (.int xsel), .val (.int hh), .val (.long hp), .second, .val (.long t1), .second, .val (.int n1), .val (.long v37), .second, .val (.int v56), .val (.long f1), .second, .val (.long f2), .second, .val (.int (1 : Int32)), .val (.int (1 : Int32)), .val (.int v192), .val (.int v222)] [])) _
    refine XS.iconst X25.here hx rfl (hb hby at_285) ?_
    show Steps p.tables e below (T25.setTop (mkF m 286 #[.val (.long xta), .second, .val (.int xna), .val (.long xtb), .second, .val (.int xnb), .val (.int xh), .val (.int xsel), .val (.int hh), .val (.long hp), .second, .val (.long t1), .second, .val (.int n1), .val (.long v37), .second, .val (.int v56), .val (.long f1), .second, .val (.long f2), .second, .val (.int (1 : Int32)), .val (.int (1 : Int32)), .val (.int v192), .val (.int v222)] [(.int (1 : Int32))])) _
    refine XS.goto X25.here hx rfl (pc0 := 286) (pc' := 290) rfl (hb hby at_286) (by decide) (by decide) ?_
    show Steps p.tables e below (T25.setTop (mkF m 290 #[.val (.long xta), .second, .val (.int xna), .val (.long xtb), .second, .val (.int xnb), .val (.int xh), .val (.int xsel), .val (.int hh), .val (.long hp), .second, .val (.long t1), .second, .val (.int n1), .val (.long v37), .second, .val (.int v56), .val (.long f1), .second, .val (.long f2), .second, .val (.int (1 : Int32)), .val (.int (1 : Int32)), .val (.int v192), .val (.int v222)] [(.int (1 : Int32))])) _
    exact k
  obtain ⟨fs, hr, hrun, hended, hW, hsame⟩ := X25.leave (v := some (.int (1 : Int32))) (fun h => by rw [Bd.returns] at h; cases h)
  refine ⟨_, _, pre36 _ ?_, hrun, hended, _, _, rfl, ?_, ⟨_, rfl⟩, hW, hsame.mono (by decide) (by decide)⟩
  · exact retN X25 hx (t := .boolean) Bd.returns (by simp) (hb hby at_290) hr
  · show Q_rm0 Z xta xna xtb xnb xh xsel h0 n0 _ T25.heap _
    rw [e25]
    exact ⟨rfl, N25⟩
set_option maxRecDepth 65536 in
set_option maxHeartbeats 40000000 in
theorem comes_1 {Post : Tables → Env → Array Value → State → Outcome → State → Prop} (hpost : ∀ tb e args s v u, (limb_1_1.after args s (.returned v) u = true ∧ limb_1_2.after args s (.returned v) u = true ∧ True) → FrameEnd s (.returned v) u (Jvm.fieldLocs frame_1_writes args s ++ Jvm.arrayLocs frame_1_arrays args s ++ Jvm.staticLocs frame_1_statics s) 16 128 → Post tb e args s (.returned v) u) :
    ArmFor flags0 classFile x code maxLocals ret World_1 tables_1 room_1 Calls_1 rest_1 Pre_1 Post := by
  intro l hfl _ _ p e ha hc hk s m args below hf hA hF happ hP
  obtain ⟨hcalls, hrest, hpre⟩ := hP
  obtain ⟨-, -, -, hnamed, -, -, -, hat⟩ := (Spec.applies_iff hf).mp happ
  obtain ⟨hg, hn⟩ := and_e (Cond.before_iff.mp (show (Jvm.Cond.and given_1 narrow_1).before args s = true from hpre))
  obtain ⟨ga1, gb1⟩ := and_e hg
  obtain ⟨ga2, gb2⟩ := and_e gb1
  obtain ⟨ga3, gb3⟩ := and_e gb2
  obtain ⟨ga4, gb4⟩ := and_e gb3
  obtain ⟨ga5, gb5⟩ := and_e gb4
  obtain ⟨ga6, gb6⟩ := and_e gb5
  obtain ⟨w0, w1, w2, w3, w4, w5, rfl⟩ : ∃ w0 w1 w2 w3 w4 w5 : Value, args = #[w0, w1, w2, w3, w4, w5] := by
    have hs : args.size = 6 := by simpa [Cond.value, given_1] using ga1
    obtain ⟨L⟩ := args
    match L, hs with
    | [w0, w1, w2, w3, w4, w5], _ => exact ⟨w0, w1, w2, w3, w4, w5, rfl⟩
  have hw := fun d (hd : d ∈ tables_1) => atoms_spec (ws := Jvm.Cond.code x code maxLocals ret :: tables_1) hat d (List.mem_cons_of_mem _ hd)
  have hfit : Fit s := fun {y c} hc i hi => by
    obtain ⟨ha, rfl⟩ := Array.getElem?_eq_some_iff.mp hc
    have q := List.all_eq_true.mp ((Array.all_eq_true_iff_forall_mem.mp hF) _ (Array.getElem_mem ha)) i (List.mem_range.mpr hi)
    simpa [Array.getElem?_eq_getElem hi] using q
  obtain ⟨i0, ei0⟩ := isL_v ga2
  obtain rfl : w0 = (.long i0) := Option.some.inj ei0
  obtain ⟨i1, ei1⟩ := is_v ga3
  obtain rfl : w1 = (.int i1) := Option.some.inj ei1
  obtain ⟨i2, ei2⟩ := isL_v ga4
  obtain rfl : w2 = (.long i2) := Option.some.inj ei2
  obtain ⟨i3, ei3⟩ := is_v ga5
  obtain rfl : w3 = (.int i3) := Option.some.inj ei3
  obtain ⟨i4, ei4⟩ := is_v ga6
  obtain rfl : w4 = (.int i4) := Option.some.inj ei4
  obtain ⟨i5, ei5⟩ := is_v gb6
  obtain rfl : w5 = (.int i5) := Option.some.inj ei5
  obtain ⟨n, o, h1, h2, h3, _, L, rfl, ⟨rfl, N⟩, hq⟩ := rm0 l s _ hw tables_1 i0 i1 i2 i3 i4 i5 s.heap s.heap.size (Nat.le_refl _)  p e ha hc hk s m _ below hf ((Spec.applies_iff_loose hf).mp happ).1 ⟨rfl, State.Warmed39.refl s, rfl⟩ trivial
  refine ⟨n, _, h1, h2, h3, hpost _ _ _ _ _ _ ⟨Cond.after_iff.mpr rfl, Cond.after_iff.mpr (eq_i res_at (Term.int_eval (1)) rfl), trivial⟩ ⟨hq.1, hq.2.1, (hq.2.2.sift fun y hy => Or.inr (N y hy)).mono (by decide) (by decide)⟩⟩
theorem main_1_1 : Claimed_1_1 := comes_1 fun _ _ _ _ _ _ h hF => ⟨h.1, hF⟩
theorem main_1_2 : Claimed_1_2 := comes_1 fun _ _ _ _ _ _ h hF => ⟨h.2.1, hF⟩
end Jvm.Pilot.@@N@@
namespace Jvm.Pilot.@@N@@
open Jvm Jvm.ClassFile Sem Op Lib Jvm.Free Jvm.Stand Jvm.Pilot.@@N@@.Jvm.D
/-! MADE BY PROGRAM (witnessworld.py) out of the Statement's table words and the real class files: 11 classes; the members and pool entries that the words name. The judged class is class 1, her method 1. -/
namespace start1
open Jvm.ClassFile
def u (s : String) : CpInfo := .utf8 (stringToUtf16 s)
/-- a pool by its gaps: so many unusable entries, then the entry; so many at the end -/
def gap : Nat → List CpInfo → List CpInfo
  | 0, r => r
  | n + 1, r => .unusable :: gap n r
def poolList (es : List (Nat × CpInfo)) (last : Nat) : List CpInfo := es.foldr (fun e r => gap e.1 (e.2 :: r)) (gap last [])
def pool (es : List (Nat × CpInfo)) (last : Nat) : Array CpInfo := ⟨poolList es last⟩
def fileOf (pool : Array CpInfo) (this : Nat) (attrs : Array Attribute := #[]) (ms : Array MethodInfo := #[]) (fl : Nat := 33) (sup : Nat := 0) (ifs : Array Nat := #[]) (fds : Array FieldInfo := #[]) : ClassFile where
  minorVersion := 0
  majorVersion := 65
  constantPool := pool
  accessFlags := fl
  thisClass := this
  superClass := sup
  interfaces := ifs
  fields := fds
  methods := ms
  attributes := attrs
def plain (name : String) (sup : Option ClassId) : Class where
  name := name
  kind := .ordinary
  loader := none
  accessFlags := 33
  super := sup
  interfaces := #[]
  cf := none
  fields := #[]
  methods := #[]
  instanceTypes := #[]
  staticTypes := #[]
  resolved := #[]
  callSites := []
  init := .initialized
  statics := none
  mirror := none

def pool0 : Array CpInfo := pool [(5, u "<init>"), (0, u "()V"), (1, .class_ 10), (1, u "java/lang/Object")] 113

def k0c0 : Code := { maxStack := 0, maxLocals := 1, code := object_method_1_code, exceptionTable := #[], attributes := #[] }
def k0m0 : Method := { name := "<init>", desc := "()V", sig := { parameters := [], returnType := none }, accessFlags := 1, code := some k0c0 }
/-- java/lang/Object -/
def k0 : Class := { plain "java/lang/Object" none with
  accessFlags := 33
  interfaces := #[]
  cf := some (fileOf pool0 8 #[] #[{ accessFlags := 1, nameIndex := 5, descriptorIndex := 6, attributes := #[] }] 33 0 #[] #[])
  fields := #[]
  methods := #[k0m0]
  instanceTypes := #[]
  staticTypes := #[]
  resolved := Array.replicate 124 none
  statics := none }

def pool1 : Array CpInfo := pool [(2, .class_ 4), (1, u "java/lang/Object"), (0, u "<init>"), (0, u "()V"), (0, .integer 2147483647), (0, .long 4294967295), (1, .long 2147483647), (1, .class_ 13), (0, u "com/example/narrow_gate/narrowgate/algorithm/Stamp"), (0, .methodref 12 15), (0, .nameAndType 5 16), (0, u "(JI)V"), (0, .methodref 12 18), (0, .nameAndType 19 20), (0, u "fence"), (0, u "(I)J"), (0, .class_ 22), (0, u "com/example/narrow_gate/narrowgate/algorithm/StampFencePinLaw"), (2, u "law"), (0, u "(JIJIII)Z")] 3

def k1m0 : Method := { name := "<init>", desc := "()V", sig := { parameters := [], returnType := none }, accessFlags := 1, code := none }
def k1c1 : Code := { maxStack := 5, maxLocals := 25, code := code, exceptionTable := #[], attributes := #[] }
def k1m1 : Method := { name := "law", desc := "(JIJIII)Z", sig := { parameters := [.long, .int, .long, .int, .int, .int], returnType := some .boolean }, accessFlags := 9, code := some k1c1 }
/-- com/example/narrow_gate/narrowgate/algorithm/StampFencePinLaw -/
def k1 : Class := { plain "com/example/narrow_gate/narrowgate/algorithm/StampFencePinLaw" (some 0) with
  accessFlags := 49
  interfaces := #[]
  cf := some (fileOf pool1 21 #[] #[{ accessFlags := 1, nameIndex := 5, descriptorIndex := 6, attributes := #[] }, { accessFlags := 9, nameIndex := 25, descriptorIndex := 26, attributes := #[] }] 49 2 #[] #[])
  fields := #[]
  methods := #[k1m0, k1m1]
  instanceTypes := #[]
  staticTypes := #[]
  resolved := Array.replicate 30 none
  statics := none }

def pool2 : Array CpInfo := pool [(1, .methodref 2 3), (0, .class_ 4), (0, .nameAndType 5 6), (0, u "java/lang/Object"), (0, u "<init>"), (0, u "()V"), (0, .class_ 8), (0, u "java/lang/Record")] 13

def k2c0 : Code := { maxStack := 1, maxLocals := 1, code := jdk_30_method_1_code, exceptionTable := #[], attributes := #[] }
def k2m0 : Method := { name := "<init>", desc := "()V", sig := { parameters := [], returnType := none }, accessFlags := 4, code := some k2c0 }
/-- java/lang/Record -/
def k2 : Class := { plain "java/lang/Record" (some 0) with
  accessFlags := 1057
  interfaces := #[]
  cf := some (fileOf pool2 7 #[] #[{ accessFlags := 4, nameIndex := 5, descriptorIndex := 6, attributes := #[] }] 1057 2 #[] #[])
  fields := #[]
  methods := #[k2m0]
  instanceTypes := #[]
  staticTypes := #[]
  resolved := Array.replicate 22 none
  statics := none }

def pool3 : Array CpInfo := pool [(1, .class_ 2), (0, u "java/lang/Comparable"), (0, .class_ 4), (0, u "java/lang/Object")] 7

/-- java/lang/Comparable -/
def k3 : Class := { plain "java/lang/Comparable" (some 0) with
  accessFlags := 1537
  interfaces := #[]
  cf := some (fileOf pool3 1 #[] #[] 1537 3 #[] #[])
  fields := #[]
  methods := #[]
  instanceTypes := #[]
  staticTypes := #[]
  resolved := Array.replicate 12 none
  statics := none }

def pool4 : Array CpInfo := pool [(1, .methodref 2 3), (0, .class_ 4), (0, .nameAndType 5 6), (0, u "java/lang/Record"), (0, u "<init>"), (0, u "()V"), (0, .fieldref 8 9), (0, .class_ 10), (0, .nameAndType 11 12), (0, u "com/example/narrow_gate/narrowgate/algorithm/Stamp"), (0, u "time"), (0, u "J"), (0, .fieldref 8 14), (0, .nameAndType 15 16), (0, u "node"), (0, u "I"), (2, u "ORDER"), (0, u "Ljava/util/Comparator;"), (37, .class_ 59), (0, u "java/lang/Comparable"), (2, u "(JI)V"), (6, u "fence"), (0, u "(I)J")] 47

def k4c0 : Code := { maxStack := 3, maxLocals := 4, code := prog_10_method_1_code, exceptionTable := #[], attributes := #[] }
def k4m0 : Method := { name := "<init>", desc := "(JI)V", sig := { parameters := [.long, .int], returnType := none }, accessFlags := 1, code := some k4c0 }
def k4c1 : Code := { maxStack := 6, maxLocals := 2, code := prog_10_method_4_code, exceptionTable := #[], attributes := #[] }
def k4m1 : Method := { name := "fence", desc := "(I)J", sig := { parameters := [.int], returnType := some .long }, accessFlags := 1, code := some k4c1 }
/-- com/example/narrow_gate/narrowgate/algorithm/Stamp -/
def k4 : Class := { plain "com/example/narrow_gate/narrowgate/algorithm/Stamp" (some 2) with
  accessFlags := 49
  interfaces := #[3]
  cf := some (fileOf pool4 8 #[] #[{ accessFlags := 1, nameIndex := 5, descriptorIndex := 62, attributes := #[] }, { accessFlags := 1, nameIndex := 69, descriptorIndex := 70, attributes := #[] }] 49 2 #[58] #[{ accessFlags := 18, nameIndex := 11, descriptorIndex := 12, attributes := #[] }, { accessFlags := 18, nameIndex := 15, descriptorIndex := 16, attributes := #[] }, { accessFlags := 26, nameIndex := 19, descriptorIndex := 20, attributes := #[] }])
  fields := #[{ name := "time", type := .long, accessFlags := 18, slot := 0, constantValue := 0 }, { name := "node", type := .int, accessFlags := 18, slot := 1, constantValue := 0 }, { name := "ORDER", type := (.object "java/util/Comparator"), accessFlags := 26, slot := 0, constantValue := 0 }]
  methods := #[k4m0, k4m1]
  instanceTypes := #[.long, .int]
  staticTypes := #[(.object "java/util/Comparator")]
  resolved := Array.replicate 118 none
  statics := none }

def pool5 : Array CpInfo := pool [(1, u "java/lang/Cloneable"), (0, .class_ 1), (0, u "java/lang/Object"), (0, .class_ 3)] 3

/-- java/lang/Cloneable -/
def k5 : Class := { plain "java/lang/Cloneable" (some 0) with
  accessFlags := 1537
  interfaces := #[]
  cf := some (fileOf pool5 2 #[] #[] 1537 4 #[] #[])
  fields := #[]
  methods := #[]
  instanceTypes := #[]
  staticTypes := #[]
  resolved := Array.replicate 8 none
  statics := none }

def pool6 : Array CpInfo := pool [(1, u "java/io/Serializable"), (0, .class_ 1), (0, u "java/lang/Object"), (0, .class_ 3)] 3

/-- java/io/Serializable -/
def k6 : Class := { plain "java/io/Serializable" (some 0) with
  accessFlags := 1537
  interfaces := #[]
  cf := some (fileOf pool6 2 #[] #[] 1537 4 #[] #[])
  fields := #[]
  methods := #[]
  instanceTypes := #[]
  staticTypes := #[]
  resolved := Array.replicate 8 none
  statics := none }

/-- the primitive byte -/
def k7 : Class := { plain "byte" none with kind := .primitive 'B', accessFlags := 0x411 }
/-- [B -/
def k8 : Class := { plain "[B" (some 0) with kind := .array 7 .byte, interfaces := #[5, 6], accessFlags := 1041 }

/-- the primitive int -/
def k9 : Class := { plain "int" none with kind := .primitive 'I', accessFlags := 0x411 }
/-- [I -/
def k10 : Class := { plain "[I" (some 0) with kind := .array 9 .int, interfaces := #[5, 6], accessFlags := 1041 }

def heap : Heap := #[]
def classes : Array Class := #[k0, k1, k2, k3, k4, k5, k6, k7, k8, k9, k10]
def interned : List (Array UInt16 × Addr) := []
def slotsUsed : Nat := 0
def theMethod : MethodId := ⟨1, 1⟩
def args0 : Array Value := #[.long 5, .int 5, .long 5, .int 5, .int 5, .int 5]
def aboutOver (below : List Frame) : State where
  vm := { classes := classes, interned := interned.toArray }
  heap := heap
  slotsUsed := slotsUsed
  threads := #[{ frames := .invoking theMethod args0 :: below }]
def below0 : List Frame := [.native { method := ⟨0, 0⟩, args := #[] }]
def about1 : State := aboutOver below0
def p0 : Program := .bare "" "" ""
def e0 : Env := launch0.env 0 0 0
theorem w_frames : about1.frames = Frame.invoking theMethod args0 :: below0 := rfl
set_option maxRecDepth 65536 in
theorem w_args : argsFit about1.vm theMethod args0 = true := by decide +kernel
set_option maxRecDepth 65536 in
theorem w_heap : heapFits about1 = true := by decide +kernel
set_option maxRecDepth 65536 in
theorem w_runnable : about1.curStatus? = some .runnable := by decide +kernel
set_option maxRecDepth 65536 in
theorem w_alone : about1.alone = true := by decide +kernel
set_option maxRecDepth 65536 in
theorem w_named : about1.methodNamed? x = some theMethod := by decide +kernel
set_option maxRecDepth 65536 in
theorem w_hears : about1.hears theMethod below0 = true := by decide +kernel
set_option maxRecDepth 65536 in
theorem w_ripe : about1.ripe theMethod args0 below0 = true := by decide +kernel
theorem w_running : about1.status = .running := rfl
set_option maxRecDepth 65536 in
theorem w_room : about1.hasRoom e0.platform room_1 = true :=
  launch0.hasRoom_least _ room_1 (by decide +kernel) (by decide +kernel) (by decide +kernel) (by decide +kernel) (by decide +kernel) (by decide +kernel)
theorem allAtoms_all (ts : List Jvm.Cond) (a : Array Jvm.Value) (st : Jvm.State) : (allAtoms ts).before a st = ts.all (fun c => c.before a st) := by
  induction ts with
  | nil => rfl
  | cons c t ih =>
    show (Jvm.Cond.and c (allAtoms t)).before a st = _
    rw [Jvm.Cond.before_and, ih, List.all_cons]
def words1 : List Jvm.Cond := Jvm.Cond.code x code maxLocals ret :: tables_1
/-- a 'code' word, met by the world's own term for the bytes: nothing is compared byte by byte -/
theorem code_word {y : MethodName} {bytes : ByteArray} {mx : Nat} {rt : Option FieldType} {a : Array Value} {s : State} {m : MethodId} {meth : Method} {c : Code} (h1 : s.methodNamed? y = some m) (h2 : s.vm.method? m = some meth) (h3 : meth.code = some c) (h4 : c.code = bytes)
    (h5 : (c.maxLocals == mx && c.exceptionTable.isEmpty && decide (c.maxStack ≤ mostOperands) && decide (meth.sig.returnType = rt) && !meth.locks && decide (parseMethodDescriptor y.desc = some meth.sig)) = true) : (Jvm.Cond.code y bytes mx rt).before a s = true := by
  simp only [Bool.and_eq_true, beq_iff_eq, Bool.not_eq_true', decide_eq_true_eq] at h5
  obtain ⟨⟨⟨⟨⟨g1, g2⟩, g3⟩, g4⟩, g5⟩, g6⟩ := h5
  simp [Cond.before, Cond.holds, Cond.value, h1, h2, h3, h4, g1, g2, g3, g4, g5, g6]
def isCode : Jvm.Cond → Bool
  | .code _ _ _ _ => true
  | _ => false
theorem all_split {L : List Jvm.Cond} {P : Jvm.Cond → Bool} (h1 : L.all (fun c => isCode c || P c) = true) (h2 : ∀ c ∈ L.filter isCode, P c = true) : L.all P = true := by
  refine List.all_eq_true.mpr fun c hc => ?_
  have h := List.all_eq_true.mp h1 c hc
  rcases Bool.eq_false_or_eq_true (isCode c) with hi | hi
  · exact h2 c (List.mem_filter.mpr ⟨hc, hi⟩)
  · simpa [hi] using h
set_option maxRecDepth 65536 in
theorem w_c0 : (Jvm.Cond.code x code maxLocals ret).before args0 about1 = true := code_word (m := ⟨1, 1⟩) (meth := k1m1) (c := k1c1) (by decide +kernel) rfl rfl rfl (by decide +kernel)
set_option maxRecDepth 65536 in
theorem w_c1 : (Jvm.Cond.code ({ cls := "com/example/narrow_gate/narrowgate/algorithm/Stamp", name := "<init>", desc := "(JI)V" } : Jvm.MethodName) prog_10_method_1_code (4 : Nat) (Option.none : Option Jvm.ClassFile.FieldType)).before args0 about1 = true := code_word (m := ⟨4, 0⟩) (meth := k4m0) (c := k4c0) (by decide +kernel) rfl rfl rfl (by decide +kernel)
set_option maxRecDepth 65536 in
theorem w_c2 : (Jvm.Cond.code ({ cls := "java/lang/Record", name := "<init>", desc := "()V" } : Jvm.MethodName) jdk_30_method_1_code (1 : Nat) (Option.none : Option Jvm.ClassFile.FieldType)).before args0 about1 = true := code_word (m := ⟨2, 0⟩) (meth := k2m0) (c := k2c0) (by decide +kernel) rfl rfl rfl (by decide +kernel)
set_option maxRecDepth 65536 in
theorem w_c3 : (Jvm.Cond.code ({ cls := "java/lang/Object", name := "<init>", desc := "()V" } : Jvm.MethodName) object_method_1_code (1 : Nat) (Option.none : Option Jvm.ClassFile.FieldType)).before args0 about1 = true := code_word (m := ⟨0, 0⟩) (meth := k0m0) (c := k0c0) (by decide +kernel) rfl rfl rfl (by decide +kernel)
set_option maxRecDepth 65536 in
theorem w_c4 : (Jvm.Cond.code ({ cls := "com/example/narrow_gate/narrowgate/algorithm/Stamp", name := "fence", desc := "(I)J" } : Jvm.MethodName) prog_10_method_4_code (2 : Nat) (Option.some Jvm.ClassFile.FieldType.long)).before args0 about1 = true := code_word (m := ⟨4, 1⟩) (meth := k4m1) (c := k4c1) (by decide +kernel) rfl rfl rfl (by decide +kernel)
def codes1 : List Jvm.Cond := [Jvm.Cond.code x code maxLocals ret, Jvm.Cond.code ({ cls := "com/example/narrow_gate/narrowgate/algorithm/Stamp", name := "<init>", desc := "(JI)V" } : Jvm.MethodName) prog_10_method_1_code (4 : Nat) (Option.none : Option Jvm.ClassFile.FieldType), Jvm.Cond.code ({ cls := "java/lang/Record", name := "<init>", desc := "()V" } : Jvm.MethodName) jdk_30_method_1_code (1 : Nat) (Option.none : Option Jvm.ClassFile.FieldType), Jvm.Cond.code ({ cls := "java/lang/Object", name := "<init>", desc := "()V" } : Jvm.MethodName) object_method_1_code (1 : Nat) (Option.none : Option Jvm.ClassFile.FieldType), Jvm.Cond.code ({ cls := "com/example/narrow_gate/narrowgate/algorithm/Stamp", name := "fence", desc := "(I)J" } : Jvm.MethodName) prog_10_method_4_code (2 : Nat) (Option.some Jvm.ClassFile.FieldType.long)]
set_option maxRecDepth 65536 in
theorem codes_eq : words1.filter isCode = codes1 := rfl
theorem w_codes : ∀ c ∈ words1.filter isCode, c.before args0 about1 = true := by
  rw [codes_eq]
  intro c hc
  simp only [codes1, List.mem_cons, List.not_mem_nil, or_false] at hc
  rcases hc with rfl | rfl | rfl | rfl | rfl
  · exact w_c0
  · exact w_c1
  · exact w_c2
  · exact w_c3
  · exact w_c4
set_option maxRecDepth 65536 in
theorem w_t1 : (words1.take 24).all (fun c => isCode c || c.before args0 about1) = true := by decide +kernel
set_option maxRecDepth 65536 in
theorem w_t2 : (words1.drop 24).all (fun c => isCode c || c.before args0 about1) = true := by decide +kernel
theorem w_tables : (allAtoms (Jvm.Cond.code x code maxLocals ret :: tables_1)).before args0 about1 = true := by
  rw [allAtoms_all]
  show words1.all (fun c => c.before args0 about1) = true
  refine all_split ?_ w_codes
  rw [← List.take_append_drop 24 words1, List.all_append, w_t1, w_t2]
  rfl
set_option maxRecDepth 65536 in
theorem w_case : (Jvm.Cond.and given_1 narrow_1).before args0 about1 = true := by decide +kernel
theorem w_applies : (headSpec (Jvm.Cond.code x code maxLocals ret :: tables_1) room_1).applies x e0.platform about1 = true :=
  (Spec.applies_iff w_frames).mpr ⟨w_running, w_runnable, w_alone, w_named, w_hears, w_ripe, w_room, w_tables⟩
theorem atStart : AtStart classFile x code maxLocals ret World_1 tables_1 room_1 Calls_1 rest_1 Pre_1 launch0 p0 e0 about1 theMethod args0 below0 :=
  ⟨lists_1, trivial, launch0.admits_env _ _ _, launch0.least_env, fairChoices_fair.cas, fairChoices_fair.clock, w_frames, w_args, w_heap, w_applies, trivial, trivial, w_case⟩
end start1
theorem witness_1 : WitnessClaimed_1 := ⟨start1.p0, start1.e0, start1.about1, start1.theMethod, start1.args0, start1.below0, start1.atStart⟩
end Jvm.Pilot.@@N@@
