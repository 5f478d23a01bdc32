import JvmDerived
import JvmDerived.Pilot.@@N@@Statement
import JvmDerived.Pilot.@@N@@Code
set_option linter.unusedVariables false
set_option linter.unusedSimpArgs false
namespace Jvm.RoadKit
open Sem ClassFile Op Lib Jvm.Stand Jvm.Free Jvm.LawKit
section New
variable {p : Program} {l : Launch} {e : Env} {R : Room} {s : State} {m : MethodId} {args : Array Value} {below : List Frame} {meth : Method} {c : Code} {T : State} {locs : List Loc} {cells slots : Nat}
theorem retI (X : Stand p l e R s m args below meth c T locs cells slots) (hx : p.tables.exec = Jvm.exec) {pc : Nat} {Ls : Array Slot} {z : Int32} {rest : List Value} (hret : meth.sig.returnType = some .int) (hd : decode c.code pc = .ok (.ireturn, 1)) {fs : List Frame}
    (hl : ∀ (f : JFrame) (acts : List Action), f.method = m → f.locked = none → f.entered = [] → (doReturn e (T.setTop f) acts (some (.int z))).1 = T.setFrames fs) : Steps p.tables e below (T.setTop (mkF m pc Ls (.int z :: rest))) (T.setFrames fs) := by
  have hm' : T.vm.method? m = some meth := X.method'
  have hn : narrow .int (.int z) = .int z := rfl
  show Steps p.tables e below (T.setTop { method := m, pc := pc, locals := Ls, stack := _ :: rest, locked := none }) _
  jvm_step X.here [X.here.top, hx, hd, hm', hret, hn]
  first | (intro acts; rw [hl _ acts rfl rfl rfl]) | rw [hl _ _ rfl rfl rfl]
  exact Steps.refl _
end New
end Jvm.RoadKit
namespace Jvm.Pilot.@@N@@
open Jvm Jvm.ClassFile Sem Op Lib Jvm.Free Jvm.Stand Jvm.LawKit Jvm.RoadKit Bundle Jvm.Pilot.@@N@@.Jvm.D
theorem own_keep_ext {h h' : Heap} (K : Keep h h' []) : Ext h h' := ⟨K.1, fun a c q => K.2.1 a c q nin0⟩
theorem own_sta_keep {Z : State} {h h' : Heap} {C n d K : String} {a : Addr} {v : Value} (F : Sta Z h C n d v) (Kp : Keep h h' [a]) (E : Exa Z h a K) : Sta Z h' C n d v := by
  obtain ⟨cf, i, k, f, st, cell, h1, h2, h3, h4, h5, h6, h7⟩ := F
  obtain ⟨cell', k', g1, -, -, g4, -⟩ := E
  have ne : st ≠ a := by
    intro q
    subst q
    rw [h5] at g1
    cases g1
    rw [h6] at g4
    cases g4
  exact ⟨cf, i, k, f, st, cell, h1, h2, h3, h4, Kp.2.1 st cell h5 (ninS ne nin0), h6, h7⟩
theorem d2_0 : decode jdk_30_method_1_code 0 = .ok (.aload_n 0, 1) := by decide +kernel
theorem d2_1 : decode jdk_30_method_1_code 1 = .ok (.invokespecial 1, 3) := by decide +kernel
theorem d2_4 : decode jdk_30_method_1_code 4 = .ok (.return_, 1) := by decide +kernel
theorem pn0 : plainName "java/lang/Record" = true := by first | (simp [plainName, overriddenIn]; done) | decide +kernel
theorem ef_rm_rec (m : MethodId) (ra : Addr) : entryFrame m #[(.ref ra)] 1 = mkF m 0 #[.val (.ref ra)] [] := by first | (simp [entryFrame, mkF, argsToLocals, Value.category]; done) | rfl
def Q_rm_rec (Z : State) (ra : Addr) (h0 : Heap) (n0 : Nat) (v : Option Value) (h : Heap) (L : List Loc) : Prop := v = none ∧ Fr n0 L ∧ h = h0
set_option maxRecDepth 65536 in
set_option maxHeartbeats 40000000 in
theorem rm_rec (l : Launch) (Z : State) (a0 : Array Value) (hw : ∀ d ∈ tables_1, d.before a0 Z = true) (ws : List Jvm.Cond) (ra : Addr) (h0 : Heap) (n0 : Nat) (Z0 : n0 ≤ h0.size) :
    MetFree l (⟨"java/lang/Record", "<init>", "()V"⟩ : MethodName) (head1 (Jvm.Cond.code (⟨"java/lang/Record", "<init>", "()V"⟩ : MethodName) jdk_30_method_1_code 1 none :: ws) ({ frames := 1, cells := 0, slots := 0, locals := 12 } : Room)) (fun a U => a = #[(.ref ra)] ∧ Z.Warmed39 U.vm ∧ U.heap = h0) (fun _ _ _ _ _ => True) (fun _ U o U' => ∃ v L, o = .returned v ∧ Q_rm_rec Z ra h0 n0 v U'.heap L ∧ FrameEnd U o U' L ({ frames := 1, cells := 0, slots := 0, locals := 12 } : Room).cells ({ frames := 1, cells := 0, slots := 0, locals := 12 } : Room).slots) := by
  refine MetFree.of_bodySF (plainFor_of_name pn0) hisR ?_
  intro p e s m args below meth c s₁ Bd hml0 hP hK
  obtain ⟨rfl, hZ, hh⟩ := hP
  have hx := Bd.exec
  have hby := Bd.bytes
  have hml : c.maxLocals = 1 := hml0
  have hown : s.vm.findClass "java/lang/Record" = some m.cls := findClass_of_methodNamed Bd.named
  have hnm := (name_of_methodNamed Bd.named Bd.method).1
  have X0 : Stand p l e ({ frames := 1, cells := 0, slots := 0, locals := 12 } : Room) s m #[(.ref ra)] below meth c s₁ [] 0 0 := Stand.of_body Bd
  have e0 : s₁.heap = h0 := by rw [← hh, Bd.state]; rfl
  have N0 := Fr.nil n0
  have pre0 : ∀ t, Steps p.tables e below (s₁.setTop (mkF m 0 #[.val (.ref ra)] [])) t → Steps p.tables e below (s₁.setTop (entryFrame m #[(.ref ra)] 1)) t := fun t k => castTop (ef_rm_rec m ra) k
  have pre1 : ∀ t, Steps p.tables e below (s₁.setTop (mkF m 1 #[.val (.ref ra)] [(.ref ra)])) t → Steps p.tables e below (s₁.setTop (entryFrame m #[(.ref ra)] 1)) t := by
    intro t k
    refine pre0 t ?_
    refine XS.aloadN X0.here hx rfl (hb hby d2_0) rfl rfl ?_
    show Steps p.tables e below (s₁.setTop (mkF m 1 #[.val (.ref ra)] [(.ref ra)])) _
    exact k
  obtain ⟨T2, X2, e2, st2⟩ := initO X0 hx hZ hown (hw _ (List.mem_of_getElem? (i := 12) rfl)) (hw _ (List.mem_of_getElem? (i := 13) rfl)) (hw _ (List.mem_of_getElem? (i := 14) rfl)) e0 (g := (mkF m 1 #[.val (.ref ra)] [(.ref ra)])) rfl (by rw [hml]; rfl) rfl (hb hby d2_1) (by decide) (W := 0) (by show 2 * 0 + _ ≤ _; exact Nat.le_of_eq rfl) (by decide)
  have pre3 : ∀ t, Steps p.tables e below (T2.setTop (mkF m 4 #[.val (.ref ra)] [])) t → Steps p.tables e below (s₁.setTop (entryFrame m #[(.ref ra)] 1)) t := fun t k => pre1 t (st2 t k)
  obtain ⟨fs, hr, hrun, hended, hW, hsame⟩ := X2.leave (v := none) (fun _ => rfl)
  refine ⟨_, _, pre3 _ ?_, hrun, hended, _, _, rfl, ?_, ⟨_, rfl⟩, hW, hsame.mono (by decide) (by decide)⟩
  · exact X2.returnOut hx Bd.returns (hb hby d2_4) hr
  · show Q_rm_rec Z ra h0 n0 _ T2.heap _
    rw [e2]
    exact ⟨rfl, N0, rfl⟩
theorem d1_0 : decode prog_26_method_1_code 0 = .ok (.aload_n 0, 1) := by decide +kernel
theorem d1_1 : decode prog_26_method_1_code 1 = .ok (.invokespecial 1, 3) := by decide +kernel
theorem pd0 : parseMethodDescriptor "()V" = some ⟨[], none⟩ := by decide +kernel
theorem d1_4 : decode prog_26_method_1_code 4 = .ok (.aload_n 0, 1) := by decide +kernel
theorem d1_5 : decode prog_26_method_1_code 5 = .ok (.lload_n 1, 1) := by decide +kernel
theorem d1_6 : decode prog_26_method_1_code 6 = .ok (.putfield 7, 3) := by decide +kernel
theorem d1_9 : decode prog_26_method_1_code 9 = .ok (.aload_n 0, 1) := by decide +kernel
theorem d1_10 : decode prog_26_method_1_code 10 = .ok (.iload_n 3, 1) := by decide +kernel
theorem d1_11 : decode prog_26_method_1_code 11 = .ok (.putfield 13, 3) := by decide +kernel
theorem d1_14 : decode prog_26_method_1_code 14 = .ok (.aload_n 0, 1) := by decide +kernel
theorem d1_15 : decode prog_26_method_1_code 15 = .ok (.lload 4, 2) := by decide +kernel
theorem d1_17 : decode prog_26_method_1_code 17 = .ok (.putfield 17, 3) := by decide +kernel
theorem d1_20 : decode prog_26_method_1_code 20 = .ok (.aload_n 0, 1) := by decide +kernel
theorem d1_21 : decode prog_26_method_1_code 21 = .ok (.lload 6, 2) := by decide +kernel
theorem d1_23 : decode prog_26_method_1_code 23 = .ok (.putfield 20, 3) := by decide +kernel
theorem d1_26 : decode prog_26_method_1_code 26 = .ok (.aload_n 0, 1) := by decide +kernel
theorem d1_27 : decode prog_26_method_1_code 27 = .ok (.lload 8, 2) := by decide +kernel
theorem d1_29 : decode prog_26_method_1_code 29 = .ok (.putfield 23, 3) := by decide +kernel
theorem d1_32 : decode prog_26_method_1_code 32 = .ok (.return_, 1) := by decide +kernel
theorem pn1 : plainName "com/example/narrow_gate/narrowgate/process/ProcessGroup$Stat" = true := by first | (simp [plainName, overriddenIn]; done) | decide +kernel
theorem ef_rm_init (m : MethodId) (ra : Addr) (xpid : Int64) (xst : Int32) (xpar : Int64) (xgrp : Int64) (xstt : Int64) : entryFrame m #[(.ref ra), (.long xpid), (.int xst), (.long xpar), (.long xgrp), (.long xstt)] 10 = mkF m 0 #[.val (.ref ra), .val (.long xpid), .second, .val (.int xst), .val (.long xpar), .second, .val (.long xgrp), .second, .val (.long xstt), .second] [] := by first | (simp [entryFrame, mkF, argsToLocals, Value.category]; done) | rfl
def Q_rm_init (Z : State) (ra : Addr) (xpid : Int64) (xst : Int32) (xpar : Int64) (xgrp : Int64) (xstt : Int64) (h0 : Heap) (n0 : Nat) (v : Option Value) (h : Heap) (L : List Loc) : Prop := v = none ∧ Fr n0 L ∧ Keep h0 h [ra] ∧ Exa Z h ra "com/example/narrow_gate/narrowgate/process/ProcessGroup$Stat" ∧ Fld Z h ra "com/example/narrow_gate/narrowgate/process/ProcessGroup$Stat" "pid" "J" (.long xpid) ∧ Fld Z h ra "com/example/narrow_gate/narrowgate/process/ProcessGroup$Stat" "state" "C" (.int (nar .char xst)) ∧ Fld Z h ra "com/example/narrow_gate/narrowgate/process/ProcessGroup$Stat" "parent" "J" (.long xpar) ∧ Fld Z h ra "com/example/narrow_gate/narrowgate/process/ProcessGroup$Stat" "group" "J" (.long xgrp) ∧ Fld Z h ra "com/example/narrow_gate/narrowgate/process/ProcessGroup$Stat" "started" "J" (.long xstt)
set_option maxRecDepth 65536 in
set_option maxHeartbeats 40000000 in
theorem rm_init (l : Launch) (Z : State) (a0 : Array Value) (hw : ∀ d ∈ tables_1, d.before a0 Z = true) (ws : List Jvm.Cond) (ra : Addr) (xpid : Int64) (xst : Int32) (xpar : Int64) (xgrp : Int64) (xstt : Int64) (h0 : Heap) (n0 : Nat) (Z0 : n0 ≤ h0.size) (E_ra : Exa Z h0 ra "com/example/narrow_gate/narrowgate/process/ProcessGroup$Stat") (g_ra : n0 ≤ ra) (F_pid_ra : Fld Z h0 ra "com/example/narrow_gate/narrowgate/process/ProcessGroup$Stat" "pid" "J" (.long (0 : Int64))) (F_state_ra : Fld Z h0 ra "com/example/narrow_gate/narrowgate/process/ProcessGroup$Stat" "state" "C" (.int (0 : Int32))) (F_parent_ra : Fld Z h0 ra "com/example/narrow_gate/narrowgate/process/ProcessGroup$Stat" "parent" "J" (.long (0 : Int64))) (F_group_ra : Fld Z h0 ra "com/example/narrow_gate/narrowgate/process/ProcessGroup$Stat" "group" "J" (.long (0 : Int64))) (F_started_ra : Fld Z h0 ra "com/example/narrow_gate/narrowgate/process/ProcessGroup$Stat" "started" "J" (.long (0 : Int64))) :
    MetFree l (⟨"com/example/narrow_gate/narrowgate/process/ProcessGroup$Stat", "<init>", "(JCJJJ)V"⟩ : MethodName) (head1 (Jvm.Cond.code (⟨"com/example/narrow_gate/narrowgate/process/ProcessGroup$Stat", "<init>", "(JCJJJ)V"⟩ : MethodName) prog_26_method_1_code 10 none :: ws) ({ frames := 2, cells := 0, slots := 0, locals := 24 } : Room)) (fun a U => a = #[(.ref ra), (.long xpid), (.int xst), (.long xpar), (.long xgrp), (.long xstt)] ∧ Z.Warmed39 U.vm ∧ U.heap = h0) (fun _ _ _ _ _ => True) (fun _ U o U' => ∃ v L, o = .returned v ∧ Q_rm_init Z ra xpid xst xpar xgrp xstt h0 n0 v U'.heap L ∧ FrameEnd U o U' L ({ frames := 2, cells := 0, slots := 0, locals := 24 } : Room).cells ({ frames := 2, cells := 0, slots := 0, locals := 24 } : Room).slots) := by
  refine MetFree.of_bodySF (plainFor_of_name pn1) hisR ?_
  intro p e s m args below meth c s₁ Bd hml0 hP hK
  obtain ⟨rfl, hZ, hh⟩ := hP
  have hx := Bd.exec
  have hby := Bd.bytes
  have hml : c.maxLocals = 10 := hml0
  have hown : s.vm.findClass "com/example/narrow_gate/narrowgate/process/ProcessGroup$Stat" = some m.cls := findClass_of_methodNamed Bd.named
  have hnm := (name_of_methodNamed Bd.named Bd.method).1
  have X0 : Stand p l e ({ frames := 2, cells := 0, slots := 0, locals := 24 } : Room) s m #[(.ref ra), (.long xpid), (.int xst), (.long xpar), (.long xgrp), (.long xstt)] below meth c s₁ [] 0 0 := Stand.of_body Bd
  have e0 : s₁.heap = h0 := by rw [← hh, Bd.state]; rfl
  have N0 := Fr.nil n0
  have pre0 : ∀ t, Steps p.tables e below (s₁.setTop (mkF m 0 #[.val (.ref ra), .val (.long xpid), .second, .val (.int xst), .val (.long xpar), .second, .val (.long xgrp), .second, .val (.long xstt), .second] [])) t → Steps p.tables e below (s₁.setTop (entryFrame m #[(.ref ra), (.long xpid), (.int xst), (.long xpar), (.long xgrp), (.long xstt)] 10)) t := fun t k => castTop (ef_rm_init m ra xpid xst xpar xgrp xstt) k
  have pre1 : ∀ t, Steps p.tables e below (s₁.setTop (mkF m 1 #[.val (.ref ra), .val (.long xpid), .second, .val (.int xst), .val (.long xpar), .second, .val (.long xgrp), .second, .val (.long xstt), .second] [(.ref ra)])) t → Steps p.tables e below (s₁.setTop (entryFrame m #[(.ref ra), (.long xpid), (.int xst), (.long xpar), (.long xgrp), (.long xstt)] 10)) t := by
    intro t k
    refine pre0 t ?_
    refine XS.aloadN X0.here hx rfl (hb hby d1_0) rfl rfl ?_
    show Steps p.tables e below (s₁.setTop (mkF m 1 #[.val (.ref ra), .val (.long xpid), .second, .val (.int xst), .val (.long xpar), .second, .val (.long xgrp), .second, .val (.long xstt), .second] [(.ref ra)])) _
    exact k
  obtain ⟨_, _, ⟨T2, L2, k2, n2⟩, -, X2, ⟨Lc2, hQ2, l2, y2, z2⟩, st2⟩ := X0.specialBack hx (y := (⟨"java/lang/Record", "<init>", "()V"⟩ : MethodName)) rfl hown (mvT hZ (hw _ (List.mem_of_getElem? (i := 7) rfl))) (mvT hZ (hw _ (List.mem_of_getElem? (i := 8) rfl))) (mvT hZ (hw _ (List.mem_of_getElem? (i := 11) rfl))) (by decide) (backOf (W := 0) (rm_rec l Z a0 hw [] ra h0 n0 Z0 ) hZ (hw _ (List.mem_of_getElem? (i := 11) rfl)) (hw _ (List.mem_of_getElem? (i := 10) rfl)) (by decide) (by decide)) (g := (mkF m 1 #[.val (.ref ra), .val (.long xpid), .second, .val (.int xst), .val (.long xpar), .second, .val (.long xgrp), .second, .val (.long xstt), .second] [(.ref ra)])) rfl (by rw [hml]; rfl) (Steps.refl _) (a := ra) (argsL := []) (rest := []) (lenOf pd0 rfl) rfl (by show 2 * 0 + _ ≤ _; exact Nat.le_of_eq rfl) (hb hby d1_1) (fun _ _ => ⟨rfl, e0, (by decide : 0 + 0 ≤ _), (by decide : 0 + 0 ≤ _)⟩)
  dsimp only [Pt.U, Pt.locs, Pt.cells, Pt.slots] at X2 l2 y2 z2 st2 hQ2
  subst l2 y2 z2
  obtain ⟨rfl, M2, e2⟩ := hQ2
  have N2 := Fr.app N0 M2
  have pre3 : ∀ t, Steps p.tables e below (T2.setTop (mkF m 4 #[.val (.ref ra), .val (.long xpid), .second, .val (.int xst), .val (.long xpar), .second, .val (.long xgrp), .second, .val (.long xstt), .second] [])) t → Steps p.tables e below (s₁.setTop (entryFrame m #[(.ref ra), (.long xpid), (.int xst), (.long xpar), (.long xgrp), (.long xstt)] 10)) t := fun t k => pre1 t (st2.trans k)
  have pre4 : ∀ t, Steps p.tables e below (T2.setTop (mkF m 6 #[.val (.ref ra), .val (.long xpid), .second, .val (.int xst), .val (.long xpar), .second, .val (.long xgrp), .second, .val (.long xstt), .second] [(.long xpid), (.ref ra)])) t → Steps p.tables e below (s₁.setTop (entryFrame m #[(.ref ra), (.long xpid), (.int xst), (.long xpar), (.long xgrp), (.long xstt)] 10)) t := by
    intro t k
    refine pre3 t ?_
    refine XS.aloadN X2.here hx rfl (hb hby d1_4) rfl rfl ?_
    show Steps p.tables e below (T2.setTop (mkF m 5 #[.val (.ref ra), .val (.long xpid), .second, .val (.int xst), .val (.long xpar), .second, .val (.long xgrp), .second, .val (.long xstt), .second] [(.ref ra)])) _
    refine XS.lloadN X2.here hx rfl (hb hby d1_5) rfl ?_
    show Steps p.tables e below (T2.setTop (mkF m 6 #[.val (.ref ra), .val (.long xpid), .second, .val (.int xst), .val (.long xpar), .second, .val (.long xgrp), .second, .val (.long xstt), .second] [(.long xpid), (.ref ra)])) _
    exact k
  obtain ⟨T5, h5, X5, e5, W5, st5⟩ := putF X2 hx hZ hown (host := "") (Or.inl (hw _ (List.mem_of_getElem? (i := 15) rfl))) Via.refl e2 F_pid_ra E_ra (Or.inr ⟨(hw _ (List.mem_of_getElem? (i := 16) rfl)), rfl, hnm⟩) (hw _ (List.mem_of_getElem? (i := 2) rfl)) (ty := .long) (by decide) rfl rfl (g := (mkF m 6 #[.val (.ref ra), .val (.long xpid), .second, .val (.int xst), .val (.long xpar), .second, .val (.long xgrp), .second, .val (.long xstt), .second] [(.long xpid), (.ref ra)])) rfl rfl (hb hby d1_6)
  have K5 : Keep h0 h5 [ra] := (Keep.refl h0 [ra]).wr W5 (Or.inl (by simp))
  have z5 : n0 ≤ h5.size := Nat.le_trans Z0 K5.1
  have N5 := Fr.snoc X5 N2 g_ra
  have Fw5 := F_pid_ra.same W5
  have pre6 : ∀ t, Steps p.tables e below (T5.setTop (mkF m 9 #[.val (.ref ra), .val (.long xpid), .second, .val (.int xst), .val (.long xpar), .second, .val (.long xgrp), .second, .val (.long xstt), .second] [])) t → Steps p.tables e below (s₁.setTop (entryFrame m #[(.ref ra), (.long xpid), (.int xst), (.long xpar), (.long xgrp), (.long xstt)] 10)) t := fun t k => pre4 t (st5 t k)
  have pre7 : ∀ t, Steps p.tables e below (T5.setTop (mkF m 11 #[.val (.ref ra), .val (.long xpid), .second, .val (.int xst), .val (.long xpar), .second, .val (.long xgrp), .second, .val (.long xstt), .second] [(.int xst), (.ref ra)])) t → Steps p.tables e below (s₁.setTop (entryFrame m #[(.ref ra), (.long xpid), (.int xst), (.long xpar), (.long xgrp), (.long xstt)] 10)) t := by
    intro t k
    refine pre6 t ?_
    refine XS.aloadN X5.here hx rfl (hb hby d1_9) rfl rfl ?_
    show Steps p.tables e below (T5.setTop (mkF m 10 #[.val (.ref ra), .val (.long xpid), .second, .val (.int xst), .val (.long xpar), .second, .val (.long xgrp), .second, .val (.long xstt), .second] [(.ref ra)])) _
    refine XS.iloadN X5.here hx rfl (hb hby d1_10) rfl ?_
    show Steps p.tables e below (T5.setTop (mkF m 11 #[.val (.ref ra), .val (.long xpid), .second, .val (.int xst), .val (.long xpar), .second, .val (.long xgrp), .second, .val (.long xstt), .second] [(.int xst), (.ref ra)])) _
    exact k
  have f8 := (E_ra.wr W5)
  have f9 := (F_state_ra.other W5 (Or.inr (slot_ne (Or.inr (hw _ (List.mem_of_getElem? (i := 18) rfl))) (Or.inr (hw _ (List.mem_of_getElem? (i := 16) rfl))) (by decide) (t := .char) (t' := .long) (by decide) (by decide))))
  obtain ⟨T10, h10, X10, e10, W10, st10⟩ := putFN X5 hx hZ hown (hw _ (List.mem_of_getElem? (i := 17) rfl)) Via.refl e5 f9 f8 (Or.inr ⟨(hw _ (List.mem_of_getElem? (i := 18) rfl)), rfl, hnm⟩) (hw _ (List.mem_of_getElem? (i := 2) rfl)) (ty := .char) (v' := (.int (nar .char xst))) (by decide) rfl (fits_nar_char _) (g := (mkF m 11 #[.val (.ref ra), .val (.long xpid), .second, .val (.int xst), .val (.long xpar), .second, .val (.long xgrp), .second, .val (.long xstt), .second] [(.int xst), (.ref ra)])) rfl rfl (hb hby d1_11)
  have K10 : Keep h0 h10 [ra] := K5.wr W10 (Or.inl (by simp))
  have z10 : n0 ≤ h10.size := Nat.le_trans Z0 K10.1
  have N10 := Fr.snoc X10 N5 g_ra
  have Fw10 := f9.same W10
  have pre11 : ∀ t, Steps p.tables e below (T10.setTop (mkF m 14 #[.val (.ref ra), .val (.long xpid), .second, .val (.int xst), .val (.long xpar), .second, .val (.long xgrp), .second, .val (.long xstt), .second] [])) t → Steps p.tables e below (s₁.setTop (entryFrame m #[(.ref ra), (.long xpid), (.int xst), (.long xpar), (.long xgrp), (.long xstt)] 10)) t := fun t k => pre7 t (st10 t k)
  have pre12 : ∀ t, Steps p.tables e below (T10.setTop (mkF m 17 #[.val (.ref ra), .val (.long xpid), .second, .val (.int xst), .val (.long xpar), .second, .val (.long xgrp), .second, .val (.long xstt), .second] [(.long xpar), (.ref ra)])) t → Steps p.tables e below (s₁.setTop (entryFrame m #[(.ref ra), (.long xpid), (.int xst), (.long xpar), (.long xgrp), (.long xstt)] 10)) t := by
    intro t k
    refine pre11 t ?_
    refine XS.aloadN X10.here hx rfl (hb hby d1_14) rfl rfl ?_
    show Steps p.tables e below (T10.setTop (mkF m 15 #[.val (.ref ra), .val (.long xpid), .second, .val (.int xst), .val (.long xpar), .second, .val (.long xgrp), .second, .val (.long xstt), .second] [(.ref ra)])) _
    refine XS.lload X10.here hx rfl (hb hby d1_15) rfl ?_
    show Steps p.tables e below (T10.setTop (mkF m 17 #[.val (.ref ra), .val (.long xpid), .second, .val (.int xst), .val (.long xpar), .second, .val (.long xgrp), .second, .val (.long xstt), .second] [(.long xpar), (.ref ra)])) _
    exact k
  have f13 := (f8.wr W10)
  have f14 := ((F_parent_ra.other W5 (Or.inr (slot_ne (Or.inr (hw _ (List.mem_of_getElem? (i := 20) rfl))) (Or.inr (hw _ (List.mem_of_getElem? (i := 16) rfl))) (by decide) (t := .long) (t' := .long) (by decide) (by decide)))).other W10 (Or.inr (slot_ne (Or.inr (hw _ (List.mem_of_getElem? (i := 20) rfl))) (Or.inr (hw _ (List.mem_of_getElem? (i := 18) rfl))) (by decide) (t := .long) (t' := .char) (by decide) (by decide))))
  obtain ⟨T15, h15, X15, e15, W15, st15⟩ := putF X10 hx hZ hown (host := "") (Or.inl (hw _ (List.mem_of_getElem? (i := 19) rfl))) Via.refl e10 f14 f13 (Or.inr ⟨(hw _ (List.mem_of_getElem? (i := 20) rfl)), rfl, hnm⟩) (hw _ (List.mem_of_getElem? (i := 2) rfl)) (ty := .long) (by decide) rfl rfl (g := (mkF m 17 #[.val (.ref ra), .val (.long xpid), .second, .val (.int xst), .val (.long xpar), .second, .val (.long xgrp), .second, .val (.long xstt), .second] [(.long xpar), (.ref ra)])) rfl rfl (hb hby d1_17)
  have K15 : Keep h0 h15 [ra] := K10.wr W15 (Or.inl (by simp))
  have z15 : n0 ≤ h15.size := Nat.le_trans Z0 K15.1
  have N15 := Fr.snoc X15 N10 g_ra
  have Fw15 := f14.same W15
  have pre16 : ∀ t, Steps p.tables e below (T15.setTop (mkF m 20 #[.val (.ref ra), .val (.long xpid), .second, .val (.int xst), .val (.long xpar), .second, .val (.long xgrp), .second, .val (.long xstt), .second] [])) t → Steps p.tables e below (s₁.setTop (entryFrame m #[(.ref ra), (.long xpid), (.int xst), (.long xpar), (.long xgrp), (.long xstt)] 10)) t := fun t k => pre12 t (st15 t k)
  have pre17 : ∀ t, Steps p.tables e below (T15.setTop (mkF m 23 #[.val (.ref ra), .val (.long xpid), .second, .val (.int xst), .val (.long xpar), .second, .val (.long xgrp), .second, .val (.long xstt), .second] [(.long xgrp), (.ref ra)])) t → Steps p.tables e below (s₁.setTop (entryFrame m #[(.ref ra), (.long xpid), (.int xst), (.long xpar), (.long xgrp), (.long xstt)] 10)) t := by
    intro t k
    refine pre16 t ?_
    refine XS.aloadN X15.here hx rfl (hb hby d1_20) rfl rfl ?_
    show Steps p.tables e below (T15.setTop (mkF m 21 #[.val (.ref ra), .val (.long xpid), .second, .val (.int xst), .val (.long xpar), .second, .val (.long xgrp), .second, .val (.long xstt), .second] [(.ref ra)])) _
    refine XS.lload X15.here hx rfl (hb hby d1_21) rfl ?_
    show Steps p.tables e below (T15.setTop (mkF m 23 #[.val (.ref ra), .val (.long xpid), .second, .val (.int xst), .val (.long xpar), .second, .val (.long xgrp), .second, .val (.long xstt), .second] [(.long xgrp), (.ref ra)])) _
    exact k
  have f18 := (f13.wr W15)
  have f19 := (((F_group_ra.other W5 (Or.inr (slot_ne (Or.inr (hw _ (List.mem_of_getElem? (i := 22) rfl))) (Or.inr (hw _ (List.mem_of_getElem? (i := 16) rfl))) (by decide) (t := .long) (t' := .long) (by decide) (by decide)))).other W10 (Or.inr (slot_ne (Or.inr (hw _ (List.mem_of_getElem? (i := 22) rfl))) (Or.inr (hw _ (List.mem_of_getElem? (i := 18) rfl))) (by decide) (t := .long) (t' := .char) (by decide) (by decide)))).other W15 (Or.inr (slot_ne (Or.inr (hw _ (List.mem_of_getElem? (i := 22) rfl))) (Or.inr (hw _ (List.mem_of_getElem? (i := 20) rfl))) (by decide) (t := .long) (t' := .long) (by decide) (by decide))))
  obtain ⟨T20, h20, X20, e20, W20, st20⟩ := putF X15 hx hZ hown (host := "") (Or.inl (hw _ (List.mem_of_getElem? (i := 21) rfl))) Via.refl e15 f19 f18 (Or.inr ⟨(hw _ (List.mem_of_getElem? (i := 22) rfl)), rfl, hnm⟩) (hw _ (List.mem_of_getElem? (i := 2) rfl)) (ty := .long) (by decide) rfl rfl (g := (mkF m 23 #[.val (.ref ra), .val (.long xpid), .second, .val (.int xst), .val (.long xpar), .second, .val (.long xgrp), .second, .val (.long xstt), .second] [(.long xgrp), (.ref ra)])) rfl rfl (hb hby d1_23)
  have K20 : Keep h0 h20 [ra] := K15.wr W20 (Or.inl (by simp))
  have z20 : n0 ≤ h20.size := Nat.le_trans Z0 K20.1
  have N20 := Fr.snoc X20 N15 g_ra
  have Fw20 := f19.same W20
  have pre21 : ∀ t, Steps p.tables e below (T20.setTop (mkF m 26 #[.val (.ref ra), .val (.long xpid), .second, .val (.int xst), .val (.long xpar), .second, .val (.long xgrp), .second, .val (.long xstt), .second] [])) t → Steps p.tables e below (s₁.setTop (entryFrame m #[(.ref ra), (.long xpid), (.int xst), (.long xpar), (.long xgrp), (.long xstt)] 10)) t := fun t k => pre17 t (st20 t k)
  have pre22 : ∀ t, Steps p.tables e below (T20.setTop (mkF m 29 #[.val (.ref ra), .val (.long xpid), .second, .val (.int xst), .val (.long xpar), .second, .val (.long xgrp), .second, .val (.long xstt), .second] [(.long xstt), (.ref ra)])) t → Steps p.tables e below (s₁.setTop (entryFrame m #[(.ref ra), (.long xpid), (.int xst), (.long xpar), (.long xgrp), (.long xstt)] 10)) t := by
    intro t k
    refine pre21 t ?_
    refine XS.aloadN X20.here hx rfl (hb hby d1_26) rfl rfl ?_
    show Steps p.tables e below (T20.setTop (mkF m 27 #[.val (.ref ra), .val (.long xpid), .second, .val (.int xst), .val (.long xpar), .second, .val (.long xgrp), .second, .val (.long xstt), .second] [(.ref ra)])) _
    refine XS.lload X20.here hx rfl (hb hby d1_27) rfl ?_
    show Steps p.tables e below (T20.setTop (mkF m 29 #[.val (.ref ra), .val (.long xpid), .second, .val (.int xst), .val (.long xpar), .second, .val (.long xgrp), .second, .val (.long xstt), .second] [(.long xstt), (.ref ra)])) _
    exact k
  have f23 := (f18.wr W20)
  have f24 := ((((F_started_ra.other W5 (Or.inr (slot_ne (Or.inr (hw _ (List.mem_of_getElem? (i := 24) rfl))) (Or.inr (hw _ (List.mem_of_getElem? (i := 16) rfl))) (by decide) (t := .long) (t' := .long) (by decide) (by decide)))).other W10 (Or.inr (slot_ne (Or.inr (hw _ (List.mem_of_getElem? (i := 24) rfl))) (Or.inr (hw _ (List.mem_of_getElem? (i := 18) rfl))) (by decide) (t := .long) (t' := .char) (by decide) (by decide)))).other W15 (Or.inr (slot_ne (Or.inr (hw _ (List.mem_of_getElem? (i := 24) rfl))) (Or.inr (hw _ (List.mem_of_getElem? (i := 20) rfl))) (by decide) (t := .long) (t' := .long) (by decide) (by decide)))).other W20 (Or.inr (slot_ne (Or.inr (hw _ (List.mem_of_getElem? (i := 24) rfl))) (Or.inr (hw _ (List.mem_of_getElem? (i := 22) rfl))) (by decide) (t := .long) (t' := .long) (by decide) (by decide))))
  obtain ⟨T25, h25, X25, e25, W25, st25⟩ := putF X20 hx hZ hown (host := "") (Or.inl (hw _ (List.mem_of_getElem? (i := 23) rfl))) Via.refl e20 f24 f23 (Or.inr ⟨(hw _ (List.mem_of_getElem? (i := 24) rfl)), rfl, hnm⟩) (hw _ (List.mem_of_getElem? (i := 2) rfl)) (ty := .long) (by decide) rfl rfl (g := (mkF m 29 #[.val (.ref ra), .val (.long xpid), .second, .val (.int xst), .val (.long xpar), .second, .val (.long xgrp), .second, .val (.long xstt), .second] [(.long xstt), (.ref ra)])) rfl rfl (hb hby d1_29)
  have K25 : Keep h0 h25 [ra] := K20.wr W25 (Or.inl (by simp))
  have z25 : n0 ≤ h25.size := Nat.le_trans Z0 K25.1
  have N25 := Fr.snoc X25 N20 g_ra
  have Fw25 := f24.same W25
  have pre26 : ∀ t, Steps p.tables e below (T25.setTop (mkF m 32 #[.val (.ref ra), .val (.long xpid), .second, .val (.int xst), .val (.long xpar), .second, .val (.long xgrp), .second, .val (.long xstt), .second] [])) t → Steps p.tables e below (s₁.setTop (entryFrame m #[(.ref ra), (.long xpid), (.int xst), (.long xpar), (.long xgrp), (.long xstt)] 10)) t := fun t k => pre22 t (st25 t k)
  obtain ⟨fs, hr, hrun, hended, hW, hsame⟩ := X25.leave (v := none) (fun _ => rfl)
  refine ⟨_, _, pre26 _ ?_, hrun, hended, _, _, rfl, ?_, ⟨_, rfl⟩, hW, hsame.mono (by decide) (by decide)⟩
  · exact X25.returnOut hx Bd.returns (hb hby d1_32) hr
  · show Q_rm_init Z ra xpid xst xpar xgrp xstt h0 n0 _ T25.heap _
    rw [e25]
    exact ⟨rfl, N25, K25, (f23.wr W25), ((((Fw5.other W10 (Or.inr (slot_ne (Or.inr (hw _ (List.mem_of_getElem? (i := 16) rfl))) (Or.inr (hw _ (List.mem_of_getElem? (i := 18) rfl))) (by decide) (t := .long) (t' := .char) (by decide) (by decide)))).other W15 (Or.inr (slot_ne (Or.inr (hw _ (List.mem_of_getElem? (i := 16) rfl))) (Or.inr (hw _ (List.mem_of_getElem? (i := 20) rfl))) (by decide) (t := .long) (t' := .long) (by decide) (by decide)))).other W20 (Or.inr (slot_ne (Or.inr (hw _ (List.mem_of_getElem? (i := 16) rfl))) (Or.inr (hw _ (List.mem_of_getElem? (i := 22) rfl))) (by decide) (t := .long) (t' := .long) (by decide) (by decide)))).other W25 (Or.inr (slot_ne (Or.inr (hw _ (List.mem_of_getElem? (i := 16) rfl))) (Or.inr (hw _ (List.mem_of_getElem? (i := 24) rfl))) (by decide) (t := .long) (t' := .long) (by decide) (by decide)))), (((Fw10.other W15 (Or.inr (slot_ne (Or.inr (hw _ (List.mem_of_getElem? (i := 18) rfl))) (Or.inr (hw _ (List.mem_of_getElem? (i := 20) rfl))) (by decide) (t := .char) (t' := .long) (by decide) (by decide)))).other W20 (Or.inr (slot_ne (Or.inr (hw _ (List.mem_of_getElem? (i := 18) rfl))) (Or.inr (hw _ (List.mem_of_getElem? (i := 22) rfl))) (by decide) (t := .char) (t' := .long) (by decide) (by decide)))).other W25 (Or.inr (slot_ne (Or.inr (hw _ (List.mem_of_getElem? (i := 18) rfl))) (Or.inr (hw _ (List.mem_of_getElem? (i := 24) rfl))) (by decide) (t := .char) (t' := .long) (by decide) (by decide)))), ((Fw15.other W20 (Or.inr (slot_ne (Or.inr (hw _ (List.mem_of_getElem? (i := 20) rfl))) (Or.inr (hw _ (List.mem_of_getElem? (i := 22) rfl))) (by decide) (t := .long) (t' := .long) (by decide) (by decide)))).other W25 (Or.inr (slot_ne (Or.inr (hw _ (List.mem_of_getElem? (i := 20) rfl))) (Or.inr (hw _ (List.mem_of_getElem? (i := 24) rfl))) (by decide) (t := .long) (t' := .long) (by decide) (by decide)))), (Fw20.other W25 (Or.inr (slot_ne (Or.inr (hw _ (List.mem_of_getElem? (i := 22) rfl))) (Or.inr (hw _ (List.mem_of_getElem? (i := 24) rfl))) (by decide) (t := .long) (t' := .long) (by decide) (by decide)))), Fw25⟩
theorem d4_0 : decode prog_26_method_2_code 0 = .ok (.aload_n 0, 1) := by decide +kernel
theorem d4_1 : decode prog_26_method_2_code 1 = .ok (.getfield 13, 3) := by decide +kernel
theorem d4_4 : decode prog_26_method_2_code 4 = .ok (.bipush 90, 2) := by decide +kernel
theorem d4_6 : decode prog_26_method_2_code 6 = .ok (.if_icmp .ne 7, 3) := by decide +kernel
theorem d4_9 : decode prog_26_method_2_code 9 = .ok (.iconst 1, 1) := by decide +kernel
theorem d4_10 : decode prog_26_method_2_code 10 = .ok (.goto 4, 3) := by decide +kernel
theorem d4_14 : decode prog_26_method_2_code 14 = .ok (.ireturn, 1) := by decide +kernel
theorem d4_13 : decode prog_26_method_2_code 13 = .ok (.iconst 0, 1) := by decide +kernel
def F_rm_isZombie (xw : Int32) : Int32 := (if xw = (90 : Int32) then (1 : Int32) else (0 : Int32))
theorem ef_rm_isZombie (m : MethodId) (ra : Addr) : entryFrame m #[(.ref ra)] 1 = mkF m 0 #[.val (.ref ra)] [] := by first | (simp [entryFrame, mkF, argsToLocals, Value.category]; done) | rfl
def Q_rm_isZombie (Z : State) (ra : Addr) (xw : Int32) (h0 : Heap) (n0 : Nat) (v : Option Value) (h : Heap) (L : List Loc) : Prop := v = some (.int (F_rm_isZombie xw)) ∧ Fr n0 L ∧ h = h0
set_option maxRecDepth 65536 in
set_option maxHeartbeats 40000000 in
theorem rm_isZombie (l : Launch) (Z : State) (a0 : Array Value) (hw : ∀ d ∈ tables_1, d.before a0 Z = true) (ws : List Jvm.Cond) (ra : Addr) (xw : Int32) (h0 : Heap) (n0 : Nat) (Z0 : n0 ≤ h0.size) (F1 : Fld Z h0 ra "com/example/narrow_gate/narrowgate/process/ProcessGroup$Stat" "state" "C" (.int xw)) :
    MetFree l (⟨"com/example/narrow_gate/narrowgate/process/ProcessGroup$Stat", "isZombie", "()Z"⟩ : MethodName) (head1 (Jvm.Cond.code (⟨"com/example/narrow_gate/narrowgate/process/ProcessGroup$Stat", "isZombie", "()Z"⟩ : MethodName) prog_26_method_2_code 1 (some .boolean) :: ws) ({ frames := 0, cells := 0, slots := 0, locals := 0 } : Room)) (fun a U => a = #[(.ref ra)] ∧ Z.Warmed39 U.vm ∧ U.heap = h0) (fun _ _ _ _ _ => True) (fun _ U o U' => ∃ v L, o = .returned v ∧ Q_rm_isZombie Z ra xw h0 n0 v U'.heap L ∧ FrameEnd U o U' L ({ frames := 0, cells := 0, slots := 0, locals := 0 } : Room).cells ({ frames := 0, cells := 0, slots := 0, locals := 0 } : Room).slots) := by
  refine MetFree.of_bodySF (plainFor_of_name pn1) hisR ?_
  intro p e s m args below meth c s₁ Bd hml0 hP hK
  obtain ⟨rfl, hZ, hh⟩ := hP
  have hx := Bd.exec
  have hby := Bd.bytes
  have hml : c.maxLocals = 1 := hml0
  have hown : s.vm.findClass "com/example/narrow_gate/narrowgate/process/ProcessGroup$Stat" = some m.cls := findClass_of_methodNamed Bd.named
  have hnm := (name_of_methodNamed Bd.named Bd.method).1
  have X0 : Stand p l e ({ frames := 0, cells := 0, slots := 0, locals := 0 } : Room) s m #[(.ref ra)] below meth c s₁ [] 0 0 := Stand.of_body Bd
  have e0 : s₁.heap = h0 := by rw [← hh, Bd.state]; rfl
  have N0 := Fr.nil n0
  have pre0 : ∀ t, Steps p.tables e below (s₁.setTop (mkF m 0 #[.val (.ref ra)] [])) t → Steps p.tables e below (s₁.setTop (entryFrame m #[(.ref ra)] 1)) t := fun t k => castTop (ef_rm_isZombie m ra) k
  have pre1 : ∀ t, Steps p.tables e below (s₁.setTop (mkF m 1 #[.val (.ref ra)] [(.ref ra)])) t → Steps p.tables e below (s₁.setTop (entryFrame m #[(.ref ra)] 1)) t := by
    intro t k
    refine pre0 t ?_
    refine XS.aloadN X0.here hx rfl (hb hby d4_0) rfl rfl ?_
    show Steps p.tables e below (s₁.setTop (mkF m 1 #[.val (.ref ra)] [(.ref ra)])) _
    exact k
  obtain ⟨T2, X2, e2, st2⟩ := getF X0 hx hZ hown (host := "") (Or.inl (hw _ (List.mem_of_getElem? (i := 17) rfl))) Via.refl e0 F1 (g := (mkF m 1 #[.val (.ref ra)] [(.ref ra)])) rfl rfl (hb hby d4_1)
  have pre3 : ∀ t, Steps p.tables e below (T2.setTop (mkF m 4 #[.val (.ref ra)] [(.int xw)])) t → Steps p.tables e below (s₁.setTop (entryFrame m #[(.ref ra)] 1)) t := fun t k => pre1 t (st2 t k)
  have pre4 : ∀ t, Steps p.tables e below (T2.setTop (mkF m 6 #[.val (.ref ra)] [(.int (90 : Int32)), (.int xw)])) t → Steps p.tables e below (s₁.setTop (entryFrame m #[(.ref ra)] 1)) t := by
    intro t k
    refine pre3 t ?_
    refine XS.bipush X2.here hx rfl (hb hby d4_4) ?_
    show Steps p.tables e below (T2.setTop (mkF m 6 #[.val (.ref ra)] [(.int (90 : Int32)), (.int xw)])) _
    exact k
  by_cases hc6 : xw = (90 : Int32)
  · have pre5 : ∀ t, Steps p.tables e below (T2.setTop (mkF m 14 #[.val (.ref ra)] [(.int (1 : Int32))])) t → Steps p.tables e below (s₁.setTop (entryFrame m #[(.ref ra)] 1)) t := by
      intro t k
      refine pre4 t ?_
      refine XS.icmpNo X2.here hx rfl (hb hby d4_6) rfl (teq hc6).2 ?_
      show Steps p.tables e below (T2.setTop (mkF m 9 #[.val (.ref ra)] [])) _
      refine XS.iconst X2.here hx rfl (hb hby d4_9) ?_
      show Steps p.tables e below (T2.setTop (mkF m 10 #[.val (.ref ra)] [(.int (1 : Int32))])) _
      refine XS.goto X2.here hx rfl (pc0 := 10) (pc' := 14) rfl (hb hby d4_10) (by decide) (by decide) ?_
      show Steps p.tables e below (T2.setTop (mkF m 14 #[.val (.ref ra)] [(.int (1 : Int32))])) _
      exact k
    obtain ⟨fs, hr, hrun, hended, hW, hsame⟩ := X2.leave (v := some (.int (1 : Int32))) (fun h => by rw [Bd.returns] at h; cases h)
    refine ⟨_, _, pre5 _ ?_, hrun, hended, _, _, rfl, ?_, ⟨_, rfl⟩, hW, hsame.mono (by decide) (by decide)⟩
    · exact retN X2 hx (t := .boolean) Bd.returns (by simp) (hb hby d4_14) hr
    · show Q_rm_isZombie Z ra xw h0 n0 _ T2.heap _
      rw [e2]
      exact ⟨congrArg (fun z => some (Value.int z)) (show (1 : Int32) = (F_rm_isZombie xw) from by rw [F_rm_isZombie, if_pos hc6]), N0, rfl⟩
  · have pre6 : ∀ t, Steps p.tables e below (T2.setTop (mkF m 14 #[.val (.ref ra)] [(.int (0 : Int32))])) t → Steps p.tables e below (s₁.setTop (entryFrame m #[(.ref ra)] 1)) t := by
      intro t k
      refine pre4 t ?_
      refine XS.icmpYes X2.here hx rfl (pc0 := 6) (pc' := 13) rfl (hb hby d4_6) rfl (feq hc6).2 (by decide) (by decide) ?_
      show Steps p.tables e below (T2.setTop (mkF m 13 #[.val (.ref ra)] [])) _
      refine XS.iconst X2.here hx rfl (hb hby d4_13) ?_
      show Steps p.tables e below (T2.setTop (mkF m 14 #[.val (.ref ra)] [(.int (0 : Int32))])) _
      exact k
    obtain ⟨fs, hr, hrun, hended, hW, hsame⟩ := X2.leave (v := some (.int (0 : Int32))) (fun h => by rw [Bd.returns] at h; cases h)
    refine ⟨_, _, pre6 _ ?_, hrun, hended, _, _, rfl, ?_, ⟨_, rfl⟩, hW, hsame.mono (by decide) (by decide)⟩
    · exact retN X2 hx (t := .boolean) Bd.returns (by simp) (hb hby d4_14) hr
    · show Q_rm_isZombie Z ra xw h0 n0 _ T2.heap _
      rw [e2]
      exact ⟨congrArg (fun z => some (Value.int z)) (show (0 : Int32) = (F_rm_isZombie xw) from by rw [F_rm_isZombie, if_neg hc6]), N0, rfl⟩
theorem own_law (xa co vv : Int32) (hco : co = (xa &&& (65535 : Int32))) (hv : vv = (if co = (90 : Int32) then (1 : Int32) else (0 : Int32))) : F_rm_isZombie (nar .char (co.toUInt32.toUInt16.toUInt32.toInt32)) = vv := by
  have e1 : nar .char (co.toUInt32.toUInt16.toUInt32.toInt32) = (co.toUInt32.toUInt16.toUInt32.toInt32) := by simp only [nar, UInt32.toUInt32_toInt32, UInt16.toUInt16_toUInt32]
  have m1 : co.toInt = xa.toInt % 65536 := by rw [hco]; exact c_mask xa (65535 : Int32) 16 (by decide) (by decide +kernel)
  have e2 : (co.toUInt32.toUInt16.toUInt32.toInt32) = co := by
    have := c_i2c co
    apply Int32.toInt_inj.mp
    omega
  rw [e1, e2, hv, F_rm_isZombie]
theorem pd1 : parseMethodDescriptor "(JCJJJ)V" = some ⟨[.long, .char, .long, .long, .long], none⟩ := by decide +kernel
theorem pd2 : parseMethodDescriptor "()Z" = some ⟨[], some .boolean⟩ := by decide +kernel
theorem pn2 : plainName "com/example/narrow_gate/narrowgate/process/StatIsZombiePinLaw" = true := by first | (simp [plainName, overriddenIn]; done) | decide +kernel
theorem ef_rm0 (m : MethodId) (xa : Int32) (xpid : Int64) (xpar : Int64) (xgrp : Int64) (xstt : Int64) : entryFrame m #[(.int xa), (.long xpid), (.long xpar), (.long xgrp), (.long xstt)] maxLocals = mkF m 0 #[.val (.int xa), .val (.long xpid), .second, .val (.long xpar), .second, .val (.long xgrp), .second, .val (.long xstt), .second, .unset, .unset, .unset, .unset] [] := by first | (simp [entryFrame, mkF, argsToLocals, Value.category, maxLocals]; done) | rfl
def Q_rm0 (Z : State) (xa : Int32) (xpid : Int64) (xpar : Int64) (xgrp : Int64) (xstt : Int64) (h0 : Heap) (n0 : Nat) (v : Option Value) (h : Heap) (L : List Loc) : Prop := v = some (.int (1 : Int32)) ∧ Fr n0 L
set_option maxRecDepth 65536 in
set_option maxHeartbeats 40000000 in
theorem rm0 (l : Launch) (Z : State) (a0 : Array Value) (hw : ∀ d ∈ tables_1, d.before a0 Z = true) (ws : List Jvm.Cond) (xa : Int32) (xpid : Int64) (xpar : Int64) (xgrp : Int64) (xstt : Int64) (h0 : Heap) (n0 : Nat) (Z0 : n0 ≤ h0.size) :
    MetFree l x (head1 (Jvm.Cond.code x code maxLocals ret :: ws) room_1) (fun a U => a = #[(.int xa), (.long xpid), (.long xpar), (.long xgrp), (.long xstt)] ∧ Z.Warmed39 U.vm ∧ U.heap = h0) (fun _ _ _ _ _ => True) (fun _ U o U' => ∃ v L, o = .returned v ∧ Q_rm0 Z xa xpid xpar xgrp xstt h0 n0 v U'.heap L ∧ FrameEnd U o U' L room_1.cells room_1.slots) := by
  refine MetFree.of_bodySF (plainFor_of_name pn2) hisR ?_
  intro p e s m args below meth c s₁ Bd hml0 hP hK
  obtain ⟨rfl, hZ, hh⟩ := hP
  have hx := Bd.exec
  have hby := Bd.bytes
  have hml : c.maxLocals = 13 := hml0
  have hown : s.vm.findClass "com/example/narrow_gate/narrowgate/process/StatIsZombiePinLaw" = some m.cls := findClass_of_methodNamed Bd.named
  have hnm := (name_of_methodNamed Bd.named Bd.method).1
  have X0 : Stand p l e room_1 s m #[(.int xa), (.long xpid), (.long xpar), (.long xgrp), (.long xstt)] below meth c s₁ [] 0 0 := Stand.of_body Bd
  have e0 : s₁.heap = h0 := by rw [← hh, Bd.state]; rfl
  have N0 := Fr.nil n0
  have pre0 : ∀ t, Steps p.tables e below (s₁.setTop (mkF m 0 #[.val (.int xa), .val (.long xpid), .second, .val (.long xpar), .second, .val (.long xgrp), .second, .val (.long xstt), .second, .unset, .unset, .unset, .unset] [])) t → Steps p.tables e below (s₁.setTop (entryFrame m #[(.int xa), (.long xpid), (.long xpar), (.long xgrp), (.long xstt)] maxLocals)) t := fun t k => castTop (ef_rm0 m xa xpid xpar xgrp xstt) k
  have pre1 : ∀ t, Steps p.tables e below (s₁.setTop (mkF m 6 #[.val (.int xa), .val (.long xpid), .second, .val (.long xpar), .second, .val (.long xgrp), .second, .val (.long xstt), .second, .val (.int (xa &&& (65535 : Int32))), .unset, .unset, .unset] [])) t → Steps p.tables e below (s₁.setTop (entryFrame m #[(.int xa), (.long xpid), (.long xpar), (.long xgrp), (.long xstt)] maxLocals)) t := by
    intro t k
    refine pre0 t ?_
    refine XS.iloadN X0.here hx rfl (hb hby at_0) rfl ?_
    show Steps p.tables e below (s₁.setTop (mkF m 1 #[.val (.int xa), .val (.long xpid), .second, .val (.long xpar), .second, .val (.long xgrp), .second, .val (.long xstt), .second, .unset, .unset, .unset, .unset] [(.int xa)])) _
    refine X0.ldcInt hx hown (mvT hZ (hw _ (List.mem_of_getElem? (i := 0) rfl))) (g := (mkF m 1 #[.val (.int xa), .val (.long xpid), .second, .val (.long xpar), .second, .val (.long xgrp), .second, .val (.long xstt), .second, .unset, .unset, .unset, .unset] [(.int xa)])) rfl (hb hby at_1) _ ?_
    show Steps p.tables e below (s₁.setTop (mkF m 3 #[.val (.int xa), .val (.long xpid), .second, .val (.long xpar), .second, .val (.long xgrp), .second, .val (.long xstt), .second, .unset, .unset, .unset, .unset] [(.int (65535 : Int32)), (.int xa)])) _
    refine XS.iand X0.here hx rfl (hb hby at_3) rfl ?_
    show Steps p.tables e below (s₁.setTop (mkF m 4 #[.val (.int xa), .val (.long xpid), .second, .val (.long xpar), .second, .val (.long xgrp), .second, .val (.long xstt), .second, .unset, .unset, .unset, .unset] [(.int (xa &&& (65535 : Int32)))])) _
    refine XS.istore X0.here hx rfl (hb hby at_4) rfl (l' := #[.val (.int xa), .val (.long xpid), .second, .val (.long xpar), .second, .val (.long xgrp), .second, .val (.long xstt), .second, .val (.int (xa &&& (65535 : Int32))), .unset, .unset, .unset]) rfl ?_
    show Steps p.tables e below (s₁.setTop (mkF m 6 #[.val (.int xa), .val (.long xpid), .second, .val (.long xpar), .second, .val (.long xgrp), .second, .val (.long xstt), .second, .val (.int (xa &&& (65535 : Int32))), .unset, .unset, .unset] [])) _
    exact k
  obtain ⟨co, hco⟩ : ∃ z : Int32, z = (xa &&& (65535 : Int32)) := ⟨_, rfl⟩
  rw [← hco] at pre1
  have pre2 : ∀ t, Steps p.tables e below (s₁.setTop (mkF m 11 #[.val (.int xa), .val (.long xpid), .second, .val (.long xpar), .second, .val (.long xgrp), .second, .val (.long xstt), .second, .val (.int co), .val (.int (co.toUInt32.toUInt16.toUInt32.toInt32)), .unset, .unset] [])) t → Steps p.tables e below (s₁.setTop (entryFrame m #[(.int xa), (.long xpid), (.long xpar), (.long xgrp), (.long xstt)] maxLocals)) t := by
    intro t k
    refine pre1 t ?_
    refine XS.iload X0.here hx rfl (hb hby at_6) rfl ?_
    show Steps p.tables e below (s₁.setTop (mkF m 8 #[.val (.int xa), .val (.long xpid), .second, .val (.long xpar), .second, .val (.long xgrp), .second, .val (.long xstt), .second, .val (.int co), .unset, .unset, .unset] [(.int co)])) _
    refine XS.i2c X0.here hx rfl (hb hby at_8) rfl ?_
    show Steps p.tables e below (s₁.setTop (mkF m 9 #[.val (.int xa), .val (.long xpid), .second, .val (.long xpar), .second, .val (.long xgrp), .second, .val (.long xstt), .second, .val (.int co), .unset, .unset, .unset] [(.int (co.toUInt32.toUInt16.toUInt32.toInt32))])) _
    refine XS.istore X0.here hx rfl (hb hby at_9) rfl (l' := #[.val (.int xa), .val (.long xpid), .second, .val (.long xpar), .second, .val (.long xgrp), .second, .val (.long xstt), .second, .val (.int co), .val (.int (co.toUInt32.toUInt16.toUInt32.toInt32)), .unset, .unset]) rfl ?_
    show Steps p.tables e below (s₁.setTop (mkF m 11 #[.val (.int xa), .val (.long xpid), .second, .val (.long xpar), .second, .val (.long xgrp), .second, .val (.long xstt), .second, .val (.int co), .val (.int (co.toUInt32.toUInt16.toUInt32.toInt32)), .unset, .unset] [])) _
    exact k
  obtain ⟨T3, h3, X3, e3, E3, A3, D3, -, st3⟩ := newO X0 hx hZ hown (hw _ (List.mem_of_getElem? (i := 1) rfl)) (hw _ (List.mem_of_getElem? (i := 2) rfl)) (hw _ (List.mem_of_getElem? (i := 3) rfl)) e0 (g := (mkF m 11 #[.val (.int xa), .val (.long xpid), .second, .val (.long xpar), .second, .val (.long xgrp), .second, .val (.long xstt), .second, .val (.int co), .val (.int (co.toUInt32.toUInt16.toUInt32.toInt32)), .unset, .unset] [])) rfl (hb hby at_11) (by decide) (by decide)
  obtain ⟨b3, g3⟩ : ∃ z, z = h0.size := ⟨_, rfl⟩
  rw [← g3] at A3 D3 st3
  have g_b3 : n0 ≤ b3 := Nat.le_trans Z0 (Nat.le_of_eq g3.symm)
  have sz_b3 : h0.size ≤ b3 := Nat.le_trans (Keep.refl h0 ([] : List Addr)).1 (Nat.le_of_eq g3.symm)
  have K3 : Keep h0 h3 ([] : List Addr) := (Keep.refl h0 ([] : List Addr)).ext E3
  have z3 : n0 ≤ h3.size := Nat.le_trans Z0 K3.1
  have F_pid_b3 : Fld Z h3 b3 "com/example/narrow_gate/narrowgate/process/ProcessGroup$Stat" "pid" "J" (.long (0 : Int64)) := D3 (Or.inr (hw _ (List.mem_of_getElem? (i := 16) rfl))) (ty := .long) (by decide)
  have F_state_b3 : Fld Z h3 b3 "com/example/narrow_gate/narrowgate/process/ProcessGroup$Stat" "state" "C" (.int (0 : Int32)) := D3 (Or.inr (hw _ (List.mem_of_getElem? (i := 18) rfl))) (ty := .char) (by decide)
  have F_parent_b3 : Fld Z h3 b3 "com/example/narrow_gate/narrowgate/process/ProcessGroup$Stat" "parent" "J" (.long (0 : Int64)) := D3 (Or.inr (hw _ (List.mem_of_getElem? (i := 20) rfl))) (ty := .long) (by decide)
  have F_group_b3 : Fld Z h3 b3 "com/example/narrow_gate/narrowgate/process/ProcessGroup$Stat" "group" "J" (.long (0 : Int64)) := D3 (Or.inr (hw _ (List.mem_of_getElem? (i := 22) rfl))) (ty := .long) (by decide)
  have F_started_b3 : Fld Z h3 b3 "com/example/narrow_gate/narrowgate/process/ProcessGroup$Stat" "started" "J" (.long (0 : Int64)) := D3 (Or.inr (hw _ (List.mem_of_getElem? (i := 24) rfl))) (ty := .long) (by decide)
  have pre4 : ∀ t, Steps p.tables e below (T3.setTop (mkF m 14 #[.val (.int xa), .val (.long xpid), .second, .val (.long xpar), .second, .val (.long xgrp), .second, .val (.long xstt), .second, .val (.int co), .val (.int (co.toUInt32.toUInt16.toUInt32.toInt32)), .unset, .unset] [(.ref b3)])) t → Steps p.tables e below (s₁.setTop (entryFrame m #[(.int xa), (.long xpid), (.long xpar), (.long xgrp), (.long xstt)] maxLocals)) t := fun t k => pre2 t (st3 t k)
  have pre5 : ∀ t, Steps p.tables e below (T3.setTop (mkF m 23 #[.val (.int xa), .val (.long xpid), .second, .val (.long xpar), .second, .val (.long xgrp), .second, .val (.long xstt), .second, .val (.int co), .val (.int (co.toUInt32.toUInt16.toUInt32.toInt32)), .unset, .unset] [(.long xstt), (.long xgrp), (.long xpar), (.int (co.toUInt32.toUInt16.toUInt32.toInt32)), (.long xpid), (.ref b3), (.ref b3)])) t → Steps p.tables e below (s₁.setTop (entryFrame m #[(.int xa), (.long xpid), (.long xpar), (.long xgrp), (.long xstt)] maxLocals)) t := by
    intro t k
    refine pre4 t ?_
    refine XS.dup X3.here hx rfl (hb hby at_14) rfl rfl ?_
    show Steps p.tables e below (T3.setTop (mkF m 15 #[.val (.int xa), .val (.long xpid), .second, .val (.long xpar), .second, .val (.long xgrp), .second, .val (.long xstt), .second, .val (.int co), .val (.int (co.toUInt32.toUInt16.toUInt32.toInt32)), .unset, .unset] [(.ref b3), (.ref b3)])) _
    refine XS.lloadN X3.here hx rfl (hb hby at_15) rfl ?_
    show Steps p.tables e below (T3.setTop (mkF m 16 #[.val (.int xa), .val (.long xpid), .second, .val (.long xpar), .second, .val (.long xgrp), .second, .val (.long xstt), .second, .val (.int co), .val (.int (co.toUInt32.toUInt16.toUInt32.toInt32)), .unset, .unset] [(.long xpid), (.ref b3), (.ref b3)])) _
    refine XS.iload X3.here hx rfl (hb hby at_16) rfl ?_
    show Steps p.tables e below (T3.setTop (mkF m 18 #[.val (.int xa), .val (.long xpid), .second, .val (.long xpar), .second, .val (.long xgrp), .second, .val (.long xstt), .second, .val (.int co), .val (.int (co.toUInt32.toUInt16.toUInt32.toInt32)), .unset, .unset] [(.int (co.toUInt32.toUInt16.toUInt32.toInt32)), (.long xpid), (.ref b3), (.ref b3)])) _
    refine XS.lloadN X3.here hx rfl (hb hby at_18) rfl ?_
    show Steps p.tables e below (T3.setTop (mkF m 19 #[.val (.int xa), .val (.long xpid), .second, .val (.long xpar), .second, .val (.long xgrp), .second, .val (.long xstt), .second, .val (.int co), .val (.int (co.toUInt32.toUInt16.toUInt32.toInt32)), .unset, .unset] [(.long xpar), (.int (co.toUInt32.toUInt16.toUInt32.toInt32)), (.long xpid), (.ref b3), (.ref b3)])) _
    refine XS.lload X3.here hx rfl (hb hby at_19) rfl ?_
    show Steps p.tables e below (T3.setTop (mkF m 21 #[.val (.int xa), .val (.long xpid), .second, .val (.long xpar), .second, .val (.long xgrp), .second, .val (.long xstt), .second, .val (.int co), .val (.int (co.toUInt32.toUInt16.toUInt32.toInt32)), .unset, .unset] [(.long xgrp), (.long xpar), (.int (co.toUInt32.toUInt16.toUInt32.toInt32)), (.long xpid), (.ref b3), (.ref b3)])) _
    refine XS.lload X3.here hx rfl (hb hby at_21) rfl ?_
    show Steps p.tables e below (T3.setTop (mkF m 23 #[.val (.int xa), .val (.long xpid), .second, .val (.long xpar), .second, .val (.long xgrp), .second, .val (.long xstt), .second, .val (.int co), .val (.int (co.toUInt32.toUInt16.toUInt32.toInt32)), .unset, .unset] [(.long xstt), (.long xgrp), (.long xpar), (.int (co.toUInt32.toUInt16.toUInt32.toInt32)), (.long xpid), (.ref b3), (.ref b3)])) _
    exact k
  obtain ⟨_, _, ⟨T6, L6, k6, n6⟩, -, X6, ⟨Lc6, hQ6, l6, y6, z6⟩, st6⟩ := X3.specialBack hx (y := (⟨"com/example/narrow_gate/narrowgate/process/ProcessGroup$Stat", "<init>", "(JCJJJ)V"⟩ : MethodName)) rfl hown (mvT hZ (hw _ (List.mem_of_getElem? (i := 4) rfl))) (mvT hZ (hw _ (List.mem_of_getElem? (i := 5) rfl))) (mvT hZ (hw _ (List.mem_of_getElem? (i := 6) rfl))) (by decide) (backOf (W := 1) (rm_init l Z a0 hw [] b3 xpid (co.toUInt32.toUInt16.toUInt32.toInt32) xpar xgrp xstt h3 n0 z3 A3 (g_b3) F_pid_b3 F_state_b3 F_parent_b3 F_group_b3 F_started_b3) hZ (hw _ (List.mem_of_getElem? (i := 6) rfl)) (hw _ (List.mem_of_getElem? (i := 3) rfl)) (by decide) (by decide)) (g := (mkF m 23 #[.val (.int xa), .val (.long xpid), .second, .val (.long xpar), .second, .val (.long xgrp), .second, .val (.long xstt), .second, .val (.int co), .val (.int (co.toUInt32.toUInt16.toUInt32.toInt32)), .unset, .unset] [(.long xstt), (.long xgrp), (.long xpar), (.int (co.toUInt32.toUInt16.toUInt32.toInt32)), (.long xpid), (.ref b3), (.ref b3)])) rfl (by rw [hml]; rfl) (Steps.refl _) (a := b3) (argsL := [(.long xpid), (.int (co.toUInt32.toUInt16.toUInt32.toInt32)), (.long xpar), (.long xgrp), (.long xstt)]) (rest := [(.ref b3)]) (lenOf pd1 rfl) rfl (by show 2 * 0 + _ ≤ _; exact Nat.le_of_eq rfl) (hb hby at_23) (fun _ _ => ⟨rfl, e3, (by decide : 1 + 0 ≤ _), (by decide : 5 + 0 ≤ _)⟩)
  dsimp only [Pt.U, Pt.locs, Pt.cells, Pt.slots] at X6 l6 y6 z6 st6 hQ6
  subst l6 y6 z6
  obtain ⟨rfl, M6, kp6, f6_0, f6_1, f6_2, f6_3, f6_4, f6_5⟩ := hQ6
  have K6 : Keep h0 T6.heap ([] : List Addr) := K3.trans kp6 (allS (P := fun x => x ∈ ([] : List Addr) ∨ h0.size ≤ x) (Or.inr sz_b3) all0)
  have zz6 : n0 ≤ T6.heap.size := Nat.le_trans Z0 K6.1
  have N6 := Fr.app N0 M6
  have pre7 : ∀ t, Steps p.tables e below (T6.setTop (mkF m 26 #[.val (.int xa), .val (.long xpid), .second, .val (.long xpar), .second, .val (.long xgrp), .second, .val (.long xstt), .second, .val (.int co), .val (.int (co.toUInt32.toUInt16.toUInt32.toInt32)), .unset, .unset] [(.ref b3)])) t → Steps p.tables e below (s₁.setTop (entryFrame m #[(.int xa), (.long xpid), (.long xpar), (.long xgrp), (.long xstt)] maxLocals)) t := fun t k => pre5 t (st6.trans k)
  have pre8 : ∀ t, Steps p.tables e below (T6.setTop (mkF m 32 #[.val (.int xa), .val (.long xpid), .second, .val (.long xpar), .second, .val (.long xgrp), .second, .val (.long xstt), .second, .val (.int co), .val (.int (co.toUInt32.toUInt16.toUInt32.toInt32)), .val (.ref b3), .unset] [(.int (90 : Int32)), (.int co)])) t → Steps p.tables e below (s₁.setTop (entryFrame m #[(.int xa), (.long xpid), (.long xpar), (.long xgrp), (.long xstt)] maxLocals)) t := by
    intro t k
    refine pre7 t ?_
    refine XS.astore X6.here hx rfl (hb hby at_26) rfl rfl (l' := #[.val (.int xa), .val (.long xpid), .second, .val (.long xpar), .second, .val (.long xgrp), .second, .val (.long xstt), .second, .val (.int co), .val (.int (co.toUInt32.toUInt16.toUInt32.toInt32)), .val (.ref b3), .unset]) rfl ?_
    show Steps p.tables e below (T6.setTop (mkF m 28 #[.val (.int xa), .val (.long xpid), .second, .val (.long xpar), .second, .val (.long xgrp), .second, .val (.long xstt), .second, .val (.int co), .val (.int (co.toUInt32.toUInt16.toUInt32.toInt32)), .val (.ref b3), .unset] [])) _
    refine XS.iload X6.here hx rfl (hb hby at_28) rfl ?_
    show Steps p.tables e below (T6.setTop (mkF m 30 #[.val (.int xa), .val (.long xpid), .second, .val (.long xpar), .second, .val (.long xgrp), .second, .val (.long xstt), .second, .val (.int co), .val (.int (co.toUInt32.toUInt16.toUInt32.toInt32)), .val (.ref b3), .unset] [(.int co)])) _
    refine XS.bipush X6.here hx rfl (hb hby at_30) ?_
    show Steps p.tables e below (T6.setTop (mkF m 32 #[.val (.int xa), .val (.long xpid), .second, .val (.long xpar), .second, .val (.long xgrp), .second, .val (.long xstt), .second, .val (.int co), .val (.int (co.toUInt32.toUInt16.toUInt32.toInt32)), .val (.ref b3), .unset] [(.int (90 : Int32)), (.int co)])) _
    exact k
  obtain ⟨v32, hv32⟩ : ∃ z : Int32, z = (if co = (90 : Int32) then (1 : Int32) else (0 : Int32)) := ⟨_, rfl⟩
  have pre9 : ∀ t, Steps p.tables e below (T6.setTop (mkF m 40 #[.val (.int xa), .val (.long xpid), .second, .val (.long xpar), .second, .val (.long xgrp), .second, .val (.long xstt), .second, .val (.int co), .val (.int (co.toUInt32.toUInt16.toUInt32.toInt32)), .val (.ref b3), .unset] [(.int v32)])) t → Steps p.tables e below (s₁.setTop (entryFrame m #[(.int xa), (.long xpid), (.long xpar), (.long xgrp), (.long xstt)] maxLocals)) t := by
    intro t k
    refine pre8 t ?_
    by_cases hc32 : co = (90 : Int32)
    · refine XS.icmpNo X6.here hx rfl (hb hby at_32) rfl (teq hc32).2 ?_
      show Steps p.tables e below (T6.setTop (mkF m 35 #[.val (.int xa), .val (.long xpid), .second, .val (.long xpar), .second, .val (.long xgrp), .second, .val (.long xstt), .second, .val (.int co), .val (.int (co.toUInt32.toUInt16.toUInt32.toInt32)), .val (.ref b3), .unset] [])) _
      refine XS.iconst X6.here hx rfl (hb hby at_35) ?_
      show Steps p.tables e below (T6.setTop (mkF m 36 #[.val (.int xa), .val (.long xpid), .second, .val (.long xpar), .second, .val (.long xgrp), .second, .val (.long xstt), .second, .val (.int co), .val (.int (co.toUInt32.toUInt16.toUInt32.toInt32)), .val (.ref b3), .unset] [(.int (1 : Int32))])) _
      refine XS.goto X6.here hx rfl (pc0 := 36) (pc' := 40) rfl (hb hby at_36) (by decide) (by decide) ?_
      show Steps p.tables e below (T6.setTop (mkF m 40 #[.val (.int xa), .val (.long xpid), .second, .val (.long xpar), .second, .val (.long xgrp), .second, .val (.long xstt), .second, .val (.int co), .val (.int (co.toUInt32.toUInt16.toUInt32.toInt32)), .val (.ref b3), .unset] [(.int (1 : Int32))])) _
      rw [show v32 = (1 : Int32) from by rw [hv32, if_pos hc32]] at k
      exact k
    · refine XS.icmpYes X6.here hx rfl (pc0 := 32) (pc' := 39) rfl (hb hby at_32) rfl (feq hc32).2 (by decide) (by decide) ?_
      show Steps p.tables e below (T6.setTop (mkF m 39 #[.val (.int xa), .val (.long xpid), .second, .val (.long xpar), .second, .val (.long xgrp), .second, .val (.long xstt), .second, .val (.int co), .val (.int (co.toUInt32.toUInt16.toUInt32.toInt32)), .val (.ref b3), .unset] [])) _
      refine XS.iconst X6.here hx rfl (hb hby at_39) ?_
      show Steps p.tables e below (T6.setTop (mkF m 40 #[.val (.int xa), .val (.long xpid), .second, .val (.long xpar), .second, .val (.long xgrp), .second, .val (.long xstt), .second, .val (.int co), .val (.int (co.toUInt32.toUInt16.toUInt32.toInt32)), .val (.ref b3), .unset] [(.int (0 : Int32))])) _
      rw [show v32 = (0 : Int32) from by rw [hv32, if_neg hc32]] at k
      exact k
  have pre10 : ∀ t, Steps p.tables e below (T6.setTop (mkF m 44 #[.val (.int xa), .val (.long xpid), .second, .val (.long xpar), .second, .val (.long xgrp), .second, .val (.long xstt), .second, .val (.int co), .val (.int (co.toUInt32.toUInt16.toUInt32.toInt32)), .val (.ref b3), .val (.int v32)] [(.ref b3)])) t → Steps p.tables e below (s₁.setTop (entryFrame m #[(.int xa), (.long xpid), (.long xpar), (.long xgrp), (.long xstt)] maxLocals)) t := by
    intro t k
    refine pre9 t ?_
    refine XS.istore X6.here hx rfl (hb hby at_40) rfl (l' := #[.val (.int xa), .val (.long xpid), .second, .val (.long xpar), .second, .val (.long xgrp), .second, .val (.long xstt), .second, .val (.int co), .val (.int (co.toUInt32.toUInt16.toUInt32.toInt32)), .val (.ref b3), .val (.int v32)]) rfl ?_
    show Steps p.tables e below (T6.setTop (mkF m 42 #[.val (.int xa), .val (.long xpid), .second, .val (.long xpar), .second, .val (.long xgrp), .second, .val (.long xstt), .second, .val (.int co), .val (.int (co.toUInt32.toUInt16.toUInt32.toInt32)), .val (.ref b3), .val (.int v32)] [])) _
    refine XS.aload X6.here hx rfl (hb hby at_42) rfl rfl ?_
    show Steps p.tables e below (T6.setTop (mkF m 44 #[.val (.int xa), .val (.long xpid), .second, .val (.long xpar), .second, .val (.long xgrp), .second, .val (.long xstt), .second, .val (.int co), .val (.int (co.toUInt32.toUInt16.toUInt32.toInt32)), .val (.ref b3), .val (.int v32)] [(.ref b3)])) _
    exact k
  obtain ⟨cq11, kq11, q11a, q11b, q11c⟩ := isOf hZ rfl f6_0
  obtain ⟨_, _, ⟨T11, L11, k11, n11⟩, -, X11, ⟨Lc11, hQ11, l11, y11, z11⟩, st11⟩ := X6.virtualBack hx (y := (⟨"com/example/narrow_gate/narrowgate/process/ProcessGroup$Stat", "isZombie", "()Z"⟩ : MethodName)) (z := (⟨"com/example/narrow_gate/narrowgate/process/ProcessGroup$Stat", "isZombie", "()Z"⟩ : MethodName)) hown (mvT hZ (hw _ (List.mem_of_getElem? (i := 25) rfl))) (mvT hZ (hw _ (List.mem_of_getElem? (i := 26) rfl))) (notFace_of_selects (args := #[]) (mvT hZ (hw _ (List.mem_of_getElem? (i := 28) rfl)))) (mvT hZ (hw _ (List.mem_of_getElem? (i := 28) rfl))) (mvT hZ (hw _ (List.mem_of_getElem? (i := 27) rfl))) (by decide) (backOf (W := 0) (rm_isZombie l Z a0 hw [] b3 (nar .char (co.toUInt32.toUInt16.toUInt32.toInt32)) T6.heap n0 zz6 f6_2) hZ (hw _ (List.mem_of_getElem? (i := 29) rfl)) (hw _ (List.mem_of_getElem? (i := 3) rfl)) (by decide) (by decide)) q11a q11c (g := (mkF m 44 #[.val (.int xa), .val (.long xpid), .second, .val (.long xpar), .second, .val (.long xgrp), .second, .val (.long xstt), .second, .val (.int co), .val (.int (co.toUInt32.toUInt16.toUInt32.toInt32)), .val (.ref b3), .val (.int v32)] [(.ref b3)])) rfl (by rw [hml]; rfl) (Steps.refl _) (argsL := []) (rest := []) (lenOf pd2 rfl) rfl (by show 2 * 0 + _ ≤ _; exact Nat.le_of_eq rfl) (hb hby at_44) (fun _ _ => ⟨rfl, rfl, (by decide : 1 + 0 ≤ _), (by decide : 5 + 0 ≤ _)⟩)
  dsimp only [Pt.U, Pt.locs, Pt.cells, Pt.slots] at X11 l11 y11 z11 st11 hQ11
  subst l11 y11 z11
  obtain ⟨rfl, M11, e11⟩ := hQ11
  have N11 := Fr.app N6 M11
  have pre12 : ∀ t, Steps p.tables e below (T11.setTop (mkF m 47 #[.val (.int xa), .val (.long xpid), .second, .val (.long xpar), .second, .val (.long xgrp), .second, .val (.long xstt), .second, .val (.int co), .val (.int (co.toUInt32.toUInt16.toUInt32.toInt32)), .val (.ref b3), .val (.int v32)] [(.int (F_rm_isZombie (nar .char (co.toUInt32.toUInt16.toUInt32.toInt32))))])) t → Steps p.tables e below (s₁.setTop (entryFrame m #[(.int xa), (.long xpid), (.long xpar), (.long xgrp), (.long xstt)] maxLocals)) t := fun t k => pre10 t (st11.trans k)
  have pre13 : ∀ t, Steps p.tables e below (T11.setTop (mkF m 57 #[.val (.int xa), .val (.long xpid), .second, .val (.long xpar), .second, .val (.long xgrp), .second, .val (.long xstt), .second, .val (.int co), .val (.int (co.toUInt32.toUInt16.toUInt32.toInt32)), .val (.ref b3), .val (.int v32)] [(.int (1 : Int32))])) t → Steps p.tables e below (s₁.setTop (entryFrame m #[(.int xa), (.long xpid), (.long xpar), (.long xgrp), (.long xstt)] maxLocals)) t := by
    intro t k
    refine pre12 t ?_
    refine XS.iload X11.here hx rfl (hb hby at_47) rfl ?_
    show Steps p.tables e below (T11.setTop (mkF m 49 #[.val (.int xa), .val (.long xpid), .second, .val (.long xpar), .second, .val (.long xgrp), .second, .val (.long xstt), .second, .val (.int co), .val (.int (co.toUInt32.toUInt16.toUInt32.toInt32)), .val (.ref b3), .val (.int v32)] [(.int v32), (.int (F_rm_isZombie (nar .char (co.toUInt32.toUInt16.toUInt32.toInt32))))])) _
    refine XS.icmpNo X11.here hx rfl (hb hby at_49) rfl (teq (show (F_rm_isZombie (nar .char (co.toUInt32.toUInt16.toUInt32.toInt32))) = v32 from own_law xa co _ hco hv32)).2 ?_
    show Steps p.tables e below (T11.setTop (mkF m 52 #[.val (.int xa), .val (.long xpid), .second, .val (.long xpar), .second, .val (.long xgrp), .second, .val (.long xstt), .second, .val (.int co), .val (.int (co.toUInt32.toUInt16.toUInt32.toInt32)), .val (.ref b3), .val (.int v32)] [])) _
    refine XS.iconst X11.here hx rfl (hb hby at_52) ?_
    show Steps p.tables e below (T11.setTop (mkF m 53 #[.val (.int xa), .val (.long xpid), .second, .val (.long xpar), .second, .val (.long xgrp), .second, .val (.long xstt), .second, .val (.int co), .val (.int (co.toUInt32.toUInt16.toUInt32.toInt32)), .val (.ref b3), .val (.int v32)] [(.int (1 : Int32))])) _
    refine XS.goto X11.here hx rfl (pc0 := 53) (pc' := 57) rfl (hb hby at_53) (by decide) (by decide) ?_
    show Steps p.tables e below (T11.setTop (mkF m 57 #[.val (.int xa), .val (.long xpid), .second, .val (.long xpar), .second, .val (.long xgrp), .second, .val (.long xstt), .second, .val (.int co), .val (.int (co.toUInt32.toUInt16.toUInt32.toInt32)), .val (.ref b3), .val (.int v32)] [(.int (1 : Int32))])) _
    exact k
  obtain ⟨fs, hr, hrun, hended, hW, hsame⟩ := X11.leave (v := some (.int (1 : Int32))) (fun h => by rw [Bd.returns] at h; cases h)
  refine ⟨_, _, pre13 _ ?_, hrun, hended, _, _, rfl, ?_, ⟨_, rfl⟩, hW, hsame.mono (by decide) (by decide)⟩
  · exact retN X11 hx (t := .boolean) Bd.returns (by simp) (hb hby at_57) hr
  · show Q_rm0 Z xa xpid xpar xgrp xstt h0 n0 _ T11.heap _
    rw [e11]
    exact ⟨rfl, N11⟩
set_option maxRecDepth 65536 in
set_option maxHeartbeats 40000000 in
theorem comes_1 {Post : Tables → Env → Array Value → State → Outcome → State → Prop} (hpost : ∀ tb e args s v u, (limb_1_1.after args s (.returned v) u = true ∧ limb_1_2.after args s (.returned v) u = true ∧ True) → FrameEnd s (.returned v) u (Jvm.fieldLocs frame_1_writes args s ++ Jvm.arrayLocs frame_1_arrays args s ++ Jvm.staticLocs frame_1_statics s) 16 128 → Post tb e args s (.returned v) u) :
    ArmFor flags0 classFile x code maxLocals ret World_1 tables_1 room_1 Calls_1 rest_1 Pre_1 Post := by
  intro l hfl _ _ p e ha hc hk s m args below hf hA hF happ hP
  obtain ⟨hcalls, hrest, hpre⟩ := hP
  obtain ⟨-, -, -, hnamed, -, -, -, hat⟩ := (Spec.applies_iff hf).mp happ
  obtain ⟨hg, hn⟩ := and_e (Cond.before_iff.mp (show (Jvm.Cond.and given_1 narrow_1).before args s = true from hpre))
  obtain ⟨ga1, gb1⟩ := and_e hg
  obtain ⟨ga2, gb2⟩ := and_e gb1
  obtain ⟨ga3, gb3⟩ := and_e gb2
  obtain ⟨ga4, gb4⟩ := and_e gb3
  obtain ⟨ga5, gb5⟩ := and_e gb4
  obtain ⟨w0, w1, w2, w3, w4, rfl⟩ : ∃ w0 w1 w2 w3 w4 : Value, args = #[w0, w1, w2, w3, w4] := by
    have hs : args.size = 5 := by simpa [Cond.value, given_1] using ga1
    obtain ⟨L⟩ := args
    match L, hs with
    | [w0, w1, w2, w3, w4], _ => exact ⟨w0, w1, w2, w3, w4, rfl⟩
  have hw := fun d (hd : d ∈ tables_1) => atoms_spec (ws := Jvm.Cond.code x code maxLocals ret :: tables_1) hat d (List.mem_cons_of_mem _ hd)
  have hfit : Fit s := fun {y c} hc i hi => by
    obtain ⟨ha, rfl⟩ := Array.getElem?_eq_some_iff.mp hc
    have q := List.all_eq_true.mp ((Array.all_eq_true_iff_forall_mem.mp hF) _ (Array.getElem_mem ha)) i (List.mem_range.mpr hi)
    simpa [Array.getElem?_eq_getElem hi] using q
  obtain ⟨i0, ei0⟩ := is_v ga2
  obtain rfl : w0 = (.int i0) := Option.some.inj ei0
  obtain ⟨i1, ei1⟩ := isL_v ga3
  obtain rfl : w1 = (.long i1) := Option.some.inj ei1
  obtain ⟨i2, ei2⟩ := isL_v ga4
  obtain rfl : w2 = (.long i2) := Option.some.inj ei2
  obtain ⟨i3, ei3⟩ := isL_v ga5
  obtain rfl : w3 = (.long i3) := Option.some.inj ei3
  obtain ⟨i4, ei4⟩ := isL_v gb5
  obtain rfl : w4 = (.long i4) := Option.some.inj ei4
  obtain ⟨n, o, h1, h2, h3, _, L, rfl, ⟨rfl, N⟩, hq⟩ := rm0 l s _ hw tables_1 i0 i1 i2 i3 i4 s.heap s.heap.size (Nat.le_refl _)  p e ha hc hk s m _ below hf ((Spec.applies_iff_loose hf).mp happ).1 ⟨rfl, State.Warmed39.refl s, rfl⟩ trivial
  refine ⟨n, _, h1, h2, h3, hpost _ _ _ _ _ _ ⟨Cond.after_iff.mpr rfl, Cond.after_iff.mpr (eq_i res_at (Term.int_eval (1)) rfl), trivial⟩ ⟨hq.1, hq.2.1, (hq.2.2.sift fun y hy => Or.inr (N y hy)).mono (by decide) (by decide)⟩⟩
theorem main_1_1 : Claimed_1_1 := comes_1 fun _ _ _ _ _ _ h hF => ⟨h.1, hF⟩
theorem main_1_2 : Claimed_1_2 := comes_1 fun _ _ _ _ _ _ h hF => ⟨h.2.1, hF⟩
end Jvm.Pilot.@@N@@
namespace Jvm.Pilot.@@N@@
open Jvm Jvm.ClassFile Sem Op Lib Jvm.Free Jvm.Stand Jvm.Pilot.@@N@@.Jvm.D
/-! MADE BY PROGRAM (witnessworld.py) out of the Statement's table words and the real class files: 10 classes; the members and pool entries that the words name. The judged class is class 1, her method 1. -/
namespace start1
open Jvm.ClassFile
def u (s : String) : CpInfo := .utf8 (stringToUtf16 s)
/-- a pool by its gaps: so many unusable entries, then the entry; so many at the end -/
def gap : Nat → List CpInfo → List CpInfo
  | 0, r => r
  | n + 1, r => .unusable :: gap n r
def poolList (es : List (Nat × CpInfo)) (last : Nat) : List CpInfo := es.foldr (fun e r => gap e.1 (e.2 :: r)) (gap last [])
def pool (es : List (Nat × CpInfo)) (last : Nat) : Array CpInfo := ⟨poolList es last⟩
def fileOf (pool : Array CpInfo) (this : Nat) (attrs : Array Attribute := #[]) (ms : Array MethodInfo := #[]) (fl : Nat := 33) (sup : Nat := 0) (ifs : Array Nat := #[]) (fds : Array FieldInfo := #[]) : ClassFile where
  minorVersion := 0
  majorVersion := 65
  constantPool := pool
  accessFlags := fl
  thisClass := this
  superClass := sup
  interfaces := ifs
  fields := fds
  methods := ms
  attributes := attrs
def plain (name : String) (sup : Option ClassId) : Class where
  name := name
  kind := .ordinary
  loader := none
  accessFlags := 33
  super := sup
  interfaces := #[]
  cf := none
  fields := #[]
  methods := #[]
  instanceTypes := #[]
  staticTypes := #[]
  resolved := #[]
  callSites := []
  init := .initialized
  statics := none
  mirror := none

def pool0 : Array CpInfo := pool [(5, u "<init>"), (0, u "()V"), (1, .class_ 10), (1, u "java/lang/Object")] 113

def k0c0 : Code := { maxStack := 0, maxLocals := 1, code := object_method_1_code, exceptionTable := #[], attributes := #[] }
def k0m0 : Method := { name := "<init>", desc := "()V", sig := { parameters := [], returnType := none }, accessFlags := 1, code := some k0c0 }
/-- java/lang/Object -/
def k0 : Class := { plain "java/lang/Object" none with
  accessFlags := 33
  interfaces := #[]
  cf := some (fileOf pool0 8 #[] #[{ accessFlags := 1, nameIndex := 5, descriptorIndex := 6, attributes := #[] }] 33 0 #[] #[])
  fields := #[]
  methods := #[k0m0]
  instanceTypes := #[]
  staticTypes := #[]
  resolved := Array.replicate 124 none
  statics := none }

def pool1 : Array CpInfo := pool [(2, .class_ 4), (1, u "java/lang/Object"), (0, u "<init>"), (0, u "()V"), (0, .integer 65535), (0, .class_ 9), (0, u "com/example/narrow_gate/narrowgate/process/ProcessGroup$Stat"), (0, .methodref 8 11), (0, .nameAndType 5 12), (0, u "(JCJJJ)V"), (0, .methodref 8 14), (0, .nameAndType 15 16), (0, u "isZombie"), (0, u "()Z"), (0, .class_ 18), (0, u "com/example/narrow_gate/narrowgate/process/StatIsZombiePinLaw"), (2, u "law"), (0, u "(IJJJJ)Z")] 7

def k1m0 : Method := { name := "<init>", desc := "()V", sig := { parameters := [], returnType := none }, accessFlags := 1, code := none }
def k1c1 : Code := { maxStack := 11, maxLocals := 13, code := code, exceptionTable := #[], attributes := #[] }
def k1m1 : Method := { name := "law", desc := "(IJJJJ)Z", sig := { parameters := [.int, .long, .long, .long, .long], returnType := some .boolean }, accessFlags := 9, code := some k1c1 }
/-- com/example/narrow_gate/narrowgate/process/StatIsZombiePinLaw -/
def k1 : Class := { plain "com/example/narrow_gate/narrowgate/process/StatIsZombiePinLaw" (some 0) with
  accessFlags := 49
  interfaces := #[]
  cf := some (fileOf pool1 17 #[] #[{ accessFlags := 1, nameIndex := 5, descriptorIndex := 6, attributes := #[] }, { accessFlags := 9, nameIndex := 21, descriptorIndex := 22, attributes := #[] }] 49 2 #[] #[])
  fields := #[]
  methods := #[k1m0, k1m1]
  instanceTypes := #[]
  staticTypes := #[]
  resolved := Array.replicate 30 none
  statics := none }

def pool2 : Array CpInfo := pool [(1, .methodref 2 3), (0, .class_ 4), (0, .nameAndType 5 6), (0, u "java/lang/Object"), (0, u "<init>"), (0, u "()V"), (0, .class_ 8), (0, u "java/lang/Record")] 13

def k2c0 : Code := { maxStack := 1, maxLocals := 1, code := jdk_30_method_1_code, exceptionTable := #[], attributes := #[] }
def k2m0 : Method := { name := "<init>", desc := "()V", sig := { parameters := [], returnType := none }, accessFlags := 4, code := some k2c0 }
/-- java/lang/Record -/
def k2 : Class := { plain "java/lang/Record" (some 0) with
  accessFlags := 1057
  interfaces := #[]
  cf := some (fileOf pool2 7 #[] #[{ accessFlags := 4, nameIndex := 5, descriptorIndex := 6, attributes := #[] }] 1057 2 #[] #[])
  fields := #[]
  methods := #[k2m0]
  instanceTypes := #[]
  staticTypes := #[]
  resolved := Array.replicate 22 none
  statics := none }

def pool3 : Array CpInfo := pool [(1, .methodref 2 3), (0, .class_ 4), (0, .nameAndType 5 6), (0, u "java/lang/Record"), (0, u "<init>"), (0, u "()V"), (0, .fieldref 8 9), (0, .class_ 10), (0, .nameAndType 11 12), (0, u "com/example/narrow_gate/narrowgate/process/ProcessGroup$Stat"), (0, u "pid"), (0, u "J"), (0, .fieldref 8 14), (0, .nameAndType 15 16), (0, u "state"), (0, u "C"), (0, .fieldref 8 18), (0, .nameAndType 19 12), (0, u "parent"), (0, .fieldref 8 21), (0, .nameAndType 22 12), (0, u "group"), (0, .fieldref 8 24), (0, .nameAndType 25 12), (0, u "started"), (12, u "(JCJJJ)V"), (3, u "isZombie"), (0, u "()Z"), (9, .class_ 54), (0, u "com/example/narrow_gate/narrowgate/process/ProcessGroup")] 23

def k3c0 : Code := { maxStack := 3, maxLocals := 10, code := prog_26_method_1_code, exceptionTable := #[], attributes := #[] }
def k3m0 : Method := { name := "<init>", desc := "(JCJJJ)V", sig := { parameters := [.long, .char, .long, .long, .long], returnType := none }, accessFlags := 0, code := some k3c0 }
def k3c1 : Code := { maxStack := 2, maxLocals := 1, code := prog_26_method_2_code, exceptionTable := #[], attributes := #[] }
def k3m1 : Method := { name := "isZombie", desc := "()Z", sig := { parameters := [], returnType := some .boolean }, accessFlags := 0, code := some k3c1 }
/-- com/example/narrow_gate/narrowgate/process/ProcessGroup$Stat -/
def k3 : Class := { plain "com/example/narrow_gate/narrowgate/process/ProcessGroup$Stat" (some 2) with
  accessFlags := 48
  interfaces := #[]
  cf := some (fileOf pool3 8 #[.nestHost 53] #[{ accessFlags := 0, nameIndex := 5, descriptorIndex := 38, attributes := #[] }, { accessFlags := 0, nameIndex := 42, descriptorIndex := 43, attributes := #[] }] 48 2 #[] #[{ accessFlags := 18, nameIndex := 11, descriptorIndex := 12, attributes := #[] }, { accessFlags := 18, nameIndex := 15, descriptorIndex := 16, attributes := #[] }, { accessFlags := 18, nameIndex := 19, descriptorIndex := 12, attributes := #[] }, { accessFlags := 18, nameIndex := 22, descriptorIndex := 12, attributes := #[] }, { accessFlags := 18, nameIndex := 25, descriptorIndex := 12, attributes := #[] }])
  fields := #[{ name := "pid", type := .long, accessFlags := 18, slot := 0, constantValue := 0 }, { name := "state", type := .char, accessFlags := 18, slot := 1, constantValue := 0 }, { name := "parent", type := .long, accessFlags := 18, slot := 2, constantValue := 0 }, { name := "group", type := .long, accessFlags := 18, slot := 3, constantValue := 0 }, { name := "started", type := .long, accessFlags := 18, slot := 4, constantValue := 0 }]
  methods := #[k3m0, k3m1]
  instanceTypes := #[.long, .char, .long, .long, .long]
  staticTypes := #[]
  resolved := Array.replicate 78 none
  statics := none }

def pool4 : Array CpInfo := pool [(1, u "java/lang/Cloneable"), (0, .class_ 1), (0, u "java/lang/Object"), (0, .class_ 3)] 3

/-- java/lang/Cloneable -/
def k4 : Class := { plain "java/lang/Cloneable" (some 0) with
  accessFlags := 1537
  interfaces := #[]
  cf := some (fileOf pool4 2 #[] #[] 1537 4 #[] #[])
  fields := #[]
  methods := #[]
  instanceTypes := #[]
  staticTypes := #[]
  resolved := Array.replicate 8 none
  statics := none }

def pool5 : Array CpInfo := pool [(1, u "java/io/Serializable"), (0, .class_ 1), (0, u "java/lang/Object"), (0, .class_ 3)] 3

/-- java/io/Serializable -/
def k5 : Class := { plain "java/io/Serializable" (some 0) with
  accessFlags := 1537
  interfaces := #[]
  cf := some (fileOf pool5 2 #[] #[] 1537 4 #[] #[])
  fields := #[]
  methods := #[]
  instanceTypes := #[]
  staticTypes := #[]
  resolved := Array.replicate 8 none
  statics := none }

/-- the primitive byte -/
def k6 : Class := { plain "byte" none with kind := .primitive 'B', accessFlags := 0x411 }
/-- [B -/
def k7 : Class := { plain "[B" (some 0) with kind := .array 6 .byte, interfaces := #[4, 5], accessFlags := 1041 }

/-- the primitive int -/
def k8 : Class := { plain "int" none with kind := .primitive 'I', accessFlags := 0x411 }
/-- [I -/
def k9 : Class := { plain "[I" (some 0) with kind := .array 8 .int, interfaces := #[4, 5], accessFlags := 1041 }

def heap : Heap := #[]
def classes : Array Class := #[k0, k1, k2, k3, k4, k5, k6, k7, k8, k9]
def interned : List (Array UInt16 × Addr) := []
def slotsUsed : Nat := 0
def theMethod : MethodId := ⟨1, 1⟩
def args0 : Array Value := #[.int 5, .long 5, .long 5, .long 5, .long 5]
def aboutOver (below : List Frame) : State where
  vm := { classes := classes, interned := interned.toArray }
  heap := heap
  slotsUsed := slotsUsed
  threads := #[{ frames := .invoking theMethod args0 :: below }]
def below0 : List Frame := [.native { method := ⟨0, 0⟩, args := #[] }]
def about1 : State := aboutOver below0
def p0 : Program := .bare "" "" ""
def e0 : Env := launch0.env 0 0 0
theorem w_frames : about1.frames = Frame.invoking theMethod args0 :: below0 := rfl
set_option maxRecDepth 65536 in
theorem w_args : argsFit about1.vm theMethod args0 = true := by decide +kernel
set_option maxRecDepth 65536 in
theorem w_heap : heapFits about1 = true := by decide +kernel
set_option maxRecDepth 65536 in
theorem w_runnable : about1.curStatus? = some .runnable := by decide +kernel
set_option maxRecDepth 65536 in
theorem w_alone : about1.alone = true := by decide +kernel
set_option maxRecDepth 65536 in
theorem w_named : about1.methodNamed? x = some theMethod := by decide +kernel
set_option maxRecDepth 65536 in
theorem w_hears : about1.hears theMethod below0 = true := by decide +kernel
set_option maxRecDepth 65536 in
theorem w_ripe : about1.ripe theMethod args0 below0 = true := by decide +kernel
theorem w_running : about1.status = .running := rfl
set_option maxRecDepth 65536 in
theorem w_room : about1.hasRoom e0.platform room_1 = true :=
  launch0.hasRoom_least _ room_1 (by decide +kernel) (by decide +kernel) (by decide +kernel) (by decide +kernel) (by decide +kernel) (by decide +kernel)
theorem allAtoms_all (ts : List Jvm.Cond) (a : Array Jvm.Value) (st : Jvm.State) : (allAtoms ts).before a st = ts.all (fun c => c.before a st) := by
  induction ts with
  | nil => rfl
  | cons c t ih =>
    show (Jvm.Cond.and c (allAtoms t)).before a st = _
    rw [Jvm.Cond.before_and, ih, List.all_cons]
def words1 : List Jvm.Cond := Jvm.Cond.code x code maxLocals ret :: tables_1
/-- a 'code' word, met by the world's own term for the bytes: nothing is compared byte by byte -/
theorem code_word {y : MethodName} {bytes : ByteArray} {mx : Nat} {rt : Option FieldType} {a : Array Value} {s : State} {m : MethodId} {meth : Method} {c : Code} (h1 : s.methodNamed? y = some m) (h2 : s.vm.method? m = some meth) (h3 : meth.code = some c) (h4 : c.code = bytes)
    (h5 : (c.maxLocals == mx && c.exceptionTable.isEmpty && decide (c.maxStack ≤ mostOperands) && decide (meth.sig.returnType = rt) && !meth.locks && decide (parseMethodDescriptor y.desc = some meth.sig)) = true) : (Jvm.Cond.code y bytes mx rt).before a s = true := by
  simp only [Bool.and_eq_true, beq_iff_eq, Bool.not_eq_true', decide_eq_true_eq] at h5
  obtain ⟨⟨⟨⟨⟨g1, g2⟩, g3⟩, g4⟩, g5⟩, g6⟩ := h5
  simp [Cond.before, Cond.holds, Cond.value, h1, h2, h3, h4, g1, g2, g3, g4, g5, g6]
def isCode : Jvm.Cond → Bool
  | .code _ _ _ _ => true
  | _ => false
theorem all_split {L : List Jvm.Cond} {P : Jvm.Cond → Bool} (h1 : L.all (fun c => isCode c || P c) = true) (h2 : ∀ c ∈ L.filter isCode, P c = true) : L.all P = true := by
  refine List.all_eq_true.mpr fun c hc => ?_
  have h := List.all_eq_true.mp h1 c hc
  rcases Bool.eq_false_or_eq_true (isCode c) with hi | hi
  · exact h2 c (List.mem_filter.mpr ⟨hc, hi⟩)
  · simpa [hi] using h
set_option maxRecDepth 65536 in
theorem w_c0 : (Jvm.Cond.code x code maxLocals ret).before args0 about1 = true := code_word (m := ⟨1, 1⟩) (meth := k1m1) (c := k1c1) (by decide +kernel) rfl rfl rfl (by decide +kernel)
set_option maxRecDepth 65536 in
theorem w_c1 : (Jvm.Cond.code ({ cls := "com/example/narrow_gate/narrowgate/process/ProcessGroup$Stat", name := "<init>", desc := "(JCJJJ)V" } : Jvm.MethodName) prog_26_method_1_code (10 : Nat) (Option.none : Option Jvm.ClassFile.FieldType)).before args0 about1 = true := code_word (m := ⟨3, 0⟩) (meth := k3m0) (c := k3c0) (by decide +kernel) rfl rfl rfl (by decide +kernel)
set_option maxRecDepth 65536 in
theorem w_c2 : (Jvm.Cond.code ({ cls := "java/lang/Record", name := "<init>", desc := "()V" } : Jvm.MethodName) jdk_30_method_1_code (1 : Nat) (Option.none : Option Jvm.ClassFile.FieldType)).before args0 about1 = true := code_word (m := ⟨2, 0⟩) (meth := k2m0) (c := k2c0) (by decide +kernel) rfl rfl rfl (by decide +kernel)
set_option maxRecDepth 65536 in
theorem w_c3 : (Jvm.Cond.code ({ cls := "java/lang/Object", name := "<init>", desc := "()V" } : Jvm.MethodName) object_method_1_code (1 : Nat) (Option.none : Option Jvm.ClassFile.FieldType)).before args0 about1 = true := code_word (m := ⟨0, 0⟩) (meth := k0m0) (c := k0c0) (by decide +kernel) rfl rfl rfl (by decide +kernel)
set_option maxRecDepth 65536 in
theorem w_c4 : (Jvm.Cond.code ({ cls := "com/example/narrow_gate/narrowgate/process/ProcessGroup$Stat", name := "isZombie", desc := "()Z" } : Jvm.MethodName) prog_26_method_2_code (1 : Nat) (Option.some Jvm.ClassFile.FieldType.boolean)).before args0 about1 = true := code_word (m := ⟨3, 1⟩) (meth := k3m1) (c := k3c1) (by decide +kernel) rfl rfl rfl (by decide +kernel)
def codes1 : List Jvm.Cond := [Jvm.Cond.code x code maxLocals ret, Jvm.Cond.code ({ cls := "com/example/narrow_gate/narrowgate/process/ProcessGroup$Stat", name := "<init>", desc := "(JCJJJ)V" } : Jvm.MethodName) prog_26_method_1_code (10 : Nat) (Option.none : Option Jvm.ClassFile.FieldType), Jvm.Cond.code ({ cls := "java/lang/Record", name := "<init>", desc := "()V" } : Jvm.MethodName) jdk_30_method_1_code (1 : Nat) (Option.none : Option Jvm.ClassFile.FieldType), Jvm.Cond.code ({ cls := "java/lang/Object", name := "<init>", desc := "()V" } : Jvm.MethodName) object_method_1_code (1 : Nat) (Option.none : Option Jvm.ClassFile.FieldType), Jvm.Cond.code ({ cls := "com/example/narrow_gate/narrowgate/process/ProcessGroup$Stat", name := "isZombie", desc := "()Z" } : Jvm.MethodName) prog_26_method_2_code (1 : Nat) (Option.some Jvm.ClassFile.FieldType.boolean)]
set_option maxRecDepth 65536 in
theorem codes_eq : words1.filter isCode = codes1 := rfl
theorem w_codes : ∀ c ∈ words1.filter isCode, c.before args0 about1 = true := by
  rw [codes_eq]
  intro c hc
  simp only [codes1, List.mem_cons, List.not_mem_nil, or_false] at hc
  rcases hc with rfl | rfl | rfl | rfl | rfl
  · exact w_c0
  · exact w_c1
  · exact w_c2
  · exact w_c3
  · exact w_c4
set_option maxRecDepth 65536 in
theorem w_t1 : (words1.take 24).all (fun c => isCode c || c.before args0 about1) = true := by decide +kernel
set_option maxRecDepth 65536 in
theorem w_t2 : (words1.drop 24).all (fun c => isCode c || c.before args0 about1) = true := by decide +kernel
theorem w_tables : (allAtoms (Jvm.Cond.code x code maxLocals ret :: tables_1)).before args0 about1 = true := by
  rw [allAtoms_all]
  show words1.all (fun c => c.before args0 about1) = true
  refine all_split ?_ w_codes
  rw [← List.take_append_drop 24 words1, List.all_append, w_t1, w_t2]
  rfl
set_option maxRecDepth 65536 in
theorem w_case : (Jvm.Cond.and given_1 narrow_1).before args0 about1 = true := by decide +kernel
theorem w_applies : (headSpec (Jvm.Cond.code x code maxLocals ret :: tables_1) room_1).applies x e0.platform about1 = true :=
  (Spec.applies_iff w_frames).mpr ⟨w_running, w_runnable, w_alone, w_named, w_hears, w_ripe, w_room, w_tables⟩
theorem atStart : AtStart classFile x code maxLocals ret World_1 tables_1 room_1 Calls_1 rest_1 Pre_1 launch0 p0 e0 about1 theMethod args0 below0 :=
  ⟨lists_1, trivial, launch0.admits_env _ _ _, launch0.least_env, fairChoices_fair.cas, fairChoices_fair.clock, w_frames, w_args, w_heap, w_applies, trivial, trivial, w_case⟩
end start1
theorem witness_1 : WitnessClaimed_1 := ⟨start1.p0, start1.e0, start1.about1, start1.theMethod, start1.args0, start1.below0, start1.atStart⟩
end Jvm.Pilot.@@N@@
