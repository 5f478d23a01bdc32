import JvmDerived
import JvmDerived.Pilot.@@N@@Statement
import JvmDerived.Pilot.@@N@@Code
set_option linter.unusedVariables false
set_option linter.unusedSimpArgs false
namespace Jvm.RoadKit
open Sem ClassFile Op Lib Jvm.Stand Jvm.Free Jvm.LawKit
section New
variable {p : Program} {l : Launch} {e : Env} {R : Room} {s : State} {m : MethodId} {args : Array Value} {below : List Frame} {meth : Method} {c : Code} {T : State} {locs : List Loc} {cells slots : Nat}
theorem retI (X : Stand p l e R s m args below meth c T locs cells slots) (hx : p.tables.exec = Jvm.exec) {pc : Nat} {Ls : Array Slot} {z : Int32} {rest : List Value} (hret : meth.sig.returnType = some .int) (hd : decode c.code pc = .ok (.ireturn, 1)) {fs : List Frame}
    (hl : ∀ (f : JFrame) (acts : List Action), f.method = m → f.locked = none → f.entered = [] → (doReturn e (T.setTop f) acts (some (.int z))).1 = T.setFrames fs) : Steps p.tables e below (T.setTop (mkF m pc Ls (.int z :: rest))) (T.setFrames fs) := by
  have hm' : T.vm.method? m = some meth := X.method'
  have hn : narrow .int (.int z) = .int z := rfl
  show Steps p.tables e below (T.setTop { method := m, pc := pc, locals := Ls, stack := _ :: rest, locked := none }) _
  jvm_step X.here [X.here.top, hx, hd, hm', hret, hn]
  first | (intro acts; rw [hl _ acts rfl rfl rfl]) | rw [hl _ _ rfl rfl rfl]
  exact Steps.refl _
end New
end Jvm.RoadKit
namespace Jvm.Pilot.@@N@@
open Jvm Jvm.ClassFile Sem Op Lib Jvm.Free Jvm.Stand Jvm.LawKit Jvm.RoadKit Bundle Jvm.Pilot.@@N@@.Jvm.D
theorem own_keep_ext {h h' : Heap} (K : Keep h h' []) : Ext h h' := ⟨K.1, fun a c q => K.2.1 a c q nin0⟩
theorem own_sta_keep {Z : State} {h h' : Heap} {C n d K : String} {a : Addr} {v : Value} (F : Sta Z h C n d v) (Kp : Keep h h' [a]) (E : Exa Z h a K) : Sta Z h' C n d v := by
  obtain ⟨cf, i, k, f, st, cell, h1, h2, h3, h4, h5, h6, h7⟩ := F
  obtain ⟨cell', k', g1, -, -, g4, -⟩ := E
  have ne : st ≠ a := by
    intro q
    subst q
    rw [h5] at g1
    cases g1
    rw [h6] at g4
    cases g4
  exact ⟨cf, i, k, f, st, cell, h1, h2, h3, h4, Kp.2.1 st cell h5 (ninS ne nin0), h6, h7⟩
theorem own_fldint {args : Array Value} {s : State} {t : Term} {C n d : String} {k : Int32} {x : Addr} (h : (Cond.eq (Term.field t C n d) (Term.int k)).value args s none s [] = some true) (ht : t.eval args s none [] s = some (.ref x)) : s.fieldOf? x C n d = some (.int k) := by
  obtain ⟨a, b, ea, eb, K1, K2⟩ := cmp_v (Or.inl h)
  have eb' : b = .int k := (Option.some.inj (eb.symm.trans (Term.int_eval k)))
  subst eb'
  obtain ⟨z, rfl⟩ := K2
  have := gotT (Cond.eq_ints ea (Term.int_eval k)) h
  subst this
  rw [← fld_at ht]
  exact ea
theorem d2_0 : decode jdk_30_method_1_code 0 = .ok (.aload_n 0, 1) := by decide +kernel
theorem d2_1 : decode jdk_30_method_1_code 1 = .ok (.invokespecial 1, 3) := by decide +kernel
theorem d2_4 : decode jdk_30_method_1_code 4 = .ok (.return_, 1) := by decide +kernel
theorem pn0 : plainName "java/lang/Record" = true := by first | (simp [plainName, overriddenIn]; done) | decide +kernel
theorem ef_rm_rec (m : MethodId) (ra : Addr) : entryFrame m #[(.ref ra)] 1 = mkF m 0 #[.val (.ref ra)] [] := by first | (simp [entryFrame, mkF, argsToLocals, Value.category]; done) | rfl
def Q_rm_rec (Z : State) (ra : Addr) (h0 : Heap) (n0 : Nat) (v : Option Value) (h : Heap) (L : List Loc) : Prop := v = none ∧ Fr n0 L ∧ h = h0
set_option maxRecDepth 65536 in
set_option maxHeartbeats 40000000 in
theorem rm_rec (l : Launch) (Z : State) (a0 : Array Value) (hw : ∀ d ∈ tables_1, d.before a0 Z = true) (ws : List Jvm.Cond) (ra : Addr) (h0 : Heap) (n0 : Nat) (Z0 : n0 ≤ h0.size) :
    MetFree l (⟨"java/lang/Record", "<init>", "()V"⟩ : MethodName) (head1 (Jvm.Cond.code (⟨"java/lang/Record", "<init>", "()V"⟩ : MethodName) jdk_30_method_1_code 1 none :: ws) ({ frames := 1, cells := 0, slots := 0, locals := 12 } : Room)) (fun a U => a = #[(.ref ra)] ∧ Z.Warmed39 U.vm ∧ U.heap = h0) (fun _ _ _ _ _ => True) (fun _ U o U' => ∃ v L, o = .returned v ∧ Q_rm_rec Z ra h0 n0 v U'.heap L ∧ FrameEnd U o U' L ({ frames := 1, cells := 0, slots := 0, locals := 12 } : Room).cells ({ frames := 1, cells := 0, slots := 0, locals := 12 } : Room).slots) := by
  refine MetFree.of_bodySF (plainFor_of_name pn0) hisR ?_
  intro p e s m args below meth c s₁ Bd hml0 hP hK
  obtain ⟨rfl, hZ, hh⟩ := hP
  have hx := Bd.exec
  have hby := Bd.bytes
  have hml : c.maxLocals = 1 := hml0
  have hown : s.vm.findClass "java/lang/Record" = some m.cls := findClass_of_methodNamed Bd.named
  have hnm := (name_of_methodNamed Bd.named Bd.method).1
  have X0 : Stand p l e ({ frames := 1, cells := 0, slots := 0, locals := 12 } : Room) s m #[(.ref ra)] below meth c s₁ [] 0 0 := Stand.of_body Bd
  have e0 : s₁.heap = h0 := by rw [← hh, Bd.state]; rfl
  have N0 := Fr.nil n0
  have pre0 : ∀ t, Steps p.tables e below (s₁.setTop (mkF m 0 #[.val (.ref ra)] [])) t → Steps p.tables e below (s₁.setTop (entryFrame m #[(.ref ra)] 1)) t := fun t k => castTop (ef_rm_rec m ra) k
  have pre1 : ∀ t, Steps p.tables e below (s₁.setTop (mkF m 1 #[.val (.ref ra)] [(.ref ra)])) t → Steps p.tables e below (s₁.setTop (entryFrame m #[(.ref ra)] 1)) t := by
    intro t k
    refine pre0 t ?_
    refine XS.aloadN X0.here hx rfl (hb hby d2_0) rfl rfl ?_
    show Steps p.tables e below (s₁.setTop (mkF m 1 #[.val (.ref ra)] [(.ref ra)])) _
    exact k
  obtain ⟨T2, X2, e2, st2⟩ := initO X0 hx hZ hown (hw _ (List.mem_of_getElem? (i := 14) rfl)) (hw _ (List.mem_of_getElem? (i := 15) rfl)) (hw _ (List.mem_of_getElem? (i := 16) rfl)) e0 (g := (mkF m 1 #[.val (.ref ra)] [(.ref ra)])) rfl (by rw [hml]; rfl) rfl (hb hby d2_1) (by decide) (W := 0) (by show 2 * 0 + _ ≤ _; exact Nat.le_of_eq rfl) (by decide)
  have pre3 : ∀ t, Steps p.tables e below (T2.setTop (mkF m 4 #[.val (.ref ra)] [])) t → Steps p.tables e below (s₁.setTop (entryFrame m #[(.ref ra)] 1)) t := fun t k => pre1 t (st2 t k)
  obtain ⟨fs, hr, hrun, hended, hW, hsame⟩ := X2.leave (v := none) (fun _ => rfl)
  refine ⟨_, _, pre3 _ ?_, hrun, hended, _, _, rfl, ?_, ⟨_, rfl⟩, hW, hsame.mono (by decide) (by decide)⟩
  · exact X2.returnOut hx Bd.returns (hb hby d2_4) hr
  · show Q_rm_rec Z ra h0 n0 _ T2.heap _
    rw [e2]
    exact ⟨rfl, N0, rfl⟩
theorem d4_0 : decode prog_9_method_2_code 0 = .ok (.iload_n 1, 1) := by decide +kernel
theorem d4_1 : decode prog_9_method_2_code 1 = .ok (.aload_n 0, 1) := by decide +kernel
theorem d4_2 : decode prog_9_method_2_code 2 = .ok (.getfield 37, 3) := by decide +kernel
theorem d4_5 : decode prog_9_method_2_code 5 = .ok (.if_icmp .lt 11, 3) := by decide +kernel
theorem d4_8 : decode prog_9_method_2_code 8 = .ok (.iload_n 1, 1) := by decide +kernel
theorem d4_9 : decode prog_9_method_2_code 9 = .ok (.aload_n 0, 1) := by decide +kernel
theorem d4_10 : decode prog_9_method_2_code 10 = .ok (.getfield 40, 3) := by decide +kernel
theorem d4_13 : decode prog_9_method_2_code 13 = .ok (.if_icmp .le 29, 3) := by decide +kernel
theorem d4_42 : decode prog_9_method_2_code 42 = .ok (.iload_n 1, 1) := by decide +kernel
theorem d4_43 : decode prog_9_method_2_code 43 = .ok (.ireturn, 1) := by decide +kernel
theorem pn1 : plainName "com/example/narrow_gate/narrowgate/algorithm/Setting" = true := by first | (simp [plainName, overriddenIn]; done) | decide +kernel
theorem ef_rm_checked (m : MethodId) (ra : Addr) (xi : Int32) : entryFrame m #[(.ref ra), (.int xi)] 2 = mkF m 0 #[.val (.ref ra), .val (.int xi)] [] := by first | (simp [entryFrame, mkF, argsToLocals, Value.category]; done) | rfl
def Q_rm_checked (Z : State) (ra : Addr) (xi : Int32) (xl : Int32) (xm : Int32) (h0 : Heap) (n0 : Nat) (v : Option Value) (h : Heap) (L : List Loc) : Prop := v = some (.int xi) ∧ Fr n0 L ∧ h = h0
set_option maxRecDepth 65536 in
set_option maxHeartbeats 40000000 in
theorem rm_checked (l : Launch) (Z : State) (a0 : Array Value) (hw : ∀ d ∈ tables_1, d.before a0 Z = true) (ws : List Jvm.Cond) (ra : Addr) (xi : Int32) (xl : Int32) (xm : Int32) (h0 : Heap) (n0 : Nat) (Z0 : n0 ≤ h0.size) (F1 : Fld Z h0 ra "com/example/narrow_gate/narrowgate/algorithm/Setting" "least" "I" (.int xl)) (F2 : Fld Z h0 ra "com/example/narrow_gate/narrowgate/algorithm/Setting" "most" "I" (.int xm)) (hq0 : ¬ (xi < xl)) (hq1 : ¬ (xm < xi)) :
    MetFree l (⟨"com/example/narrow_gate/narrowgate/algorithm/Setting", "checked", "(I)I"⟩ : MethodName) (head1 (Jvm.Cond.code (⟨"com/example/narrow_gate/narrowgate/algorithm/Setting", "checked", "(I)I"⟩ : MethodName) prog_9_method_2_code 2 (some .int) :: ws) ({ frames := 0, cells := 0, slots := 0, locals := 0 } : Room)) (fun a U => a = #[(.ref ra), (.int xi)] ∧ Z.Warmed39 U.vm ∧ U.heap = h0) (fun _ _ _ _ _ => True) (fun _ U o U' => ∃ v L, o = .returned v ∧ Q_rm_checked Z ra xi xl xm h0 n0 v U'.heap L ∧ FrameEnd U o U' L ({ frames := 0, cells := 0, slots := 0, locals := 0 } : Room).cells ({ frames := 0, cells := 0, slots := 0, locals := 0 } : Room).slots) := by
  refine MetFree.of_bodySF (plainFor_of_name pn1) hisR ?_
  intro p e s m args below meth c s₁ Bd hml0 hP hK
  obtain ⟨rfl, hZ, hh⟩ := hP
  have hx := Bd.exec
  have hby := Bd.bytes
  have hml : c.maxLocals = 2 := hml0
  have hown : s.vm.findClass "com/example/narrow_gate/narrowgate/algorithm/Setting" = some m.cls := findClass_of_methodNamed Bd.named
  have hnm := (name_of_methodNamed Bd.named Bd.method).1
  have X0 : Stand p l e ({ frames := 0, cells := 0, slots := 0, locals := 0 } : Room) s m #[(.ref ra), (.int xi)] below meth c s₁ [] 0 0 := Stand.of_body Bd
  have e0 : s₁.heap = h0 := by rw [← hh, Bd.state]; rfl
  have N0 := Fr.nil n0
  have pre0 : ∀ t, Steps p.tables e below (s₁.setTop (mkF m 0 #[.val (.ref ra), .val (.int xi)] [])) t → Steps p.tables e below (s₁.setTop (entryFrame m #[(.ref ra), (.int xi)] 2)) t := fun t k => castTop (ef_rm_checked m ra xi) k
  have pre1 : ∀ t, Steps p.tables e below (s₁.setTop (mkF m 2 #[.val (.ref ra), .val (.int xi)] [(.ref ra), (.int xi)])) t → Steps p.tables e below (s₁.setTop (entryFrame m #[(.ref ra), (.int xi)] 2)) t := by
    intro t k
    refine pre0 t ?_
    refine XS.iloadN X0.here hx rfl (hb hby d4_0) rfl ?_
    show Steps p.tables e below (s₁.setTop (mkF m 1 #[.val (.ref ra), .val (.int xi)] [(.int xi)])) _
    refine XS.aloadN X0.here hx rfl (hb hby d4_1) rfl rfl ?_
    show Steps p.tables e below (s₁.setTop (mkF m 2 #[.val (.ref ra), .val (.int xi)] [(.ref ra), (.int xi)])) _
    exact k
  obtain ⟨T2, X2, e2, st2⟩ := getF X0 hx hZ hown (host := "") (Or.inl (hw _ (List.mem_of_getElem? (i := 25) rfl))) Via.refl e0 F1 (g := (mkF m 2 #[.val (.ref ra), .val (.int xi)] [(.ref ra), (.int xi)])) rfl rfl (hb hby d4_2)
  have pre3 : ∀ t, Steps p.tables e below (T2.setTop (mkF m 5 #[.val (.ref ra), .val (.int xi)] [(.int xl), (.int xi)])) t → Steps p.tables e below (s₁.setTop (entryFrame m #[(.ref ra), (.int xi)] 2)) t := fun t k => pre1 t (st2 t k)
  have pre4 : ∀ t, Steps p.tables e below (T2.setTop (mkF m 10 #[.val (.ref ra), .val (.int xi)] [(.ref ra), (.int xi)])) t → Steps p.tables e below (s₁.setTop (entryFrame m #[(.ref ra), (.int xi)] 2)) t := by
    intro t k
    refine pre3 t ?_
    refine XS.icmpNo X2.here hx rfl (hb hby d4_5) rfl (flt (show ¬ (xi < xl) from hq0)).1 ?_
    show Steps p.tables e below (T2.setTop (mkF m 8 #[.val (.ref ra), .val (.int xi)] [])) _
    refine XS.iloadN X2.here hx rfl (hb hby d4_8) rfl ?_
    show Steps p.tables e below (T2.setTop (mkF m 9 #[.val (.ref ra), .val (.int xi)] [(.int xi)])) _
    refine XS.aloadN X2.here hx rfl (hb hby d4_9) rfl rfl ?_
    show Steps p.tables e below (T2.setTop (mkF m 10 #[.val (.ref ra), .val (.int xi)] [(.ref ra), (.int xi)])) _
    exact k
  obtain ⟨T5, X5, e5, st5⟩ := getF X2 hx hZ hown (host := "") (Or.inl (hw _ (List.mem_of_getElem? (i := 27) rfl))) Via.refl e2 F2 (g := (mkF m 10 #[.val (.ref ra), .val (.int xi)] [(.ref ra), (.int xi)])) rfl rfl (hb hby d4_10)
  have pre6 : ∀ t, Steps p.tables e below (T5.setTop (mkF m 13 #[.val (.ref ra), .val (.int xi)] [(.int xm), (.int xi)])) t → Steps p.tables e below (s₁.setTop (entryFrame m #[(.ref ra), (.int xi)] 2)) t := fun t k => pre4 t (st5 t k)
  have pre7 : ∀ t, Steps p.tables e below (T5.setTop (mkF m 43 #[.val (.ref ra), .val (.int xi)] [(.int xi)])) t → Steps p.tables e below (s₁.setTop (entryFrame m #[(.ref ra), (.int xi)] 2)) t := by
    intro t k
    refine pre6 t ?_
    refine XS.icmpYes X5.here hx rfl (pc0 := 13) (pc' := 42) rfl (hb hby d4_13) rfl (flt (show ¬ (xm < xi) from hq1)).2.2.2 (by decide) (by decide) ?_
    show Steps p.tables e below (T5.setTop (mkF m 42 #[.val (.ref ra), .val (.int xi)] [])) _
    refine XS.iloadN X5.here hx rfl (hb hby d4_42) rfl ?_
    show Steps p.tables e below (T5.setTop (mkF m 43 #[.val (.ref ra), .val (.int xi)] [(.int xi)])) _
    exact k
  obtain ⟨fs, hr, hrun, hended, hW, hsame⟩ := X5.leave (v := some (.int xi)) (fun h => by rw [Bd.returns] at h; cases h)
  refine ⟨_, _, pre7 _ ?_, hrun, hended, _, _, rfl, ?_, ⟨_, rfl⟩, hW, hsame.mono (by decide) (by decide)⟩
  · exact retI X5 hx Bd.returns (hb hby d4_43) hr
  · show Q_rm_checked Z ra xi xl xm h0 n0 _ T5.heap _
    rw [e5]
    exact ⟨rfl, N0, rfl⟩
theorem d1_0 : decode prog_22_method_1_code 0 = .ok (.aload_n 0, 1) := by decide +kernel
theorem d1_1 : decode prog_22_method_1_code 1 = .ok (.invokespecial 1, 3) := by decide +kernel
theorem pd0 : parseMethodDescriptor "()V" = some ⟨[], none⟩ := by decide +kernel
theorem d1_4 : decode prog_22_method_1_code 4 = .ok (.getstatic 7, 3) := by decide +kernel
theorem d1_7 : decode prog_22_method_1_code 7 = .ok (.iload_n 1, 1) := by decide +kernel
theorem d1_8 : decode prog_22_method_1_code 8 = .ok (.invokevirtual 13, 3) := by decide +kernel
theorem pd1 : parseMethodDescriptor "(I)I" = some ⟨[.int], some .int⟩ := by decide +kernel
theorem d1_11 : decode prog_22_method_1_code 11 = .ok (.pop, 1) := by decide +kernel
theorem d1_12 : decode prog_22_method_1_code 12 = .ok (.getstatic 19, 3) := by decide +kernel
theorem d1_15 : decode prog_22_method_1_code 15 = .ok (.iload_n 2, 1) := by decide +kernel
theorem d1_16 : decode prog_22_method_1_code 16 = .ok (.invokevirtual 13, 3) := by decide +kernel
theorem d1_19 : decode prog_22_method_1_code 19 = .ok (.pop, 1) := by decide +kernel
theorem d1_20 : decode prog_22_method_1_code 20 = .ok (.iload_n 2, 1) := by decide +kernel
theorem d1_21 : decode prog_22_method_1_code 21 = .ok (.iconst 4, 1) := by decide +kernel
theorem d1_22 : decode prog_22_method_1_code 22 = .ok (.iload_n 1, 1) := by decide +kernel
theorem d1_23 : decode prog_22_method_1_code 23 = .ok (.imul, 1) := by decide +kernel
theorem d1_24 : decode prog_22_method_1_code 24 = .ok (.if_icmp .ge 30, 3) := by decide +kernel
theorem d1_54 : decode prog_22_method_1_code 54 = .ok (.aload_n 0, 1) := by decide +kernel
theorem d1_55 : decode prog_22_method_1_code 55 = .ok (.iload_n 1, 1) := by decide +kernel
theorem d1_56 : decode prog_22_method_1_code 56 = .ok (.putfield 35, 3) := by decide +kernel
theorem d1_59 : decode prog_22_method_1_code 59 = .ok (.aload_n 0, 1) := by decide +kernel
theorem d1_60 : decode prog_22_method_1_code 60 = .ok (.iload_n 2, 1) := by decide +kernel
theorem d1_61 : decode prog_22_method_1_code 61 = .ok (.putfield 39, 3) := by decide +kernel
theorem d1_64 : decode prog_22_method_1_code 64 = .ok (.return_, 1) := by decide +kernel
theorem pn2 : plainName "com/example/narrow_gate/narrowgate/node/FailureDetection" = true := by first | (simp [plainName, overriddenIn]; done) | decide +kernel
theorem ef_rm_init (m : MethodId) (ra : Addr) (xh : Int32) (xf : Int32) : entryFrame m #[(.ref ra), (.int xh), (.int xf)] 3 = mkF m 0 #[.val (.ref ra), .val (.int xh), .val (.int xf)] [] := by first | (simp [entryFrame, mkF, argsToLocals, Value.category]; done) | rfl
def Q_rm_init (Z : State) (ra : Addr) (xh : Int32) (xf : Int32) (wh : Addr) (wf : Addr) (h0 : Heap) (n0 : Nat) (v : Option Value) (h : Heap) (L : List Loc) : Prop := v = none ∧ Fr n0 L ∧ Keep h0 h [ra] ∧ Exa Z h ra "com/example/narrow_gate/narrowgate/node/FailureDetection" ∧ Fld Z h ra "com/example/narrow_gate/narrowgate/node/FailureDetection" "heartbeatMillis" "I" (.int xh) ∧ Fld Z h ra "com/example/narrow_gate/narrowgate/node/FailureDetection" "failureMillis" "I" (.int xf)
set_option maxRecDepth 65536 in
set_option maxHeartbeats 40000000 in
theorem rm_init (l : Launch) (Z : State) (a0 : Array Value) (hw : ∀ d ∈ tables_1, d.before a0 Z = true) (ws : List Jvm.Cond) (ra : Addr) (xh : Int32) (xf : Int32) (wh : Addr) (wf : Addr) (h0 : Heap) (n0 : Nat) (Z0 : n0 ≤ h0.size) (E_ra : Exa Z h0 ra "com/example/narrow_gate/narrowgate/node/FailureDetection") (g_ra : n0 ≤ ra) (F_heartbeatMillis_ra : Fld Z h0 ra "com/example/narrow_gate/narrowgate/node/FailureDetection" "heartbeatMillis" "I" (.int (0 : Int32))) (F_failureMillis_ra : Fld Z h0 ra "com/example/narrow_gate/narrowgate/node/FailureDetection" "failureMillis" "I" (.int (0 : Int32))) (SH : Sta Z h0 "com/example/narrow_gate/narrowgate/node/FailureDetection" "HEARTBEAT" "Lcom/example/narrow_gate/narrowgate/algorithm/Setting;" (.ref wh)) (SF : Sta Z h0 "com/example/narrow_gate/narrowgate/node/FailureDetection" "FAILURE" "Lcom/example/narrow_gate/narrowgate/algorithm/Setting;" (.ref wf)) (EH : Exa Z h0 wh "com/example/narrow_gate/narrowgate/algorithm/Setting") (EF : Exa Z h0 wf "com/example/narrow_gate/narrowgate/algorithm/Setting") (FH0 : Fld Z h0 wh "com/example/narrow_gate/narrowgate/algorithm/Setting" "least" "I" (.int (10 : Int32))) (FH1 : Fld Z h0 wh "com/example/narrow_gate/narrowgate/algorithm/Setting" "most" "I" (.int (60000 : Int32))) (FF0 : Fld Z h0 wf "com/example/narrow_gate/narrowgate/algorithm/Setting" "least" "I" (.int (40 : Int32))) (FF1 : Fld Z h0 wf "com/example/narrow_gate/narrowgate/algorithm/Setting" "most" "I" (.int (600000 : Int32))) (hq0 : ¬ (xh < (10 : Int32))) (hq1 : ¬ ((60000 : Int32) < xh)) (hq2 : ¬ (xf < (40 : Int32))) (hq3 : ¬ ((600000 : Int32) < xf)) (hq4 : ¬ (xf < ((4 : Int32) * xh))) :
    MetFree l (⟨"com/example/narrow_gate/narrowgate/node/FailureDetection", "<init>", "(II)V"⟩ : MethodName) (head1 (Jvm.Cond.code (⟨"com/example/narrow_gate/narrowgate/node/FailureDetection", "<init>", "(II)V"⟩ : MethodName) prog_22_method_1_code 3 none :: ws) ({ frames := 2, cells := 0, slots := 0, locals := 24 } : Room)) (fun a U => a = #[(.ref ra), (.int xh), (.int xf)] ∧ Z.Warmed39 U.vm ∧ U.heap = h0) (fun _ _ _ _ _ => True) (fun _ U o U' => ∃ v L, o = .returned v ∧ Q_rm_init Z ra xh xf wh wf h0 n0 v U'.heap L ∧ FrameEnd U o U' L ({ frames := 2, cells := 0, slots := 0, locals := 24 } : Room).cells ({ frames := 2, cells := 0, slots := 0, locals := 24 } : Room).slots) := by
  refine MetFree.of_bodySF (plainFor_of_name pn2) hisR ?_
  intro p e s m args below meth c s₁ Bd hml0 hP hK
  obtain ⟨rfl, hZ, hh⟩ := hP
  have hx := Bd.exec
  have hby := Bd.bytes
  have hml : c.maxLocals = 3 := hml0
  have hown : s.vm.findClass "com/example/narrow_gate/narrowgate/node/FailureDetection" = some m.cls := findClass_of_methodNamed Bd.named
  have hnm := (name_of_methodNamed Bd.named Bd.method).1
  have X0 : Stand p l e ({ frames := 2, cells := 0, slots := 0, locals := 24 } : Room) s m #[(.ref ra), (.int xh), (.int xf)] below meth c s₁ [] 0 0 := Stand.of_body Bd
  have e0 : s₁.heap = h0 := by rw [← hh, Bd.state]; rfl
  have N0 := Fr.nil n0
  have pre0 : ∀ t, Steps p.tables e below (s₁.setTop (mkF m 0 #[.val (.ref ra), .val (.int xh), .val (.int xf)] [])) t → Steps p.tables e below (s₁.setTop (entryFrame m #[(.ref ra), (.int xh), (.int xf)] 3)) t := fun t k => castTop (ef_rm_init m ra xh xf) k
  have pre1 : ∀ t, Steps p.tables e below (s₁.setTop (mkF m 1 #[.val (.ref ra), .val (.int xh), .val (.int xf)] [(.ref ra)])) t → Steps p.tables e below (s₁.setTop (entryFrame m #[(.ref ra), (.int xh), (.int xf)] 3)) t := by
    intro t k
    refine pre0 t ?_
    refine XS.aloadN X0.here hx rfl (hb hby d1_0) rfl rfl ?_
    show Steps p.tables e below (s₁.setTop (mkF m 1 #[.val (.ref ra), .val (.int xh), .val (.int xf)] [(.ref ra)])) _
    exact k
  obtain ⟨_, _, ⟨T2, L2, k2, n2⟩, -, X2, ⟨Lc2, hQ2, l2, y2, z2⟩, st2⟩ := X0.specialBack hx (y := (⟨"java/lang/Record", "<init>", "()V"⟩ : MethodName)) rfl hown (mvT hZ (hw _ (List.mem_of_getElem? (i := 9) rfl))) (mvT hZ (hw _ (List.mem_of_getElem? (i := 10) rfl))) (mvT hZ (hw _ (List.mem_of_getElem? (i := 13) rfl))) (by decide) (backOf (W := 0) (rm_rec l Z a0 hw [] ra h0 n0 Z0 ) hZ (hw _ (List.mem_of_getElem? (i := 13) rfl)) (hw _ (List.mem_of_getElem? (i := 12) rfl)) (by decide) (by decide)) (g := (mkF m 1 #[.val (.ref ra), .val (.int xh), .val (.int xf)] [(.ref ra)])) rfl (by rw [hml]; rfl) (Steps.refl _) (a := ra) (argsL := []) (rest := []) (lenOf pd0 rfl) rfl (by show 2 * 0 + _ ≤ _; exact Nat.le_of_eq rfl) (hb hby d1_1) (fun _ _ => ⟨rfl, e0, (by decide : 0 + 0 ≤ _), (by decide : 0 + 0 ≤ _)⟩)
  dsimp only [Pt.U, Pt.locs, Pt.cells, Pt.slots] at X2 l2 y2 z2 st2 hQ2
  subst l2 y2 z2
  obtain ⟨rfl, M2, e2⟩ := hQ2
  have N2 := Fr.app N0 M2
  have pre3 : ∀ t, Steps p.tables e below (T2.setTop (mkF m 4 #[.val (.ref ra), .val (.int xh), .val (.int xf)] [])) t → Steps p.tables e below (s₁.setTop (entryFrame m #[(.ref ra), (.int xh), (.int xf)] 3)) t := fun t k => pre1 t (st2.trans k)
  obtain ⟨T4, X4, e4, st4⟩ := getS2 X2 hx hZ hown (host := "") (Or.inl (hw _ (List.mem_of_getElem? (i := 17) rfl))) Via.refl e2 SH (g := (mkF m 4 #[.val (.ref ra), .val (.int xh), .val (.int xf)] [])) rfl (hb hby d1_4)
  have pre5 : ∀ t, Steps p.tables e below (T4.setTop (mkF m 7 #[.val (.ref ra), .val (.int xh), .val (.int xf)] [(.ref wh)])) t → Steps p.tables e below (s₁.setTop (entryFrame m #[(.ref ra), (.int xh), (.int xf)] 3)) t := fun t k => pre3 t (st4 t k)
  have pre6 : ∀ t, Steps p.tables e below (T4.setTop (mkF m 8 #[.val (.ref ra), .val (.int xh), .val (.int xf)] [(.int xh), (.ref wh)])) t → Steps p.tables e below (s₁.setTop (entryFrame m #[(.ref ra), (.int xh), (.int xf)] 3)) t := by
    intro t k
    refine pre5 t ?_
    refine XS.iloadN X4.here hx rfl (hb hby d1_7) rfl ?_
    show Steps p.tables e below (T4.setTop (mkF m 8 #[.val (.ref ra), .val (.int xh), .val (.int xf)] [(.int xh), (.ref wh)])) _
    exact k
  obtain ⟨cq7, kq7, q7a, q7b, q7c⟩ := isOf hZ e4 EH
  obtain ⟨_, _, ⟨T7, L7, k7, n7⟩, -, X7, ⟨Lc7, hQ7, l7, y7, z7⟩, st7⟩ := X4.virtualBack hx (y := (⟨"com/example/narrow_gate/narrowgate/algorithm/Setting", "checked", "(I)I"⟩ : MethodName)) (z := (⟨"com/example/narrow_gate/narrowgate/algorithm/Setting", "checked", "(I)I"⟩ : MethodName)) hown (mvT hZ (hw _ (List.mem_of_getElem? (i := 19) rfl))) (mvT hZ (hw _ (List.mem_of_getElem? (i := 20) rfl))) (notFace_of_selects (args := #[]) (mvT hZ (hw _ (List.mem_of_getElem? (i := 22) rfl)))) (mvT hZ (hw _ (List.mem_of_getElem? (i := 22) rfl))) (mvT hZ (hw _ (List.mem_of_getElem? (i := 21) rfl))) (by decide) (backOf (W := 0) (rm_checked l Z a0 hw [] wh xh (10 : Int32) (60000 : Int32) h0 n0 Z0 FH0 FH1 (hq0) (hq1)) hZ (hw _ (List.mem_of_getElem? (i := 24) rfl)) (hw _ (List.mem_of_getElem? (i := 23) rfl)) (by decide) (by decide)) q7a q7c (g := (mkF m 8 #[.val (.ref ra), .val (.int xh), .val (.int xf)] [(.int xh), (.ref wh)])) rfl (by rw [hml]; rfl) (Steps.refl _) (argsL := [(.int xh)]) (rest := []) (lenOf pd1 rfl) rfl (by show 2 * 0 + _ ≤ _; exact Nat.le_of_eq rfl) (hb hby d1_8) (fun _ _ => ⟨rfl, e4, (by decide : 0 + 0 ≤ _), (by decide : 0 + 0 ≤ _)⟩)
  dsimp only [Pt.U, Pt.locs, Pt.cells, Pt.slots] at X7 l7 y7 z7 st7 hQ7
  subst l7 y7 z7
  obtain ⟨rfl, M7, e7⟩ := hQ7
  have N7 := Fr.app N2 M7
  have pre8 : ∀ t, Steps p.tables e below (T7.setTop (mkF m 11 #[.val (.ref ra), .val (.int xh), .val (.int xf)] [(.int xh)])) t → Steps p.tables e below (s₁.setTop (entryFrame m #[(.ref ra), (.int xh), (.int xf)] 3)) t := fun t k => pre6 t (st7.trans k)
  have pre10 : ∀ t, Steps p.tables e below (T7.setTop (mkF m 12 #[.val (.ref ra), .val (.int xh), .val (.int xf)] [])) t → Steps p.tables e below (s₁.setTop (entryFrame m #[(.ref ra), (.int xh), (.int xf)] 3)) t := by
    intro t k
    refine pre8 t ?_
    refine XS.pop X7.here hx rfl (hb hby d1_11) rfl rfl ?_
    show Steps p.tables e below (T7.setTop (mkF m 12 #[.val (.ref ra), .val (.int xh), .val (.int xf)] [])) _
    exact k
  obtain ⟨T9, X9, e9, st9⟩ := getS2 X7 hx hZ hown (host := "") (Or.inl (hw _ (List.mem_of_getElem? (i := 29) rfl))) Via.refl e7 SF (g := (mkF m 12 #[.val (.ref ra), .val (.int xh), .val (.int xf)] [])) rfl (hb hby d1_12)
  have pre11 : ∀ t, Steps p.tables e below (T9.setTop (mkF m 15 #[.val (.ref ra), .val (.int xh), .val (.int xf)] [(.ref wf)])) t → Steps p.tables e below (s₁.setTop (entryFrame m #[(.ref ra), (.int xh), (.int xf)] 3)) t := fun t k => pre10 t (st9 t k)
  have pre12 : ∀ t, Steps p.tables e below (T9.setTop (mkF m 16 #[.val (.ref ra), .val (.int xh), .val (.int xf)] [(.int xf), (.ref wf)])) t → Steps p.tables e below (s₁.setTop (entryFrame m #[(.ref ra), (.int xh), (.int xf)] 3)) t := by
    intro t k
    refine pre11 t ?_
    refine XS.iloadN X9.here hx rfl (hb hby d1_15) rfl ?_
    show Steps p.tables e below (T9.setTop (mkF m 16 #[.val (.ref ra), .val (.int xh), .val (.int xf)] [(.int xf), (.ref wf)])) _
    exact k
  obtain ⟨cq13, kq13, q13a, q13b, q13c⟩ := isOf hZ e9 EF
  obtain ⟨_, _, ⟨T13, L13, k13, n13⟩, -, X13, ⟨Lc13, hQ13, l13, y13, z13⟩, st13⟩ := X9.virtualBack hx (y := (⟨"com/example/narrow_gate/narrowgate/algorithm/Setting", "checked", "(I)I"⟩ : MethodName)) (z := (⟨"com/example/narrow_gate/narrowgate/algorithm/Setting", "checked", "(I)I"⟩ : MethodName)) hown (mvT hZ (hw _ (List.mem_of_getElem? (i := 19) rfl))) (mvT hZ (hw _ (List.mem_of_getElem? (i := 20) rfl))) (notFace_of_selects (args := #[]) (mvT hZ (hw _ (List.mem_of_getElem? (i := 22) rfl)))) (mvT hZ (hw _ (List.mem_of_getElem? (i := 22) rfl))) (mvT hZ (hw _ (List.mem_of_getElem? (i := 21) rfl))) (by decide) (backOf (W := 0) (rm_checked l Z a0 hw [] wf xf (40 : Int32) (600000 : Int32) h0 n0 Z0 FF0 FF1 (hq2) (hq3)) hZ (hw _ (List.mem_of_getElem? (i := 24) rfl)) (hw _ (List.mem_of_getElem? (i := 23) rfl)) (by decide) (by decide)) q13a q13c (g := (mkF m 16 #[.val (.ref ra), .val (.int xh), .val (.int xf)] [(.int xf), (.ref wf)])) rfl (by rw [hml]; rfl) (Steps.refl _) (argsL := [(.int xf)]) (rest := []) (lenOf pd1 rfl) rfl (by show 2 * 0 + _ ≤ _; exact Nat.le_of_eq rfl) (hb hby d1_16) (fun _ _ => ⟨rfl, e9, (by decide : 0 + 0 ≤ _), (by decide : 0 + 0 ≤ _)⟩)
  dsimp only [Pt.U, Pt.locs, Pt.cells, Pt.slots] at X13 l13 y13 z13 st13 hQ13
  subst l13 y13 z13
  obtain ⟨rfl, M13, e13⟩ := hQ13
  have N13 := Fr.app N7 M13
  have pre14 : ∀ t, Steps p.tables e below (T13.setTop (mkF m 19 #[.val (.ref ra), .val (.int xh), .val (.int xf)] [(.int xf)])) t → Steps p.tables e below (s₁.setTop (entryFrame m #[(.ref ra), (.int xh), (.int xf)] 3)) t := fun t k => pre12 t (st13.trans k)
  have pre15 : ∀ t, Steps p.tables e below (T13.setTop (mkF m 56 #[.val (.ref ra), .val (.int xh), .val (.int xf)] [(.int xh), (.ref ra)])) t → Steps p.tables e below (s₁.setTop (entryFrame m #[(.ref ra), (.int xh), (.int xf)] 3)) t := by
    intro t k
    refine pre14 t ?_
    refine XS.pop X13.here hx rfl (hb hby d1_19) rfl rfl ?_
    show Steps p.tables e below (T13.setTop (mkF m 20 #[.val (.ref ra), .val (.int xh), .val (.int xf)] [])) _
    refine XS.iloadN X13.here hx rfl (hb hby d1_20) rfl ?_
    show Steps p.tables e below (T13.setTop (mkF m 21 #[.val (.ref ra), .val (.int xh), .val (.int xf)] [(.int xf)])) _
    refine XS.iconst X13.here hx rfl (hb hby d1_21) ?_
    show Steps p.tables e below (T13.setTop (mkF m 22 #[.val (.ref ra), .val (.int xh), .val (.int xf)] [(.int (4 : Int32)), (.int xf)])) _
    refine XS.iloadN X13.here hx rfl (hb hby d1_22) rfl ?_
    show Steps p.tables e below (T13.setTop (mkF m 23 #[.val (.ref ra), .val (.int xh), .val (.int xf)] [(.int xh), (.int (4 : Int32)), (.int xf)])) _
    refine XS.imul X13.here hx rfl (hb hby d1_23) rfl ?_
    show Steps p.tables e below (T13.setTop (mkF m 24 #[.val (.ref ra), .val (.int xh), .val (.int xf)] [(.int ((4 : Int32) * xh)), (.int xf)])) _
    refine XS.icmpYes X13.here hx rfl (pc0 := 24) (pc' := 54) rfl (hb hby d1_24) rfl (flt (show ¬ (xf < ((4 : Int32) * xh)) from hq4)).2.1 (by decide) (by decide) ?_
    show Steps p.tables e below (T13.setTop (mkF m 54 #[.val (.ref ra), .val (.int xh), .val (.int xf)] [])) _
    refine XS.aloadN X13.here hx rfl (hb hby d1_54) rfl rfl ?_
    show Steps p.tables e below (T13.setTop (mkF m 55 #[.val (.ref ra), .val (.int xh), .val (.int xf)] [(.ref ra)])) _
    refine XS.iloadN X13.here hx rfl (hb hby d1_55) rfl ?_
    show Steps p.tables e below (T13.setTop (mkF m 56 #[.val (.ref ra), .val (.int xh), .val (.int xf)] [(.int xh), (.ref ra)])) _
    exact k
  obtain ⟨T16, h16, X16, e16, W16, st16⟩ := putF X13 hx hZ hown (host := "") (Or.inl (hw _ (List.mem_of_getElem? (i := 31) rfl))) Via.refl e13 F_heartbeatMillis_ra E_ra (Or.inr ⟨(hw _ (List.mem_of_getElem? (i := 32) rfl)), rfl, hnm⟩) (hw _ (List.mem_of_getElem? (i := 4) rfl)) (ty := .int) (by decide) rfl rfl (g := (mkF m 56 #[.val (.ref ra), .val (.int xh), .val (.int xf)] [(.int xh), (.ref ra)])) rfl rfl (hb hby d1_56)
  have K16 : Keep h0 h16 [ra] := (Keep.refl h0 [ra]).wr W16 (Or.inl (by simp))
  have z16 : n0 ≤ h16.size := Nat.le_trans Z0 K16.1
  have N16 := Fr.snoc X16 N13 g_ra
  have Fw16 := F_heartbeatMillis_ra.same W16
  have pre17 : ∀ t, Steps p.tables e below (T16.setTop (mkF m 59 #[.val (.ref ra), .val (.int xh), .val (.int xf)] [])) t → Steps p.tables e below (s₁.setTop (entryFrame m #[(.ref ra), (.int xh), (.int xf)] 3)) t := fun t k => pre15 t (st16 t k)
  have pre18 : ∀ t, Steps p.tables e below (T16.setTop (mkF m 61 #[.val (.ref ra), .val (.int xh), .val (.int xf)] [(.int xf), (.ref ra)])) t → Steps p.tables e below (s₁.setTop (entryFrame m #[(.ref ra), (.int xh), (.int xf)] 3)) t := by
    intro t k
    refine pre17 t ?_
    refine XS.aloadN X16.here hx rfl (hb hby d1_59) rfl rfl ?_
    show Steps p.tables e below (T16.setTop (mkF m 60 #[.val (.ref ra), .val (.int xh), .val (.int xf)] [(.ref ra)])) _
    refine XS.iloadN X16.here hx rfl (hb hby d1_60) rfl ?_
    show Steps p.tables e below (T16.setTop (mkF m 61 #[.val (.ref ra), .val (.int xh), .val (.int xf)] [(.int xf), (.ref ra)])) _
    exact k
  have f19 := (E_ra.wr W16)
  have f20 := (F_failureMillis_ra.other W16 (Or.inr (slot_ne (Or.inr (hw _ (List.mem_of_getElem? (i := 34) rfl))) (Or.inr (hw _ (List.mem_of_getElem? (i := 32) rfl))) (by decide) (t := .int) (t' := .int) (by decide) (by decide))))
  obtain ⟨T21, h21, X21, e21, W21, st21⟩ := putF X16 hx hZ hown (host := "") (Or.inl (hw _ (List.mem_of_getElem? (i := 33) rfl))) Via.refl e16 f20 f19 (Or.inr ⟨(hw _ (List.mem_of_getElem? (i := 34) rfl)), rfl, hnm⟩) (hw _ (List.mem_of_getElem? (i := 4) rfl)) (ty := .int) (by decide) rfl rfl (g := (mkF m 61 #[.val (.ref ra), .val (.int xh), .val (.int xf)] [(.int xf), (.ref ra)])) rfl rfl (hb hby d1_61)
  have K21 : Keep h0 h21 [ra] := K16.wr W21 (Or.inl (by simp))
  have z21 : n0 ≤ h21.size := Nat.le_trans Z0 K21.1
  have N21 := Fr.snoc X21 N16 g_ra
  have Fw21 := f20.same W21
  have pre22 : ∀ t, Steps p.tables e below (T21.setTop (mkF m 64 #[.val (.ref ra), .val (.int xh), .val (.int xf)] [])) t → Steps p.tables e below (s₁.setTop (entryFrame m #[(.ref ra), (.int xh), (.int xf)] 3)) t := fun t k => pre18 t (st21 t k)
  obtain ⟨fs, hr, hrun, hended, hW, hsame⟩ := X21.leave (v := none) (fun _ => rfl)
  refine ⟨_, _, pre22 _ ?_, hrun, hended, _, _, rfl, ?_, ⟨_, rfl⟩, hW, hsame.mono (by decide) (by decide)⟩
  · exact X21.returnOut hx Bd.returns (hb hby d1_64) hr
  · show Q_rm_init Z ra xh xf wh wf h0 n0 _ T21.heap _
    rw [e21]
    exact ⟨rfl, N21, K21, (f19.wr W21), (Fw16.other W21 (Or.inr (slot_ne (Or.inr (hw _ (List.mem_of_getElem? (i := 32) rfl))) (Or.inr (hw _ (List.mem_of_getElem? (i := 34) rfl))) (by decide) (t := .int) (t' := .int) (by decide) (by decide)))), Fw21⟩
theorem d6_0 : decode prog_22_method_2_code 0 = .ok (.aload_n 0, 1) := by decide +kernel
theorem d6_1 : decode prog_22_method_2_code 1 = .ok (.getfield 39, 3) := by decide +kernel
theorem d6_4 : decode prog_22_method_2_code 4 = .ok (.iconst 2, 1) := by decide +kernel
theorem d6_5 : decode prog_22_method_2_code 5 = .ok (.idiv, 1) := by decide +kernel
theorem d6_6 : decode prog_22_method_2_code 6 = .ok (.i2l, 1) := by decide +kernel
theorem d6_7 : decode prog_22_method_2_code 7 = .ok (.lreturn, 1) := by decide +kernel
theorem ef_rm_lease (m : MethodId) (ra : Addr) : entryFrame m #[(.ref ra)] 1 = mkF m 0 #[.val (.ref ra)] [] := by first | (simp [entryFrame, mkF, argsToLocals, Value.category]; done) | rfl
def Q_rm_lease (Z : State) (ra : Addr) (xf : Int32) (h0 : Heap) (n0 : Nat) (v : Option Value) (h : Heap) (L : List Loc) : Prop := v = some (.long ((xf / (2 : Int32)).toInt64)) ∧ Fr n0 L ∧ h = h0
set_option maxRecDepth 65536 in
set_option maxHeartbeats 40000000 in
theorem rm_lease (l : Launch) (Z : State) (a0 : Array Value) (hw : ∀ d ∈ tables_1, d.before a0 Z = true) (ws : List Jvm.Cond) (ra : Addr) (xf : Int32) (h0 : Heap) (n0 : Nat) (Z0 : n0 ≤ h0.size) (F1 : Fld Z h0 ra "com/example/narrow_gate/narrowgate/node/FailureDetection" "failureMillis" "I" (.int xf)) :
    MetFree l (⟨"com/example/narrow_gate/narrowgate/node/FailureDetection", "leaseMillis", "()J"⟩ : MethodName) (head1 (Jvm.Cond.code (⟨"com/example/narrow_gate/narrowgate/node/FailureDetection", "leaseMillis", "()J"⟩ : MethodName) prog_22_method_2_code 1 (some .long) :: ws) ({ frames := 0, cells := 0, slots := 0, locals := 0 } : Room)) (fun a U => a = #[(.ref ra)] ∧ Z.Warmed39 U.vm ∧ U.heap = h0) (fun _ _ _ _ _ => True) (fun _ U o U' => ∃ v L, o = .returned v ∧ Q_rm_lease Z ra xf h0 n0 v U'.heap L ∧ FrameEnd U o U' L ({ frames := 0, cells := 0, slots := 0, locals := 0 } : Room).cells ({ frames := 0, cells := 0, slots := 0, locals := 0 } : Room).slots) := by
  refine MetFree.of_bodySF (plainFor_of_name pn2) hisR ?_
  intro p e s m args below meth c s₁ Bd hml0 hP hK
  obtain ⟨rfl, hZ, hh⟩ := hP
  have hx := Bd.exec
  have hby := Bd.bytes
  have hml : c.maxLocals = 1 := hml0
  have hown : s.vm.findClass "com/example/narrow_gate/narrowgate/node/FailureDetection" = some m.cls := findClass_of_methodNamed Bd.named
  have hnm := (name_of_methodNamed Bd.named Bd.method).1
  have X0 : Stand p l e ({ frames := 0, cells := 0, slots := 0, locals := 0 } : Room) s m #[(.ref ra)] below meth c s₁ [] 0 0 := Stand.of_body Bd
  have e0 : s₁.heap = h0 := by rw [← hh, Bd.state]; rfl
  have N0 := Fr.nil n0
  have pre0 : ∀ t, Steps p.tables e below (s₁.setTop (mkF m 0 #[.val (.ref ra)] [])) t → Steps p.tables e below (s₁.setTop (entryFrame m #[(.ref ra)] 1)) t := fun t k => castTop (ef_rm_lease m ra) k
  have pre1 : ∀ t, Steps p.tables e below (s₁.setTop (mkF m 1 #[.val (.ref ra)] [(.ref ra)])) t → Steps p.tables e below (s₁.setTop (entryFrame m #[(.ref ra)] 1)) t := by
    intro t k
    refine pre0 t ?_
    refine XS.aloadN X0.here hx rfl (hb hby d6_0) rfl rfl ?_
    show Steps p.tables e below (s₁.setTop (mkF m 1 #[.val (.ref ra)] [(.ref ra)])) _
    exact k
  obtain ⟨T2, X2, e2, st2⟩ := getF X0 hx hZ hown (host := "") (Or.inl (hw _ (List.mem_of_getElem? (i := 33) rfl))) Via.refl e0 F1 (g := (mkF m 1 #[.val (.ref ra)] [(.ref ra)])) rfl rfl (hb hby d6_1)
  have pre3 : ∀ t, Steps p.tables e below (T2.setTop (mkF m 4 #[.val (.ref ra)] [(.int xf)])) t → Steps p.tables e below (s₁.setTop (entryFrame m #[(.ref ra)] 1)) t := fun t k => pre1 t (st2 t k)
  have pre4 : ∀ t, Steps p.tables e below (T2.setTop (mkF m 7 #[.val (.ref ra)] [(.long ((xf / (2 : Int32)).toInt64))])) t → Steps p.tables e below (s₁.setTop (entryFrame m #[(.ref ra)] 1)) t := by
    intro t k
    refine pre3 t ?_
    refine XS.iconst X2.here hx rfl (hb hby d6_4) ?_
    show Steps p.tables e below (T2.setTop (mkF m 5 #[.val (.ref ra)] [(.int (2 : Int32)), (.int xf)])) _
    refine XS.idiv X2.here hx rfl (hb hby d6_5) rfl (by decide) ?_
    show Steps p.tables e below (T2.setTop (mkF m 6 #[.val (.ref ra)] [(.int (xf / (2 : Int32)))])) _
    refine XS.i2l X2.here hx rfl (hb hby d6_6) rfl ?_
    show Steps p.tables e below (T2.setTop (mkF m 7 #[.val (.ref ra)] [(.long ((xf / (2 : Int32)).toInt64))])) _
    exact k
  obtain ⟨fs, hr, hrun, hended, hW, hsame⟩ := X2.leave (v := some (.long ((xf / (2 : Int32)).toInt64))) (fun h => by rw [Bd.returns] at h; cases h)
  refine ⟨_, _, pre4 _ ?_, hrun, hended, _, _, rfl, ?_, ⟨_, rfl⟩, hW, hsame.mono (by decide) (by decide)⟩
  · exact retOut X2 hx Bd.returns rfl (Or.inr (Or.inl ⟨rfl, rfl, _, rfl⟩)) (hb hby d6_7) hr
  · show Q_rm_lease Z ra xf h0 n0 _ T2.heap _
    rw [e2]
    exact ⟨rfl, N0, rfl⟩
theorem d5_0 : decode prog_22_method_4_code 0 = .ok (.lload_n 1, 1) := by decide +kernel
theorem d5_1 : decode prog_22_method_4_code 1 = .ok (.aload_n 0, 1) := by decide +kernel
theorem d5_2 : decode prog_22_method_4_code 2 = .ok (.invokevirtual 42, 3) := by decide +kernel
theorem pd2 : parseMethodDescriptor "()J" = some ⟨[], some .long⟩ := by decide +kernel
theorem d5_5 : decode prog_22_method_4_code 5 = .ok (.lcmp, 1) := by decide +kernel
theorem d5_6 : decode prog_22_method_4_code 6 = .ok (.ifCond .lt 7, 3) := by decide +kernel
theorem d5_13 : decode prog_22_method_4_code 13 = .ok (.iconst 0, 1) := by decide +kernel
theorem d5_14 : decode prog_22_method_4_code 14 = .ok (.ireturn, 1) := by decide +kernel
theorem d5_9 : decode prog_22_method_4_code 9 = .ok (.iconst 1, 1) := by decide +kernel
theorem d5_10 : decode prog_22_method_4_code 10 = .ok (.goto 4, 3) := by decide +kernel
def F_rm_may (xl : Int64) (xf : Int32) : Int32 := (if xl < ((xf / (2 : Int32)).toInt64) then (0 : Int32) else (1 : Int32))
theorem ef_rm_may (m : MethodId) (ra : Addr) (xl : Int64) : entryFrame m #[(.ref ra), (.long xl)] 3 = mkF m 0 #[.val (.ref ra), .val (.long xl), .second] [] := by first | (simp [entryFrame, mkF, argsToLocals, Value.category]; done) | rfl
def Q_rm_may (Z : State) (ra : Addr) (xl : Int64) (xf : Int32) (h0 : Heap) (n0 : Nat) (v : Option Value) (h : Heap) (L : List Loc) : Prop := v = some (.int (F_rm_may xl xf)) ∧ Fr n0 L ∧ h = h0
set_option maxRecDepth 65536 in
set_option maxHeartbeats 40000000 in
theorem rm_may (l : Launch) (Z : State) (a0 : Array Value) (hw : ∀ d ∈ tables_1, d.before a0 Z = true) (ws : List Jvm.Cond) (ra : Addr) (xl : Int64) (xf : Int32) (h0 : Heap) (n0 : Nat) (Z0 : n0 ≤ h0.size) (F1 : Fld Z h0 ra "com/example/narrow_gate/narrowgate/node/FailureDetection" "failureMillis" "I" (.int xf)) (E1 : Exa Z h0 ra "com/example/narrow_gate/narrowgate/node/FailureDetection") :
    MetFree l (⟨"com/example/narrow_gate/narrowgate/node/FailureDetection", "mayHaveBeenTakenForDead", "(J)Z"⟩ : MethodName) (head1 (Jvm.Cond.code (⟨"com/example/narrow_gate/narrowgate/node/FailureDetection", "mayHaveBeenTakenForDead", "(J)Z"⟩ : MethodName) prog_22_method_4_code 3 (some .boolean) :: ws) ({ frames := 1, cells := 0, slots := 0, locals := 14 } : Room)) (fun a U => a = #[(.ref ra), (.long xl)] ∧ Z.Warmed39 U.vm ∧ U.heap = h0) (fun _ _ _ _ _ => True) (fun _ U o U' => ∃ v L, o = .returned v ∧ Q_rm_may Z ra xl xf h0 n0 v U'.heap L ∧ FrameEnd U o U' L ({ frames := 1, cells := 0, slots := 0, locals := 14 } : Room).cells ({ frames := 1, cells := 0, slots := 0, locals := 14 } : Room).slots) := by
  refine MetFree.of_bodySF (plainFor_of_name pn2) hisR ?_
  intro p e s m args below meth c s₁ Bd hml0 hP hK
  obtain ⟨rfl, hZ, hh⟩ := hP
  have hx := Bd.exec
  have hby := Bd.bytes
  have hml : c.maxLocals = 3 := hml0
  have hown : s.vm.findClass "com/example/narrow_gate/narrowgate/node/FailureDetection" = some m.cls := findClass_of_methodNamed Bd.named
  have hnm := (name_of_methodNamed Bd.named Bd.method).1
  have X0 : Stand p l e ({ frames := 1, cells := 0, slots := 0, locals := 14 } : Room) s m #[(.ref ra), (.long xl)] below meth c s₁ [] 0 0 := Stand.of_body Bd
  have e0 : s₁.heap = h0 := by rw [← hh, Bd.state]; rfl
  have N0 := Fr.nil n0
  have pre0 : ∀ t, Steps p.tables e below (s₁.setTop (mkF m 0 #[.val (.ref ra), .val (.long xl), .second] [])) t → Steps p.tables e below (s₁.setTop (entryFrame m #[(.ref ra), (.long xl)] 3)) t := fun t k => castTop (ef_rm_may m ra xl) k
  have pre1 : ∀ t, Steps p.tables e below (s₁.setTop (mkF m 2 #[.val (.ref ra), .val (.long xl), .second] [(.ref ra), (.long xl)])) t → Steps p.tables e below (s₁.setTop (entryFrame m #[(.ref ra), (.long xl)] 3)) t := by
    intro t k
    refine pre0 t ?_
    refine XS.lloadN X0.here hx rfl (hb hby d5_0) rfl ?_
    show Steps p.tables e below (s₁.setTop (mkF m 1 #[.val (.ref ra), .val (.long xl), .second] [(.long xl)])) _
    refine XS.aloadN X0.here hx rfl (hb hby d5_1) rfl rfl ?_
    show Steps p.tables e below (s₁.setTop (mkF m 2 #[.val (.ref ra), .val (.long xl), .second] [(.ref ra), (.long xl)])) _
    exact k
  obtain ⟨cq2, kq2, q2a, q2b, q2c⟩ := isOf hZ e0 E1
  obtain ⟨_, _, ⟨T2, L2, k2, n2⟩, -, X2, ⟨Lc2, hQ2, l2, y2, z2⟩, st2⟩ := X0.virtualBack hx (y := (⟨"com/example/narrow_gate/narrowgate/node/FailureDetection", "leaseMillis", "()J"⟩ : MethodName)) (z := (⟨"com/example/narrow_gate/narrowgate/node/FailureDetection", "leaseMillis", "()J"⟩ : MethodName)) hown (mvT hZ (hw _ (List.mem_of_getElem? (i := 40) rfl))) (mvT hZ (hw _ (List.mem_of_getElem? (i := 41) rfl))) (notFace_of_selects (args := #[]) (mvT hZ (hw _ (List.mem_of_getElem? (i := 43) rfl)))) (mvT hZ (hw _ (List.mem_of_getElem? (i := 43) rfl))) (mvT hZ (hw _ (List.mem_of_getElem? (i := 42) rfl))) (by decide) (backOf (W := 2) (rm_lease l Z a0 hw [] ra xf h0 n0 Z0 F1) hZ (hw _ (List.mem_of_getElem? (i := 44) rfl)) (hw _ (List.mem_of_getElem? (i := 5) rfl)) (by decide) (by decide)) q2a q2c (g := (mkF m 2 #[.val (.ref ra), .val (.long xl), .second] [(.ref ra), (.long xl)])) rfl (by rw [hml]; rfl) (Steps.refl _) (argsL := []) (rest := [(.long xl)]) (lenOf pd2 rfl) rfl (by show 2 * 0 + _ ≤ _; exact Nat.le_of_eq rfl) (hb hby d5_2) (fun _ _ => ⟨rfl, e0, (by decide : 0 + 0 ≤ _), (by decide : 0 + 0 ≤ _)⟩)
  dsimp only [Pt.U, Pt.locs, Pt.cells, Pt.slots] at X2 l2 y2 z2 st2 hQ2
  subst l2 y2 z2
  obtain ⟨rfl, M2, e2⟩ := hQ2
  have N2 := Fr.app N0 M2
  have pre3 : ∀ t, Steps p.tables e below (T2.setTop (mkF m 5 #[.val (.ref ra), .val (.long xl), .second] [(.long ((xf / (2 : Int32)).toInt64)), (.long xl)])) t → Steps p.tables e below (s₁.setTop (entryFrame m #[(.ref ra), (.long xl)] 3)) t := fun t k => pre1 t (st2.trans k)
  have pre4 : ∀ t, Steps p.tables e below (T2.setTop (mkF m 6 #[.val (.ref ra), .val (.long xl), .second] [(.int (lcmpW xl ((xf / (2 : Int32)).toInt64)))])) t → Steps p.tables e below (s₁.setTop (entryFrame m #[(.ref ra), (.long xl)] 3)) t := by
    intro t k
    refine pre3 t ?_
    refine XS.lcmp X2.here hx rfl (hb hby d5_5) rfl ?_
    show Steps p.tables e below (T2.setTop (mkF m 6 #[.val (.ref ra), .val (.long xl), .second] [(.int (lcmpW xl ((xf / (2 : Int32)).toInt64)))])) _
    exact k
  by_cases hc6 : xl < ((xf / (2 : Int32)).toInt64)
  · have pre5 : ∀ t, Steps p.tables e below (T2.setTop (mkF m 14 #[.val (.ref ra), .val (.long xl), .second] [(.int (0 : Int32))])) t → Steps p.tables e below (s₁.setTop (entryFrame m #[(.ref ra), (.long xl)] 3)) t := by
      intro t k
      refine pre4 t ?_
      refine XS.ifYes X2.here hx rfl (pc0 := 6) (pc' := 13) rfl (hb hby d5_6) rfl ((if0 _ _).trans (tlt ((lw_lt _ _).mpr hc6)).1) (by decide) (by decide) ?_
      show Steps p.tables e below (T2.setTop (mkF m 13 #[.val (.ref ra), .val (.long xl), .second] [])) _
      refine XS.iconst X2.here hx rfl (hb hby d5_13) ?_
      show Steps p.tables e below (T2.setTop (mkF m 14 #[.val (.ref ra), .val (.long xl), .second] [(.int (0 : Int32))])) _
      exact k
    obtain ⟨fs, hr, hrun, hended, hW, hsame⟩ := X2.leave (v := some (.int (0 : Int32))) (fun h => by rw [Bd.returns] at h; cases h)
    refine ⟨_, _, pre5 _ ?_, hrun, hended, _, _, rfl, ?_, ⟨_, rfl⟩, hW, hsame.mono (by decide) (by decide)⟩
    · exact retN X2 hx (t := .boolean) Bd.returns (by simp) (hb hby d5_14) hr
    · show Q_rm_may Z ra xl xf h0 n0 _ T2.heap _
      rw [e2]
      exact ⟨congrArg (fun z => some (Value.int z)) (show (0 : Int32) = (F_rm_may xl xf) from by rw [F_rm_may, if_pos hc6]), N2, rfl⟩
  · have pre6 : ∀ t, Steps p.tables e below (T2.setTop (mkF m 14 #[.val (.ref ra), .val (.long xl), .second] [(.int (1 : Int32))])) t → Steps p.tables e below (s₁.setTop (entryFrame m #[(.ref ra), (.long xl)] 3)) t := by
      intro t k
      refine pre4 t ?_
      refine XS.ifNo X2.here hx rfl (hb hby d5_6) rfl ((if0 _ _).trans (flt (mt (lw_lt _ _).mp hc6)).1) ?_
      show Steps p.tables e below (T2.setTop (mkF m 9 #[.val (.ref ra), .val (.long xl), .second] [])) _
      refine XS.iconst X2.here hx rfl (hb hby d5_9) ?_
      show Steps p.tables e below (T2.setTop (mkF m 10 #[.val (.ref ra), .val (.long xl), .second] [(.int (1 : Int32))])) _
      refine XS.goto X2.here hx rfl (pc0 := 10) (pc' := 14) rfl (hb hby d5_10) (by decide) (by decide) ?_
      show Steps p.tables e below (T2.setTop (mkF m 14 #[.val (.ref ra), .val (.long xl), .second] [(.int (1 : Int32))])) _
      exact k
    obtain ⟨fs, hr, hrun, hended, hW, hsame⟩ := X2.leave (v := some (.int (1 : Int32))) (fun h => by rw [Bd.returns] at h; cases h)
    refine ⟨_, _, pre6 _ ?_, hrun, hended, _, _, rfl, ?_, ⟨_, rfl⟩, hW, hsame.mono (by decide) (by decide)⟩
    · exact retN X2 hx (t := .boolean) Bd.returns (by simp) (hb hby d5_14) hr
    · show Q_rm_may Z ra xl xf h0 n0 _ T2.heap _
      rw [e2]
      exact ⟨congrArg (fun z => some (Value.int z)) (show (1 : Int32) = (F_rm_may xl xf) from by rw [F_rm_may, if_neg hc6]), N2, rfl⟩
set_option maxHeartbeats 4000000 in
theorem own_b0 (xa xb hbt lo fm : Int32) (hhbt : hbt = ((10 : Int32) + ((xa &&& (2147483647 : Int32)) % (59991 : Int32)))) (hlo : lo = ((4 : Int32) * hbt)) (hfm : fm = (lo + ((xb &&& (2147483647 : Int32)) % (((600000 : Int32) - lo) + (1 : Int32))))) : 10 ≤ hbt.toInt ∧ hbt.toInt ≤ 60000 ∧ lo.toInt = 4 * hbt.toInt ∧ lo.toInt ≤ fm.toInt ∧ fm.toInt ≤ 600000 := by
  have k1 : 10 ≤ hbt.toInt ∧ hbt.toInt ≤ 60000 := by
    subst hhbt
    have : (10 : Int32).toInt = 10 := rfl
    have := rng32 xa
    have := c_mask xa (2147483647 : Int32) 31 (by decide) (by decide +kernel)
    have := rng32 (xa &&& (2147483647 : Int32))
    have : (59991 : Int32).toInt = 59991 := rfl
    have := c_irem (xa &&& (2147483647 : Int32)) (59991 : Int32) 59991 rfl
    have := rng32 ((xa &&& (2147483647 : Int32)) % (59991 : Int32))
    have := c_iadd (10 : Int32) ((xa &&& (2147483647 : Int32)) % (59991 : Int32))
    have := rng32 ((10 : Int32) + ((xa &&& (2147483647 : Int32)) % (59991 : Int32)))
    omega
  have k2 : lo.toInt = 4 * hbt.toInt := by
    subst hlo
    have : (4 : Int32).toInt = 4 := rfl
    have := rng32 hbt
    have : (((4 : Int32) * hbt).toInt - (4 * hbt.toInt)) % 4294967296 = 0 := c_imul (4 : Int32) hbt
    have := rng32 ((4 : Int32) * hbt)
    omega
  clear hhbt hlo
  have k3 : lo.toInt ≤ fm.toInt ∧ fm.toInt ≤ 600000 := by
    subst hfm
    have := rng32 lo
    have := rng32 xb
    have := c_mask xb (2147483647 : Int32) 31 (by decide) (by decide +kernel)
    have := rng32 (xb &&& (2147483647 : Int32))
    have : (600000 : Int32).toInt = 600000 := rfl
    have := c_isub (600000 : Int32) lo
    have := rng32 ((600000 : Int32) - lo)
    have : (1 : Int32).toInt = 1 := rfl
    have := c_iadd ((600000 : Int32) - lo) (1 : Int32)
    have := rng32 (((600000 : Int32) - lo) + (1 : Int32))
    have := c_iremV (xb &&& (2147483647 : Int32)) (((600000 : Int32) - lo) + (1 : Int32))
    have := rng32 ((xb &&& (2147483647 : Int32)) % (((600000 : Int32) - lo) + (1 : Int32)))
    have := c_iadd lo ((xb &&& (2147483647 : Int32)) % (((600000 : Int32) - lo) + (1 : Int32)))
    have := rng32 (lo + ((xb &&& (2147483647 : Int32)) % (((600000 : Int32) - lo) + (1 : Int32))))
    omega
  omega
theorem own_b (xa xb hbt lo fm : Int32) (hhbt : hbt = ((10 : Int32) + ((xa &&& (2147483647 : Int32)) % (59991 : Int32)))) (hlo : lo = ((4 : Int32) * hbt)) (hfm : fm = (lo + ((xb &&& (2147483647 : Int32)) % (((600000 : Int32) - lo) + (1 : Int32))))) : ¬ (hbt < (10 : Int32)) ∧ ¬ ((60000 : Int32) < hbt) ∧ ¬ (fm < (40 : Int32)) ∧ ¬ ((600000 : Int32) < fm) ∧ ¬ (fm < ((4 : Int32) * hbt)) ∧ ¬ ((((600000 : Int32) - lo) + (1 : Int32)) = (0 : Int32)) := by
  have k := own_b0 xa xb hbt lo fm hhbt hlo hfm
  rw [← hlo]
  have : (10 : Int32).toInt = 10 := rfl
  have : (60000 : Int32).toInt = 60000 := rfl
  have : (40 : Int32).toInt = 40 := rfl
  have : (0 : Int32).toInt = 0 := rfl
  have : (600000 : Int32).toInt = 600000 := rfl
  have := rng32 lo
  have := c_isub (600000 : Int32) lo
  have := rng32 ((600000 : Int32) - lo)
  have : (1 : Int32).toInt = 1 := rfl
  have := c_iadd ((600000 : Int32) - lo) (1 : Int32)
  have := rng32 (((600000 : Int32) - lo) + (1 : Int32))
  simp only [Int32.lt_iff_toInt_lt, ← Int32.toInt_inj]
  omega
theorem own_nz (xa hbt lo : Int32) (hhbt : hbt = ((10 : Int32) + ((xa &&& (2147483647 : Int32)) % (59991 : Int32)))) (hlo : lo = ((4 : Int32) * hbt)) : ¬ ((((600000 : Int32) - lo) + (1 : Int32)) = (0 : Int32)) := (own_b xa 0 hbt lo _ hhbt hlo rfl).2.2.2.2.2
theorem own_law (lt : Int64) (fm w : Int32) (h0 : 40 ≤ fm.toInt) (h1 : fm.toInt ≤ 600000) (hw : w = (if lt < (0 : Int64) then (0 : Int32) else (if (300000 : Int64) < lt then (1 : Int32) else (if (((2 : Int64) * lt) + (1 : Int64)) < (fm.toInt64) then (0 : Int32) else (1 : Int32))))) : F_rm_may lt fm = w := by
  rw [hw, F_rm_may]
  have : (2 : Int64).toInt = 2 := rfl
  have := rng64 lt
  have : (((2 : Int64) * lt).toInt - (2 * lt.toInt)) % 18446744073709551616 = 0 := c_lmul (2 : Int64) lt
  have := rng64 ((2 : Int64) * lt)
  have : (1 : Int64).toInt = 1 := rfl
  have := c_ladd ((2 : Int64) * lt) (1 : Int64)
  have := rng64 (((2 : Int64) * lt) + (1 : Int64))
  have := rng32 fm
  have : (2 : Int32).toInt = 2 := rfl
  have := c_idiv fm (2 : Int32) 2 rfl (by decide)
  have := rng32 (fm / (2 : Int32))
  have := c_i2l (fm / (2 : Int32))
  have := rng64 ((fm / (2 : Int32)).toInt64)
  have := c_i2l fm
  have := rng64 (fm.toInt64)
  have : (0 : Int64).toInt = 0 := rfl
  have : (300000 : Int64).toInt = 300000 := rfl
  simp only [Int64.lt_iff_toInt_lt]
  repeat' split
  all_goals first | rfl | (exfalso; omega)
theorem pd3 : parseMethodDescriptor "(II)V" = some ⟨[.int, .int], none⟩ := by decide +kernel
theorem pd4 : parseMethodDescriptor "(J)Z" = some ⟨[.long], some .boolean⟩ := by decide +kernel
theorem pn3 : plainName "com/example/narrow_gate/narrowgate/node/FailureDetectionMayHaveBeenTakenForDeadPinLaw" = true := by first | (simp [plainName, overriddenIn]; done) | decide +kernel
theorem ef_rm0 (m : MethodId) (xa : Int32) (xb : Int32) (xl : Int64) (xm : Int32) : entryFrame m #[(.int xa), (.int xb), (.long xl), (.int xm)] maxLocals = mkF m 0 #[.val (.int xa), .val (.int xb), .val (.long xl), .second, .val (.int xm), .unset, .unset, .unset, .unset, .unset, .unset, .unset, .unset] [] := by first | (simp [entryFrame, mkF, argsToLocals, Value.category, maxLocals]; done) | rfl
def Q_rm0 (Z : State) (xa : Int32) (xb : Int32) (xl : Int64) (xm : Int32) (wh : Addr) (wf : Addr) (h0 : Heap) (n0 : Nat) (v : Option Value) (h : Heap) (L : List Loc) : Prop := v = some (.int (1 : Int32)) ∧ Fr n0 L
set_option maxRecDepth 65536 in
set_option maxHeartbeats 40000000 in
theorem rm0 (l : Launch) (Z : State) (a0 : Array Value) (hw : ∀ d ∈ tables_1, d.before a0 Z = true) (ws : List Jvm.Cond) (xa : Int32) (xb : Int32) (xl : Int64) (xm : Int32) (wh : Addr) (wf : Addr) (h0 : Heap) (n0 : Nat) (Z0 : n0 ≤ h0.size) (SH : Sta Z h0 "com/example/narrow_gate/narrowgate/node/FailureDetection" "HEARTBEAT" "Lcom/example/narrow_gate/narrowgate/algorithm/Setting;" (.ref wh)) (SF : Sta Z h0 "com/example/narrow_gate/narrowgate/node/FailureDetection" "FAILURE" "Lcom/example/narrow_gate/narrowgate/algorithm/Setting;" (.ref wf)) (EH : Exa Z h0 wh "com/example/narrow_gate/narrowgate/algorithm/Setting") (EF : Exa Z h0 wf "com/example/narrow_gate/narrowgate/algorithm/Setting") (FH0 : Fld Z h0 wh "com/example/narrow_gate/narrowgate/algorithm/Setting" "least" "I" (.int (10 : Int32))) (FH1 : Fld Z h0 wh "com/example/narrow_gate/narrowgate/algorithm/Setting" "most" "I" (.int (60000 : Int32))) (FF0 : Fld Z h0 wf "com/example/narrow_gate/narrowgate/algorithm/Setting" "least" "I" (.int (40 : Int32))) (FF1 : Fld Z h0 wf "com/example/narrow_gate/narrowgate/algorithm/Setting" "most" "I" (.int (600000 : Int32))) :
    MetFree l x (head1 (Jvm.Cond.code x code maxLocals ret :: ws) room_1) (fun a U => a = #[(.int xa), (.int xb), (.long xl), (.int xm)] ∧ Z.Warmed39 U.vm ∧ U.heap = h0) (fun _ _ _ _ _ => True) (fun _ U o U' => ∃ v L, o = .returned v ∧ Q_rm0 Z xa xb xl xm wh wf h0 n0 v U'.heap L ∧ FrameEnd U o U' L room_1.cells room_1.slots) := by
  refine MetFree.of_bodySF (plainFor_of_name pn3) hisR ?_
  intro p e s m args below meth c s₁ Bd hml0 hP hK
  obtain ⟨rfl, hZ, hh⟩ := hP
  have hx := Bd.exec
  have hby := Bd.bytes
  have hml : c.maxLocals = 13 := hml0
  have hown : s.vm.findClass "com/example/narrow_gate/narrowgate/node/FailureDetectionMayHaveBeenTakenForDeadPinLaw" = some m.cls := findClass_of_methodNamed Bd.named
  have hnm := (name_of_methodNamed Bd.named Bd.method).1
  have X0 : Stand p l e room_1 s m #[(.int xa), (.int xb), (.long xl), (.int xm)] below meth c s₁ [] 0 0 := Stand.of_body Bd
  have e0 : s₁.heap = h0 := by rw [← hh, Bd.state]; rfl
  have N0 := Fr.nil n0
  have pre0 : ∀ t, Steps p.tables e below (s₁.setTop (mkF m 0 #[.val (.int xa), .val (.int xb), .val (.long xl), .second, .val (.int xm), .unset, .unset, .unset, .unset, .unset, .unset, .unset, .unset] [])) t → Steps p.tables e below (s₁.setTop (entryFrame m #[(.int xa), (.int xb), (.long xl), (.int xm)] maxLocals)) t := fun t k => castTop (ef_rm0 m xa xb xl xm) k
  have pre1 : ∀ t, Steps p.tables e below (s₁.setTop (mkF m 12 #[.val (.int xa), .val (.int xb), .val (.long xl), .second, .val (.int xm), .val (.int ((10 : Int32) + ((xa &&& (2147483647 : Int32)) % (59991 : Int32)))), .unset, .unset, .unset, .unset, .unset, .unset, .unset] [])) t → Steps p.tables e below (s₁.setTop (entryFrame m #[(.int xa), (.int xb), (.long xl), (.int xm)] maxLocals)) t := by
    intro t k
    refine pre0 t ?_
    refine XS.bipush X0.here hx rfl (hb hby at_0) ?_
    show Steps p.tables e below (s₁.setTop (mkF m 2 #[.val (.int xa), .val (.int xb), .val (.long xl), .second, .val (.int xm), .unset, .unset, .unset, .unset, .unset, .unset, .unset, .unset] [(.int (10 : Int32))])) _
    refine XS.iloadN X0.here hx rfl (hb hby at_2) rfl ?_
    show Steps p.tables e below (s₁.setTop (mkF m 3 #[.val (.int xa), .val (.int xb), .val (.long xl), .second, .val (.int xm), .unset, .unset, .unset, .unset, .unset, .unset, .unset, .unset] [(.int xa), (.int (10 : Int32))])) _
    refine X0.ldcInt hx hown (mvT hZ (hw _ (List.mem_of_getElem? (i := 0) rfl))) (g := (mkF m 3 #[.val (.int xa), .val (.int xb), .val (.long xl), .second, .val (.int xm), .unset, .unset, .unset, .unset, .unset, .unset, .unset, .unset] [(.int xa), (.int (10 : Int32))])) rfl (hb hby at_3) _ ?_
    show Steps p.tables e below (s₁.setTop (mkF m 5 #[.val (.int xa), .val (.int xb), .val (.long xl), .second, .val (.int xm), .unset, .unset, .unset, .unset, .unset, .unset, .unset, .unset] [(.int (2147483647 : Int32)), (.int xa), (.int (10 : Int32))])) _
    refine XS.iand X0.here hx rfl (hb hby at_5) rfl ?_
    show Steps p.tables e below (s₁.setTop (mkF m 6 #[.val (.int xa), .val (.int xb), .val (.long xl), .second, .val (.int xm), .unset, .unset, .unset, .unset, .unset, .unset, .unset, .unset] [(.int (xa &&& (2147483647 : Int32))), (.int (10 : Int32))])) _
    refine X0.ldcInt hx hown (mvT hZ (hw _ (List.mem_of_getElem? (i := 1) rfl))) (g := (mkF m 6 #[.val (.int xa), .val (.int xb), .val (.long xl), .second, .val (.int xm), .unset, .unset, .unset, .unset, .unset, .unset, .unset, .unset] [(.int (xa &&& (2147483647 : Int32))), (.int (10 : Int32))])) rfl (hb hby at_6) _ ?_
    show Steps p.tables e below (s₁.setTop (mkF m 8 #[.val (.int xa), .val (.int xb), .val (.long xl), .second, .val (.int xm), .unset, .unset, .unset, .unset, .unset, .unset, .unset, .unset] [(.int (59991 : Int32)), (.int (xa &&& (2147483647 : Int32))), (.int (10 : Int32))])) _
    refine iremM X0 hx rfl (hb hby at_8) rfl (by decide) ?_
    show Steps p.tables e below (s₁.setTop (mkF m 9 #[.val (.int xa), .val (.int xb), .val (.long xl), .second, .val (.int xm), .unset, .unset, .unset, .unset, .unset, .unset, .unset, .unset] [(.int ((xa &&& (2147483647 : Int32)) % (59991 : Int32))), (.int (10 : Int32))])) _
    refine XS.iadd X0.here hx rfl (hb hby at_9) rfl ?_
    show Steps p.tables e below (s₁.setTop (mkF m 10 #[.val (.int xa), .val (.int xb), .val (.long xl), .second, .val (.int xm), .unset, .unset, .unset, .unset, .unset, .unset, .unset, .unset] [(.int ((10 : Int32) + ((xa &&& (2147483647 : Int32)) % (59991 : Int32))))])) _
    refine XS.istore X0.here hx rfl (hb hby at_10) rfl (l' := #[.val (.int xa), .val (.int xb), .val (.long xl), .second, .val (.int xm), .val (.int ((10 : Int32) + ((xa &&& (2147483647 : Int32)) % (59991 : Int32)))), .unset, .unset, .unset, .unset, .unset, .unset, .unset]) rfl ?_
    show Steps p.tables e below (s₁.setTop (mkF m 12 #[.val (.int xa), .val (.int xb), .val (.long xl), .second, .val (.int xm), .val (.int ((10 : Int32) + ((xa &&& (2147483647 : Int32)) % (59991 : Int32)))), .unset, .unset, .unset, .unset, .unset, .unset, .unset] [])) _
    exact k
  obtain ⟨hbt, hhbt⟩ : ∃ z : Int32, z = ((10 : Int32) + ((xa &&& (2147483647 : Int32)) % (59991 : Int32))) := ⟨_, rfl⟩
  rw [← hhbt] at pre1
  have pre2 : ∀ t, Steps p.tables e below (s₁.setTop (mkF m 18 #[.val (.int xa), .val (.int xb), .val (.long xl), .second, .val (.int xm), .val (.int hbt), .val (.int ((4 : Int32) * hbt)), .unset, .unset, .unset, .unset, .unset, .unset] [])) t → Steps p.tables e below (s₁.setTop (entryFrame m #[(.int xa), (.int xb), (.long xl), (.int xm)] maxLocals)) t := by
    intro t k
    refine pre1 t ?_
    refine XS.iconst X0.here hx rfl (hb hby at_12) ?_
    show Steps p.tables e below (s₁.setTop (mkF m 13 #[.val (.int xa), .val (.int xb), .val (.long xl), .second, .val (.int xm), .val (.int hbt), .unset, .unset, .unset, .unset, .unset, .unset, .unset] [(.int (4 : Int32))])) _
    refine XS.iload X0.here hx rfl (hb hby at_13) rfl ?_
    show Steps p.tables e below (s₁.setTop (mkF m 15 #[.val (.int xa), .val (.int xb), .val (.long xl), .second, .val (.int xm), .val (.int hbt), .unset, .unset, .unset, .unset, .unset, .unset, .unset] [(.int hbt), (.int (4 : Int32))])) _
    refine XS.imul X0.here hx rfl (hb hby at_15) rfl ?_
    show Steps p.tables e below (s₁.setTop (mkF m 16 #[.val (.int xa), .val (.int xb), .val (.long xl), .second, .val (.int xm), .val (.int hbt), .unset, .unset, .unset, .unset, .unset, .unset, .unset] [(.int ((4 : Int32) * hbt))])) _
    refine XS.istore X0.here hx rfl (hb hby at_16) rfl (l' := #[.val (.int xa), .val (.int xb), .val (.long xl), .second, .val (.int xm), .val (.int hbt), .val (.int ((4 : Int32) * hbt)), .unset, .unset, .unset, .unset, .unset, .unset]) rfl ?_
    show Steps p.tables e below (s₁.setTop (mkF m 18 #[.val (.int xa), .val (.int xb), .val (.long xl), .second, .val (.int xm), .val (.int hbt), .val (.int ((4 : Int32) * hbt)), .unset, .unset, .unset, .unset, .unset, .unset] [])) _
    exact k
  obtain ⟨lo, hlo⟩ : ∃ z : Int32, z = ((4 : Int32) * hbt) := ⟨_, rfl⟩
  rw [← hlo] at pre2
  have pre3 : ∀ t, Steps p.tables e below (s₁.setTop (mkF m 35 #[.val (.int xa), .val (.int xb), .val (.long xl), .second, .val (.int xm), .val (.int hbt), .val (.int lo), .val (.int (lo + ((xb &&& (2147483647 : Int32)) % (((600000 : Int32) - lo) + (1 : Int32))))), .unset, .unset, .unset, .unset, .unset] [])) t → Steps p.tables e below (s₁.setTop (entryFrame m #[(.int xa), (.int xb), (.long xl), (.int xm)] maxLocals)) t := by
    intro t k
    refine pre2 t ?_
    refine XS.iload X0.here hx rfl (hb hby at_18) rfl ?_
    show Steps p.tables e below (s₁.setTop (mkF m 20 #[.val (.int xa), .val (.int xb), .val (.long xl), .second, .val (.int xm), .val (.int hbt), .val (.int lo), .unset, .unset, .unset, .unset, .unset, .unset] [(.int lo)])) _
    refine XS.iloadN X0.here hx rfl (hb hby at_20) rfl ?_
    show Steps p.tables e below (s₁.setTop (mkF m 21 #[.val (.int xa), .val (.int xb), .val (.long xl), .second, .val (.int xm), .val (.int hbt), .val (.int lo), .unset, .unset, .unset, .unset, .unset, .unset] [(.int xb), (.int lo)])) _
    refine X0.ldcInt hx hown (mvT hZ (hw _ (List.mem_of_getElem? (i := 0) rfl))) (g := (mkF m 21 #[.val (.int xa), .val (.int xb), .val (.long xl), .second, .val (.int xm), .val (.int hbt), .val (.int lo), .unset, .unset, .unset, .unset, .unset, .unset] [(.int xb), (.int lo)])) rfl (hb hby at_21) _ ?_
    show Steps p.tables e below (s₁.setTop (mkF m 23 #[.val (.int xa), .val (.int xb), .val (.long xl), .second, .val (.int xm), .val (.int hbt), .val (.int lo), .unset, .unset, .unset, .unset, .unset, .unset] [(.int (2147483647 : Int32)), (.int xb), (.int lo)])) _
    refine XS.iand X0.here hx rfl (hb hby at_23) rfl ?_
    show Steps p.tables e below (s₁.setTop (mkF m 24 #[.val (.int xa), .val (.int xb), .val (.long xl), .second, .val (.int xm), .val (.int hbt), .val (.int lo), .unset, .unset, .unset, .unset, .unset, .unset] [(.int (xb &&& (2147483647 : Int32))), (.int lo)])) _
    refine X0.ldcInt hx hown (mvT hZ (hw _ (List.mem_of_getElem? (i := 2) rfl))) (g := (mkF m 24 #[.val (.int xa), .val (.int xb), .val (.long xl), .second, .val (.int xm), .val (.int hbt), .val (.int lo), .unset, .unset, .unset, .unset, .unset, .unset] [(.int (xb &&& (2147483647 : Int32))), (.int lo)])) rfl (hb hby at_24) _ ?_
    show Steps p.tables e below (s₁.setTop (mkF m 26 #[.val (.int xa), .val (.int xb), .val (.long xl), .second, .val (.int xm), .val (.int hbt), .val (.int lo), .unset, .unset, .unset, .unset, .unset, .unset] [(.int (600000 : Int32)), (.int (xb &&& (2147483647 : Int32))), (.int lo)])) _
    refine XS.iload X0.here hx rfl (hb hby at_26) rfl ?_
    show Steps p.tables e below (s₁.setTop (mkF m 28 #[.val (.int xa), .val (.int xb), .val (.long xl), .second, .val (.int xm), .val (.int hbt), .val (.int lo), .unset, .unset, .unset, .unset, .unset, .unset] [(.int lo), (.int (600000 : Int32)), (.int (xb &&& (2147483647 : Int32))), (.int lo)])) _
    refine XS.isub X0.here hx rfl (hb hby at_28) rfl ?_
    show Steps p.tables e below (s₁.setTop (mkF m 29 #[.val (.int xa), .val (.int xb), .val (.long xl), .second, .val (.int xm), .val (.int hbt), .val (.int lo), .unset, .unset, .unset, .unset, .unset, .unset] [(.int ((600000 : Int32) - lo)), (.int (xb &&& (2147483647 : Int32))), (.int lo)])) _
    refine XS.iconst X0.here hx rfl (hb hby at_29) ?_
    show Steps p.tables e below (s₁.setTop (mkF m 30 #[.val (.int xa), .val (.int xb), .val (.long xl), .second, .val (.int xm), .val (.int hbt), .val (.int lo), .unset, .unset, .unset, .unset, .unset, .unset] [(.int (1 : Int32)), (.int ((600000 : Int32) - lo)), (.int (xb &&& (2147483647 : Int32))), (.int lo)])) _
    refine XS.iadd X0.here hx rfl (hb hby at_30) rfl ?_
    show Steps p.tables e below (s₁.setTop (mkF m 31 #[.val (.int xa), .val (.int xb), .val (.long xl), .second, .val (.int xm), .val (.int hbt), .val (.int lo), .unset, .unset, .unset, .unset, .unset, .unset] [(.int (((600000 : Int32) - lo) + (1 : Int32))), (.int (xb &&& (2147483647 : Int32))), (.int lo)])) _
    refine iremM X0 hx rfl (hb hby at_31) rfl (own_nz xa hbt lo hhbt hlo) ?_
    show Steps p.tables e below (s₁.setTop (mkF m 32 #[.val (.int xa), .val (.int xb), .val (.long xl), .second, .val (.int xm), .val (.int hbt), .val (.int lo), .unset, .unset, .unset, .unset, .unset, .unset] [(.int ((xb &&& (2147483647 : Int32)) % (((600000 : Int32) - lo) + (1 : Int32)))), (.int lo)])) _
    refine XS.iadd X0.here hx rfl (hb hby at_32) rfl ?_
    show Steps p.tables e below (s₁.setTop (mkF m 33 #[.val (.int xa), .val (.int xb), .val (.long xl), .second, .val (.int xm), .val (.int hbt), .val (.int lo), .unset, .unset, .unset, .unset, .unset, .unset] [(.int (lo + ((xb &&& (2147483647 : Int32)) % (((600000 : Int32) - lo) + (1 : Int32)))))])) _
    refine XS.istore X0.here hx rfl (hb hby at_33) rfl (l' := #[.val (.int xa), .val (.int xb), .val (.long xl), .second, .val (.int xm), .val (.int hbt), .val (.int lo), .val (.int (lo + ((xb &&& (2147483647 : Int32)) % (((600000 : Int32) - lo) + (1 : Int32))))), .unset, .unset, .unset, .unset, .unset]) rfl ?_
    show Steps p.tables e below (s₁.setTop (mkF m 35 #[.val (.int xa), .val (.int xb), .val (.long xl), .second, .val (.int xm), .val (.int hbt), .val (.int lo), .val (.int (lo + ((xb &&& (2147483647 : Int32)) % (((600000 : Int32) - lo) + (1 : Int32))))), .unset, .unset, .unset, .unset, .unset] [])) _
    exact k
  obtain ⟨fm, hfm⟩ : ∃ z : Int32, z = (lo + ((xb &&& (2147483647 : Int32)) % (((600000 : Int32) - lo) + (1 : Int32)))) := ⟨_, rfl⟩
  rw [← hfm] at pre3
  obtain ⟨T4, h4, X4, e4, E4, A4, D4, -, st4⟩ := newO X0 hx hZ hown (hw _ (List.mem_of_getElem? (i := 3) rfl)) (hw _ (List.mem_of_getElem? (i := 4) rfl)) (hw _ (List.mem_of_getElem? (i := 5) rfl)) e0 (g := (mkF m 35 #[.val (.int xa), .val (.int xb), .val (.long xl), .second, .val (.int xm), .val (.int hbt), .val (.int lo), .val (.int fm), .unset, .unset, .unset, .unset, .unset] [])) rfl (hb hby at_35) (by decide) (by decide)
  obtain ⟨b4, g4⟩ : ∃ z, z = h0.size := ⟨_, rfl⟩
  rw [← g4] at A4 D4 st4
  have g_b4 : n0 ≤ b4 := Nat.le_trans Z0 (Nat.le_of_eq g4.symm)
  have sz_b4 : h0.size ≤ b4 := Nat.le_trans (Keep.refl h0 ([] : List Addr)).1 (Nat.le_of_eq g4.symm)
  have K4 : Keep h0 h4 ([] : List Addr) := (Keep.refl h0 ([] : List Addr)).ext E4
  have z4 : n0 ≤ h4.size := Nat.le_trans Z0 K4.1
  have F_heartbeatMillis_b4 : Fld Z h4 b4 "com/example/narrow_gate/narrowgate/node/FailureDetection" "heartbeatMillis" "I" (.int (0 : Int32)) := D4 (Or.inr (hw _ (List.mem_of_getElem? (i := 32) rfl))) (ty := .int) (by decide)
  have F_failureMillis_b4 : Fld Z h4 b4 "com/example/narrow_gate/narrowgate/node/FailureDetection" "failureMillis" "I" (.int (0 : Int32)) := D4 (Or.inr (hw _ (List.mem_of_getElem? (i := 34) rfl))) (ty := .int) (by decide)
  have pre5 : ∀ t, Steps p.tables e below (T4.setTop (mkF m 38 #[.val (.int xa), .val (.int xb), .val (.long xl), .second, .val (.int xm), .val (.int hbt), .val (.int lo), .val (.int fm), .unset, .unset, .unset, .unset, .unset] [(.ref b4)])) t → Steps p.tables e below (s₁.setTop (entryFrame m #[(.int xa), (.int xb), (.long xl), (.int xm)] maxLocals)) t := fun t k => pre3 t (st4 t k)
  have pre6 : ∀ t, Steps p.tables e below (T4.setTop (mkF m 43 #[.val (.int xa), .val (.int xb), .val (.long xl), .second, .val (.int xm), .val (.int hbt), .val (.int lo), .val (.int fm), .unset, .unset, .unset, .unset, .unset] [(.int fm), (.int hbt), (.ref b4), (.ref b4)])) t → Steps p.tables e below (s₁.setTop (entryFrame m #[(.int xa), (.int xb), (.long xl), (.int xm)] maxLocals)) t := by
    intro t k
    refine pre5 t ?_
    refine XS.dup X4.here hx rfl (hb hby at_38) rfl rfl ?_
    show Steps p.tables e below (T4.setTop (mkF m 39 #[.val (.int xa), .val (.int xb), .val (.long xl), .second, .val (.int xm), .val (.int hbt), .val (.int lo), .val (.int fm), .unset, .unset, .unset, .unset, .unset] [(.ref b4), (.ref b4)])) _
    refine XS.iload X4.here hx rfl (hb hby at_39) rfl ?_
    show Steps p.tables e below (T4.setTop (mkF m 41 #[.val (.int xa), .val (.int xb), .val (.long xl), .second, .val (.int xm), .val (.int hbt), .val (.int lo), .val (.int fm), .unset, .unset, .unset, .unset, .unset] [(.int hbt), (.ref b4), (.ref b4)])) _
    refine XS.iload X4.here hx rfl (hb hby at_41) rfl ?_
    show Steps p.tables e below (T4.setTop (mkF m 43 #[.val (.int xa), .val (.int xb), .val (.long xl), .second, .val (.int xm), .val (.int hbt), .val (.int lo), .val (.int fm), .unset, .unset, .unset, .unset, .unset] [(.int fm), (.int hbt), (.ref b4), (.ref b4)])) _
    exact k
  have f7 := (SH.ext E4)
  have f8 := (SF.ext E4)
  have f9 := (EH.ext E4)
  have f10 := (EF.ext E4)
  have f11 := (FH0.ext E4)
  have f12 := (FH1.ext E4)
  have f13 := (FF0.ext E4)
  have f14 := (FF1.ext E4)
  obtain ⟨_, _, ⟨T15, L15, k15, n15⟩, -, X15, ⟨Lc15, hQ15, l15, y15, z15⟩, st15⟩ := X4.specialBack hx (y := (⟨"com/example/narrow_gate/narrowgate/node/FailureDetection", "<init>", "(II)V"⟩ : MethodName)) rfl hown (mvT hZ (hw _ (List.mem_of_getElem? (i := 6) rfl))) (mvT hZ (hw _ (List.mem_of_getElem? (i := 7) rfl))) (mvT hZ (hw _ (List.mem_of_getElem? (i := 8) rfl))) (by decide) (backOf (W := 1) (rm_init l Z a0 hw [] b4 hbt fm wh wf h4 n0 z4 A4 (g_b4) F_heartbeatMillis_b4 F_failureMillis_b4 f7 f8 f9 f10 f11 f12 f13 f14 ((own_b xa xb hbt lo fm hhbt hlo hfm).1) ((own_b xa xb hbt lo fm hhbt hlo hfm).2.1) ((own_b xa xb hbt lo fm hhbt hlo hfm).2.2.1) ((own_b xa xb hbt lo fm hhbt hlo hfm).2.2.2.1) ((own_b xa xb hbt lo fm hhbt hlo hfm).2.2.2.2.1)) hZ (hw _ (List.mem_of_getElem? (i := 8) rfl)) (hw _ (List.mem_of_getElem? (i := 5) rfl)) (by decide) (by decide)) (g := (mkF m 43 #[.val (.int xa), .val (.int xb), .val (.long xl), .second, .val (.int xm), .val (.int hbt), .val (.int lo), .val (.int fm), .unset, .unset, .unset, .unset, .unset] [(.int fm), (.int hbt), (.ref b4), (.ref b4)])) rfl (by rw [hml]; rfl) (Steps.refl _) (a := b4) (argsL := [(.int hbt), (.int fm)]) (rest := [(.ref b4)]) (lenOf pd3 rfl) rfl (by show 2 * 0 + _ ≤ _; exact Nat.le_of_eq rfl) (hb hby at_43) (fun _ _ => ⟨rfl, e4, (by decide : 1 + 0 ≤ _), (by decide : 2 + 0 ≤ _)⟩)
  dsimp only [Pt.U, Pt.locs, Pt.cells, Pt.slots] at X15 l15 y15 z15 st15 hQ15
  subst l15 y15 z15
  obtain ⟨rfl, M15, kp15, f15_0, f15_1, f15_2⟩ := hQ15
  have K15 : Keep h0 T15.heap ([] : List Addr) := K4.trans kp15 (allS (P := fun x => x ∈ ([] : List Addr) ∨ h0.size ≤ x) (Or.inr sz_b4) all0)
  have zz15 : n0 ≤ T15.heap.size := Nat.le_trans Z0 K15.1
  have N15 := Fr.app N0 M15
  have pre16 : ∀ t, Steps p.tables e below (T15.setTop (mkF m 46 #[.val (.int xa), .val (.int xb), .val (.long xl), .second, .val (.int xm), .val (.int hbt), .val (.int lo), .val (.int fm), .unset, .unset, .unset, .unset, .unset] [(.ref b4)])) t → Steps p.tables e below (s₁.setTop (entryFrame m #[(.int xa), (.int xb), (.long xl), (.int xm)] maxLocals)) t := fun t k => pre6 t (st15.trans k)
  have pre17 : ∀ t, Steps p.tables e below (T15.setTop (mkF m 52 #[.val (.int xa), .val (.int xb), .val (.long xl), .second, .val (.int xm), .val (.int hbt), .val (.int lo), .val (.int fm), .val (.ref b4), .unset, .unset, .unset, .unset] [(.int (xm &&& (1 : Int32)))])) t → Steps p.tables e below (s₁.setTop (entryFrame m #[(.int xa), (.int xb), (.long xl), (.int xm)] maxLocals)) t := by
    intro t k
    refine pre16 t ?_
    refine XS.astore X15.here hx rfl (hb hby at_46) rfl rfl (l' := #[.val (.int xa), .val (.int xb), .val (.long xl), .second, .val (.int xm), .val (.int hbt), .val (.int lo), .val (.int fm), .val (.ref b4), .unset, .unset, .unset, .unset]) rfl ?_
    show Steps p.tables e below (T15.setTop (mkF m 48 #[.val (.int xa), .val (.int xb), .val (.long xl), .second, .val (.int xm), .val (.int hbt), .val (.int lo), .val (.int fm), .val (.ref b4), .unset, .unset, .unset, .unset] [])) _
    refine XS.iload X15.here hx rfl (hb hby at_48) rfl ?_
    show Steps p.tables e below (T15.setTop (mkF m 50 #[.val (.int xa), .val (.int xb), .val (.long xl), .second, .val (.int xm), .val (.int hbt), .val (.int lo), .val (.int fm), .val (.ref b4), .unset, .unset, .unset, .unset] [(.int xm)])) _
    refine XS.iconst X15.here hx rfl (hb hby at_50) ?_
    show Steps p.tables e below (T15.setTop (mkF m 51 #[.val (.int xa), .val (.int xb), .val (.long xl), .second, .val (.int xm), .val (.int hbt), .val (.int lo), .val (.int fm), .val (.ref b4), .unset, .unset, .unset, .unset] [(.int (1 : Int32)), (.int xm)])) _
    refine XS.iand X15.here hx rfl (hb hby at_51) rfl ?_
    show Steps p.tables e below (T15.setTop (mkF m 52 #[.val (.int xa), .val (.int xb), .val (.long xl), .second, .val (.int xm), .val (.int hbt), .val (.int lo), .val (.int fm), .val (.ref b4), .unset, .unset, .unset, .unset] [(.int (xm &&& (1 : Int32)))])) _
    exact k
  obtain ⟨v52, hv52⟩ : ∃ z : Int64, z = (if (xm &&& (1 : Int32)) = (0 : Int32) then xl else (((fm >>> ((1 : Int32) &&& 31)).toInt64) + (xl - (xl / (3 : Int64)) * (3 : Int64)))) := ⟨_, rfl⟩
  have pre18 : ∀ t, Steps p.tables e below (T15.setTop (mkF m 74 #[.val (.int xa), .val (.int xb), .val (.long xl), .second, .val (.int xm), .val (.int hbt), .val (.int lo), .val (.int fm), .val (.ref b4), .val (.long v52), .second, .unset, .unset] [])) t → Steps p.tables e below (s₁.setTop (entryFrame m #[(.int xa), (.int xb), (.long xl), (.int xm)] maxLocals)) t := by
    intro t k
    refine pre17 t ?_
    by_cases hc52 : (xm &&& (1 : Int32)) = (0 : Int32)
    · refine XS.ifNo X15.here hx rfl (hb hby at_52) rfl ((if0 _ _).trans (teq hc52).2) ?_
      show Steps p.tables e below (T15.setTop (mkF m 55 #[.val (.int xa), .val (.int xb), .val (.long xl), .second, .val (.int xm), .val (.int hbt), .val (.int lo), .val (.int fm), .val (.ref b4), .unset, .unset, .unset, .unset] [])) _
      refine XS.lloadN X15.here hx rfl (hb hby at_55) rfl ?_
      show Steps p.tables e below (T15.setTop (mkF m 56 #[.val (.int xa), .val (.int xb), .val (.long xl), .second, .val (.int xm), .val (.int hbt), .val (.int lo), .val (.int fm), .val (.ref b4), .unset, .unset, .unset, .unset] [(.long xl)])) _
      refine XS.lstore X15.here hx rfl (hb hby at_56) rfl (l' := #[.val (.int xa), .val (.int xb), .val (.long xl), .second, .val (.int xm), .val (.int hbt), .val (.int lo), .val (.int fm), .val (.ref b4), .val (.long xl), .second, .unset, .unset]) rfl ?_
      show Steps p.tables e below (T15.setTop (mkF m 58 #[.val (.int xa), .val (.int xb), .val (.long xl), .second, .val (.int xm), .val (.int hbt), .val (.int lo), .val (.int fm), .val (.ref b4), .val (.long xl), .second, .unset, .unset] [])) _
      refine XS.goto X15.here hx rfl (pc0 := 58) (pc' := 74) rfl (hb hby at_58) (by decide) (by decide) ?_
      show Steps p.tables e below (T15.setTop (mkF m 74 #[.val (.int xa), .val (.int xb), .val (.long xl), .second, .val (.int xm), .val (.int hbt), .val (.int lo), .val (.int fm), .val (.ref b4), .val (.long xl), .second, .unset, .unset] [])) _
      rw [show v52 = xl from by rw [hv52, if_pos hc52]] at k
      exact k
    · refine XS.ifYes X15.here hx rfl (pc0 := 52) (pc' := 61) rfl (hb hby at_52) rfl ((if0 _ _).trans (feq hc52).2) (by decide) (by decide) ?_
      show Steps p.tables e below (T15.setTop (mkF m 61 #[.val (.int xa), .val (.int xb), .val (.long xl), .second, .val (.int xm), .val (.int hbt), .val (.int lo), .val (.int fm), .val (.ref b4), .unset, .unset, .unset, .unset] [])) _
      refine XS.iload X15.here hx rfl (hb hby at_61) rfl ?_
      show Steps p.tables e below (T15.setTop (mkF m 63 #[.val (.int xa), .val (.int xb), .val (.long xl), .second, .val (.int xm), .val (.int hbt), .val (.int lo), .val (.int fm), .val (.ref b4), .unset, .unset, .unset, .unset] [(.int fm)])) _
      refine XS.iconst X15.here hx rfl (hb hby at_63) ?_
      show Steps p.tables e below (T15.setTop (mkF m 64 #[.val (.int xa), .val (.int xb), .val (.long xl), .second, .val (.int xm), .val (.int hbt), .val (.int lo), .val (.int fm), .val (.ref b4), .unset, .unset, .unset, .unset] [(.int (1 : Int32)), (.int fm)])) _
      refine XS.ishr X15.here hx rfl (hb hby at_64) rfl ?_
      show Steps p.tables e below (T15.setTop (mkF m 65 #[.val (.int xa), .val (.int xb), .val (.long xl), .second, .val (.int xm), .val (.int hbt), .val (.int lo), .val (.int fm), .val (.ref b4), .unset, .unset, .unset, .unset] [(.int (fm >>> ((1 : Int32) &&& 31)))])) _
      refine XS.i2l X15.here hx rfl (hb hby at_65) rfl ?_
      show Steps p.tables e below (T15.setTop (mkF m 66 #[.val (.int xa), .val (.int xb), .val (.long xl), .second, .val (.int xm), .val (.int hbt), .val (.int lo), .val (.int fm), .val (.ref b4), .unset, .unset, .unset, .unset] [(.long ((fm >>> ((1 : Int32) &&& 31)).toInt64))])) _
      refine XS.lloadN X15.here hx rfl (hb hby at_66) rfl ?_
      show Steps p.tables e below (T15.setTop (mkF m 67 #[.val (.int xa), .val (.int xb), .val (.long xl), .second, .val (.int xm), .val (.int hbt), .val (.int lo), .val (.int fm), .val (.ref b4), .unset, .unset, .unset, .unset] [(.long xl), (.long ((fm >>> ((1 : Int32) &&& 31)).toInt64))])) _
      refine X15.ldc2Long hx hown (mvT hZ (hw _ (List.mem_of_getElem? (i := 47) rfl))) (g := (mkF m 67 #[.val (.int xa), .val (.int xb), .val (.long xl), .second, .val (.int xm), .val (.int hbt), .val (.int lo), .val (.int fm), .val (.ref b4), .unset, .unset, .unset, .unset] [(.long xl), (.long ((fm >>> ((1 : Int32) &&& 31)).toInt64))])) rfl (hb hby at_67) _ ?_
      show Steps p.tables e below (T15.setTop (mkF m 70 #[.val (.int xa), .val (.int xb), .val (.long xl), .second, .val (.int xm), .val (.int hbt), .val (.int lo), .val (.int fm), .val (.ref b4), .unset, .unset, .unset, .unset] [(.long (3 : Int64)), (.long xl), (.long ((fm >>> ((1 : Int32) &&& 31)).toInt64))])) _
      refine XS.lrem X15.here hx rfl (hb hby at_70) rfl (by decide) ?_
      show Steps p.tables e below (T15.setTop (mkF m 71 #[.val (.int xa), .val (.int xb), .val (.long xl), .second, .val (.int xm), .val (.int hbt), .val (.int lo), .val (.int fm), .val (.ref b4), .unset, .unset, .unset, .unset] [(.long (xl - (xl / (3 : Int64)) * (3 : Int64))), (.long ((fm >>> ((1 : Int32) &&& 31)).toInt64))])) _
      refine XS.ladd X15.here hx rfl (hb hby at_71) rfl ?_
      show Steps p.tables e below (T15.setTop (mkF m 72 #[.val (.int xa), .val (.int xb), .val (.long xl), .second, .val (.int xm), .val (.int hbt), .val (.int lo), .val (.int fm), .val (.ref b4), .unset, .unset, .unset, .unset] [(.long (((fm >>> ((1 : Int32) &&& 31)).toInt64) + (xl - (xl / (3 : Int64)) * (3 : Int64))))])) _
      refine XS.lstore X15.here hx rfl (hb hby at_72) rfl (l' := #[.val (.int xa), .val (.int xb), .val (.long xl), .second, .val (.int xm), .val (.int hbt), .val (.int lo), .val (.int fm), .val (.ref b4), .val (.long (((fm >>> ((1 : Int32) &&& 31)).toInt64) + (xl - (xl / (3 : Int64)) * (3 : Int64)))), .second, .unset, .unset]) rfl ?_
      show Steps p.tables e below (T15.setTop (mkF m 74 #[.val (.int xa), .val (.int xb), .val (.long xl), .second, .val (.int xm), .val (.int hbt), .val (.int lo), .val (.int fm), .val (.ref b4), .val (.long (((fm >>> ((1 : Int32) &&& 31)).toInt64) + (xl - (xl / (3 : Int64)) * (3 : Int64)))), .second, .unset, .unset] [])) _
      rw [show v52 = (((fm >>> ((1 : Int32) &&& 31)).toInt64) + (xl - (xl / (3 : Int64)) * (3 : Int64))) from by rw [hv52, if_neg hc52]] at k
      exact k
  have pre19 : ∀ t, Steps p.tables e below (T15.setTop (mkF m 78 #[.val (.int xa), .val (.int xb), .val (.long xl), .second, .val (.int xm), .val (.int hbt), .val (.int lo), .val (.int fm), .val (.ref b4), .val (.long v52), .second, .unset, .unset] [(.long v52), (.ref b4)])) t → Steps p.tables e below (s₁.setTop (entryFrame m #[(.int xa), (.int xb), (.long xl), (.int xm)] maxLocals)) t := by
    intro t k
    refine pre18 t ?_
    refine XS.aload X15.here hx rfl (hb hby at_74) rfl rfl ?_
    show Steps p.tables e below (T15.setTop (mkF m 76 #[.val (.int xa), .val (.int xb), .val (.long xl), .second, .val (.int xm), .val (.int hbt), .val (.int lo), .val (.int fm), .val (.ref b4), .val (.long v52), .second, .unset, .unset] [(.ref b4)])) _
    refine XS.lload X15.here hx rfl (hb hby at_76) rfl ?_
    show Steps p.tables e below (T15.setTop (mkF m 78 #[.val (.int xa), .val (.int xb), .val (.long xl), .second, .val (.int xm), .val (.int hbt), .val (.int lo), .val (.int fm), .val (.ref b4), .val (.long v52), .second, .unset, .unset] [(.long v52), (.ref b4)])) _
    exact k
  obtain ⟨cq20, kq20, q20a, q20b, q20c⟩ := isOf hZ rfl f15_0
  obtain ⟨_, _, ⟨T20, L20, k20, n20⟩, -, X20, ⟨Lc20, hQ20, l20, y20, z20⟩, st20⟩ := X15.virtualBack hx (y := (⟨"com/example/narrow_gate/narrowgate/node/FailureDetection", "mayHaveBeenTakenForDead", "(J)Z"⟩ : MethodName)) (z := (⟨"com/example/narrow_gate/narrowgate/node/FailureDetection", "mayHaveBeenTakenForDead", "(J)Z"⟩ : MethodName)) hown (mvT hZ (hw _ (List.mem_of_getElem? (i := 35) rfl))) (mvT hZ (hw _ (List.mem_of_getElem? (i := 36) rfl))) (notFace_of_selects (args := #[]) (mvT hZ (hw _ (List.mem_of_getElem? (i := 38) rfl)))) (mvT hZ (hw _ (List.mem_of_getElem? (i := 38) rfl))) (mvT hZ (hw _ (List.mem_of_getElem? (i := 37) rfl))) (by decide) (backOf (W := 0) (rm_may l Z a0 hw [] b4 v52 fm T15.heap n0 zz15 f15_2 f15_0) hZ (hw _ (List.mem_of_getElem? (i := 39) rfl)) (hw _ (List.mem_of_getElem? (i := 5) rfl)) (by decide) (by decide)) q20a q20c (g := (mkF m 78 #[.val (.int xa), .val (.int xb), .val (.long xl), .second, .val (.int xm), .val (.int hbt), .val (.int lo), .val (.int fm), .val (.ref b4), .val (.long v52), .second, .unset, .unset] [(.long v52), (.ref b4)])) rfl (by rw [hml]; rfl) (Steps.refl _) (argsL := [(.long v52)]) (rest := []) (lenOf pd4 rfl) rfl (by show 2 * 0 + _ ≤ _; exact Nat.le_of_eq rfl) (hb hby at_78) (fun _ _ => ⟨rfl, rfl, (by decide : 1 + 0 ≤ _), (by decide : 2 + 0 ≤ _)⟩)
  dsimp only [Pt.U, Pt.locs, Pt.cells, Pt.slots] at X20 l20 y20 z20 st20 hQ20
  subst l20 y20 z20
  obtain ⟨rfl, M20, e20⟩ := hQ20
  have N20 := Fr.app N15 M20
  have pre21 : ∀ t, Steps p.tables e below (T20.setTop (mkF m 81 #[.val (.int xa), .val (.int xb), .val (.long xl), .second, .val (.int xm), .val (.int hbt), .val (.int lo), .val (.int fm), .val (.ref b4), .val (.long v52), .second, .unset, .unset] [(.int (F_rm_may v52 fm))])) t → Steps p.tables e below (s₁.setTop (entryFrame m #[(.int xa), (.int xb), (.long xl), (.int xm)] maxLocals)) t := fun t k => pre19 t (st20.trans k)
  have pre22 : ∀ t, Steps p.tables e below (T20.setTop (mkF m 83 #[.val (.int xa), .val (.int xb), .val (.long xl), .second, .val (.int xm), .val (.int hbt), .val (.int lo), .val (.int fm), .val (.ref b4), .val (.long v52), .second, .val (.int (F_rm_may v52 fm)), .unset] [])) t → Steps p.tables e below (s₁.setTop (entryFrame m #[(.int xa), (.int xb), (.long xl), (.int xm)] maxLocals)) t := by
    intro t k
    refine pre21 t ?_
    refine XS.istore X20.here hx rfl (hb hby at_81) rfl (l' := #[.val (.int xa), .val (.int xb), .val (.long xl), .second, .val (.int xm), .val (.int hbt), .val (.int lo), .val (.int fm), .val (.ref b4), .val (.long v52), .second, .val (.int (F_rm_may v52 fm)), .unset]) rfl ?_
    show Steps p.tables e below (T20.setTop (mkF m 83 #[.val (.int xa), .val (.int xb), .val (.long xl), .second, .val (.int xm), .val (.int hbt), .val (.int lo), .val (.int fm), .val (.ref b4), .val (.long v52), .second, .val (.int (F_rm_may v52 fm)), .unset] [])) _
    exact k
  obtain ⟨got, hgot⟩ : ∃ z : Int32, z = (F_rm_may v52 fm) := ⟨_, rfl⟩
  rw [← hgot] at pre22
  have pre23 : ∀ t, Steps p.tables e below (T20.setTop (mkF m 87 #[.val (.int xa), .val (.int xb), .val (.long xl), .second, .val (.int xm), .val (.int hbt), .val (.int lo), .val (.int fm), .val (.ref b4), .val (.long v52), .second, .val (.int got), .unset] [(.int (lcmpW v52 (0 : Int64)))])) t → Steps p.tables e below (s₁.setTop (entryFrame m #[(.int xa), (.int xb), (.long xl), (.int xm)] maxLocals)) t := by
    intro t k
    refine pre22 t ?_
    refine XS.lload X20.here hx rfl (hb hby at_83) rfl ?_
    show Steps p.tables e below (T20.setTop (mkF m 85 #[.val (.int xa), .val (.int xb), .val (.long xl), .second, .val (.int xm), .val (.int hbt), .val (.int lo), .val (.int fm), .val (.ref b4), .val (.long v52), .second, .val (.int got), .unset] [(.long v52)])) _
    refine XS.lconst X20.here hx rfl (hb hby at_85) ?_
    show Steps p.tables e below (T20.setTop (mkF m 86 #[.val (.int xa), .val (.int xb), .val (.long xl), .second, .val (.int xm), .val (.int hbt), .val (.int lo), .val (.int fm), .val (.ref b4), .val (.long v52), .second, .val (.int got), .unset] [(.long (0 : Int64)), (.long v52)])) _
    refine XS.lcmp X20.here hx rfl (hb hby at_86) rfl ?_
    show Steps p.tables e below (T20.setTop (mkF m 87 #[.val (.int xa), .val (.int xb), .val (.long xl), .second, .val (.int xm), .val (.int hbt), .val (.int lo), .val (.int fm), .val (.ref b4), .val (.long v52), .second, .val (.int got), .unset] [(.int (lcmpW v52 (0 : Int64)))])) _
    exact k
  obtain ⟨v87, hv87⟩ : ∃ z : Int32, z = (if v52 < (0 : Int64) then (0 : Int32) else (if (300000 : Int64) < v52 then (1 : Int32) else (if (((2 : Int64) * v52) + (1 : Int64)) < (fm.toInt64) then (0 : Int32) else (1 : Int32)))) := ⟨_, rfl⟩
  have pre24 : ∀ t, Steps p.tables e below (T20.setTop (mkF m 133 #[.val (.int xa), .val (.int xb), .val (.long xl), .second, .val (.int xm), .val (.int hbt), .val (.int lo), .val (.int fm), .val (.ref b4), .val (.long v52), .second, .val (.int got), .val (.int v87)] [])) t → Steps p.tables e below (s₁.setTop (entryFrame m #[(.int xa), (.int xb), (.long xl), (.int xm)] maxLocals)) t := by
    intro t k
    refine pre23 t ?_
    by_cases hc87 : v52 < (0 : Int64)
    · refine XS.ifNo X20.here hx rfl (hb hby at_87) rfl ((if0 _ _).trans (tlt ((lw_lt _ _).mpr hc87)).2.1) ?_
      show Steps p.tables e below (T20.setTop (mkF m 90 #[.val (.int xa), .val (.int xb), .val (.long xl), .second, .val (.int xm), .val (.int hbt), .val (.int lo), .val (.int fm), .val (.ref b4), .val (.long v52), .second, .val (.int got), .unset] [])) _
      refine XS.iconst X20.here hx rfl (hb hby at_90) ?_
      show Steps p.tables e below (T20.setTop (mkF m 91 #[.val (.int xa), .val (.int xb), .val (.long xl), .second, .val (.int xm), .val (.int hbt), .val (.int lo), .val (.int fm), .val (.ref b4), .val (.long v52), .second, .val (.int got), .unset] [(.int (0 : Int32))])) _
      refine XS.istore X20.here hx rfl (hb hby at_91) rfl (l' := #[.val (.int xa), .val (.int xb), .val (.long xl), .second, .val (.int xm), .val (.int hbt), .val (.int lo), .val (.int fm), .val (.ref b4), .val (.long v52), .second, .val (.int got), .val (.int (0 : Int32))]) rfl ?_
      show Steps p.tables e below (T20.setTop (mkF m 93 #[.val (.int xa), .val (.int xb), .val (.long xl), .second, .val (.int xm), .val (.int hbt), .val (.int lo), .val (.int fm), .val (.ref b4), .val (.long v52), .second, .val (.int got), .val (.int (0 : Int32))] [])) _
      refine XS.goto X20.here hx rfl (pc0 := 93) (pc' := 133) rfl (hb hby at_93) (by decide) (by decide) ?_
      show Steps p.tables e below (T20.setTop (mkF m 133 #[.val (.int xa), .val (.int xb), .val (.long xl), .second, .val (.int xm), .val (.int hbt), .val (.int lo), .val (.int fm), .val (.ref b4), .val (.long v52), .second, .val (.int got), .val (.int (0 : Int32))] [])) _
      rw [show v87 = (0 : Int32) from by rw [hv87, if_pos hc87]] at k
      exact k
    · refine XS.ifYes X20.here hx rfl (pc0 := 87) (pc' := 96) rfl (hb hby at_87) rfl ((if0 _ _).trans (flt (mt (lw_lt _ _).mp hc87)).2.1) (by decide) (by decide) ?_
      show Steps p.tables e below (T20.setTop (mkF m 96 #[.val (.int xa), .val (.int xb), .val (.long xl), .second, .val (.int xm), .val (.int hbt), .val (.int lo), .val (.int fm), .val (.ref b4), .val (.long v52), .second, .val (.int got), .unset] [])) _
      refine XS.lload X20.here hx rfl (hb hby at_96) rfl ?_
      show Steps p.tables e below (T20.setTop (mkF m 98 #[.val (.int xa), .val (.int xb), .val (.long xl), .second, .val (.int xm), .val (.int hbt), .val (.int lo), .val (.int fm), .val (.ref b4), .val (.long v52), .second, .val (.int got), .unset] [(.long v52)])) _
      refine X20.ldc2Long hx hown (mvT hZ (hw _ (List.mem_of_getElem? (i := 45) rfl))) (g := (mkF m 98 #[.val (.int xa), .val (.int xb), .val (.long xl), .second, .val (.int xm), .val (.int hbt), .val (.int lo), .val (.int fm), .val (.ref b4), .val (.long v52), .second, .val (.int got), .unset] [(.long v52)])) rfl (hb hby at_98) _ ?_
      show Steps p.tables e below (T20.setTop (mkF m 101 #[.val (.int xa), .val (.int xb), .val (.long xl), .second, .val (.int xm), .val (.int hbt), .val (.int lo), .val (.int fm), .val (.ref b4), .val (.long v52), .second, .val (.int got), .unset] [(.long (300000 : Int64)), (.long v52)])) _
      refine XS.lcmp X20.here hx rfl (hb hby at_101) rfl ?_
      show Steps p.tables e below (T20.setTop (mkF m 102 #[.val (.int xa), .val (.int xb), .val (.long xl), .second, .val (.int xm), .val (.int hbt), .val (.int lo), .val (.int fm), .val (.ref b4), .val (.long v52), .second, .val (.int got), .unset] [(.int (lcmpW v52 (300000 : Int64)))])) _
      by_cases hc102 : (300000 : Int64) < v52
      · refine XS.ifNo X20.here hx rfl (hb hby at_102) rfl ((if0 _ _).trans (tlt ((lw_gt _ _).mpr hc102)).2.2.2) ?_
        show Steps p.tables e below (T20.setTop (mkF m 105 #[.val (.int xa), .val (.int xb), .val (.long xl), .second, .val (.int xm), .val (.int hbt), .val (.int lo), .val (.int fm), .val (.ref b4), .val (.long v52), .second, .val (.int got), .unset] [])) _
        refine XS.iconst X20.here hx rfl (hb hby at_105) ?_
        show Steps p.tables e below (T20.setTop (mkF m 106 #[.val (.int xa), .val (.int xb), .val (.long xl), .second, .val (.int xm), .val (.int hbt), .val (.int lo), .val (.int fm), .val (.ref b4), .val (.long v52), .second, .val (.int got), .unset] [(.int (1 : Int32))])) _
        refine XS.istore X20.here hx rfl (hb hby at_106) rfl (l' := #[.val (.int xa), .val (.int xb), .val (.long xl), .second, .val (.int xm), .val (.int hbt), .val (.int lo), .val (.int fm), .val (.ref b4), .val (.long v52), .second, .val (.int got), .val (.int (1 : Int32))]) rfl ?_
        show Steps p.tables e below (T20.setTop (mkF m 108 #[.val (.int xa), .val (.int xb), .val (.long xl), .second, .val (.int xm), .val (.int hbt), .val (.int lo), .val (.int fm), .val (.ref b4), .val (.long v52), .second, .val (.int got), .val (.int (1 : Int32))] [])) _
        refine XS.goto X20.here hx rfl (pc0 := 108) (pc' := 133) rfl (hb hby at_108) (by decide) (by decide) ?_
        show Steps p.tables e below (T20.setTop (mkF m 133 #[.val (.int xa), .val (.int xb), .val (.long xl), .second, .val (.int xm), .val (.int hbt), .val (.int lo), .val (.int fm), .val (.ref b4), .val (.long v52), .second, .val (.int got), .val (.int (1 : Int32))] [])) _
        rw [show v87 = (1 : Int32) from by rw [hv87, if_neg hc87, if_pos hc102]] at k
        exact k
      · refine XS.ifYes X20.here hx rfl (pc0 := 102) (pc' := 111) rfl (hb hby at_102) rfl ((if0 _ _).trans (flt (mt (lw_gt _ _).mp hc102)).2.2.2) (by decide) (by decide) ?_
        show Steps p.tables e below (T20.setTop (mkF m 111 #[.val (.int xa), .val (.int xb), .val (.long xl), .second, .val (.int xm), .val (.int hbt), .val (.int lo), .val (.int fm), .val (.ref b4), .val (.long v52), .second, .val (.int got), .unset] [])) _
        refine X20.ldc2Long hx hown (mvT hZ (hw _ (List.mem_of_getElem? (i := 46) rfl))) (g := (mkF m 111 #[.val (.int xa), .val (.int xb), .val (.long xl), .second, .val (.int xm), .val (.int hbt), .val (.int lo), .val (.int fm), .val (.ref b4), .val (.long v52), .second, .val (.int got), .unset] [])) rfl (hb hby at_111) _ ?_
        show Steps p.tables e below (T20.setTop (mkF m 114 #[.val (.int xa), .val (.int xb), .val (.long xl), .second, .val (.int xm), .val (.int hbt), .val (.int lo), .val (.int fm), .val (.ref b4), .val (.long v52), .second, .val (.int got), .unset] [(.long (2 : Int64))])) _
        refine XS.lload X20.here hx rfl (hb hby at_114) rfl ?_
        show Steps p.tables e below (T20.setTop (mkF m 116 #[.val (.int xa), .val (.int xb), .val (.long xl), .second, .val (.int xm), .val (.int hbt), .val (.int lo), .val (.int fm), .val (.ref b4), .val (.long v52), .second, .val (.int got), .unset] [(.long v52), (.long (2 : Int64))])) _
        refine XS.lmul X20.here hx rfl (hb hby at_116) rfl ?_
        show Steps p.tables e below (T20.setTop (mkF m 117 #[.val (.int xa), .val (.int xb), .val (.long xl), .second, .val (.int xm), .val (.int hbt), .val (.int lo), .val (.int fm), .val (.ref b4), .val (.long v52), .second, .val (.int got), .unset] [(.long ((2 : Int64) * v52))])) _
        refine XS.lconst X20.here hx rfl (hb hby at_117) ?_
        show Steps p.tables e below (T20.setTop (mkF m 118 #[.val (.int xa), .val (.int xb), .val (.long xl), .second, .val (.int xm), .val (.int hbt), .val (.int lo), .val (.int fm), .val (.ref b4), .val (.long v52), .second, .val (.int got), .unset] [(.long (1 : Int64)), (.long ((2 : Int64) * v52))])) _
        refine XS.ladd X20.here hx rfl (hb hby at_118) rfl ?_
        show Steps p.tables e below (T20.setTop (mkF m 119 #[.val (.int xa), .val (.int xb), .val (.long xl), .second, .val (.int xm), .val (.int hbt), .val (.int lo), .val (.int fm), .val (.ref b4), .val (.long v52), .second, .val (.int got), .unset] [(.long (((2 : Int64) * v52) + (1 : Int64)))])) _
        refine XS.iload X20.here hx rfl (hb hby at_119) rfl ?_
        show Steps p.tables e below (T20.setTop (mkF m 121 #[.val (.int xa), .val (.int xb), .val (.long xl), .second, .val (.int xm), .val (.int hbt), .val (.int lo), .val (.int fm), .val (.ref b4), .val (.long v52), .second, .val (.int got), .unset] [(.int fm), (.long (((2 : Int64) * v52) + (1 : Int64)))])) _
        refine XS.i2l X20.here hx rfl (hb hby at_121) rfl ?_
        show Steps p.tables e below (T20.setTop (mkF m 122 #[.val (.int xa), .val (.int xb), .val (.long xl), .second, .val (.int xm), .val (.int hbt), .val (.int lo), .val (.int fm), .val (.ref b4), .val (.long v52), .second, .val (.int got), .unset] [(.long (fm.toInt64)), (.long (((2 : Int64) * v52) + (1 : Int64)))])) _
        refine XS.lcmp X20.here hx rfl (hb hby at_122) rfl ?_
        show Steps p.tables e below (T20.setTop (mkF m 123 #[.val (.int xa), .val (.int xb), .val (.long xl), .second, .val (.int xm), .val (.int hbt), .val (.int lo), .val (.int fm), .val (.ref b4), .val (.long v52), .second, .val (.int got), .unset] [(.int (lcmpW (((2 : Int64) * v52) + (1 : Int64)) (fm.toInt64)))])) _
        by_cases hc123 : (((2 : Int64) * v52) + (1 : Int64)) < (fm.toInt64)
        · refine XS.ifYes X20.here hx rfl (pc0 := 123) (pc' := 130) rfl (hb hby at_123) rfl ((if0 _ _).trans (tlt ((lw_lt _ _).mpr hc123)).1) (by decide) (by decide) ?_
          show Steps p.tables e below (T20.setTop (mkF m 130 #[.val (.int xa), .val (.int xb), .val (.long xl), .second, .val (.int xm), .val (.int hbt), .val (.int lo), .val (.int fm), .val (.ref b4), .val (.long v52), .second, .val (.int got), .unset] [])) _
          refine XS.iconst X20.here hx rfl (hb hby at_130) ?_
          show Steps p.tables e below (T20.setTop (mkF m 131 #[.val (.int xa), .val (.int xb), .val (.long xl), .second, .val (.int xm), .val (.int hbt), .val (.int lo), .val (.int fm), .val (.ref b4), .val (.long v52), .second, .val (.int got), .unset] [(.int (0 : Int32))])) _
          refine XS.istore X20.here hx rfl (hb hby at_131) rfl (l' := #[.val (.int xa), .val (.int xb), .val (.long xl), .second, .val (.int xm), .val (.int hbt), .val (.int lo), .val (.int fm), .val (.ref b4), .val (.long v52), .second, .val (.int got), .val (.int (0 : Int32))]) rfl ?_
          show Steps p.tables e below (T20.setTop (mkF m 133 #[.val (.int xa), .val (.int xb), .val (.long xl), .second, .val (.int xm), .val (.int hbt), .val (.int lo), .val (.int fm), .val (.ref b4), .val (.long v52), .second, .val (.int got), .val (.int (0 : Int32))] [])) _
          rw [show v87 = (0 : Int32) from by rw [hv87, if_neg hc87, if_neg hc102, if_pos hc123]] at k
          exact k
        · refine XS.ifNo X20.here hx rfl (hb hby at_123) rfl ((if0 _ _).trans (flt (mt (lw_lt _ _).mp hc123)).1) ?_
          show Steps p.tables e below (T20.setTop (mkF m 126 #[.val (.int xa), .val (.int xb), .val (.long xl), .second, .val (.int xm), .val (.int hbt), .val (.int lo), .val (.int fm), .val (.ref b4), .val (.long v52), .second, .val (.int got), .unset] [])) _
          refine XS.iconst X20.here hx rfl (hb hby at_126) ?_
          show Steps p.tables e below (T20.setTop (mkF m 127 #[.val (.int xa), .val (.int xb), .val (.long xl), .second, .val (.int xm), .val (.int hbt), .val (.int lo), .val (.int fm), .val (.ref b4), .val (.long v52), .second, .val (.int got), .unset] [(.int (1 : Int32))])) _
          refine XS.goto X20.here hx rfl (pc0 := 127) (pc' := 131) rfl (hb hby at_127) (by decide) (by decide) ?_
          show Steps p.tables e below (T20.setTop (mkF m 131 #[.val (.int xa), .val (.int xb), .val (.long xl), .second, .val (.int xm), .val (.int hbt), .val (.int lo), .val (.int fm), .val (.ref b4), .val (.long v52), .second, .val (.int got), .unset] [(.int (1 : Int32))])) _
          refine XS.istore X20.here hx rfl (hb hby at_131) rfl (l' := #[.val (.int xa), .val (.int xb), .val (.long xl), .second, .val (.int xm), .val (.int hbt), .val (.int lo), .val (.int fm), .val (.ref b4), .val (.long v52), .second, .val (.int got), .val (.int (1 : Int32))]) rfl ?_
          show Steps p.tables e below (T20.setTop (mkF m 133 #[.val (.int xa), .val (.int xb), .val (.long xl), .second, .val (.int xm), .val (.int hbt), .val (.int lo), .val (.int fm), .val (.ref b4), .val (.long v52), .second, .val (.int got), .val (.int (1 : Int32))] [])) _
          rw [show v87 = (1 : Int32) from by rw [hv87, if_neg hc87, if_neg hc102, if_neg hc123]] at k
          exact k
  have pre25 : ∀ t, Steps p.tables e below (T20.setTop (mkF m 145 #[.val (.int xa), .val (.int xb), .val (.long xl), .second, .val (.int xm), .val (.int hbt), .val (.int lo), .val (.int fm), .val (.ref b4), .val (.long v52), .second, .val (.int got), .val (.int v87)] [(.int (1 : Int32))])) t → Steps p.tables e below (s₁.setTop (entryFrame m #[(.int xa), (.int xb), (.long xl), (.int xm)] maxLocals)) t := by
    intro t k
    refine pre24 t ?_
    refine XS.iload X20.here hx rfl (hb hby at_133) rfl ?_
    show Steps p.tables e below (T20.setTop (mkF m 135 #[.val (.int xa), .val (.int xb), .val (.long xl), .second, .val (.int xm), .val (.int hbt), .val (.int lo), .val (.int fm), .val (.ref b4), .val (.long v52), .second, .val (.int got), .val (.int v87)] [(.int got)])) _
    refine XS.iload X20.here hx rfl (hb hby at_135) rfl ?_
    show Steps p.tables e below (T20.setTop (mkF m 137 #[.val (.int xa), .val (.int xb), .val (.long xl), .second, .val (.int xm), .val (.int hbt), .val (.int lo), .val (.int fm), .val (.ref b4), .val (.long v52), .second, .val (.int got), .val (.int v87)] [(.int v87), (.int got)])) _
    refine XS.icmpNo X20.here hx rfl (hb hby at_137) rfl (teq (show got = v87 from by rw [hgot]; exact own_law v52 fm v87 (Int.le_trans (by have := (own_b0 xa xb hbt lo fm hhbt hlo hfm); omega) (own_b0 xa xb hbt lo fm hhbt hlo hfm).2.2.2.1) (own_b0 xa xb hbt lo fm hhbt hlo hfm).2.2.2.2 hv87)).2 ?_
    show Steps p.tables e below (T20.setTop (mkF m 140 #[.val (.int xa), .val (.int xb), .val (.long xl), .second, .val (.int xm), .val (.int hbt), .val (.int lo), .val (.int fm), .val (.ref b4), .val (.long v52), .second, .val (.int got), .val (.int v87)] [])) _
    refine XS.iconst X20.here hx rfl (hb hby at_140) ?_
    show Steps p.tables e below (T20.setTop (mkF m 141 #[.val (.int xa), .val (.int xb), .val (.long xl), .second, .val (.int xm), .val (.int hbt), .val (.int lo), .val (.int fm), .val (.ref b4), .val (.long v52), .second, .val (.int got), .val (.int v87)] [(.int (1 : Int32))])) _
    refine XS.goto X20.here hx rfl (pc0 := 141) (pc' := 145) rfl (hb hby at_141) (by decide) (by decide) ?_
    show Steps p.tables e below (T20.setTop (mkF m 145 #[.val (.int xa), .val (.int xb), .val (.long xl), .second, .val (.int xm), .val (.int hbt), .val (.int lo), .val (.int fm), .val (.ref b4), .val (.long v52), .second, .val (.int got), .val (.int v87)] [(.int (1 : Int32))])) _
    exact k
  obtain ⟨fs, hr, hrun, hended, hW, hsame⟩ := X20.leave (v := some (.int (1 : Int32))) (fun h => by rw [Bd.returns] at h; cases h)
  refine ⟨_, _, pre25 _ ?_, hrun, hended, _, _, rfl, ?_, ⟨_, rfl⟩, hW, hsame.mono (by decide) (by decide)⟩
  · exact retN X20 hx (t := .boolean) Bd.returns (by simp) (hb hby at_145) hr
  · show Q_rm0 Z xa xb xl xm wh wf h0 n0 _ T20.heap _
    rw [e20]
    exact ⟨rfl, N20⟩
set_option maxRecDepth 65536 in
set_option maxHeartbeats 40000000 in
theorem comes_1 {Post : Tables → Env → Array Value → State → Outcome → State → Prop} (hpost : ∀ tb e args s v u, (limb_1_1.after args s (.returned v) u = true ∧ limb_1_2.after args s (.returned v) u = true ∧ True) → FrameEnd s (.returned v) u (Jvm.fieldLocs frame_1_writes args s ++ Jvm.arrayLocs frame_1_arrays args s ++ Jvm.staticLocs frame_1_statics s) 16 128 → Post tb e args s (.returned v) u) :
    ArmFor flags0 classFile x code maxLocals ret World_1 tables_1 room_1 Calls_1 rest_1 Pre_1 Post := by
  intro l hfl _ _ p e ha hc hk s m args below hf hA hF happ hP
  obtain ⟨hcalls, hrest, hpre⟩ := hP
  obtain ⟨-, -, -, hnamed, -, -, -, hat⟩ := (Spec.applies_iff hf).mp happ
  obtain ⟨hg, hn⟩ := and_e (Cond.before_iff.mp (show (Jvm.Cond.and given_1 narrow_1).before args s = true from hpre))
  obtain ⟨ga1, gb1⟩ := and_e hg
  obtain ⟨ga2, gb2⟩ := and_e gb1
  obtain ⟨ga3, gb3⟩ := and_e gb2
  obtain ⟨ga4, gb4⟩ := and_e gb3
  obtain ⟨w0, w1, w2, w3, rfl⟩ : ∃ w0 w1 w2 w3 : Value, args = #[w0, w1, w2, w3] := by
    have hs : args.size = 4 := by simpa [Cond.value, given_1] using ga1
    obtain ⟨L⟩ := args
    match L, hs with
    | [w0, w1, w2, w3], _ => exact ⟨w0, w1, w2, w3, rfl⟩
  have hw := fun d (hd : d ∈ tables_1) => atoms_spec (ws := Jvm.Cond.code x code maxLocals ret :: tables_1) hat d (List.mem_cons_of_mem _ hd)
  have hfit : Fit s := fun {y c} hc i hi => by
    obtain ⟨ha, rfl⟩ := Array.getElem?_eq_some_iff.mp hc
    have q := List.all_eq_true.mp ((Array.all_eq_true_iff_forall_mem.mp hF) _ (Array.getElem_mem ha)) i (List.mem_range.mpr hi)
    simpa [Array.getElem?_eq_getElem hi] using q
  obtain ⟨i0, ei0⟩ := is_v ga2
  obtain rfl : w0 = (.int i0) := Option.some.inj ei0
  obtain ⟨i1, ei1⟩ := is_v ga3
  obtain rfl : w1 = (.int i1) := Option.some.inj ei1
  obtain ⟨i2, ei2⟩ := isL_v ga4
  obtain rfl : w2 = (.long i2) := Option.some.inj ei2
  obtain ⟨i3, ei3⟩ := is_v gb4
  obtain rfl : w3 = (.int i3) := Option.some.inj ei3
  obtain ⟨na1, nb1⟩ := and_e hn
  obtain ⟨na2, nb2⟩ := and_e nb1
  obtain ⟨na3, nb3⟩ := and_e nb2
  obtain ⟨na4, nb4⟩ := and_e nb3
  obtain ⟨na5, nb5⟩ := and_e nb4
  obtain ⟨w_HEARTBEAT, ew_HEARTBEAT⟩ := exa_v na1
  obtain ⟨w_FAILURE, ew_FAILURE⟩ := exa_v na4
  have En_HEARTBEAT := Exa.start ew_HEARTBEAT na1
  have Sn_HEARTBEAT := Sta.start ew_HEARTBEAT (Or.inr ⟨(hw _ (List.mem_of_getElem? (i := 5) rfl)), (hw _ (List.mem_of_getElem? (i := 18) rfl))⟩)
  have Fn_HEARTBEAT_least := Fld.start (own_fldint na2 ew_HEARTBEAT)
  have Fn_HEARTBEAT_most := Fld.start (own_fldint na3 ew_HEARTBEAT)
  have En_FAILURE := Exa.start ew_FAILURE na4
  have Sn_FAILURE := Sta.start ew_FAILURE (Or.inr ⟨(hw _ (List.mem_of_getElem? (i := 5) rfl)), (hw _ (List.mem_of_getElem? (i := 30) rfl))⟩)
  have Fn_FAILURE_least := Fld.start (own_fldint na5 ew_FAILURE)
  have Fn_FAILURE_most := Fld.start (own_fldint nb5 ew_FAILURE)
  obtain ⟨n, o, h1, h2, h3, _, L, rfl, ⟨rfl, N⟩, hq⟩ := rm0 l s _ hw tables_1 i0 i1 i2 i3 w_HEARTBEAT w_FAILURE s.heap s.heap.size (Nat.le_refl _) Sn_HEARTBEAT Sn_FAILURE En_HEARTBEAT En_FAILURE Fn_HEARTBEAT_least Fn_HEARTBEAT_most Fn_FAILURE_least Fn_FAILURE_most p e ha hc hk s m _ below hf ((Spec.applies_iff_loose hf).mp happ).1 ⟨rfl, State.Warmed39.refl s, rfl⟩ trivial
  refine ⟨n, _, h1, h2, h3, hpost _ _ _ _ _ _ ⟨Cond.after_iff.mpr rfl, Cond.after_iff.mpr (eq_i res_at (Term.int_eval (1)) rfl), trivial⟩ ⟨hq.1, hq.2.1, (hq.2.2.sift fun y hy => Or.inr (N y hy)).mono (by decide) (by decide)⟩⟩
theorem main_1_1 : Claimed_1_1 := comes_1 fun _ _ _ _ _ _ h hF => ⟨h.1, hF⟩
theorem main_1_2 : Claimed_1_2 := comes_1 fun _ _ _ _ _ _ h hF => ⟨h.2.1, hF⟩
end Jvm.Pilot.@@N@@
namespace Jvm.Pilot.@@N@@
open Jvm Jvm.ClassFile Sem Op Lib Jvm.Free Jvm.Stand Jvm.Pilot.@@N@@.Jvm.D
/-! MADE BY PROGRAM (witnessworld.py) out of the Statement's table words and the real class files: 11 classes; the members and pool entries that the words name. The judged class is class 1, her method 1. -/
namespace start1
open Jvm.ClassFile
def u (s : String) : CpInfo := .utf8 (stringToUtf16 s)
/-- a pool by its gaps: so many unusable entries, then the entry; so many at the end -/
def gap : Nat → List CpInfo → List CpInfo
  | 0, r => r
  | n + 1, r => .unusable :: gap n r
def poolList (es : List (Nat × CpInfo)) (last : Nat) : List CpInfo := es.foldr (fun e r => gap e.1 (e.2 :: r)) (gap last [])
def pool (es : List (Nat × CpInfo)) (last : Nat) : Array CpInfo := ⟨poolList es last⟩
def fileOf (pool : Array CpInfo) (this : Nat) (attrs : Array Attribute := #[]) (ms : Array MethodInfo := #[]) (fl : Nat := 33) (sup : Nat := 0) (ifs : Array Nat := #[]) (fds : Array FieldInfo := #[]) : ClassFile where
  minorVersion := 0
  majorVersion := 65
  constantPool := pool
  accessFlags := fl
  thisClass := this
  superClass := sup
  interfaces := ifs
  fields := fds
  methods := ms
  attributes := attrs
def plain (name : String) (sup : Option ClassId) : Class where
  name := name
  kind := .ordinary
  loader := none
  accessFlags := 33
  super := sup
  interfaces := #[]
  cf := none
  fields := #[]
  methods := #[]
  instanceTypes := #[]
  staticTypes := #[]
  resolved := #[]
  callSites := []
  init := .initialized
  statics := none
  mirror := none

def pool0 : Array CpInfo := pool [(5, u "<init>"), (0, u "()V"), (1, .class_ 10), (1, u "java/lang/Object")] 113

def k0c0 : Code := { maxStack := 0, maxLocals := 1, code := object_method_1_code, exceptionTable := #[], attributes := #[] }
def k0m0 : Method := { name := "<init>", desc := "()V", sig := { parameters := [], returnType := none }, accessFlags := 1, code := some k0c0 }
/-- java/lang/Object -/
def k0 : Class := { plain "java/lang/Object" none with
  accessFlags := 33
  interfaces := #[]
  cf := some (fileOf pool0 8 #[] #[{ accessFlags := 1, nameIndex := 5, descriptorIndex := 6, attributes := #[] }] 33 0 #[] #[])
  fields := #[]
  methods := #[k0m0]
  instanceTypes := #[]
  staticTypes := #[]
  resolved := Array.replicate 124 none
  statics := none }

def pool1 : Array CpInfo := pool [(2, .class_ 4), (1, u "java/lang/Object"), (0, u "<init>"), (0, u "()V"), (0, .integer 2147483647), (0, .integer 59991), (0, .integer 600000), (0, .class_ 11), (0, u "com/example/narrow_gate/narrowgate/node/FailureDetection"), (0, .methodref 10 13), (0, .nameAndType 5 14), (0, u "(II)V"), (0, .long 3), (1, .methodref 10 18), (0, .nameAndType 19 20), (0, u "mayHaveBeenTakenForDead"), (0, u "(J)Z"), (0, .long 300000), (1, .long 2), (1, .class_ 26), (0, u "com/example/narrow_gate/narrowgate/node/FailureDetectionMayHaveBeenTakenForDeadPinLaw"), (2, u "law"), (0, u "(IIJI)Z")] 3

def k1m0 : Method := { name := "<init>", desc := "()V", sig := { parameters := [], returnType := none }, accessFlags := 1, code := none }
def k1c1 : Code := { maxStack := 6, maxLocals := 13, code := code, exceptionTable := #[], attributes := #[] }
def k1m1 : Method := { name := "law", desc := "(IIJI)Z", sig := { parameters := [.int, .int, .long, .int], returnType := some .boolean }, accessFlags := 9, code := some k1c1 }
/-- com/example/narrow_gate/narrowgate/node/FailureDetectionMayHaveBeenTakenForDeadPinLaw -/
def k1 : Class := { plain "com/example/narrow_gate/narrowgate/node/FailureDetectionMayHaveBeenTakenForDeadPinLaw" (some 0) with
  accessFlags := 49
  interfaces := #[]
  cf := some (fileOf pool1 25 #[] #[{ accessFlags := 1, nameIndex := 5, descriptorIndex := 6, attributes := #[] }, { accessFlags := 9, nameIndex := 29, descriptorIndex := 30, attributes := #[] }] 49 2 #[] #[])
  fields := #[]
  methods := #[k1m0, k1m1]
  instanceTypes := #[]
  staticTypes := #[]
  resolved := Array.replicate 34 none
  statics := none }

def pool2 : Array CpInfo := pool [(1, .methodref 2 3), (0, .class_ 4), (0, .nameAndType 5 6), (0, u "java/lang/Object"), (0, u "<init>"), (0, u "()V"), (0, .class_ 8), (0, u "java/lang/Record")] 13

def k2c0 : Code := { maxStack := 1, maxLocals := 1, code := jdk_30_method_1_code, exceptionTable := #[], attributes := #[] }
def k2m0 : Method := { name := "<init>", desc := "()V", sig := { parameters := [], returnType := none }, accessFlags := 4, code := some k2c0 }
/-- java/lang/Record -/
def k2 : Class := { plain "java/lang/Record" (some 0) with
  accessFlags := 1057
  interfaces := #[]
  cf := some (fileOf pool2 7 #[] #[{ accessFlags := 4, nameIndex := 5, descriptorIndex := 6, attributes := #[] }] 1057 2 #[] #[])
  fields := #[]
  methods := #[k2m0]
  instanceTypes := #[]
  staticTypes := #[]
  resolved := Array.replicate 22 none
  statics := none }

def pool3 : Array CpInfo := pool [(1, .methodref 2 3), (0, .class_ 4), (0, .nameAndType 5 6), (0, u "java/lang/Record"), (0, u "<init>"), (0, u "()V"), (0, .fieldref 8 9), (0, .class_ 10), (0, .nameAndType 11 12), (0, u "com/example/narrow_gate/narrowgate/node/FailureDetection"), (0, u "HEARTBEAT"), (0, u "Lcom/example/narrow_gate/narrowgate/algorithm/Setting;"), (0, .methodref 14 15), (0, .class_ 16), (0, .nameAndType 17 18), (0, u "com/example/narrow_gate/narrowgate/algorithm/Setting"), (0, u "checked"), (0, u "(I)I"), (0, .fieldref 8 20), (0, .nameAndType 21 12), (0, u "FAILURE"), (13, .fieldref 8 36), (0, .nameAndType 37 38), (0, u "heartbeatMillis"), (0, u "I"), (0, .fieldref 8 40), (0, .nameAndType 41 38), (0, u "failureMillis"), (0, .methodref 8 43), (0, .nameAndType 44 45), (0, u "leaseMillis"), (0, u "()J"), (31, u "SETTINGS"), (0, u "Ljava/util/List;"), (6, u "(II)V"), (2, u "DEFAULTS"), (0, u "Lcom/example/narrow_gate/narrowgate/node/FailureDetection;"), (7, u "mayHaveBeenTakenForDead"), (0, u "(J)Z")] 31

def k3c0 : Code := { maxStack := 6, maxLocals := 3, code := prog_22_method_1_code, exceptionTable := #[], attributes := #[] }
def k3m0 : Method := { name := "<init>", desc := "(II)V", sig := { parameters := [.int, .int], returnType := none }, accessFlags := 1, code := some k3c0 }
def k3c1 : Code := { maxStack := 2, maxLocals := 1, code := prog_22_method_2_code, exceptionTable := #[], attributes := #[] }
def k3m1 : Method := { name := "leaseMillis", desc := "()J", sig := { parameters := [], returnType := some .long }, accessFlags := 1, code := some k3c1 }
def k3c2 : Code := { maxStack := 4, maxLocals := 3, code := prog_22_method_4_code, exceptionTable := #[], attributes := #[] }
def k3m2 : Method := { name := "mayHaveBeenTakenForDead", desc := "(J)Z", sig := { parameters := [.long], returnType := some .boolean }, accessFlags := 1, code := some k3c2 }
/-- com/example/narrow_gate/narrowgate/node/FailureDetection -/
def k3 : Class := { plain "com/example/narrow_gate/narrowgate/node/FailureDetection" (some 2) with
  accessFlags := 49
  interfaces := #[]
  cf := some (fileOf pool3 8 #[] #[{ accessFlags := 1, nameIndex := 5, descriptorIndex := 85, attributes := #[] }, { accessFlags := 1, nameIndex := 44, descriptorIndex := 45, attributes := #[] }, { accessFlags := 1, nameIndex := 97, descriptorIndex := 98, attributes := #[] }] 49 2 #[] #[{ accessFlags := 18, nameIndex := 37, descriptorIndex := 38, attributes := #[] }, { accessFlags := 18, nameIndex := 41, descriptorIndex := 38, attributes := #[] }, { accessFlags := 25, nameIndex := 11, descriptorIndex := 12, attributes := #[] }, { accessFlags := 25, nameIndex := 21, descriptorIndex := 12, attributes := #[] }, { accessFlags := 25, nameIndex := 77, descriptorIndex := 78, attributes := #[] }, { accessFlags := 25, nameIndex := 88, descriptorIndex := 89, attributes := #[] }])
  fields := #[{ name := "heartbeatMillis", type := .int, accessFlags := 18, slot := 0, constantValue := 0 }, { name := "failureMillis", type := .int, accessFlags := 18, slot := 1, constantValue := 0 }, { name := "HEARTBEAT", type := (.object "com/example/narrow_gate/narrowgate/algorithm/Setting"), accessFlags := 25, slot := 0, constantValue := 0 }, { name := "FAILURE", type := (.object "com/example/narrow_gate/narrowgate/algorithm/Setting"), accessFlags := 25, slot := 1, constantValue := 0 }, { name := "SETTINGS", type := (.object "java/util/List"), accessFlags := 25, slot := 2, constantValue := 0 }, { name := "DEFAULTS", type := (.object "com/example/narrow_gate/narrowgate/node/FailureDetection"), accessFlags := 25, slot := 3, constantValue := 0 }]
  methods := #[k3m0, k3m1, k3m2]
  instanceTypes := #[.int, .int]
  staticTypes := #[(.object "com/example/narrow_gate/narrowgate/algorithm/Setting"), (.object "com/example/narrow_gate/narrowgate/algorithm/Setting"), (.object "java/util/List"), (.object "com/example/narrow_gate/narrowgate/node/FailureDetection")]
  resolved := Array.replicate 130 none
  statics := some 0 }

def pool4 : Array CpInfo := pool [(2, .class_ 4), (1, u "java/lang/Record"), (3, u "name"), (7, u "unit"), (10, .class_ 29), (1, u "com/example/narrow_gate/narrowgate/algorithm/Setting"), (0, u "Ljava/lang/String;"), (4, u "fallback"), (0, u "I"), (0, .fieldref 27 38), (0, .nameAndType 39 36), (0, u "least"), (0, .fieldref 27 41), (0, .nameAndType 42 36), (0, u "most"), (23, u "checked"), (0, u "(I)I")] 40

def k4c0 : Code := { maxStack := 6, maxLocals := 2, code := prog_9_method_2_code, exceptionTable := #[], attributes := #[] }
def k4m0 : Method := { name := "checked", desc := "(I)I", sig := { parameters := [.int], returnType := some .int }, accessFlags := 1, code := some k4c0 }
/-- com/example/narrow_gate/narrowgate/algorithm/Setting -/
def k4 : Class := { plain "com/example/narrow_gate/narrowgate/algorithm/Setting" (some 2) with
  accessFlags := 49
  interfaces := #[]
  cf := some (fileOf pool4 27 #[] #[{ accessFlags := 1, nameIndex := 66, descriptorIndex := 67, attributes := #[] }] 49 2 #[] #[{ accessFlags := 18, nameIndex := 8, descriptorIndex := 30, attributes := #[] }, { accessFlags := 18, nameIndex := 16, descriptorIndex := 30, attributes := #[] }, { accessFlags := 18, nameIndex := 35, descriptorIndex := 36, attributes := #[] }, { accessFlags := 18, nameIndex := 39, descriptorIndex := 36, attributes := #[] }, { accessFlags := 18, nameIndex := 42, descriptorIndex := 36, attributes := #[] }])
  fields := #[{ name := "name", type := (.object "java/lang/String"), accessFlags := 18, slot := 0, constantValue := 0 }, { name := "unit", type := (.object "java/lang/String"), accessFlags := 18, slot := 1, constantValue := 0 }, { name := "fallback", type := .int, accessFlags := 18, slot := 2, constantValue := 0 }, { name := "least", type := .int, accessFlags := 18, slot := 3, constantValue := 0 }, { name := "most", type := .int, accessFlags := 18, slot := 4, constantValue := 0 }]
  methods := #[k4m0]
  instanceTypes := #[(.object "java/lang/String"), (.object "java/lang/String"), .int, .int, .int]
  staticTypes := #[]
  resolved := Array.replicate 108 none
  statics := none }

def pool5 : Array CpInfo := pool [(1, u "java/lang/Cloneable"), (0, .class_ 1), (0, u "java/lang/Object"), (0, .class_ 3)] 3

/-- java/lang/Cloneable -/
def k5 : Class := { plain "java/lang/Cloneable" (some 0) with
  accessFlags := 1537
  interfaces := #[]
  cf := some (fileOf pool5 2 #[] #[] 1537 4 #[] #[])
  fields := #[]
  methods := #[]
  instanceTypes := #[]
  staticTypes := #[]
  resolved := Array.replicate 8 none
  statics := none }

def pool6 : Array CpInfo := pool [(1, u "java/io/Serializable"), (0, .class_ 1), (0, u "java/lang/Object"), (0, .class_ 3)] 3

/-- java/io/Serializable -/
def k6 : Class := { plain "java/io/Serializable" (some 0) with
  accessFlags := 1537
  interfaces := #[]
  cf := some (fileOf pool6 2 #[] #[] 1537 4 #[] #[])
  fields := #[]
  methods := #[]
  instanceTypes := #[]
  staticTypes := #[]
  resolved := Array.replicate 8 none
  statics := none }

/-- the primitive byte -/
def k7 : Class := { plain "byte" none with kind := .primitive 'B', accessFlags := 0x411 }
/-- [B -/
def k8 : Class := { plain "[B" (some 0) with kind := .array 7 .byte, interfaces := #[5, 6], accessFlags := 1041 }

/-- the primitive int -/
def k9 : Class := { plain "int" none with kind := .primitive 'I', accessFlags := 0x411 }
/-- [I -/
def k10 : Class := { plain "[I" (some 0) with kind := .array 9 .int, interfaces := #[5, 6], accessFlags := 1041 }

def heap : Heap := #[{ cls := 3, slots := #[.ref 1, .ref 2, .null, .null], vm := .statics 3 },
  { cls := 4, slots := #[.null, .null, .int 0, .int 10, .int 60000], vm := .none },
  { cls := 4, slots := #[.null, .null, .int 0, .int 40, .int 600000], vm := .none }]
def classes : Array Class := #[k0, k1, k2, k3, k4, k5, k6, k7, k8, k9, k10]
def interned : List (Array UInt16 × Addr) := []
def slotsUsed : Nat := 14
def theMethod : MethodId := ⟨1, 1⟩
def args0 : Array Value := #[.int 5, .int 5, .long 5, .int 5]
def aboutOver (below : List Frame) : State where
  vm := { classes := classes, interned := interned.toArray }
  heap := heap
  slotsUsed := slotsUsed
  threads := #[{ frames := .invoking theMethod args0 :: below }]
def below0 : List Frame := [.native { method := ⟨0, 0⟩, args := #[] }]
def about1 : State := aboutOver below0
def p0 : Program := .bare "" "" ""
def e0 : Env := launch0.env 0 0 0
theorem w_frames : about1.frames = Frame.invoking theMethod args0 :: below0 := rfl
set_option maxRecDepth 65536 in
theorem w_args : argsFit about1.vm theMethod args0 = true := by decide +kernel
set_option maxRecDepth 65536 in
theorem w_heap : heapFits about1 = true := by decide +kernel
set_option maxRecDepth 65536 in
theorem w_runnable : about1.curStatus? = some .runnable := by decide +kernel
set_option maxRecDepth 65536 in
theorem w_alone : about1.alone = true := by decide +kernel
set_option maxRecDepth 65536 in
theorem w_named : about1.methodNamed? x = some theMethod := by decide +kernel
set_option maxRecDepth 65536 in
theorem w_hears : about1.hears theMethod below0 = true := by decide +kernel
set_option maxRecDepth 65536 in
theorem w_ripe : about1.ripe theMethod args0 below0 = true := by decide +kernel
theorem w_running : about1.status = .running := rfl
set_option maxRecDepth 65536 in
theorem w_room : about1.hasRoom e0.platform room_1 = true :=
  launch0.hasRoom_least _ room_1 (by decide +kernel) (by decide +kernel) (by decide +kernel) (by decide +kernel) (by decide +kernel) (by decide +kernel)
theorem allAtoms_all (ts : List Jvm.Cond) (a : Array Jvm.Value) (st : Jvm.State) : (allAtoms ts).before a st = ts.all (fun c => c.before a st) := by
  induction ts with
  | nil => rfl
  | cons c t ih =>
    show (Jvm.Cond.and c (allAtoms t)).before a st = _
    rw [Jvm.Cond.before_and, ih, List.all_cons]
def words1 : List Jvm.Cond := Jvm.Cond.code x code maxLocals ret :: tables_1
/-- a 'code' word, met by the world's own term for the bytes: nothing is compared byte by byte -/
theorem code_word {y : MethodName} {bytes : ByteArray} {mx : Nat} {rt : Option FieldType} {a : Array Value} {s : State} {m : MethodId} {meth : Method} {c : Code} (h1 : s.methodNamed? y = some m) (h2 : s.vm.method? m = some meth) (h3 : meth.code = some c) (h4 : c.code = bytes)
    (h5 : (c.maxLocals == mx && c.exceptionTable.isEmpty && decide (c.maxStack ≤ mostOperands) && decide (meth.sig.returnType = rt) && !meth.locks && decide (parseMethodDescriptor y.desc = some meth.sig)) = true) : (Jvm.Cond.code y bytes mx rt).before a s = true := by
  simp only [Bool.and_eq_true, beq_iff_eq, Bool.not_eq_true', decide_eq_true_eq] at h5
  obtain ⟨⟨⟨⟨⟨g1, g2⟩, g3⟩, g4⟩, g5⟩, g6⟩ := h5
  simp [Cond.before, Cond.holds, Cond.value, h1, h2, h3, h4, g1, g2, g3, g4, g5, g6]
def isCode : Jvm.Cond → Bool
  | .code _ _ _ _ => true
  | _ => false
theorem all_split {L : List Jvm.Cond} {P : Jvm.Cond → Bool} (h1 : L.all (fun c => isCode c || P c) = true) (h2 : ∀ c ∈ L.filter isCode, P c = true) : L.all P = true := by
  refine List.all_eq_true.mpr fun c hc => ?_
  have h := List.all_eq_true.mp h1 c hc
  rcases Bool.eq_false_or_eq_true (isCode c) with hi | hi
  · exact h2 c (List.mem_filter.mpr ⟨hc, hi⟩)
  · simpa [hi] using h
set_option maxRecDepth 65536 in
theorem w_c0 : (Jvm.Cond.code x code maxLocals ret).before args0 about1 = true := code_word (m := ⟨1, 1⟩) (meth := k1m1) (c := k1c1) (by decide +kernel) rfl rfl rfl (by decide +kernel)
set_option maxRecDepth 65536 in
theorem w_c1 : (Jvm.Cond.code ({ cls := "com/example/narrow_gate/narrowgate/node/FailureDetection", name := "<init>", desc := "(II)V" } : Jvm.MethodName) prog_22_method_1_code (3 : Nat) (Option.none : Option Jvm.ClassFile.FieldType)).before args0 about1 = true := code_word (m := ⟨3, 0⟩) (meth := k3m0) (c := k3c0) (by decide +kernel) rfl rfl rfl (by decide +kernel)
set_option maxRecDepth 65536 in
theorem w_c2 : (Jvm.Cond.code ({ cls := "java/lang/Record", name := "<init>", desc := "()V" } : Jvm.MethodName) jdk_30_method_1_code (1 : Nat) (Option.none : Option Jvm.ClassFile.FieldType)).before args0 about1 = true := code_word (m := ⟨2, 0⟩) (meth := k2m0) (c := k2c0) (by decide +kernel) rfl rfl rfl (by decide +kernel)
set_option maxRecDepth 65536 in
theorem w_c3 : (Jvm.Cond.code ({ cls := "java/lang/Object", name := "<init>", desc := "()V" } : Jvm.MethodName) object_method_1_code (1 : Nat) (Option.none : Option Jvm.ClassFile.FieldType)).before args0 about1 = true := code_word (m := ⟨0, 0⟩) (meth := k0m0) (c := k0c0) (by decide +kernel) rfl rfl rfl (by decide +kernel)
set_option maxRecDepth 65536 in
theorem w_c4 : (Jvm.Cond.code ({ cls := "com/example/narrow_gate/narrowgate/algorithm/Setting", name := "checked", desc := "(I)I" } : Jvm.MethodName) prog_9_method_2_code (2 : Nat) (Option.some Jvm.ClassFile.FieldType.int)).before args0 about1 = true := code_word (m := ⟨4, 0⟩) (meth := k4m0) (c := k4c0) (by decide +kernel) rfl rfl rfl (by decide +kernel)
set_option maxRecDepth 65536 in
theorem w_c5 : (Jvm.Cond.code ({ cls := "com/example/narrow_gate/narrowgate/node/FailureDetection", name := "mayHaveBeenTakenForDead", desc := "(J)Z" } : Jvm.MethodName) prog_22_method_4_code (3 : Nat) (Option.some Jvm.ClassFile.FieldType.boolean)).before args0 about1 = true := code_word (m := ⟨3, 2⟩) (meth := k3m2) (c := k3c2) (by decide +kernel) rfl rfl rfl (by decide +kernel)
set_option maxRecDepth 65536 in
theorem w_c6 : (Jvm.Cond.code ({ cls := "com/example/narrow_gate/narrowgate/node/FailureDetection", name := "leaseMillis", desc := "()J" } : Jvm.MethodName) prog_22_method_2_code (1 : Nat) (Option.some Jvm.ClassFile.FieldType.long)).before args0 about1 = true := code_word (m := ⟨3, 1⟩) (meth := k3m1) (c := k3c1) (by decide +kernel) rfl rfl rfl (by decide +kernel)
def codes1 : List Jvm.Cond := [Jvm.Cond.code x code maxLocals ret, Jvm.Cond.code ({ cls := "com/example/narrow_gate/narrowgate/node/FailureDetection", name := "<init>", desc := "(II)V" } : Jvm.MethodName) prog_22_method_1_code (3 : Nat) (Option.none : Option Jvm.ClassFile.FieldType), Jvm.Cond.code ({ cls := "java/lang/Record", name := "<init>", desc := "()V" } : Jvm.MethodName) jdk_30_method_1_code (1 : Nat) (Option.none : Option Jvm.ClassFile.FieldType), Jvm.Cond.code ({ cls := "java/lang/Object", name := "<init>", desc := "()V" } : Jvm.MethodName) object_method_1_code (1 : Nat) (Option.none : Option Jvm.ClassFile.FieldType), Jvm.Cond.code ({ cls := "com/example/narrow_gate/narrowgate/algorithm/Setting", name := "checked", desc := "(I)I" } : Jvm.MethodName) prog_9_method_2_code (2 : Nat) (Option.some Jvm.ClassFile.FieldType.int), Jvm.Cond.code ({ cls := "com/example/narrow_gate/narrowgate/node/FailureDetection", name := "mayHaveBeenTakenForDead", desc := "(J)Z" } : Jvm.MethodName) prog_22_method_4_code (3 : Nat) (Option.some Jvm.ClassFile.FieldType.boolean), Jvm.Cond.code ({ cls := "com/example/narrow_gate/narrowgate/node/FailureDetection", name := "leaseMillis", desc := "()J" } : Jvm.MethodName) prog_22_method_2_code (1 : Nat) (Option.some Jvm.ClassFile.FieldType.long)]
set_option maxRecDepth 65536 in
theorem codes_eq : words1.filter isCode = codes1 := rfl
theorem w_codes : ∀ c ∈ words1.filter isCode, c.before args0 about1 = true := by
  rw [codes_eq]
  intro c hc
  simp only [codes1, List.mem_cons, List.not_mem_nil, or_false] at hc
  rcases hc with rfl | rfl | rfl | rfl | rfl | rfl | rfl
  · exact w_c0
  · exact w_c1
  · exact w_c2
  · exact w_c3
  · exact w_c4
  · exact w_c5
  · exact w_c6
set_option maxRecDepth 65536 in
theorem w_t1 : (words1.take 24).all (fun c => isCode c || c.before args0 about1) = true := by decide +kernel
set_option maxRecDepth 65536 in
theorem w_t2 : ((words1.drop 24).take 24).all (fun c => isCode c || c.before args0 about1) = true := by decide +kernel
set_option maxRecDepth 65536 in
theorem w_t3 : ((words1.drop 24).drop 24).all (fun c => isCode c || c.before args0 about1) = true := by decide +kernel
theorem w_tables : (allAtoms (Jvm.Cond.code x code maxLocals ret :: tables_1)).before args0 about1 = true := by
  rw [allAtoms_all]
  show words1.all (fun c => c.before args0 about1) = true
  refine all_split ?_ w_codes
  rw [← List.take_append_drop 24 words1, List.all_append, w_t1, ← List.take_append_drop 24 (words1.drop 24), List.all_append, w_t2, w_t3]
  rfl
set_option maxRecDepth 65536 in
theorem w_case : (Jvm.Cond.and given_1 narrow_1).before args0 about1 = true := by decide +kernel
theorem w_applies : (headSpec (Jvm.Cond.code x code maxLocals ret :: tables_1) room_1).applies x e0.platform about1 = true :=
  (Spec.applies_iff w_frames).mpr ⟨w_running, w_runnable, w_alone, w_named, w_hears, w_ripe, w_room, w_tables⟩
theorem atStart : AtStart classFile x code maxLocals ret World_1 tables_1 room_1 Calls_1 rest_1 Pre_1 launch0 p0 e0 about1 theMethod args0 below0 :=
  ⟨lists_1, trivial, launch0.admits_env _ _ _, launch0.least_env, fairChoices_fair.cas, fairChoices_fair.clock, w_frames, w_args, w_heap, w_applies, trivial, trivial, w_case⟩
end start1
theorem witness_1 : WitnessClaimed_1 := ⟨start1.p0, start1.e0, start1.about1, start1.theMethod, start1.args0, start1.below0, start1.atStart⟩
end Jvm.Pilot.@@N@@
