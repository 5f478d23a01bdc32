import JvmDerived
import JvmDerived.Pilot.@@N@@Statement
import JvmDerived.Pilot.@@N@@Code
set_option linter.unusedVariables false
set_option linter.unusedSimpArgs false
namespace Jvm.RoadKit
open Sem ClassFile Op Lib Jvm.Stand Jvm.Free Jvm.LawKit
section New
variable {p : Program} {l : Launch} {e : Env} {R : Room} {s : State} {m : MethodId} {args : Array Value} {below : List Frame} {meth : Method} {c : Code} {T : State} {locs : List Loc} {cells slots : Nat}
theorem retI (X : Stand p l e R s m args below meth c T locs cells slots) (hx : p.tables.exec = Jvm.exec) {pc : Nat} {Ls : Array Slot} {z : Int32} {rest : List Value} (hret : meth.sig.returnType = some .int) (hd : decode c.code pc = .ok (.ireturn, 1)) {fs : List Frame}
    (hl : ∀ (f : JFrame) (acts : List Action), f.method = m → f.locked = none → f.entered = [] → (doReturn e (T.setTop f) acts (some (.int z))).1 = T.setFrames fs) : Steps p.tables e below (T.setTop (mkF m pc Ls (.int z :: rest))) (T.setFrames fs) := by
  have hm' : T.vm.method? m = some meth := X.method'
  have hn : narrow .int (.int z) = .int z := rfl
  show Steps p.tables e below (T.setTop { method := m, pc := pc, locals := Ls, stack := _ :: rest, locked := none }) _
  jvm_step X.here [X.here.top, hx, hd, hm', hret, hn]
  first | (intro acts; rw [hl _ acts rfl rfl rfl]) | rw [hl _ _ rfl rfl rfl]
  exact Steps.refl _
end New
end Jvm.RoadKit
namespace Jvm.Pilot.@@N@@
open Jvm Jvm.ClassFile Sem Op Lib Jvm.Free Jvm.Stand Jvm.LawKit Jvm.RoadKit Bundle Jvm.Pilot.@@N@@.Jvm.D
theorem own_keep_ext {h h' : Heap} (K : Keep h h' []) : Ext h h' := ⟨K.1, fun a c q => K.2.1 a c q nin0⟩
theorem own_sta_keep {Z : State} {h h' : Heap} {C n d K : String} {a : Addr} {v : Value} (F : Sta Z h C n d v) (Kp : Keep h h' [a]) (E : Exa Z h a K) : Sta Z h' C n d v := by
  obtain ⟨cf, i, k, f, st, cell, h1, h2, h3, h4, h5, h6, h7⟩ := F
  obtain ⟨cell', k', g1, -, -, g4, -⟩ := E
  have ne : st ≠ a := by
    intro q
    subst q
    rw [h5] at g1
    cases g1
    rw [h6] at g4
    cases g4
  exact ⟨cf, i, k, f, st, cell, h1, h2, h3, h4, Kp.2.1 st cell h5 (ninS ne nin0), h6, h7⟩
theorem d1_0 : decode prog_35_method_1_code 0 = .ok (.aload_n 0, 1) := by decide +kernel
theorem d1_1 : decode prog_35_method_1_code 1 = .ok (.invokespecial 1, 3) := by decide +kernel
theorem d1_4 : decode prog_35_method_1_code 4 = .ok (.return_, 1) := by decide +kernel
theorem pn0 : plainName "com/example/suitor/suitor/SolverStatistics" = true := by first | (simp [plainName, overriddenIn]; done) | decide +kernel
theorem ef_rm_init (m : MethodId) (ra : Addr) : entryFrame m #[(.ref ra)] 1 = mkF m 0 #[.val (.ref ra)] [] := by first | (simp [entryFrame, mkF, argsToLocals, Value.category]; done) | rfl
def Q_rm_init (Z : State) (ra : Addr) (h0 : Heap) (n0 : Nat) (v : Option Value) (h : Heap) (L : List Loc) : Prop := v = none ∧ Fr n0 L ∧ Keep h0 h ([] : List Addr) ∧ Exa Z h ra "com/example/suitor/suitor/SolverStatistics" ∧ Fld Z h ra "com/example/suitor/suitor/SolverStatistics" "applications" "J" (.long (0 : Int64)) ∧ Fld Z h ra "com/example/suitor/suitor/SolverStatistics" "walkSteps" "J" (.long (0 : Int64)) ∧ Fld Z h ra "com/example/suitor/suitor/SolverStatistics" "deletions" "J" (.long (0 : Int64)) ∧ Fld Z h ra "com/example/suitor/suitor/SolverStatistics" "queueMoves" "J" (.long (0 : Int64)) ∧ Fld Z h ra "com/example/suitor/suitor/SolverStatistics" "passes" "J" (.long (0 : Int64))
set_option maxRecDepth 65536 in
set_option maxHeartbeats 40000000 in
theorem rm_init (l : Launch) (Z : State) (a0 : Array Value) (hw : ∀ d ∈ tables_1, d.before a0 Z = true) (ws : List Jvm.Cond) (ra : Addr) (h0 : Heap) (n0 : Nat) (Z0 : n0 ≤ h0.size) (E_ra : Exa Z h0 ra "com/example/suitor/suitor/SolverStatistics") (g_ra : n0 ≤ ra) (F_applications_ra : Fld Z h0 ra "com/example/suitor/suitor/SolverStatistics" "applications" "J" (.long (0 : Int64))) (F_walkSteps_ra : Fld Z h0 ra "com/example/suitor/suitor/SolverStatistics" "walkSteps" "J" (.long (0 : Int64))) (F_deletions_ra : Fld Z h0 ra "com/example/suitor/suitor/SolverStatistics" "deletions" "J" (.long (0 : Int64))) (F_queueMoves_ra : Fld Z h0 ra "com/example/suitor/suitor/SolverStatistics" "queueMoves" "J" (.long (0 : Int64))) (F_passes_ra : Fld Z h0 ra "com/example/suitor/suitor/SolverStatistics" "passes" "J" (.long (0 : Int64))) :
    MetFree l (⟨"com/example/suitor/suitor/SolverStatistics", "<init>", "()V"⟩ : MethodName) (head1 (Jvm.Cond.code (⟨"com/example/suitor/suitor/SolverStatistics", "<init>", "()V"⟩ : MethodName) prog_35_method_1_code 1 none :: ws) ({ frames := 1, cells := 0, slots := 0, locals := 12 } : Room)) (fun a U => a = #[(.ref ra)] ∧ Z.Warmed39 U.vm ∧ U.heap = h0) (fun _ _ _ _ _ => True) (fun _ U o U' => ∃ v L, o = .returned v ∧ Q_rm_init Z ra h0 n0 v U'.heap L ∧ FrameEnd U o U' L ({ frames := 1, cells := 0, slots := 0, locals := 12 } : Room).cells ({ frames := 1, cells := 0, slots := 0, locals := 12 } : Room).slots) := by
  refine MetFree.of_bodySF (plainFor_of_name pn0) hisR ?_
  intro p e s m args below meth c s₁ Bd hml0 hP hK
  obtain ⟨rfl, hZ, hh⟩ := hP
  have hx := Bd.exec
  have hby := Bd.bytes
  have hml : c.maxLocals = 1 := hml0
  have hown : s.vm.findClass "com/example/suitor/suitor/SolverStatistics" = some m.cls := findClass_of_methodNamed Bd.named
  have hnm := (name_of_methodNamed Bd.named Bd.method).1
  have X0 : Stand p l e ({ frames := 1, cells := 0, slots := 0, locals := 12 } : Room) s m #[(.ref ra)] below meth c s₁ [] 0 0 := Stand.of_body Bd
  have e0 : s₁.heap = h0 := by rw [← hh, Bd.state]; rfl
  have N0 := Fr.nil n0
  have pre0 : ∀ t, Steps p.tables e below (s₁.setTop (mkF m 0 #[.val (.ref ra)] [])) t → Steps p.tables e below (s₁.setTop (entryFrame m #[(.ref ra)] 1)) t := fun t k => castTop (ef_rm_init m ra) k
  have pre1 : ∀ t, Steps p.tables e below (s₁.setTop (mkF m 1 #[.val (.ref ra)] [(.ref ra)])) t → Steps p.tables e below (s₁.setTop (entryFrame m #[(.ref ra)] 1)) t := by
    intro t k
    refine pre0 t ?_
    refine XS.aloadN X0.here hx rfl (hb hby d1_0) rfl rfl ?_
    show Steps p.tables e below (s₁.setTop (mkF m 1 #[.val (.ref ra)] [(.ref ra)])) _
    exact k
  obtain ⟨T2, X2, e2, st2⟩ := initO X0 hx hZ hown (hw _ (List.mem_of_getElem? (i := 7) rfl)) (hw _ (List.mem_of_getElem? (i := 8) rfl)) (hw _ (List.mem_of_getElem? (i := 9) rfl)) e0 (g := (mkF m 1 #[.val (.ref ra)] [(.ref ra)])) rfl (by rw [hml]; rfl) rfl (hb hby d1_1) (by decide) (W := 0) (by show 2 * 0 + _ ≤ _; exact Nat.le_of_eq rfl) (by decide)
  have pre3 : ∀ t, Steps p.tables e below (T2.setTop (mkF m 4 #[.val (.ref ra)] [])) t → Steps p.tables e below (s₁.setTop (entryFrame m #[(.ref ra)] 1)) t := fun t k => pre1 t (st2 t k)
  obtain ⟨fs, hr, hrun, hended, hW, hsame⟩ := X2.leave (v := none) (fun _ => rfl)
  refine ⟨_, _, pre3 _ ?_, hrun, hended, _, _, rfl, ?_, ⟨_, rfl⟩, hW, hsame.mono (by decide) (by decide)⟩
  · exact X2.returnOut hx Bd.returns (hb hby d1_4) hr
  · show Q_rm_init Z ra h0 n0 _ T2.heap _
    rw [e2]
    exact ⟨rfl, N0, (Keep.refl h0 ([] : List Addr)), E_ra, F_applications_ra, F_walkSteps_ra, F_deletions_ra, F_queueMoves_ra, F_passes_ra⟩
theorem d3_0 : decode prog_35_method_7_code 0 = .ok (.aload_n 0, 1) := by decide +kernel
theorem d3_1 : decode prog_35_method_7_code 1 = .ok (.getfield 7, 3) := by decide +kernel
theorem d3_4 : decode prog_35_method_7_code 4 = .ok (.aload_n 0, 1) := by decide +kernel
theorem d3_5 : decode prog_35_method_7_code 5 = .ok (.getfield 13, 3) := by decide +kernel
theorem d3_8 : decode prog_35_method_7_code 8 = .ok (.ladd, 1) := by decide +kernel
theorem d3_9 : decode prog_35_method_7_code 9 = .ok (.aload_n 0, 1) := by decide +kernel
theorem d3_10 : decode prog_35_method_7_code 10 = .ok (.getfield 16, 3) := by decide +kernel
theorem d3_13 : decode prog_35_method_7_code 13 = .ok (.ladd, 1) := by decide +kernel
theorem d3_14 : decode prog_35_method_7_code 14 = .ok (.aload_n 0, 1) := by decide +kernel
theorem d3_15 : decode prog_35_method_7_code 15 = .ok (.getfield 19, 3) := by decide +kernel
theorem d3_18 : decode prog_35_method_7_code 18 = .ok (.ladd, 1) := by decide +kernel
theorem d3_19 : decode prog_35_method_7_code 19 = .ok (.lreturn, 1) := by decide +kernel
theorem ef_rm_steps (m : MethodId) (ra : Addr) : entryFrame m #[(.ref ra)] 1 = mkF m 0 #[.val (.ref ra)] [] := by first | (simp [entryFrame, mkF, argsToLocals, Value.category]; done) | rfl
def Q_rm_steps (Z : State) (ra : Addr) (xap : Int64) (xws : Int64) (xde : Int64) (xqm : Int64) (h0 : Heap) (n0 : Nat) (v : Option Value) (h : Heap) (L : List Loc) : Prop := v = some (.long (((xap + xws) + xde) + xqm)) ∧ Fr n0 L ∧ h = h0
set_option maxRecDepth 65536 in
set_option maxHeartbeats 40000000 in
theorem rm_steps (l : Launch) (Z : State) (a0 : Array Value) (hw : ∀ d ∈ tables_1, d.before a0 Z = true) (ws : List Jvm.Cond) (ra : Addr) (xap : Int64) (xws : Int64) (xde : Int64) (xqm : Int64) (h0 : Heap) (n0 : Nat) (Z0 : n0 ≤ h0.size) (F0 : Fld Z h0 ra "com/example/suitor/suitor/SolverStatistics" "applications" "J" (.long xap)) (F1 : Fld Z h0 ra "com/example/suitor/suitor/SolverStatistics" "walkSteps" "J" (.long xws)) (F2 : Fld Z h0 ra "com/example/suitor/suitor/SolverStatistics" "deletions" "J" (.long xde)) (F3 : Fld Z h0 ra "com/example/suitor/suitor/SolverStatistics" "queueMoves" "J" (.long xqm)) :
    MetFree l (⟨"com/example/suitor/suitor/SolverStatistics", "getSteps", "()J"⟩ : MethodName) (head1 (Jvm.Cond.code (⟨"com/example/suitor/suitor/SolverStatistics", "getSteps", "()J"⟩ : MethodName) prog_35_method_7_code 1 (some .long) :: ws) ({ frames := 0, cells := 0, slots := 0, locals := 0 } : Room)) (fun a U => a = #[(.ref ra)] ∧ Z.Warmed39 U.vm ∧ U.heap = h0) (fun _ _ _ _ _ => True) (fun _ U o U' => ∃ v L, o = .returned v ∧ Q_rm_steps Z ra xap xws xde xqm h0 n0 v U'.heap L ∧ FrameEnd U o U' L ({ frames := 0, cells := 0, slots := 0, locals := 0 } : Room).cells ({ frames := 0, cells := 0, slots := 0, locals := 0 } : Room).slots) := by
  refine MetFree.of_bodySF (plainFor_of_name pn0) hisR ?_
  intro p e s m args below meth c s₁ Bd hml0 hP hK
  obtain ⟨rfl, hZ, hh⟩ := hP
  have hx := Bd.exec
  have hby := Bd.bytes
  have hml : c.maxLocals = 1 := hml0
  have hown : s.vm.findClass "com/example/suitor/suitor/SolverStatistics" = some m.cls := findClass_of_methodNamed Bd.named
  have hnm := (name_of_methodNamed Bd.named Bd.method).1
  have X0 : Stand p l e ({ frames := 0, cells := 0, slots := 0, locals := 0 } : Room) s m #[(.ref ra)] below meth c s₁ [] 0 0 := Stand.of_body Bd
  have e0 : s₁.heap = h0 := by rw [← hh, Bd.state]; rfl
  have N0 := Fr.nil n0
  have pre0 : ∀ t, Steps p.tables e below (s₁.setTop (mkF m 0 #[.val (.ref ra)] [])) t → Steps p.tables e below (s₁.setTop (entryFrame m #[(.ref ra)] 1)) t := fun t k => castTop (ef_rm_steps m ra) k
  have pre1 : ∀ t, Steps p.tables e below (s₁.setTop (mkF m 1 #[.val (.ref ra)] [(.ref ra)])) t → Steps p.tables e below (s₁.setTop (entryFrame m #[(.ref ra)] 1)) t := by
    intro t k
    refine pre0 t ?_
    refine XS.aloadN X0.here hx rfl (hb hby d3_0) rfl rfl ?_
    show Steps p.tables e below (s₁.setTop (mkF m 1 #[.val (.ref ra)] [(.ref ra)])) _
    exact k
  obtain ⟨T2, X2, e2, st2⟩ := getF X0 hx hZ hown (host := "") (Or.inl (hw _ (List.mem_of_getElem? (i := 15) rfl))) Via.refl e0 F0 (g := (mkF m 1 #[.val (.ref ra)] [(.ref ra)])) rfl rfl (hb hby d3_1)
  have pre3 : ∀ t, Steps p.tables e below (T2.setTop (mkF m 4 #[.val (.ref ra)] [(.long xap)])) t → Steps p.tables e below (s₁.setTop (entryFrame m #[(.ref ra)] 1)) t := fun t k => pre1 t (st2 t k)
  have pre4 : ∀ t, Steps p.tables e below (T2.setTop (mkF m 5 #[.val (.ref ra)] [(.ref ra), (.long xap)])) t → Steps p.tables e below (s₁.setTop (entryFrame m #[(.ref ra)] 1)) t := by
    intro t k
    refine pre3 t ?_
    refine XS.aloadN X2.here hx rfl (hb hby d3_4) rfl rfl ?_
    show Steps p.tables e below (T2.setTop (mkF m 5 #[.val (.ref ra)] [(.ref ra), (.long xap)])) _
    exact k
  obtain ⟨T5, X5, e5, st5⟩ := getF X2 hx hZ hown (host := "") (Or.inl (hw _ (List.mem_of_getElem? (i := 17) rfl))) Via.refl e2 F1 (g := (mkF m 5 #[.val (.ref ra)] [(.ref ra), (.long xap)])) rfl rfl (hb hby d3_5)
  have pre6 : ∀ t, Steps p.tables e below (T5.setTop (mkF m 8 #[.val (.ref ra)] [(.long xws), (.long xap)])) t → Steps p.tables e below (s₁.setTop (entryFrame m #[(.ref ra)] 1)) t := fun t k => pre4 t (st5 t k)
  have pre7 : ∀ t, Steps p.tables e below (T5.setTop (mkF m 10 #[.val (.ref ra)] [(.ref ra), (.long (xap + xws))])) t → Steps p.tables e below (s₁.setTop (entryFrame m #[(.ref ra)] 1)) t := by
    intro t k
    refine pre6 t ?_
    refine XS.ladd X5.here hx rfl (hb hby d3_8) rfl ?_
    show Steps p.tables e below (T5.setTop (mkF m 9 #[.val (.ref ra)] [(.long (xap + xws))])) _
    refine XS.aloadN X5.here hx rfl (hb hby d3_9) rfl rfl ?_
    show Steps p.tables e below (T5.setTop (mkF m 10 #[.val (.ref ra)] [(.ref ra), (.long (xap + xws))])) _
    exact k
  obtain ⟨T8, X8, e8, st8⟩ := getF X5 hx hZ hown (host := "") (Or.inl (hw _ (List.mem_of_getElem? (i := 19) rfl))) Via.refl e5 F2 (g := (mkF m 10 #[.val (.ref ra)] [(.ref ra), (.long (xap + xws))])) rfl rfl (hb hby d3_10)
  have pre9 : ∀ t, Steps p.tables e below (T8.setTop (mkF m 13 #[.val (.ref ra)] [(.long xde), (.long (xap + xws))])) t → Steps p.tables e below (s₁.setTop (entryFrame m #[(.ref ra)] 1)) t := fun t k => pre7 t (st8 t k)
  have pre10 : ∀ t, Steps p.tables e below (T8.setTop (mkF m 15 #[.val (.ref ra)] [(.ref ra), (.long ((xap + xws) + xde))])) t → Steps p.tables e below (s₁.setTop (entryFrame m #[(.ref ra)] 1)) t := by
    intro t k
    refine pre9 t ?_
    refine XS.ladd X8.here hx rfl (hb hby d3_13) rfl ?_
    show Steps p.tables e below (T8.setTop (mkF m 14 #[.val (.ref ra)] [(.long ((xap + xws) + xde))])) _
    refine XS.aloadN X8.here hx rfl (hb hby d3_14) rfl rfl ?_
    show Steps p.tables e below (T8.setTop (mkF m 15 #[.val (.ref ra)] [(.ref ra), (.long ((xap + xws) + xde))])) _
    exact k
  obtain ⟨T11, X11, e11, st11⟩ := getF X8 hx hZ hown (host := "") (Or.inl (hw _ (List.mem_of_getElem? (i := 21) rfl))) Via.refl e8 F3 (g := (mkF m 15 #[.val (.ref ra)] [(.ref ra), (.long ((xap + xws) + xde))])) rfl rfl (hb hby d3_15)
  have pre12 : ∀ t, Steps p.tables e below (T11.setTop (mkF m 18 #[.val (.ref ra)] [(.long xqm), (.long ((xap + xws) + xde))])) t → Steps p.tables e below (s₁.setTop (entryFrame m #[(.ref ra)] 1)) t := fun t k => pre10 t (st11 t k)
  have pre13 : ∀ t, Steps p.tables e below (T11.setTop (mkF m 19 #[.val (.ref ra)] [(.long (((xap + xws) + xde) + xqm))])) t → Steps p.tables e below (s₁.setTop (entryFrame m #[(.ref ra)] 1)) t := by
    intro t k
    refine pre12 t ?_
    refine XS.ladd X11.here hx rfl (hb hby d3_18) rfl ?_
    show Steps p.tables e below (T11.setTop (mkF m 19 #[.val (.ref ra)] [(.long (((xap + xws) + xde) + xqm))])) _
    exact k
  obtain ⟨fs, hr, hrun, hended, hW, hsame⟩ := X11.leave (v := some (.long (((xap + xws) + xde) + xqm))) (fun h => by rw [Bd.returns] at h; cases h)
  refine ⟨_, _, pre13 _ ?_, hrun, hended, _, _, rfl, ?_, ⟨_, rfl⟩, hW, hsame.mono (by decide) (by decide)⟩
  · exact retOut X11 hx Bd.returns rfl (Or.inr (Or.inl ⟨rfl, rfl, _, rfl⟩)) (hb hby d3_19) hr
  · show Q_rm_steps Z ra xap xws xde xqm h0 n0 _ T11.heap _
    rw [e11]
    exact ⟨rfl, N0, rfl⟩
theorem d4_0 : decode prog_35_method_8_code 0 = .ok (.aload_n 0, 1) := by decide +kernel
theorem d4_1 : decode prog_35_method_8_code 1 = .ok (.dup, 1) := by decide +kernel
theorem d4_2 : decode prog_35_method_8_code 2 = .ok (.getfield 7, 3) := by decide +kernel
theorem d4_5 : decode prog_35_method_8_code 5 = .ok (.lconst 1, 1) := by decide +kernel
theorem d4_6 : decode prog_35_method_8_code 6 = .ok (.ladd, 1) := by decide +kernel
theorem d4_7 : decode prog_35_method_8_code 7 = .ok (.putfield 7, 3) := by decide +kernel
theorem d4_10 : decode prog_35_method_8_code 10 = .ok (.return_, 1) := by decide +kernel
theorem ef_rm_countApplication (m : MethodId) (ra : Addr) : entryFrame m #[(.ref ra)] 1 = mkF m 0 #[.val (.ref ra)] [] := by first | (simp [entryFrame, mkF, argsToLocals, Value.category]; done) | rfl
def Q_rm_countApplication (Z : State) (ra : Addr) (xap : Int64) (xws : Int64) (xde : Int64) (xqm : Int64) (xpa : Int64) (h0 : Heap) (n0 : Nat) (v : Option Value) (h : Heap) (L : List Loc) : Prop := v = none ∧ Fr n0 L ∧ Keep h0 h [ra] ∧ Exa Z h ra "com/example/suitor/suitor/SolverStatistics" ∧ Fld Z h ra "com/example/suitor/suitor/SolverStatistics" "applications" "J" (.long (xap + (1 : Int64))) ∧ Fld Z h ra "com/example/suitor/suitor/SolverStatistics" "walkSteps" "J" (.long xws) ∧ Fld Z h ra "com/example/suitor/suitor/SolverStatistics" "deletions" "J" (.long xde) ∧ Fld Z h ra "com/example/suitor/suitor/SolverStatistics" "queueMoves" "J" (.long xqm) ∧ Fld Z h ra "com/example/suitor/suitor/SolverStatistics" "passes" "J" (.long xpa)
set_option maxRecDepth 65536 in
set_option maxHeartbeats 40000000 in
theorem rm_countApplication (l : Launch) (Z : State) (a0 : Array Value) (hw : ∀ d ∈ tables_1, d.before a0 Z = true) (ws : List Jvm.Cond) (ra : Addr) (xap : Int64) (xws : Int64) (xde : Int64) (xqm : Int64) (xpa : Int64) (h0 : Heap) (n0 : Nat) (Z0 : n0 ≤ h0.size) (E1 : Exa Z h0 ra "com/example/suitor/suitor/SolverStatistics") (g_ra : n0 ≤ ra) (F0 : Fld Z h0 ra "com/example/suitor/suitor/SolverStatistics" "applications" "J" (.long xap)) (F1 : Fld Z h0 ra "com/example/suitor/suitor/SolverStatistics" "walkSteps" "J" (.long xws)) (F2 : Fld Z h0 ra "com/example/suitor/suitor/SolverStatistics" "deletions" "J" (.long xde)) (F3 : Fld Z h0 ra "com/example/suitor/suitor/SolverStatistics" "queueMoves" "J" (.long xqm)) (F4 : Fld Z h0 ra "com/example/suitor/suitor/SolverStatistics" "passes" "J" (.long xpa)) :
    MetFree l (⟨"com/example/suitor/suitor/SolverStatistics", "countApplication", "()V"⟩ : MethodName) (head1 (Jvm.Cond.code (⟨"com/example/suitor/suitor/SolverStatistics", "countApplication", "()V"⟩ : MethodName) prog_35_method_8_code 1 none :: ws) ({ frames := 0, cells := 0, slots := 0, locals := 0 } : Room)) (fun a U => a = #[(.ref ra)] ∧ Z.Warmed39 U.vm ∧ U.heap = h0) (fun _ _ _ _ _ => True) (fun _ U o U' => ∃ v L, o = .returned v ∧ Q_rm_countApplication Z ra xap xws xde xqm xpa h0 n0 v U'.heap L ∧ FrameEnd U o U' L ({ frames := 0, cells := 0, slots := 0, locals := 0 } : Room).cells ({ frames := 0, cells := 0, slots := 0, locals := 0 } : Room).slots) := by
  refine MetFree.of_bodySF (plainFor_of_name pn0) hisR ?_
  intro p e s m args below meth c s₁ Bd hml0 hP hK
  obtain ⟨rfl, hZ, hh⟩ := hP
  have hx := Bd.exec
  have hby := Bd.bytes
  have hml : c.maxLocals = 1 := hml0
  have hown : s.vm.findClass "com/example/suitor/suitor/SolverStatistics" = some m.cls := findClass_of_methodNamed Bd.named
  have hnm := (name_of_methodNamed Bd.named Bd.method).1
  have X0 : Stand p l e ({ frames := 0, cells := 0, slots := 0, locals := 0 } : Room) s m #[(.ref ra)] below meth c s₁ [] 0 0 := Stand.of_body Bd
  have e0 : s₁.heap = h0 := by rw [← hh, Bd.state]; rfl
  have N0 := Fr.nil n0
  have pre0 : ∀ t, Steps p.tables e below (s₁.setTop (mkF m 0 #[.val (.ref ra)] [])) t → Steps p.tables e below (s₁.setTop (entryFrame m #[(.ref ra)] 1)) t := fun t k => castTop (ef_rm_countApplication m ra) k
  have pre1 : ∀ t, Steps p.tables e below (s₁.setTop (mkF m 2 #[.val (.ref ra)] [(.ref ra), (.ref ra)])) t → Steps p.tables e below (s₁.setTop (entryFrame m #[(.ref ra)] 1)) t := by
    intro t k
    refine pre0 t ?_
    refine XS.aloadN X0.here hx rfl (hb hby d4_0) rfl rfl ?_
    show Steps p.tables e below (s₁.setTop (mkF m 1 #[.val (.ref ra)] [(.ref ra)])) _
    refine XS.dup X0.here hx rfl (hb hby d4_1) rfl rfl ?_
    show Steps p.tables e below (s₁.setTop (mkF m 2 #[.val (.ref ra)] [(.ref ra), (.ref ra)])) _
    exact k
  obtain ⟨T2, X2, e2, st2⟩ := getF X0 hx hZ hown (host := "") (Or.inl (hw _ (List.mem_of_getElem? (i := 15) rfl))) Via.refl e0 F0 (g := (mkF m 2 #[.val (.ref ra)] [(.ref ra), (.ref ra)])) rfl rfl (hb hby d4_2)
  have pre3 : ∀ t, Steps p.tables e below (T2.setTop (mkF m 5 #[.val (.ref ra)] [(.long xap), (.ref ra)])) t → Steps p.tables e below (s₁.setTop (entryFrame m #[(.ref ra)] 1)) t := fun t k => pre1 t (st2 t k)
  have pre4 : ∀ t, Steps p.tables e below (T2.setTop (mkF m 7 #[.val (.ref ra)] [(.long (xap + (1 : Int64))), (.ref ra)])) t → Steps p.tables e below (s₁.setTop (entryFrame m #[(.ref ra)] 1)) t := by
    intro t k
    refine pre3 t ?_
    refine XS.lconst X2.here hx rfl (hb hby d4_5) ?_
    show Steps p.tables e below (T2.setTop (mkF m 6 #[.val (.ref ra)] [(.long (1 : Int64)), (.long xap), (.ref ra)])) _
    refine XS.ladd X2.here hx rfl (hb hby d4_6) rfl ?_
    show Steps p.tables e below (T2.setTop (mkF m 7 #[.val (.ref ra)] [(.long (xap + (1 : Int64))), (.ref ra)])) _
    exact k
  obtain ⟨T5, h5, X5, e5, W5, st5⟩ := putF X2 hx hZ hown (host := "") (Or.inl (hw _ (List.mem_of_getElem? (i := 15) rfl))) Via.refl e2 F0 E1 (Or.inl (hw _ (List.mem_of_getElem? (i := 16) rfl))) (hw _ (List.mem_of_getElem? (i := 2) rfl)) (ty := .long) (by decide) rfl rfl (g := (mkF m 7 #[.val (.ref ra)] [(.long (xap + (1 : Int64))), (.ref ra)])) rfl rfl (hb hby d4_7)
  have K5 : Keep h0 h5 [ra] := (Keep.refl h0 [ra]).wr W5 (Or.inl (by simp))
  have z5 : n0 ≤ h5.size := Nat.le_trans Z0 K5.1
  have N5 := Fr.snoc X5 N0 g_ra
  have Fw5 := F0.same W5
  have pre6 : ∀ t, Steps p.tables e below (T5.setTop (mkF m 10 #[.val (.ref ra)] [])) t → Steps p.tables e below (s₁.setTop (entryFrame m #[(.ref ra)] 1)) t := fun t k => pre4 t (st5 t k)
  obtain ⟨fs, hr, hrun, hended, hW, hsame⟩ := X5.leave (v := none) (fun _ => rfl)
  refine ⟨_, _, pre6 _ ?_, hrun, hended, _, _, rfl, ?_, ⟨_, rfl⟩, hW, hsame.mono (by decide) (by decide)⟩
  · exact X5.returnOut hx Bd.returns (hb hby d4_10) hr
  · show Q_rm_countApplication Z ra xap xws xde xqm xpa h0 n0 _ T5.heap _
    rw [e5]
    exact ⟨rfl, N5, K5, (E1.wr W5), Fw5, (F1.other W5 (Or.inr (slot_ne (Or.inl (hw _ (List.mem_of_getElem? (i := 18) rfl))) (Or.inl (hw _ (List.mem_of_getElem? (i := 16) rfl))) (by decide) (t := .long) (t' := .long) (by decide) (by decide)))), (F2.other W5 (Or.inr (slot_ne (Or.inl (hw _ (List.mem_of_getElem? (i := 20) rfl))) (Or.inl (hw _ (List.mem_of_getElem? (i := 16) rfl))) (by decide) (t := .long) (t' := .long) (by decide) (by decide)))), (F3.other W5 (Or.inr (slot_ne (Or.inl (hw _ (List.mem_of_getElem? (i := 22) rfl))) (Or.inl (hw _ (List.mem_of_getElem? (i := 16) rfl))) (by decide) (t := .long) (t' := .long) (by decide) (by decide)))), (F4.other W5 (Or.inr (slot_ne (Or.inl (hw _ (List.mem_of_getElem? (i := 44) rfl))) (Or.inl (hw _ (List.mem_of_getElem? (i := 16) rfl))) (by decide) (t := .long) (t' := .long) (by decide) (by decide))))⟩
theorem d5_0 : decode prog_35_method_9_code 0 = .ok (.aload_n 0, 1) := by decide +kernel
theorem d5_1 : decode prog_35_method_9_code 1 = .ok (.dup, 1) := by decide +kernel
theorem d5_2 : decode prog_35_method_9_code 2 = .ok (.getfield 13, 3) := by decide +kernel
theorem d5_5 : decode prog_35_method_9_code 5 = .ok (.iload_n 1, 1) := by decide +kernel
theorem d5_6 : decode prog_35_method_9_code 6 = .ok (.i2l, 1) := by decide +kernel
theorem d5_7 : decode prog_35_method_9_code 7 = .ok (.ladd, 1) := by decide +kernel
theorem d5_8 : decode prog_35_method_9_code 8 = .ok (.putfield 13, 3) := by decide +kernel
theorem d5_11 : decode prog_35_method_9_code 11 = .ok (.return_, 1) := by decide +kernel
theorem ef_rm_countWalkSteps (m : MethodId) (ra : Addr) (xi : Int32) : entryFrame m #[(.ref ra), (.int xi)] 2 = mkF m 0 #[.val (.ref ra), .val (.int xi)] [] := by first | (simp [entryFrame, mkF, argsToLocals, Value.category]; done) | rfl
def Q_rm_countWalkSteps (Z : State) (ra : Addr) (xi : Int32) (xap : Int64) (xws : Int64) (xde : Int64) (xqm : Int64) (xpa : Int64) (h0 : Heap) (n0 : Nat) (v : Option Value) (h : Heap) (L : List Loc) : Prop := v = none ∧ Fr n0 L ∧ Keep h0 h [ra] ∧ Exa Z h ra "com/example/suitor/suitor/SolverStatistics" ∧ Fld Z h ra "com/example/suitor/suitor/SolverStatistics" "applications" "J" (.long xap) ∧ Fld Z h ra "com/example/suitor/suitor/SolverStatistics" "walkSteps" "J" (.long (xws + (xi.toInt64))) ∧ Fld Z h ra "com/example/suitor/suitor/SolverStatistics" "deletions" "J" (.long xde) ∧ Fld Z h ra "com/example/suitor/suitor/SolverStatistics" "queueMoves" "J" (.long xqm) ∧ Fld Z h ra "com/example/suitor/suitor/SolverStatistics" "passes" "J" (.long xpa)
set_option maxRecDepth 65536 in
set_option maxHeartbeats 40000000 in
theorem rm_countWalkSteps (l : Launch) (Z : State) (a0 : Array Value) (hw : ∀ d ∈ tables_1, d.before a0 Z = true) (ws : List Jvm.Cond) (ra : Addr) (xi : Int32) (xap : Int64) (xws : Int64) (xde : Int64) (xqm : Int64) (xpa : Int64) (h0 : Heap) (n0 : Nat) (Z0 : n0 ≤ h0.size) (E1 : Exa Z h0 ra "com/example/suitor/suitor/SolverStatistics") (g_ra : n0 ≤ ra) (F0 : Fld Z h0 ra "com/example/suitor/suitor/SolverStatistics" "applications" "J" (.long xap)) (F1 : Fld Z h0 ra "com/example/suitor/suitor/SolverStatistics" "walkSteps" "J" (.long xws)) (F2 : Fld Z h0 ra "com/example/suitor/suitor/SolverStatistics" "deletions" "J" (.long xde)) (F3 : Fld Z h0 ra "com/example/suitor/suitor/SolverStatistics" "queueMoves" "J" (.long xqm)) (F4 : Fld Z h0 ra "com/example/suitor/suitor/SolverStatistics" "passes" "J" (.long xpa)) :
    MetFree l (⟨"com/example/suitor/suitor/SolverStatistics", "countWalkSteps", "(I)V"⟩ : MethodName) (head1 (Jvm.Cond.code (⟨"com/example/suitor/suitor/SolverStatistics", "countWalkSteps", "(I)V"⟩ : MethodName) prog_35_method_9_code 2 none :: ws) ({ frames := 0, cells := 0, slots := 0, locals := 0 } : Room)) (fun a U => a = #[(.ref ra), (.int xi)] ∧ Z.Warmed39 U.vm ∧ U.heap = h0) (fun _ _ _ _ _ => True) (fun _ U o U' => ∃ v L, o = .returned v ∧ Q_rm_countWalkSteps Z ra xi xap xws xde xqm xpa h0 n0 v U'.heap L ∧ FrameEnd U o U' L ({ frames := 0, cells := 0, slots := 0, locals := 0 } : Room).cells ({ frames := 0, cells := 0, slots := 0, locals := 0 } : Room).slots) := by
  refine MetFree.of_bodySF (plainFor_of_name pn0) hisR ?_
  intro p e s m args below meth c s₁ Bd hml0 hP hK
  obtain ⟨rfl, hZ, hh⟩ := hP
  have hx := Bd.exec
  have hby := Bd.bytes
  have hml : c.maxLocals = 2 := hml0
  have hown : s.vm.findClass "com/example/suitor/suitor/SolverStatistics" = some m.cls := findClass_of_methodNamed Bd.named
  have hnm := (name_of_methodNamed Bd.named Bd.method).1
  have X0 : Stand p l e ({ frames := 0, cells := 0, slots := 0, locals := 0 } : Room) s m #[(.ref ra), (.int xi)] below meth c s₁ [] 0 0 := Stand.of_body Bd
  have e0 : s₁.heap = h0 := by rw [← hh, Bd.state]; rfl
  have N0 := Fr.nil n0
  have pre0 : ∀ t, Steps p.tables e below (s₁.setTop (mkF m 0 #[.val (.ref ra), .val (.int xi)] [])) t → Steps p.tables e below (s₁.setTop (entryFrame m #[(.ref ra), (.int xi)] 2)) t := fun t k => castTop (ef_rm_countWalkSteps m ra xi) k
  have pre1 : ∀ t, Steps p.tables e below (s₁.setTop (mkF m 2 #[.val (.ref ra), .val (.int xi)] [(.ref ra), (.ref ra)])) t → Steps p.tables e below (s₁.setTop (entryFrame m #[(.ref ra), (.int xi)] 2)) t := by
    intro t k
    refine pre0 t ?_
    refine XS.aloadN X0.here hx rfl (hb hby d5_0) rfl rfl ?_
    show Steps p.tables e below (s₁.setTop (mkF m 1 #[.val (.ref ra), .val (.int xi)] [(.ref ra)])) _
    refine XS.dup X0.here hx rfl (hb hby d5_1) rfl rfl ?_
    show Steps p.tables e below (s₁.setTop (mkF m 2 #[.val (.ref ra), .val (.int xi)] [(.ref ra), (.ref ra)])) _
    exact k
  obtain ⟨T2, X2, e2, st2⟩ := getF X0 hx hZ hown (host := "") (Or.inl (hw _ (List.mem_of_getElem? (i := 17) rfl))) Via.refl e0 F1 (g := (mkF m 2 #[.val (.ref ra), .val (.int xi)] [(.ref ra), (.ref ra)])) rfl rfl (hb hby d5_2)
  have pre3 : ∀ t, Steps p.tables e below (T2.setTop (mkF m 5 #[.val (.ref ra), .val (.int xi)] [(.long xws), (.ref ra)])) t → Steps p.tables e below (s₁.setTop (entryFrame m #[(.ref ra), (.int xi)] 2)) t := fun t k => pre1 t (st2 t k)
  have pre4 : ∀ t, Steps p.tables e below (T2.setTop (mkF m 8 #[.val (.ref ra), .val (.int xi)] [(.long (xws + (xi.toInt64))), (.ref ra)])) t → Steps p.tables e below (s₁.setTop (entryFrame m #[(.ref ra), (.int xi)] 2)) t := by
    intro t k
    refine pre3 t ?_
    refine XS.iloadN X2.here hx rfl (hb hby d5_5) rfl ?_
    show Steps p.tables e below (T2.setTop (mkF m 6 #[.val (.ref ra), .val (.int xi)] [(.int xi), (.long xws), (.ref ra)])) _
    refine XS.i2l X2.here hx rfl (hb hby d5_6) rfl ?_
    show Steps p.tables e below (T2.setTop (mkF m 7 #[.val (.ref ra), .val (.int xi)] [(.long (xi.toInt64)), (.long xws), (.ref ra)])) _
    refine XS.ladd X2.here hx rfl (hb hby d5_7) rfl ?_
    show Steps p.tables e below (T2.setTop (mkF m 8 #[.val (.ref ra), .val (.int xi)] [(.long (xws + (xi.toInt64))), (.ref ra)])) _
    exact k
  obtain ⟨T5, h5, X5, e5, W5, st5⟩ := putF X2 hx hZ hown (host := "") (Or.inl (hw _ (List.mem_of_getElem? (i := 17) rfl))) Via.refl e2 F1 E1 (Or.inl (hw _ (List.mem_of_getElem? (i := 18) rfl))) (hw _ (List.mem_of_getElem? (i := 2) rfl)) (ty := .long) (by decide) rfl rfl (g := (mkF m 8 #[.val (.ref ra), .val (.int xi)] [(.long (xws + (xi.toInt64))), (.ref ra)])) rfl rfl (hb hby d5_8)
  have K5 : Keep h0 h5 [ra] := (Keep.refl h0 [ra]).wr W5 (Or.inl (by simp))
  have z5 : n0 ≤ h5.size := Nat.le_trans Z0 K5.1
  have N5 := Fr.snoc X5 N0 g_ra
  have Fw5 := F1.same W5
  have pre6 : ∀ t, Steps p.tables e below (T5.setTop (mkF m 11 #[.val (.ref ra), .val (.int xi)] [])) t → Steps p.tables e below (s₁.setTop (entryFrame m #[(.ref ra), (.int xi)] 2)) t := fun t k => pre4 t (st5 t k)
  obtain ⟨fs, hr, hrun, hended, hW, hsame⟩ := X5.leave (v := none) (fun _ => rfl)
  refine ⟨_, _, pre6 _ ?_, hrun, hended, _, _, rfl, ?_, ⟨_, rfl⟩, hW, hsame.mono (by decide) (by decide)⟩
  · exact X5.returnOut hx Bd.returns (hb hby d5_11) hr
  · show Q_rm_countWalkSteps Z ra xi xap xws xde xqm xpa h0 n0 _ T5.heap _
    rw [e5]
    exact ⟨rfl, N5, K5, (E1.wr W5), (F0.other W5 (Or.inr (slot_ne (Or.inl (hw _ (List.mem_of_getElem? (i := 16) rfl))) (Or.inl (hw _ (List.mem_of_getElem? (i := 18) rfl))) (by decide) (t := .long) (t' := .long) (by decide) (by decide)))), Fw5, (F2.other W5 (Or.inr (slot_ne (Or.inl (hw _ (List.mem_of_getElem? (i := 20) rfl))) (Or.inl (hw _ (List.mem_of_getElem? (i := 18) rfl))) (by decide) (t := .long) (t' := .long) (by decide) (by decide)))), (F3.other W5 (Or.inr (slot_ne (Or.inl (hw _ (List.mem_of_getElem? (i := 22) rfl))) (Or.inl (hw _ (List.mem_of_getElem? (i := 18) rfl))) (by decide) (t := .long) (t' := .long) (by decide) (by decide)))), (F4.other W5 (Or.inr (slot_ne (Or.inl (hw _ (List.mem_of_getElem? (i := 44) rfl))) (Or.inl (hw _ (List.mem_of_getElem? (i := 18) rfl))) (by decide) (t := .long) (t' := .long) (by decide) (by decide))))⟩
theorem d6_0 : decode prog_35_method_11_code 0 = .ok (.aload_n 0, 1) := by decide +kernel
theorem d6_1 : decode prog_35_method_11_code 1 = .ok (.dup, 1) := by decide +kernel
theorem d6_2 : decode prog_35_method_11_code 2 = .ok (.getfield 19, 3) := by decide +kernel
theorem d6_5 : decode prog_35_method_11_code 5 = .ok (.iload_n 1, 1) := by decide +kernel
theorem d6_6 : decode prog_35_method_11_code 6 = .ok (.i2l, 1) := by decide +kernel
theorem d6_7 : decode prog_35_method_11_code 7 = .ok (.ladd, 1) := by decide +kernel
theorem d6_8 : decode prog_35_method_11_code 8 = .ok (.putfield 19, 3) := by decide +kernel
theorem d6_11 : decode prog_35_method_11_code 11 = .ok (.return_, 1) := by decide +kernel
theorem ef_rm_countQueueMoves (m : MethodId) (ra : Addr) (xi : Int32) : entryFrame m #[(.ref ra), (.int xi)] 2 = mkF m 0 #[.val (.ref ra), .val (.int xi)] [] := by first | (simp [entryFrame, mkF, argsToLocals, Value.category]; done) | rfl
def Q_rm_countQueueMoves (Z : State) (ra : Addr) (xi : Int32) (xap : Int64) (xws : Int64) (xde : Int64) (xqm : Int64) (xpa : Int64) (h0 : Heap) (n0 : Nat) (v : Option Value) (h : Heap) (L : List Loc) : Prop := v = none ∧ Fr n0 L ∧ Keep h0 h [ra] ∧ Exa Z h ra "com/example/suitor/suitor/SolverStatistics" ∧ Fld Z h ra "com/example/suitor/suitor/SolverStatistics" "applications" "J" (.long xap) ∧ Fld Z h ra "com/example/suitor/suitor/SolverStatistics" "walkSteps" "J" (.long xws) ∧ Fld Z h ra "com/example/suitor/suitor/SolverStatistics" "deletions" "J" (.long xde) ∧ Fld Z h ra "com/example/suitor/suitor/SolverStatistics" "queueMoves" "J" (.long (xqm + (xi.toInt64))) ∧ Fld Z h ra "com/example/suitor/suitor/SolverStatistics" "passes" "J" (.long xpa)
set_option maxRecDepth 65536 in
set_option maxHeartbeats 40000000 in
theorem rm_countQueueMoves (l : Launch) (Z : State) (a0 : Array Value) (hw : ∀ d ∈ tables_1, d.before a0 Z = true) (ws : List Jvm.Cond) (ra : Addr) (xi : Int32) (xap : Int64) (xws : Int64) (xde : Int64) (xqm : Int64) (xpa : Int64) (h0 : Heap) (n0 : Nat) (Z0 : n0 ≤ h0.size) (E1 : Exa Z h0 ra "com/example/suitor/suitor/SolverStatistics") (g_ra : n0 ≤ ra) (F0 : Fld Z h0 ra "com/example/suitor/suitor/SolverStatistics" "applications" "J" (.long xap)) (F1 : Fld Z h0 ra "com/example/suitor/suitor/SolverStatistics" "walkSteps" "J" (.long xws)) (F2 : Fld Z h0 ra "com/example/suitor/suitor/SolverStatistics" "deletions" "J" (.long xde)) (F3 : Fld Z h0 ra "com/example/suitor/suitor/SolverStatistics" "queueMoves" "J" (.long xqm)) (F4 : Fld Z h0 ra "com/example/suitor/suitor/SolverStatistics" "passes" "J" (.long xpa)) :
    MetFree l (⟨"com/example/suitor/suitor/SolverStatistics", "countQueueMoves", "(I)V"⟩ : MethodName) (head1 (Jvm.Cond.code (⟨"com/example/suitor/suitor/SolverStatistics", "countQueueMoves", "(I)V"⟩ : MethodName) prog_35_method_11_code 2 none :: ws) ({ frames := 0, cells := 0, slots := 0, locals := 0 } : Room)) (fun a U => a = #[(.ref ra), (.int xi)] ∧ Z.Warmed39 U.vm ∧ U.heap = h0) (fun _ _ _ _ _ => True) (fun _ U o U' => ∃ v L, o = .returned v ∧ Q_rm_countQueueMoves Z ra xi xap xws xde xqm xpa h0 n0 v U'.heap L ∧ FrameEnd U o U' L ({ frames := 0, cells := 0, slots := 0, locals := 0 } : Room).cells ({ frames := 0, cells := 0, slots := 0, locals := 0 } : Room).slots) := by
  refine MetFree.of_bodySF (plainFor_of_name pn0) hisR ?_
  intro p e s m args below meth c s₁ Bd hml0 hP hK
  obtain ⟨rfl, hZ, hh⟩ := hP
  have hx := Bd.exec
  have hby := Bd.bytes
  have hml : c.maxLocals = 2 := hml0
  have hown : s.vm.findClass "com/example/suitor/suitor/SolverStatistics" = some m.cls := findClass_of_methodNamed Bd.named
  have hnm := (name_of_methodNamed Bd.named Bd.method).1
  have X0 : Stand p l e ({ frames := 0, cells := 0, slots := 0, locals := 0 } : Room) s m #[(.ref ra), (.int xi)] below meth c s₁ [] 0 0 := Stand.of_body Bd
  have e0 : s₁.heap = h0 := by rw [← hh, Bd.state]; rfl
  have N0 := Fr.nil n0
  have pre0 : ∀ t, Steps p.tables e below (s₁.setTop (mkF m 0 #[.val (.ref ra), .val (.int xi)] [])) t → Steps p.tables e below (s₁.setTop (entryFrame m #[(.ref ra), (.int xi)] 2)) t := fun t k => castTop (ef_rm_countQueueMoves m ra xi) k
  have pre1 : ∀ t, Steps p.tables e below (s₁.setTop (mkF m 2 #[.val (.ref ra), .val (.int xi)] [(.ref ra), (.ref ra)])) t → Steps p.tables e below (s₁.setTop (entryFrame m #[(.ref ra), (.int xi)] 2)) t := by
    intro t k
    refine pre0 t ?_
    refine XS.aloadN X0.here hx rfl (hb hby d6_0) rfl rfl ?_
    show Steps p.tables e below (s₁.setTop (mkF m 1 #[.val (.ref ra), .val (.int xi)] [(.ref ra)])) _
    refine XS.dup X0.here hx rfl (hb hby d6_1) rfl rfl ?_
    show Steps p.tables e below (s₁.setTop (mkF m 2 #[.val (.ref ra), .val (.int xi)] [(.ref ra), (.ref ra)])) _
    exact k
  obtain ⟨T2, X2, e2, st2⟩ := getF X0 hx hZ hown (host := "") (Or.inl (hw _ (List.mem_of_getElem? (i := 21) rfl))) Via.refl e0 F3 (g := (mkF m 2 #[.val (.ref ra), .val (.int xi)] [(.ref ra), (.ref ra)])) rfl rfl (hb hby d6_2)
  have pre3 : ∀ t, Steps p.tables e below (T2.setTop (mkF m 5 #[.val (.ref ra), .val (.int xi)] [(.long xqm), (.ref ra)])) t → Steps p.tables e below (s₁.setTop (entryFrame m #[(.ref ra), (.int xi)] 2)) t := fun t k => pre1 t (st2 t k)
  have pre4 : ∀ t, Steps p.tables e below (T2.setTop (mkF m 8 #[.val (.ref ra), .val (.int xi)] [(.long (xqm + (xi.toInt64))), (.ref ra)])) t → Steps p.tables e below (s₁.setTop (entryFrame m #[(.ref ra), (.int xi)] 2)) t := by
    intro t k
    refine pre3 t ?_
    refine XS.iloadN X2.here hx rfl (hb hby d6_5) rfl ?_
    show Steps p.tables e below (T2.setTop (mkF m 6 #[.val (.ref ra), .val (.int xi)] [(.int xi), (.long xqm), (.ref ra)])) _
    refine XS.i2l X2.here hx rfl (hb hby d6_6) rfl ?_
    show Steps p.tables e below (T2.setTop (mkF m 7 #[.val (.ref ra), .val (.int xi)] [(.long (xi.toInt64)), (.long xqm), (.ref ra)])) _
    refine XS.ladd X2.here hx rfl (hb hby d6_7) rfl ?_
    show Steps p.tables e below (T2.setTop (mkF m 8 #[.val (.ref ra), .val (.int xi)] [(.long (xqm + (xi.toInt64))), (.ref ra)])) _
    exact k
  obtain ⟨T5, h5, X5, e5, W5, st5⟩ := putF X2 hx hZ hown (host := "") (Or.inl (hw _ (List.mem_of_getElem? (i := 21) rfl))) Via.refl e2 F3 E1 (Or.inl (hw _ (List.mem_of_getElem? (i := 22) rfl))) (hw _ (List.mem_of_getElem? (i := 2) rfl)) (ty := .long) (by decide) rfl rfl (g := (mkF m 8 #[.val (.ref ra), .val (.int xi)] [(.long (xqm + (xi.toInt64))), (.ref ra)])) rfl rfl (hb hby d6_8)
  have K5 : Keep h0 h5 [ra] := (Keep.refl h0 [ra]).wr W5 (Or.inl (by simp))
  have z5 : n0 ≤ h5.size := Nat.le_trans Z0 K5.1
  have N5 := Fr.snoc X5 N0 g_ra
  have Fw5 := F3.same W5
  have pre6 : ∀ t, Steps p.tables e below (T5.setTop (mkF m 11 #[.val (.ref ra), .val (.int xi)] [])) t → Steps p.tables e below (s₁.setTop (entryFrame m #[(.ref ra), (.int xi)] 2)) t := fun t k => pre4 t (st5 t k)
  obtain ⟨fs, hr, hrun, hended, hW, hsame⟩ := X5.leave (v := none) (fun _ => rfl)
  refine ⟨_, _, pre6 _ ?_, hrun, hended, _, _, rfl, ?_, ⟨_, rfl⟩, hW, hsame.mono (by decide) (by decide)⟩
  · exact X5.returnOut hx Bd.returns (hb hby d6_11) hr
  · show Q_rm_countQueueMoves Z ra xi xap xws xde xqm xpa h0 n0 _ T5.heap _
    rw [e5]
    exact ⟨rfl, N5, K5, (E1.wr W5), (F0.other W5 (Or.inr (slot_ne (Or.inl (hw _ (List.mem_of_getElem? (i := 16) rfl))) (Or.inl (hw _ (List.mem_of_getElem? (i := 22) rfl))) (by decide) (t := .long) (t' := .long) (by decide) (by decide)))), (F1.other W5 (Or.inr (slot_ne (Or.inl (hw _ (List.mem_of_getElem? (i := 18) rfl))) (Or.inl (hw _ (List.mem_of_getElem? (i := 22) rfl))) (by decide) (t := .long) (t' := .long) (by decide) (by decide)))), (F2.other W5 (Or.inr (slot_ne (Or.inl (hw _ (List.mem_of_getElem? (i := 20) rfl))) (Or.inl (hw _ (List.mem_of_getElem? (i := 22) rfl))) (by decide) (t := .long) (t' := .long) (by decide) (by decide)))), Fw5, (F4.other W5 (Or.inr (slot_ne (Or.inl (hw _ (List.mem_of_getElem? (i := 44) rfl))) (Or.inl (hw _ (List.mem_of_getElem? (i := 22) rfl))) (by decide) (t := .long) (t' := .long) (by decide) (by decide))))⟩
theorem d7_0 : decode prog_35_method_12_code 0 = .ok (.aload_n 0, 1) := by decide +kernel
theorem d7_1 : decode prog_35_method_12_code 1 = .ok (.dup, 1) := by decide +kernel
theorem d7_2 : decode prog_35_method_12_code 2 = .ok (.getfield 22, 3) := by decide +kernel
theorem d7_5 : decode prog_35_method_12_code 5 = .ok (.lconst 1, 1) := by decide +kernel
theorem d7_6 : decode prog_35_method_12_code 6 = .ok (.ladd, 1) := by decide +kernel
theorem d7_7 : decode prog_35_method_12_code 7 = .ok (.putfield 22, 3) := by decide +kernel
theorem d7_10 : decode prog_35_method_12_code 10 = .ok (.return_, 1) := by decide +kernel
theorem ef_rm_countPass (m : MethodId) (ra : Addr) : entryFrame m #[(.ref ra)] 1 = mkF m 0 #[.val (.ref ra)] [] := by first | (simp [entryFrame, mkF, argsToLocals, Value.category]; done) | rfl
def Q_rm_countPass (Z : State) (ra : Addr) (xap : Int64) (xws : Int64) (xde : Int64) (xqm : Int64) (xpa : Int64) (h0 : Heap) (n0 : Nat) (v : Option Value) (h : Heap) (L : List Loc) : Prop := v = none ∧ Fr n0 L ∧ Keep h0 h [ra] ∧ Exa Z h ra "com/example/suitor/suitor/SolverStatistics" ∧ Fld Z h ra "com/example/suitor/suitor/SolverStatistics" "applications" "J" (.long xap) ∧ Fld Z h ra "com/example/suitor/suitor/SolverStatistics" "walkSteps" "J" (.long xws) ∧ Fld Z h ra "com/example/suitor/suitor/SolverStatistics" "deletions" "J" (.long xde) ∧ Fld Z h ra "com/example/suitor/suitor/SolverStatistics" "queueMoves" "J" (.long xqm) ∧ Fld Z h ra "com/example/suitor/suitor/SolverStatistics" "passes" "J" (.long (xpa + (1 : Int64)))
set_option maxRecDepth 65536 in
set_option maxHeartbeats 40000000 in
theorem rm_countPass (l : Launch) (Z : State) (a0 : Array Value) (hw : ∀ d ∈ tables_1, d.before a0 Z = true) (ws : List Jvm.Cond) (ra : Addr) (xap : Int64) (xws : Int64) (xde : Int64) (xqm : Int64) (xpa : Int64) (h0 : Heap) (n0 : Nat) (Z0 : n0 ≤ h0.size) (E1 : Exa Z h0 ra "com/example/suitor/suitor/SolverStatistics") (g_ra : n0 ≤ ra) (F0 : Fld Z h0 ra "com/example/suitor/suitor/SolverStatistics" "applications" "J" (.long xap)) (F1 : Fld Z h0 ra "com/example/suitor/suitor/SolverStatistics" "walkSteps" "J" (.long xws)) (F2 : Fld Z h0 ra "com/example/suitor/suitor/SolverStatistics" "deletions" "J" (.long xde)) (F3 : Fld Z h0 ra "com/example/suitor/suitor/SolverStatistics" "queueMoves" "J" (.long xqm)) (F4 : Fld Z h0 ra "com/example/suitor/suitor/SolverStatistics" "passes" "J" (.long xpa)) :
    MetFree l (⟨"com/example/suitor/suitor/SolverStatistics", "countPass", "()V"⟩ : MethodName) (head1 (Jvm.Cond.code (⟨"com/example/suitor/suitor/SolverStatistics", "countPass", "()V"⟩ : MethodName) prog_35_method_12_code 1 none :: ws) ({ frames := 0, cells := 0, slots := 0, locals := 0 } : Room)) (fun a U => a = #[(.ref ra)] ∧ Z.Warmed39 U.vm ∧ U.heap = h0) (fun _ _ _ _ _ => True) (fun _ U o U' => ∃ v L, o = .returned v ∧ Q_rm_countPass Z ra xap xws xde xqm xpa h0 n0 v U'.heap L ∧ FrameEnd U o U' L ({ frames := 0, cells := 0, slots := 0, locals := 0 } : Room).cells ({ frames := 0, cells := 0, slots := 0, locals := 0 } : Room).slots) := by
  refine MetFree.of_bodySF (plainFor_of_name pn0) hisR ?_
  intro p e s m args below meth c s₁ Bd hml0 hP hK
  obtain ⟨rfl, hZ, hh⟩ := hP
  have hx := Bd.exec
  have hby := Bd.bytes
  have hml : c.maxLocals = 1 := hml0
  have hown : s.vm.findClass "com/example/suitor/suitor/SolverStatistics" = some m.cls := findClass_of_methodNamed Bd.named
  have hnm := (name_of_methodNamed Bd.named Bd.method).1
  have X0 : Stand p l e ({ frames := 0, cells := 0, slots := 0, locals := 0 } : Room) s m #[(.ref ra)] below meth c s₁ [] 0 0 := Stand.of_body Bd
  have e0 : s₁.heap = h0 := by rw [← hh, Bd.state]; rfl
  have N0 := Fr.nil n0
  have pre0 : ∀ t, Steps p.tables e below (s₁.setTop (mkF m 0 #[.val (.ref ra)] [])) t → Steps p.tables e below (s₁.setTop (entryFrame m #[(.ref ra)] 1)) t := fun t k => castTop (ef_rm_countPass m ra) k
  have pre1 : ∀ t, Steps p.tables e below (s₁.setTop (mkF m 2 #[.val (.ref ra)] [(.ref ra), (.ref ra)])) t → Steps p.tables e below (s₁.setTop (entryFrame m #[(.ref ra)] 1)) t := by
    intro t k
    refine pre0 t ?_
    refine XS.aloadN X0.here hx rfl (hb hby d7_0) rfl rfl ?_
    show Steps p.tables e below (s₁.setTop (mkF m 1 #[.val (.ref ra)] [(.ref ra)])) _
    refine XS.dup X0.here hx rfl (hb hby d7_1) rfl rfl ?_
    show Steps p.tables e below (s₁.setTop (mkF m 2 #[.val (.ref ra)] [(.ref ra), (.ref ra)])) _
    exact k
  obtain ⟨T2, X2, e2, st2⟩ := getF X0 hx hZ hown (host := "") (Or.inl (hw _ (List.mem_of_getElem? (i := 43) rfl))) Via.refl e0 F4 (g := (mkF m 2 #[.val (.ref ra)] [(.ref ra), (.ref ra)])) rfl rfl (hb hby d7_2)
  have pre3 : ∀ t, Steps p.tables e below (T2.setTop (mkF m 5 #[.val (.ref ra)] [(.long xpa), (.ref ra)])) t → Steps p.tables e below (s₁.setTop (entryFrame m #[(.ref ra)] 1)) t := fun t k => pre1 t (st2 t k)
  have pre4 : ∀ t, Steps p.tables e below (T2.setTop (mkF m 7 #[.val (.ref ra)] [(.long (xpa + (1 : Int64))), (.ref ra)])) t → Steps p.tables e below (s₁.setTop (entryFrame m #[(.ref ra)] 1)) t := by
    intro t k
    refine pre3 t ?_
    refine XS.lconst X2.here hx rfl (hb hby d7_5) ?_
    show Steps p.tables e below (T2.setTop (mkF m 6 #[.val (.ref ra)] [(.long (1 : Int64)), (.long xpa), (.ref ra)])) _
    refine XS.ladd X2.here hx rfl (hb hby d7_6) rfl ?_
    show Steps p.tables e below (T2.setTop (mkF m 7 #[.val (.ref ra)] [(.long (xpa + (1 : Int64))), (.ref ra)])) _
    exact k
  obtain ⟨T5, h5, X5, e5, W5, st5⟩ := putF X2 hx hZ hown (host := "") (Or.inl (hw _ (List.mem_of_getElem? (i := 43) rfl))) Via.refl e2 F4 E1 (Or.inl (hw _ (List.mem_of_getElem? (i := 44) rfl))) (hw _ (List.mem_of_getElem? (i := 2) rfl)) (ty := .long) (by decide) rfl rfl (g := (mkF m 7 #[.val (.ref ra)] [(.long (xpa + (1 : Int64))), (.ref ra)])) rfl rfl (hb hby d7_7)
  have K5 : Keep h0 h5 [ra] := (Keep.refl h0 [ra]).wr W5 (Or.inl (by simp))
  have z5 : n0 ≤ h5.size := Nat.le_trans Z0 K5.1
  have N5 := Fr.snoc X5 N0 g_ra
  have Fw5 := F4.same W5
  have pre6 : ∀ t, Steps p.tables e below (T5.setTop (mkF m 10 #[.val (.ref ra)] [])) t → Steps p.tables e below (s₁.setTop (entryFrame m #[(.ref ra)] 1)) t := fun t k => pre4 t (st5 t k)
  obtain ⟨fs, hr, hrun, hended, hW, hsame⟩ := X5.leave (v := none) (fun _ => rfl)
  refine ⟨_, _, pre6 _ ?_, hrun, hended, _, _, rfl, ?_, ⟨_, rfl⟩, hW, hsame.mono (by decide) (by decide)⟩
  · exact X5.returnOut hx Bd.returns (hb hby d7_10) hr
  · show Q_rm_countPass Z ra xap xws xde xqm xpa h0 n0 _ T5.heap _
    rw [e5]
    exact ⟨rfl, N5, K5, (E1.wr W5), (F0.other W5 (Or.inr (slot_ne (Or.inl (hw _ (List.mem_of_getElem? (i := 16) rfl))) (Or.inl (hw _ (List.mem_of_getElem? (i := 44) rfl))) (by decide) (t := .long) (t' := .long) (by decide) (by decide)))), (F1.other W5 (Or.inr (slot_ne (Or.inl (hw _ (List.mem_of_getElem? (i := 18) rfl))) (Or.inl (hw _ (List.mem_of_getElem? (i := 44) rfl))) (by decide) (t := .long) (t' := .long) (by decide) (by decide)))), (F2.other W5 (Or.inr (slot_ne (Or.inl (hw _ (List.mem_of_getElem? (i := 20) rfl))) (Or.inl (hw _ (List.mem_of_getElem? (i := 44) rfl))) (by decide) (t := .long) (t' := .long) (by decide) (by decide)))), (F3.other W5 (Or.inr (slot_ne (Or.inl (hw _ (List.mem_of_getElem? (i := 22) rfl))) (Or.inl (hw _ (List.mem_of_getElem? (i := 44) rfl))) (by decide) (t := .long) (t' := .long) (by decide) (by decide)))), Fw5⟩
theorem d8_0 : decode prog_35_method_10_code 0 = .ok (.aload_n 0, 1) := by decide +kernel
theorem d8_1 : decode prog_35_method_10_code 1 = .ok (.dup, 1) := by decide +kernel
theorem d8_2 : decode prog_35_method_10_code 2 = .ok (.getfield 16, 3) := by decide +kernel
theorem d8_5 : decode prog_35_method_10_code 5 = .ok (.lconst 1, 1) := by decide +kernel
theorem d8_6 : decode prog_35_method_10_code 6 = .ok (.ladd, 1) := by decide +kernel
theorem d8_7 : decode prog_35_method_10_code 7 = .ok (.putfield 16, 3) := by decide +kernel
theorem d8_10 : decode prog_35_method_10_code 10 = .ok (.return_, 1) := by decide +kernel
theorem ef_rm_countDeletion (m : MethodId) (ra : Addr) : entryFrame m #[(.ref ra)] 1 = mkF m 0 #[.val (.ref ra)] [] := by first | (simp [entryFrame, mkF, argsToLocals, Value.category]; done) | rfl
def Q_rm_countDeletion (Z : State) (ra : Addr) (xap : Int64) (xws : Int64) (xde : Int64) (xqm : Int64) (xpa : Int64) (h0 : Heap) (n0 : Nat) (v : Option Value) (h : Heap) (L : List Loc) : Prop := v = none ∧ Fr n0 L ∧ Keep h0 h [ra] ∧ Exa Z h ra "com/example/suitor/suitor/SolverStatistics" ∧ Fld Z h ra "com/example/suitor/suitor/SolverStatistics" "applications" "J" (.long xap) ∧ Fld Z h ra "com/example/suitor/suitor/SolverStatistics" "walkSteps" "J" (.long xws) ∧ Fld Z h ra "com/example/suitor/suitor/SolverStatistics" "deletions" "J" (.long (xde + (1 : Int64))) ∧ Fld Z h ra "com/example/suitor/suitor/SolverStatistics" "queueMoves" "J" (.long xqm) ∧ Fld Z h ra "com/example/suitor/suitor/SolverStatistics" "passes" "J" (.long xpa)
set_option maxRecDepth 65536 in
set_option maxHeartbeats 40000000 in
theorem rm_countDeletion (l : Launch) (Z : State) (a0 : Array Value) (hw : ∀ d ∈ tables_1, d.before a0 Z = true) (ws : List Jvm.Cond) (ra : Addr) (xap : Int64) (xws : Int64) (xde : Int64) (xqm : Int64) (xpa : Int64) (h0 : Heap) (n0 : Nat) (Z0 : n0 ≤ h0.size) (E1 : Exa Z h0 ra "com/example/suitor/suitor/SolverStatistics") (g_ra : n0 ≤ ra) (F0 : Fld Z h0 ra "com/example/suitor/suitor/SolverStatistics" "applications" "J" (.long xap)) (F1 : Fld Z h0 ra "com/example/suitor/suitor/SolverStatistics" "walkSteps" "J" (.long xws)) (F2 : Fld Z h0 ra "com/example/suitor/suitor/SolverStatistics" "deletions" "J" (.long xde)) (F3 : Fld Z h0 ra "com/example/suitor/suitor/SolverStatistics" "queueMoves" "J" (.long xqm)) (F4 : Fld Z h0 ra "com/example/suitor/suitor/SolverStatistics" "passes" "J" (.long xpa)) :
    MetFree l (⟨"com/example/suitor/suitor/SolverStatistics", "countDeletion", "()V"⟩ : MethodName) (head1 (Jvm.Cond.code (⟨"com/example/suitor/suitor/SolverStatistics", "countDeletion", "()V"⟩ : MethodName) prog_35_method_10_code 1 none :: ws) ({ frames := 0, cells := 0, slots := 0, locals := 0 } : Room)) (fun a U => a = #[(.ref ra)] ∧ Z.Warmed39 U.vm ∧ U.heap = h0) (fun _ _ _ _ _ => True) (fun _ U o U' => ∃ v L, o = .returned v ∧ Q_rm_countDeletion Z ra xap xws xde xqm xpa h0 n0 v U'.heap L ∧ FrameEnd U o U' L ({ frames := 0, cells := 0, slots := 0, locals := 0 } : Room).cells ({ frames := 0, cells := 0, slots := 0, locals := 0 } : Room).slots) := by
  refine MetFree.of_bodySF (plainFor_of_name pn0) hisR ?_
  intro p e s m args below meth c s₁ Bd hml0 hP hK
  obtain ⟨rfl, hZ, hh⟩ := hP
  have hx := Bd.exec
  have hby := Bd.bytes
  have hml : c.maxLocals = 1 := hml0
  have hown : s.vm.findClass "com/example/suitor/suitor/SolverStatistics" = some m.cls := findClass_of_methodNamed Bd.named
  have hnm := (name_of_methodNamed Bd.named Bd.method).1
  have X0 : Stand p l e ({ frames := 0, cells := 0, slots := 0, locals := 0 } : Room) s m #[(.ref ra)] below meth c s₁ [] 0 0 := Stand.of_body Bd
  have e0 : s₁.heap = h0 := by rw [← hh, Bd.state]; rfl
  have N0 := Fr.nil n0
  have pre0 : ∀ t, Steps p.tables e below (s₁.setTop (mkF m 0 #[.val (.ref ra)] [])) t → Steps p.tables e below (s₁.setTop (entryFrame m #[(.ref ra)] 1)) t := fun t k => castTop (ef_rm_countDeletion m ra) k
  have pre1 : ∀ t, Steps p.tables e below (s₁.setTop (mkF m 2 #[.val (.ref ra)] [(.ref ra), (.ref ra)])) t → Steps p.tables e below (s₁.setTop (entryFrame m #[(.ref ra)] 1)) t := by
    intro t k
    refine pre0 t ?_
    refine XS.aloadN X0.here hx rfl (hb hby d8_0) rfl rfl ?_
    show Steps p.tables e below (s₁.setTop (mkF m 1 #[.val (.ref ra)] [(.ref ra)])) _
    refine XS.dup X0.here hx rfl (hb hby d8_1) rfl rfl ?_
    show Steps p.tables e below (s₁.setTop (mkF m 2 #[.val (.ref ra)] [(.ref ra), (.ref ra)])) _
    exact k
  obtain ⟨T2, X2, e2, st2⟩ := getF X0 hx hZ hown (host := "") (Or.inl (hw _ (List.mem_of_getElem? (i := 19) rfl))) Via.refl e0 F2 (g := (mkF m 2 #[.val (.ref ra)] [(.ref ra), (.ref ra)])) rfl rfl (hb hby d8_2)
  have pre3 : ∀ t, Steps p.tables e below (T2.setTop (mkF m 5 #[.val (.ref ra)] [(.long xde), (.ref ra)])) t → Steps p.tables e below (s₁.setTop (entryFrame m #[(.ref ra)] 1)) t := fun t k => pre1 t (st2 t k)
  have pre4 : ∀ t, Steps p.tables e below (T2.setTop (mkF m 7 #[.val (.ref ra)] [(.long (xde + (1 : Int64))), (.ref ra)])) t → Steps p.tables e below (s₁.setTop (entryFrame m #[(.ref ra)] 1)) t := by
    intro t k
    refine pre3 t ?_
    refine XS.lconst X2.here hx rfl (hb hby d8_5) ?_
    show Steps p.tables e below (T2.setTop (mkF m 6 #[.val (.ref ra)] [(.long (1 : Int64)), (.long xde), (.ref ra)])) _
    refine XS.ladd X2.here hx rfl (hb hby d8_6) rfl ?_
    show Steps p.tables e below (T2.setTop (mkF m 7 #[.val (.ref ra)] [(.long (xde + (1 : Int64))), (.ref ra)])) _
    exact k
  obtain ⟨T5, h5, X5, e5, W5, st5⟩ := putF X2 hx hZ hown (host := "") (Or.inl (hw _ (List.mem_of_getElem? (i := 19) rfl))) Via.refl e2 F2 E1 (Or.inl (hw _ (List.mem_of_getElem? (i := 20) rfl))) (hw _ (List.mem_of_getElem? (i := 2) rfl)) (ty := .long) (by decide) rfl rfl (g := (mkF m 7 #[.val (.ref ra)] [(.long (xde + (1 : Int64))), (.ref ra)])) rfl rfl (hb hby d8_7)
  have K5 : Keep h0 h5 [ra] := (Keep.refl h0 [ra]).wr W5 (Or.inl (by simp))
  have z5 : n0 ≤ h5.size := Nat.le_trans Z0 K5.1
  have N5 := Fr.snoc X5 N0 g_ra
  have Fw5 := F2.same W5
  have pre6 : ∀ t, Steps p.tables e below (T5.setTop (mkF m 10 #[.val (.ref ra)] [])) t → Steps p.tables e below (s₁.setTop (entryFrame m #[(.ref ra)] 1)) t := fun t k => pre4 t (st5 t k)
  obtain ⟨fs, hr, hrun, hended, hW, hsame⟩ := X5.leave (v := none) (fun _ => rfl)
  refine ⟨_, _, pre6 _ ?_, hrun, hended, _, _, rfl, ?_, ⟨_, rfl⟩, hW, hsame.mono (by decide) (by decide)⟩
  · exact X5.returnOut hx Bd.returns (hb hby d8_10) hr
  · show Q_rm_countDeletion Z ra xap xws xde xqm xpa h0 n0 _ T5.heap _
    rw [e5]
    exact ⟨rfl, N5, K5, (E1.wr W5), (F0.other W5 (Or.inr (slot_ne (Or.inl (hw _ (List.mem_of_getElem? (i := 16) rfl))) (Or.inl (hw _ (List.mem_of_getElem? (i := 20) rfl))) (by decide) (t := .long) (t' := .long) (by decide) (by decide)))), (F1.other W5 (Or.inr (slot_ne (Or.inl (hw _ (List.mem_of_getElem? (i := 18) rfl))) (Or.inl (hw _ (List.mem_of_getElem? (i := 20) rfl))) (by decide) (t := .long) (t' := .long) (by decide) (by decide)))), Fw5, (F3.other W5 (Or.inr (slot_ne (Or.inl (hw _ (List.mem_of_getElem? (i := 22) rfl))) (Or.inl (hw _ (List.mem_of_getElem? (i := 20) rfl))) (by decide) (t := .long) (t' := .long) (by decide) (by decide)))), (F4.other W5 (Or.inr (slot_ne (Or.inl (hw _ (List.mem_of_getElem? (i := 44) rfl))) (Or.inl (hw _ (List.mem_of_getElem? (i := 20) rfl))) (by decide) (t := .long) (t' := .long) (by decide) (by decide))))⟩
theorem pd0 : parseMethodDescriptor "()V" = some ⟨[], none⟩ := by decide +kernel
theorem pd1 : parseMethodDescriptor "()J" = some ⟨[], some .long⟩ := by decide +kernel
theorem pd2 : parseMethodDescriptor "(I)V" = some ⟨[.int], none⟩ := by decide +kernel
theorem pn1 : plainName "com/example/suitor/suitor/SolverStatisticsGetStepsPinLaw" = true := by first | (simp [plainName, overriddenIn]; done) | decide +kernel
theorem own_0 (w1 w2 mv xf ap de : Int32) (hap : ap = ((xf &&& (1 : Int32)) + ((xf >>> ((1 : Int32) &&& 31)) &&& (1 : Int32)))) (hde : de = ((xf >>> ((2 : Int32) &&& 31)) &&& (1 : Int32))) (c1 : (xf &&& (1 : Int32)) = (0 : Int32)) (c2 : ((xf >>> ((1 : Int32) &&& 31)) &&& (1 : Int32)) = (0 : Int32)) (c3 : de = (0 : Int32)) : ((((0 : Int64) + (((0 : Int64) + (w1.toInt64)) + (w2.toInt64))) + (0 : Int64)) + ((0 : Int64) + (mv.toInt64))) = (((((ap.toInt64) + (w1.toInt64)) + (w2.toInt64)) + (de.toInt64)) + (mv.toInt64)) := by
  have q0 := and_one xf
  have q1 := and_one (xf >>> ((1 : Int32) &&& 31))
  have q2 := and_one (xf >>> ((2 : Int32) &&& 31))
  rw [hde] at c3
  have e0 : (xf &&& (1 : Int32)) = (0 : Int32) := by simpa using c1
  have e1 : ((xf >>> ((1 : Int32) &&& 31)) &&& (1 : Int32)) = (0 : Int32) := by simpa using c2
  have e2 : de = (0 : Int32) := by rw [hde]; simpa using c3
  rw [hap, e0, e1, e2]
  have : (0 : Int64).toInt = 0 := rfl
  have := rng32 w1
  have := c_i2l w1
  have := rng64 (w1.toInt64)
  have := c_ladd (0 : Int64) w1.toInt64
  have := rng64 ((0 : Int64) + w1.toInt64)
  have := rng32 w2
  have := c_i2l w2
  have := rng64 (w2.toInt64)
  have := c_ladd ((0 : Int64) + w1.toInt64) w2.toInt64
  have := rng64 (((0 : Int64) + w1.toInt64) + w2.toInt64)
  have := c_ladd (0 : Int64) (((0 : Int64) + w1.toInt64) + w2.toInt64)
  have := rng64 ((0 : Int64) + (((0 : Int64) + w1.toInt64) + w2.toInt64))
  have := c_ladd ((0 : Int64) + (((0 : Int64) + w1.toInt64) + w2.toInt64)) (0 : Int64)
  have := rng64 (((0 : Int64) + (((0 : Int64) + w1.toInt64) + w2.toInt64)) + (0 : Int64))
  have := rng32 mv
  have := c_i2l mv
  have := rng64 (mv.toInt64)
  have := c_ladd (0 : Int64) mv.toInt64
  have := rng64 ((0 : Int64) + mv.toInt64)
  have := c_ladd (((0 : Int64) + (((0 : Int64) + w1.toInt64) + w2.toInt64)) + (0 : Int64)) ((0 : Int64) + mv.toInt64)
  have := rng64 ((((0 : Int64) + (((0 : Int64) + w1.toInt64) + w2.toInt64)) + (0 : Int64)) + ((0 : Int64) + mv.toInt64))
  have : (0 : Int32).toInt = 0 := rfl
  have := c_iadd (0 : Int32) (0 : Int32)
  have := rng32 ((0 : Int32) + (0 : Int32))
  have := c_i2l ((0 : Int32) + (0 : Int32))
  have := rng64 (((0 : Int32) + (0 : Int32)).toInt64)
  have := c_ladd ((0 : Int32) + (0 : Int32)).toInt64 w1.toInt64
  have := rng64 (((0 : Int32) + (0 : Int32)).toInt64 + w1.toInt64)
  have := c_ladd (((0 : Int32) + (0 : Int32)).toInt64 + w1.toInt64) w2.toInt64
  have := rng64 ((((0 : Int32) + (0 : Int32)).toInt64 + w1.toInt64) + w2.toInt64)
  have := c_i2l (0 : Int32)
  have := rng64 ((0 : Int32).toInt64)
  have := c_ladd ((((0 : Int32) + (0 : Int32)).toInt64 + w1.toInt64) + w2.toInt64) (0 : Int32).toInt64
  have := rng64 (((((0 : Int32) + (0 : Int32)).toInt64 + w1.toInt64) + w2.toInt64) + (0 : Int32).toInt64)
  have := c_ladd (((((0 : Int32) + (0 : Int32)).toInt64 + w1.toInt64) + w2.toInt64) + (0 : Int32).toInt64) mv.toInt64
  have := rng64 ((((((0 : Int32) + (0 : Int32)).toInt64 + w1.toInt64) + w2.toInt64) + (0 : Int32).toInt64) + mv.toInt64)
  apply Int64.toInt_inj.mp
  omega
theorem own_1 (w1 w2 mv xf ap de : Int32) (hap : ap = ((xf &&& (1 : Int32)) + ((xf >>> ((1 : Int32) &&& 31)) &&& (1 : Int32)))) (hde : de = ((xf >>> ((2 : Int32) &&& 31)) &&& (1 : Int32))) (c1 : (xf &&& (1 : Int32)) = (0 : Int32)) (c2 : ((xf >>> ((1 : Int32) &&& 31)) &&& (1 : Int32)) = (0 : Int32)) (c3 : ¬ (de = (0 : Int32))) : ((((0 : Int64) + (((0 : Int64) + (w1.toInt64)) + (w2.toInt64))) + ((0 : Int64) + (1 : Int64))) + ((0 : Int64) + (mv.toInt64))) = (((((ap.toInt64) + (w1.toInt64)) + (w2.toInt64)) + (de.toInt64)) + (mv.toInt64)) := by
  have q0 := and_one xf
  have q1 := and_one (xf >>> ((1 : Int32) &&& 31))
  have q2 := and_one (xf >>> ((2 : Int32) &&& 31))
  rw [hde] at c3
  have e0 : (xf &&& (1 : Int32)) = (0 : Int32) := by simpa using c1
  have e1 : ((xf >>> ((1 : Int32) &&& 31)) &&& (1 : Int32)) = (0 : Int32) := by simpa using c2
  have e2 : de = (1 : Int32) := by rw [hde]; simpa using q2.resolve_left c3
  rw [hap, e0, e1, e2]
  have : (0 : Int64).toInt = 0 := rfl
  have := rng32 w1
  have := c_i2l w1
  have := rng64 (w1.toInt64)
  have := c_ladd (0 : Int64) w1.toInt64
  have := rng64 ((0 : Int64) + w1.toInt64)
  have := rng32 w2
  have := c_i2l w2
  have := rng64 (w2.toInt64)
  have := c_ladd ((0 : Int64) + w1.toInt64) w2.toInt64
  have := rng64 (((0 : Int64) + w1.toInt64) + w2.toInt64)
  have := c_ladd (0 : Int64) (((0 : Int64) + w1.toInt64) + w2.toInt64)
  have := rng64 ((0 : Int64) + (((0 : Int64) + w1.toInt64) + w2.toInt64))
  have : (1 : Int64).toInt = 1 := rfl
  have := c_ladd (0 : Int64) (1 : Int64)
  have := rng64 ((0 : Int64) + (1 : Int64))
  have := c_ladd ((0 : Int64) + (((0 : Int64) + w1.toInt64) + w2.toInt64)) ((0 : Int64) + (1 : Int64))
  have := rng64 (((0 : Int64) + (((0 : Int64) + w1.toInt64) + w2.toInt64)) + ((0 : Int64) + (1 : Int64)))
  have := rng32 mv
  have := c_i2l mv
  have := rng64 (mv.toInt64)
  have := c_ladd (0 : Int64) mv.toInt64
  have := rng64 ((0 : Int64) + mv.toInt64)
  have := c_ladd (((0 : Int64) + (((0 : Int64) + w1.toInt64) + w2.toInt64)) + ((0 : Int64) + (1 : Int64))) ((0 : Int64) + mv.toInt64)
  have := rng64 ((((0 : Int64) + (((0 : Int64) + w1.toInt64) + w2.toInt64)) + ((0 : Int64) + (1 : Int64))) + ((0 : Int64) + mv.toInt64))
  have : (0 : Int32).toInt = 0 := rfl
  have := c_iadd (0 : Int32) (0 : Int32)
  have := rng32 ((0 : Int32) + (0 : Int32))
  have := c_i2l ((0 : Int32) + (0 : Int32))
  have := rng64 (((0 : Int32) + (0 : Int32)).toInt64)
  have := c_ladd ((0 : Int32) + (0 : Int32)).toInt64 w1.toInt64
  have := rng64 (((0 : Int32) + (0 : Int32)).toInt64 + w1.toInt64)
  have := c_ladd (((0 : Int32) + (0 : Int32)).toInt64 + w1.toInt64) w2.toInt64
  have := rng64 ((((0 : Int32) + (0 : Int32)).toInt64 + w1.toInt64) + w2.toInt64)
  have : (1 : Int32).toInt = 1 := rfl
  have := c_i2l (1 : Int32)
  have := rng64 ((1 : Int32).toInt64)
  have := c_ladd ((((0 : Int32) + (0 : Int32)).toInt64 + w1.toInt64) + w2.toInt64) (1 : Int32).toInt64
  have := rng64 (((((0 : Int32) + (0 : Int32)).toInt64 + w1.toInt64) + w2.toInt64) + (1 : Int32).toInt64)
  have := c_ladd (((((0 : Int32) + (0 : Int32)).toInt64 + w1.toInt64) + w2.toInt64) + (1 : Int32).toInt64) mv.toInt64
  have := rng64 ((((((0 : Int32) + (0 : Int32)).toInt64 + w1.toInt64) + w2.toInt64) + (1 : Int32).toInt64) + mv.toInt64)
  apply Int64.toInt_inj.mp
  omega
theorem own_2 (w1 w2 mv xf ap de : Int32) (hap : ap = ((xf &&& (1 : Int32)) + ((xf >>> ((1 : Int32) &&& 31)) &&& (1 : Int32)))) (hde : de = ((xf >>> ((2 : Int32) &&& 31)) &&& (1 : Int32))) (c1 : (xf &&& (1 : Int32)) = (0 : Int32)) (c2 : ¬ (((xf >>> ((1 : Int32) &&& 31)) &&& (1 : Int32)) = (0 : Int32))) (c3 : de = (0 : Int32)) : (((((0 : Int64) + (1 : Int64)) + (((0 : Int64) + (w1.toInt64)) + (w2.toInt64))) + (0 : Int64)) + ((0 : Int64) + (mv.toInt64))) = (((((ap.toInt64) + (w1.toInt64)) + (w2.toInt64)) + (de.toInt64)) + (mv.toInt64)) := by
  have q0 := and_one xf
  have q1 := and_one (xf >>> ((1 : Int32) &&& 31))
  have q2 := and_one (xf >>> ((2 : Int32) &&& 31))
  rw [hde] at c3
  have e0 : (xf &&& (1 : Int32)) = (0 : Int32) := by simpa using c1
  have e1 : ((xf >>> ((1 : Int32) &&& 31)) &&& (1 : Int32)) = (1 : Int32) := by simpa using q1.resolve_left c2
  have e2 : de = (0 : Int32) := by rw [hde]; simpa using c3
  rw [hap, e0, e1, e2]
  have : (0 : Int64).toInt = 0 := rfl
  have : (1 : Int64).toInt = 1 := rfl
  have := c_ladd (0 : Int64) (1 : Int64)
  have := rng64 ((0 : Int64) + (1 : Int64))
  have := rng32 w1
  have := c_i2l w1
  have := rng64 (w1.toInt64)
  have := c_ladd (0 : Int64) w1.toInt64
  have := rng64 ((0 : Int64) + w1.toInt64)
  have := rng32 w2
  have := c_i2l w2
  have := rng64 (w2.toInt64)
  have := c_ladd ((0 : Int64) + w1.toInt64) w2.toInt64
  have := rng64 (((0 : Int64) + w1.toInt64) + w2.toInt64)
  have := c_ladd ((0 : Int64) + (1 : Int64)) (((0 : Int64) + w1.toInt64) + w2.toInt64)
  have := rng64 (((0 : Int64) + (1 : Int64)) + (((0 : Int64) + w1.toInt64) + w2.toInt64))
  have := c_ladd (((0 : Int64) + (1 : Int64)) + (((0 : Int64) + w1.toInt64) + w2.toInt64)) (0 : Int64)
  have := rng64 ((((0 : Int64) + (1 : Int64)) + (((0 : Int64) + w1.toInt64) + w2.toInt64)) + (0 : Int64))
  have := rng32 mv
  have := c_i2l mv
  have := rng64 (mv.toInt64)
  have := c_ladd (0 : Int64) mv.toInt64
  have := rng64 ((0 : Int64) + mv.toInt64)
  have := c_ladd ((((0 : Int64) + (1 : Int64)) + (((0 : Int64) + w1.toInt64) + w2.toInt64)) + (0 : Int64)) ((0 : Int64) + mv.toInt64)
  have := rng64 (((((0 : Int64) + (1 : Int64)) + (((0 : Int64) + w1.toInt64) + w2.toInt64)) + (0 : Int64)) + ((0 : Int64) + mv.toInt64))
  have : (0 : Int32).toInt = 0 := rfl
  have : (1 : Int32).toInt = 1 := rfl
  have := c_iadd (0 : Int32) (1 : Int32)
  have := rng32 ((0 : Int32) + (1 : Int32))
  have := c_i2l ((0 : Int32) + (1 : Int32))
  have := rng64 (((0 : Int32) + (1 : Int32)).toInt64)
  have := c_ladd ((0 : Int32) + (1 : Int32)).toInt64 w1.toInt64
  have := rng64 (((0 : Int32) + (1 : Int32)).toInt64 + w1.toInt64)
  have := c_ladd (((0 : Int32) + (1 : Int32)).toInt64 + w1.toInt64) w2.toInt64
  have := rng64 ((((0 : Int32) + (1 : Int32)).toInt64 + w1.toInt64) + w2.toInt64)
  have := c_i2l (0 : Int32)
  have := rng64 ((0 : Int32).toInt64)
  have := c_ladd ((((0 : Int32) + (1 : Int32)).toInt64 + w1.toInt64) + w2.toInt64) (0 : Int32).toInt64
  have := rng64 (((((0 : Int32) + (1 : Int32)).toInt64 + w1.toInt64) + w2.toInt64) + (0 : Int32).toInt64)
  have := c_ladd (((((0 : Int32) + (1 : Int32)).toInt64 + w1.toInt64) + w2.toInt64) + (0 : Int32).toInt64) mv.toInt64
  have := rng64 ((((((0 : Int32) + (1 : Int32)).toInt64 + w1.toInt64) + w2.toInt64) + (0 : Int32).toInt64) + mv.toInt64)
  apply Int64.toInt_inj.mp
  omega
theorem own_3 (w1 w2 mv xf ap de : Int32) (hap : ap = ((xf &&& (1 : Int32)) + ((xf >>> ((1 : Int32) &&& 31)) &&& (1 : Int32)))) (hde : de = ((xf >>> ((2 : Int32) &&& 31)) &&& (1 : Int32))) (c1 : (xf &&& (1 : Int32)) = (0 : Int32)) (c2 : ¬ (((xf >>> ((1 : Int32) &&& 31)) &&& (1 : Int32)) = (0 : Int32))) (c3 : ¬ (de = (0 : Int32))) : (((((0 : Int64) + (1 : Int64)) + (((0 : Int64) + (w1.toInt64)) + (w2.toInt64))) + ((0 : Int64) + (1 : Int64))) + ((0 : Int64) + (mv.toInt64))) = (((((ap.toInt64) + (w1.toInt64)) + (w2.toInt64)) + (de.toInt64)) + (mv.toInt64)) := by
  have q0 := and_one xf
  have q1 := and_one (xf >>> ((1 : Int32) &&& 31))
  have q2 := and_one (xf >>> ((2 : Int32) &&& 31))
  rw [hde] at c3
  have e0 : (xf &&& (1 : Int32)) = (0 : Int32) := by simpa using c1
  have e1 : ((xf >>> ((1 : Int32) &&& 31)) &&& (1 : Int32)) = (1 : Int32) := by simpa using q1.resolve_left c2
  have e2 : de = (1 : Int32) := by rw [hde]; simpa using q2.resolve_left c3
  rw [hap, e0, e1, e2]
  have : (0 : Int64).toInt = 0 := rfl
  have : (1 : Int64).toInt = 1 := rfl
  have := c_ladd (0 : Int64) (1 : Int64)
  have := rng64 ((0 : Int64) + (1 : Int64))
  have := rng32 w1
  have := c_i2l w1
  have := rng64 (w1.toInt64)
  have := c_ladd (0 : Int64) w1.toInt64
  have := rng64 ((0 : Int64) + w1.toInt64)
  have := rng32 w2
  have := c_i2l w2
  have := rng64 (w2.toInt64)
  have := c_ladd ((0 : Int64) + w1.toInt64) w2.toInt64
  have := rng64 (((0 : Int64) + w1.toInt64) + w2.toInt64)
  have := c_ladd ((0 : Int64) + (1 : Int64)) (((0 : Int64) + w1.toInt64) + w2.toInt64)
  have := rng64 (((0 : Int64) + (1 : Int64)) + (((0 : Int64) + w1.toInt64) + w2.toInt64))
  have := c_ladd (((0 : Int64) + (1 : Int64)) + (((0 : Int64) + w1.toInt64) + w2.toInt64)) ((0 : Int64) + (1 : Int64))
  have := rng64 ((((0 : Int64) + (1 : Int64)) + (((0 : Int64) + w1.toInt64) + w2.toInt64)) + ((0 : Int64) + (1 : Int64)))
  have := rng32 mv
  have := c_i2l mv
  have := rng64 (mv.toInt64)
  have := c_ladd (0 : Int64) mv.toInt64
  have := rng64 ((0 : Int64) + mv.toInt64)
  have := c_ladd ((((0 : Int64) + (1 : Int64)) + (((0 : Int64) + w1.toInt64) + w2.toInt64)) + ((0 : Int64) + (1 : Int64))) ((0 : Int64) + mv.toInt64)
  have := rng64 (((((0 : Int64) + (1 : Int64)) + (((0 : Int64) + w1.toInt64) + w2.toInt64)) + ((0 : Int64) + (1 : Int64))) + ((0 : Int64) + mv.toInt64))
  have : (0 : Int32).toInt = 0 := rfl
  have : (1 : Int32).toInt = 1 := rfl
  have := c_iadd (0 : Int32) (1 : Int32)
  have := rng32 ((0 : Int32) + (1 : Int32))
  have := c_i2l ((0 : Int32) + (1 : Int32))
  have := rng64 (((0 : Int32) + (1 : Int32)).toInt64)
  have := c_ladd ((0 : Int32) + (1 : Int32)).toInt64 w1.toInt64
  have := rng64 (((0 : Int32) + (1 : Int32)).toInt64 + w1.toInt64)
  have := c_ladd (((0 : Int32) + (1 : Int32)).toInt64 + w1.toInt64) w2.toInt64
  have := rng64 ((((0 : Int32) + (1 : Int32)).toInt64 + w1.toInt64) + w2.toInt64)
  have := c_i2l (1 : Int32)
  have := rng64 ((1 : Int32).toInt64)
  have := c_ladd ((((0 : Int32) + (1 : Int32)).toInt64 + w1.toInt64) + w2.toInt64) (1 : Int32).toInt64
  have := rng64 (((((0 : Int32) + (1 : Int32)).toInt64 + w1.toInt64) + w2.toInt64) + (1 : Int32).toInt64)
  have := c_ladd (((((0 : Int32) + (1 : Int32)).toInt64 + w1.toInt64) + w2.toInt64) + (1 : Int32).toInt64) mv.toInt64
  have := rng64 ((((((0 : Int32) + (1 : Int32)).toInt64 + w1.toInt64) + w2.toInt64) + (1 : Int32).toInt64) + mv.toInt64)
  apply Int64.toInt_inj.mp
  omega
theorem own_4 (w1 w2 mv xf ap de : Int32) (hap : ap = ((xf &&& (1 : Int32)) + ((xf >>> ((1 : Int32) &&& 31)) &&& (1 : Int32)))) (hde : de = ((xf >>> ((2 : Int32) &&& 31)) &&& (1 : Int32))) (c1 : ¬ ((xf &&& (1 : Int32)) = (0 : Int32))) (c2 : ((xf >>> ((1 : Int32) &&& 31)) &&& (1 : Int32)) = (0 : Int32)) (c3 : de = (0 : Int32)) : (((((0 : Int64) + (1 : Int64)) + (((0 : Int64) + (w1.toInt64)) + (w2.toInt64))) + (0 : Int64)) + ((0 : Int64) + (mv.toInt64))) = (((((ap.toInt64) + (w1.toInt64)) + (w2.toInt64)) + (de.toInt64)) + (mv.toInt64)) := by
  have q0 := and_one xf
  have q1 := and_one (xf >>> ((1 : Int32) &&& 31))
  have q2 := and_one (xf >>> ((2 : Int32) &&& 31))
  rw [hde] at c3
  have e0 : (xf &&& (1 : Int32)) = (1 : Int32) := by simpa using q0.resolve_left c1
  have e1 : ((xf >>> ((1 : Int32) &&& 31)) &&& (1 : Int32)) = (0 : Int32) := by simpa using c2
  have e2 : de = (0 : Int32) := by rw [hde]; simpa using c3
  rw [hap, e0, e1, e2]
  have : (0 : Int64).toInt = 0 := rfl
  have : (1 : Int64).toInt = 1 := rfl
  have := c_ladd (0 : Int64) (1 : Int64)
  have := rng64 ((0 : Int64) + (1 : Int64))
  have := rng32 w1
  have := c_i2l w1
  have := rng64 (w1.toInt64)
  have := c_ladd (0 : Int64) w1.toInt64
  have := rng64 ((0 : Int64) + w1.toInt64)
  have := rng32 w2
  have := c_i2l w2
  have := rng64 (w2.toInt64)
  have := c_ladd ((0 : Int64) + w1.toInt64) w2.toInt64
  have := rng64 (((0 : Int64) + w1.toInt64) + w2.toInt64)
  have := c_ladd ((0 : Int64) + (1 : Int64)) (((0 : Int64) + w1.toInt64) + w2.toInt64)
  have := rng64 (((0 : Int64) + (1 : Int64)) + (((0 : Int64) + w1.toInt64) + w2.toInt64))
  have := c_ladd (((0 : Int64) + (1 : Int64)) + (((0 : Int64) + w1.toInt64) + w2.toInt64)) (0 : Int64)
  have := rng64 ((((0 : Int64) + (1 : Int64)) + (((0 : Int64) + w1.toInt64) + w2.toInt64)) + (0 : Int64))
  have := rng32 mv
  have := c_i2l mv
  have := rng64 (mv.toInt64)
  have := c_ladd (0 : Int64) mv.toInt64
  have := rng64 ((0 : Int64) + mv.toInt64)
  have := c_ladd ((((0 : Int64) + (1 : Int64)) + (((0 : Int64) + w1.toInt64) + w2.toInt64)) + (0 : Int64)) ((0 : Int64) + mv.toInt64)
  have := rng64 (((((0 : Int64) + (1 : Int64)) + (((0 : Int64) + w1.toInt64) + w2.toInt64)) + (0 : Int64)) + ((0 : Int64) + mv.toInt64))
  have : (1 : Int32).toInt = 1 := rfl
  have : (0 : Int32).toInt = 0 := rfl
  have := c_iadd (1 : Int32) (0 : Int32)
  have := rng32 ((1 : Int32) + (0 : Int32))
  have := c_i2l ((1 : Int32) + (0 : Int32))
  have := rng64 (((1 : Int32) + (0 : Int32)).toInt64)
  have := c_ladd ((1 : Int32) + (0 : Int32)).toInt64 w1.toInt64
  have := rng64 (((1 : Int32) + (0 : Int32)).toInt64 + w1.toInt64)
  have := c_ladd (((1 : Int32) + (0 : Int32)).toInt64 + w1.toInt64) w2.toInt64
  have := rng64 ((((1 : Int32) + (0 : Int32)).toInt64 + w1.toInt64) + w2.toInt64)
  have := c_i2l (0 : Int32)
  have := rng64 ((0 : Int32).toInt64)
  have := c_ladd ((((1 : Int32) + (0 : Int32)).toInt64 + w1.toInt64) + w2.toInt64) (0 : Int32).toInt64
  have := rng64 (((((1 : Int32) + (0 : Int32)).toInt64 + w1.toInt64) + w2.toInt64) + (0 : Int32).toInt64)
  have := c_ladd (((((1 : Int32) + (0 : Int32)).toInt64 + w1.toInt64) + w2.toInt64) + (0 : Int32).toInt64) mv.toInt64
  have := rng64 ((((((1 : Int32) + (0 : Int32)).toInt64 + w1.toInt64) + w2.toInt64) + (0 : Int32).toInt64) + mv.toInt64)
  apply Int64.toInt_inj.mp
  omega
theorem own_5 (w1 w2 mv xf ap de : Int32) (hap : ap = ((xf &&& (1 : Int32)) + ((xf >>> ((1 : Int32) &&& 31)) &&& (1 : Int32)))) (hde : de = ((xf >>> ((2 : Int32) &&& 31)) &&& (1 : Int32))) (c1 : ¬ ((xf &&& (1 : Int32)) = (0 : Int32))) (c2 : ((xf >>> ((1 : Int32) &&& 31)) &&& (1 : Int32)) = (0 : Int32)) (c3 : ¬ (de = (0 : Int32))) : (((((0 : Int64) + (1 : Int64)) + (((0 : Int64) + (w1.toInt64)) + (w2.toInt64))) + ((0 : Int64) + (1 : Int64))) + ((0 : Int64) + (mv.toInt64))) = (((((ap.toInt64) + (w1.toInt64)) + (w2.toInt64)) + (de.toInt64)) + (mv.toInt64)) := by
  have q0 := and_one xf
  have q1 := and_one (xf >>> ((1 : Int32) &&& 31))
  have q2 := and_one (xf >>> ((2 : Int32) &&& 31))
  rw [hde] at c3
  have e0 : (xf &&& (1 : Int32)) = (1 : Int32) := by simpa using q0.resolve_left c1
  have e1 : ((xf >>> ((1 : Int32) &&& 31)) &&& (1 : Int32)) = (0 : Int32) := by simpa using c2
  have e2 : de = (1 : Int32) := by rw [hde]; simpa using q2.resolve_left c3
  rw [hap, e0, e1, e2]
  have : (0 : Int64).toInt = 0 := rfl
  have : (1 : Int64).toInt = 1 := rfl
  have := c_ladd (0 : Int64) (1 : Int64)
  have := rng64 ((0 : Int64) + (1 : Int64))
  have := rng32 w1
  have := c_i2l w1
  have := rng64 (w1.toInt64)
  have := c_ladd (0 : Int64) w1.toInt64
  have := rng64 ((0 : Int64) + w1.toInt64)
  have := rng32 w2
  have := c_i2l w2
  have := rng64 (w2.toInt64)
  have := c_ladd ((0 : Int64) + w1.toInt64) w2.toInt64
  have := rng64 (((0 : Int64) + w1.toInt64) + w2.toInt64)
  have := c_ladd ((0 : Int64) + (1 : Int64)) (((0 : Int64) + w1.toInt64) + w2.toInt64)
  have := rng64 (((0 : Int64) + (1 : Int64)) + (((0 : Int64) + w1.toInt64) + w2.toInt64))
  have := c_ladd (((0 : Int64) + (1 : Int64)) + (((0 : Int64) + w1.toInt64) + w2.toInt64)) ((0 : Int64) + (1 : Int64))
  have := rng64 ((((0 : Int64) + (1 : Int64)) + (((0 : Int64) + w1.toInt64) + w2.toInt64)) + ((0 : Int64) + (1 : Int64)))
  have := rng32 mv
  have := c_i2l mv
  have := rng64 (mv.toInt64)
  have := c_ladd (0 : Int64) mv.toInt64
  have := rng64 ((0 : Int64) + mv.toInt64)
  have := c_ladd ((((0 : Int64) + (1 : Int64)) + (((0 : Int64) + w1.toInt64) + w2.toInt64)) + ((0 : Int64) + (1 : Int64))) ((0 : Int64) + mv.toInt64)
  have := rng64 (((((0 : Int64) + (1 : Int64)) + (((0 : Int64) + w1.toInt64) + w2.toInt64)) + ((0 : Int64) + (1 : Int64))) + ((0 : Int64) + mv.toInt64))
  have : (1 : Int32).toInt = 1 := rfl
  have : (0 : Int32).toInt = 0 := rfl
  have := c_iadd (1 : Int32) (0 : Int32)
  have := rng32 ((1 : Int32) + (0 : Int32))
  have := c_i2l ((1 : Int32) + (0 : Int32))
  have := rng64 (((1 : Int32) + (0 : Int32)).toInt64)
  have := c_ladd ((1 : Int32) + (0 : Int32)).toInt64 w1.toInt64
  have := rng64 (((1 : Int32) + (0 : Int32)).toInt64 + w1.toInt64)
  have := c_ladd (((1 : Int32) + (0 : Int32)).toInt64 + w1.toInt64) w2.toInt64
  have := rng64 ((((1 : Int32) + (0 : Int32)).toInt64 + w1.toInt64) + w2.toInt64)
  have := c_i2l (1 : Int32)
  have := rng64 ((1 : Int32).toInt64)
  have := c_ladd ((((1 : Int32) + (0 : Int32)).toInt64 + w1.toInt64) + w2.toInt64) (1 : Int32).toInt64
  have := rng64 (((((1 : Int32) + (0 : Int32)).toInt64 + w1.toInt64) + w2.toInt64) + (1 : Int32).toInt64)
  have := c_ladd (((((1 : Int32) + (0 : Int32)).toInt64 + w1.toInt64) + w2.toInt64) + (1 : Int32).toInt64) mv.toInt64
  have := rng64 ((((((1 : Int32) + (0 : Int32)).toInt64 + w1.toInt64) + w2.toInt64) + (1 : Int32).toInt64) + mv.toInt64)
  apply Int64.toInt_inj.mp
  omega
theorem own_6 (w1 w2 mv xf ap de : Int32) (hap : ap = ((xf &&& (1 : Int32)) + ((xf >>> ((1 : Int32) &&& 31)) &&& (1 : Int32)))) (hde : de = ((xf >>> ((2 : Int32) &&& 31)) &&& (1 : Int32))) (c1 : ¬ ((xf &&& (1 : Int32)) = (0 : Int32))) (c2 : ¬ (((xf >>> ((1 : Int32) &&& 31)) &&& (1 : Int32)) = (0 : Int32))) (c3 : de = (0 : Int32)) : ((((((0 : Int64) + (1 : Int64)) + (1 : Int64)) + (((0 : Int64) + (w1.toInt64)) + (w2.toInt64))) + (0 : Int64)) + ((0 : Int64) + (mv.toInt64))) = (((((ap.toInt64) + (w1.toInt64)) + (w2.toInt64)) + (de.toInt64)) + (mv.toInt64)) := by
  have q0 := and_one xf
  have q1 := and_one (xf >>> ((1 : Int32) &&& 31))
  have q2 := and_one (xf >>> ((2 : Int32) &&& 31))
  rw [hde] at c3
  have e0 : (xf &&& (1 : Int32)) = (1 : Int32) := by simpa using q0.resolve_left c1
  have e1 : ((xf >>> ((1 : Int32) &&& 31)) &&& (1 : Int32)) = (1 : Int32) := by simpa using q1.resolve_left c2
  have e2 : de = (0 : Int32) := by rw [hde]; simpa using c3
  rw [hap, e0, e1, e2]
  have : (0 : Int64).toInt = 0 := rfl
  have : (1 : Int64).toInt = 1 := rfl
  have := c_ladd (0 : Int64) (1 : Int64)
  have := rng64 ((0 : Int64) + (1 : Int64))
  have := c_ladd ((0 : Int64) + (1 : Int64)) (1 : Int64)
  have := rng64 (((0 : Int64) + (1 : Int64)) + (1 : Int64))
  have := rng32 w1
  have := c_i2l w1
  have := rng64 (w1.toInt64)
  have := c_ladd (0 : Int64) w1.toInt64
  have := rng64 ((0 : Int64) + w1.toInt64)
  have := rng32 w2
  have := c_i2l w2
  have := rng64 (w2.toInt64)
  have := c_ladd ((0 : Int64) + w1.toInt64) w2.toInt64
  have := rng64 (((0 : Int64) + w1.toInt64) + w2.toInt64)
  have := c_ladd (((0 : Int64) + (1 : Int64)) + (1 : Int64)) (((0 : Int64) + w1.toInt64) + w2.toInt64)
  have := rng64 ((((0 : Int64) + (1 : Int64)) + (1 : Int64)) + (((0 : Int64) + w1.toInt64) + w2.toInt64))
  have := c_ladd ((((0 : Int64) + (1 : Int64)) + (1 : Int64)) + (((0 : Int64) + w1.toInt64) + w2.toInt64)) (0 : Int64)
  have := rng64 (((((0 : Int64) + (1 : Int64)) + (1 : Int64)) + (((0 : Int64) + w1.toInt64) + w2.toInt64)) + (0 : Int64))
  have := rng32 mv
  have := c_i2l mv
  have := rng64 (mv.toInt64)
  have := c_ladd (0 : Int64) mv.toInt64
  have := rng64 ((0 : Int64) + mv.toInt64)
  have := c_ladd (((((0 : Int64) + (1 : Int64)) + (1 : Int64)) + (((0 : Int64) + w1.toInt64) + w2.toInt64)) + (0 : Int64)) ((0 : Int64) + mv.toInt64)
  have := rng64 ((((((0 : Int64) + (1 : Int64)) + (1 : Int64)) + (((0 : Int64) + w1.toInt64) + w2.toInt64)) + (0 : Int64)) + ((0 : Int64) + mv.toInt64))
  have : (1 : Int32).toInt = 1 := rfl
  have := c_iadd (1 : Int32) (1 : Int32)
  have := rng32 ((1 : Int32) + (1 : Int32))
  have := c_i2l ((1 : Int32) + (1 : Int32))
  have := rng64 (((1 : Int32) + (1 : Int32)).toInt64)
  have := c_ladd ((1 : Int32) + (1 : Int32)).toInt64 w1.toInt64
  have := rng64 (((1 : Int32) + (1 : Int32)).toInt64 + w1.toInt64)
  have := c_ladd (((1 : Int32) + (1 : Int32)).toInt64 + w1.toInt64) w2.toInt64
  have := rng64 ((((1 : Int32) + (1 : Int32)).toInt64 + w1.toInt64) + w2.toInt64)
  have : (0 : Int32).toInt = 0 := rfl
  have := c_i2l (0 : Int32)
  have := rng64 ((0 : Int32).toInt64)
  have := c_ladd ((((1 : Int32) + (1 : Int32)).toInt64 + w1.toInt64) + w2.toInt64) (0 : Int32).toInt64
  have := rng64 (((((1 : Int32) + (1 : Int32)).toInt64 + w1.toInt64) + w2.toInt64) + (0 : Int32).toInt64)
  have := c_ladd (((((1 : Int32) + (1 : Int32)).toInt64 + w1.toInt64) + w2.toInt64) + (0 : Int32).toInt64) mv.toInt64
  have := rng64 ((((((1 : Int32) + (1 : Int32)).toInt64 + w1.toInt64) + w2.toInt64) + (0 : Int32).toInt64) + mv.toInt64)
  apply Int64.toInt_inj.mp
  omega
theorem own_7 (w1 w2 mv xf ap de : Int32) (hap : ap = ((xf &&& (1 : Int32)) + ((xf >>> ((1 : Int32) &&& 31)) &&& (1 : Int32)))) (hde : de = ((xf >>> ((2 : Int32) &&& 31)) &&& (1 : Int32))) (c1 : ¬ ((xf &&& (1 : Int32)) = (0 : Int32))) (c2 : ¬ (((xf >>> ((1 : Int32) &&& 31)) &&& (1 : Int32)) = (0 : Int32))) (c3 : ¬ (de = (0 : Int32))) : ((((((0 : Int64) + (1 : Int64)) + (1 : Int64)) + (((0 : Int64) + (w1.toInt64)) + (w2.toInt64))) + ((0 : Int64) + (1 : Int64))) + ((0 : Int64) + (mv.toInt64))) = (((((ap.toInt64) + (w1.toInt64)) + (w2.toInt64)) + (de.toInt64)) + (mv.toInt64)) := by
  have q0 := and_one xf
  have q1 := and_one (xf >>> ((1 : Int32) &&& 31))
  have q2 := and_one (xf >>> ((2 : Int32) &&& 31))
  rw [hde] at c3
  have e0 : (xf &&& (1 : Int32)) = (1 : Int32) := by simpa using q0.resolve_left c1
  have e1 : ((xf >>> ((1 : Int32) &&& 31)) &&& (1 : Int32)) = (1 : Int32) := by simpa using q1.resolve_left c2
  have e2 : de = (1 : Int32) := by rw [hde]; simpa using q2.resolve_left c3
  rw [hap, e0, e1, e2]
  have : (0 : Int64).toInt = 0 := rfl
  have : (1 : Int64).toInt = 1 := rfl
  have := c_ladd (0 : Int64) (1 : Int64)
  have := rng64 ((0 : Int64) + (1 : Int64))
  have := c_ladd ((0 : Int64) + (1 : Int64)) (1 : Int64)
  have := rng64 (((0 : Int64) + (1 : Int64)) + (1 : Int64))
  have := rng32 w1
  have := c_i2l w1
  have := rng64 (w1.toInt64)
  have := c_ladd (0 : Int64) w1.toInt64
  have := rng64 ((0 : Int64) + w1.toInt64)
  have := rng32 w2
  have := c_i2l w2
  have := rng64 (w2.toInt64)
  have := c_ladd ((0 : Int64) + w1.toInt64) w2.toInt64
  have := rng64 (((0 : Int64) + w1.toInt64) + w2.toInt64)
  have := c_ladd (((0 : Int64) + (1 : Int64)) + (1 : Int64)) (((0 : Int64) + w1.toInt64) + w2.toInt64)
  have := rng64 ((((0 : Int64) + (1 : Int64)) + (1 : Int64)) + (((0 : Int64) + w1.toInt64) + w2.toInt64))
  have := c_ladd ((((0 : Int64) + (1 : Int64)) + (1 : Int64)) + (((0 : Int64) + w1.toInt64) + w2.toInt64)) ((0 : Int64) + (1 : Int64))
  have := rng64 (((((0 : Int64) + (1 : Int64)) + (1 : Int64)) + (((0 : Int64) + w1.toInt64) + w2.toInt64)) + ((0 : Int64) + (1 : Int64)))
  have := rng32 mv
  have := c_i2l mv
  have := rng64 (mv.toInt64)
  have := c_ladd (0 : Int64) mv.toInt64
  have := rng64 ((0 : Int64) + mv.toInt64)
  have := c_ladd (((((0 : Int64) + (1 : Int64)) + (1 : Int64)) + (((0 : Int64) + w1.toInt64) + w2.toInt64)) + ((0 : Int64) + (1 : Int64))) ((0 : Int64) + mv.toInt64)
  have := rng64 ((((((0 : Int64) + (1 : Int64)) + (1 : Int64)) + (((0 : Int64) + w1.toInt64) + w2.toInt64)) + ((0 : Int64) + (1 : Int64))) + ((0 : Int64) + mv.toInt64))
  have : (1 : Int32).toInt = 1 := rfl
  have := c_iadd (1 : Int32) (1 : Int32)
  have := rng32 ((1 : Int32) + (1 : Int32))
  have := c_i2l ((1 : Int32) + (1 : Int32))
  have := rng64 (((1 : Int32) + (1 : Int32)).toInt64)
  have := c_ladd ((1 : Int32) + (1 : Int32)).toInt64 w1.toInt64
  have := rng64 (((1 : Int32) + (1 : Int32)).toInt64 + w1.toInt64)
  have := c_ladd (((1 : Int32) + (1 : Int32)).toInt64 + w1.toInt64) w2.toInt64
  have := rng64 ((((1 : Int32) + (1 : Int32)).toInt64 + w1.toInt64) + w2.toInt64)
  have := c_i2l (1 : Int32)
  have := rng64 ((1 : Int32).toInt64)
  have := c_ladd ((((1 : Int32) + (1 : Int32)).toInt64 + w1.toInt64) + w2.toInt64) (1 : Int32).toInt64
  have := rng64 (((((1 : Int32) + (1 : Int32)).toInt64 + w1.toInt64) + w2.toInt64) + (1 : Int32).toInt64)
  have := c_ladd (((((1 : Int32) + (1 : Int32)).toInt64 + w1.toInt64) + w2.toInt64) + (1 : Int32).toInt64) mv.toInt64
  have := rng64 ((((((1 : Int32) + (1 : Int32)).toInt64 + w1.toInt64) + w2.toInt64) + (1 : Int32).toInt64) + mv.toInt64)
  apply Int64.toInt_inj.mp
  omega
theorem ef_rm0 (m : MethodId) (xw1 : Int32) (xw2 : Int32) (xq : Int32) (xf : Int32) : entryFrame m #[(.int xw1), (.int xw2), (.int xq), (.int xf)] maxLocals = mkF m 0 #[.val (.int xw1), .val (.int xw2), .val (.int xq), .val (.int xf), .unset, .unset, .unset, .unset, .unset, .unset, .unset, .unset, .unset] [] := by first | (simp [entryFrame, mkF, argsToLocals, Value.category, maxLocals]; done) | rfl
def Q_rm0 (Z : State) (xw1 : Int32) (xw2 : Int32) (xq : Int32) (xf : Int32) (h0 : Heap) (n0 : Nat) (v : Option Value) (h : Heap) (L : List Loc) : Prop := v = some (.int (1 : Int32)) ∧ Fr n0 L
set_option maxRecDepth 65536 in
set_option maxHeartbeats 40000000 in
theorem rm0 (l : Launch) (Z : State) (a0 : Array Value) (hw : ∀ d ∈ tables_1, d.before a0 Z = true) (ws : List Jvm.Cond) (xw1 : Int32) (xw2 : Int32) (xq : Int32) (xf : Int32) (h0 : Heap) (n0 : Nat) (Z0 : n0 ≤ h0.size) :
    MetFree l x (head1 (Jvm.Cond.code x code maxLocals ret :: ws) room_1) (fun a U => a = #[(.int xw1), (.int xw2), (.int xq), (.int xf)] ∧ Z.Warmed39 U.vm ∧ U.heap = h0) (fun _ _ _ _ _ => True) (fun _ U o U' => ∃ v L, o = .returned v ∧ Q_rm0 Z xw1 xw2 xq xf h0 n0 v U'.heap L ∧ FrameEnd U o U' L room_1.cells room_1.slots) := by
  refine MetFree.of_bodySF (plainFor_of_name pn1) hisR ?_
  intro p e s m args below meth c s₁ Bd hml0 hP hK
  obtain ⟨rfl, hZ, hh⟩ := hP
  have hx := Bd.exec
  have hby := Bd.bytes
  have hml : c.maxLocals = 13 := hml0
  have hown : s.vm.findClass "com/example/suitor/suitor/SolverStatisticsGetStepsPinLaw" = some m.cls := findClass_of_methodNamed Bd.named
  have hnm := (name_of_methodNamed Bd.named Bd.method).1
  have X0 : Stand p l e room_1 s m #[(.int xw1), (.int xw2), (.int xq), (.int xf)] below meth c s₁ [] 0 0 := Stand.of_body Bd
  have e0 : s₁.heap = h0 := by rw [← hh, Bd.state]; rfl
  have N0 := Fr.nil n0
  have pre0 : ∀ t, Steps p.tables e below (s₁.setTop (mkF m 0 #[.val (.int xw1), .val (.int xw2), .val (.int xq), .val (.int xf), .unset, .unset, .unset, .unset, .unset, .unset, .unset, .unset, .unset] [])) t → Steps p.tables e below (s₁.setTop (entryFrame m #[(.int xw1), (.int xw2), (.int xq), (.int xf)] maxLocals)) t := fun t k => castTop (ef_rm0 m xw1 xw2 xq xf) k
  have pre1 : ∀ t, Steps p.tables e below (s₁.setTop (mkF m 6 #[.val (.int xw1), .val (.int xw2), .val (.int xq), .val (.int xf), .val (.int (xw1 &&& (2147483647 : Int32))), .unset, .unset, .unset, .unset, .unset, .unset, .unset, .unset] [])) t → Steps p.tables e below (s₁.setTop (entryFrame m #[(.int xw1), (.int xw2), (.int xq), (.int xf)] maxLocals)) t := by
    intro t k
    refine pre0 t ?_
    refine XS.iloadN X0.here hx rfl (hb hby at_0) rfl ?_
    show Steps p.tables e below (s₁.setTop (mkF m 1 #[.val (.int xw1), .val (.int xw2), .val (.int xq), .val (.int xf), .unset, .unset, .unset, .unset, .unset, .unset, .unset, .unset, .unset] [(.int xw1)])) _
    refine X0.ldcInt hx hown (mvT hZ (hw _ (List.mem_of_getElem? (i := 0) rfl))) (g := (mkF m 1 #[.val (.int xw1), .val (.int xw2), .val (.int xq), .val (.int xf), .unset, .unset, .unset, .unset, .unset, .unset, .unset, .unset, .unset] [(.int xw1)])) rfl (hb hby at_1) _ ?_
    show Steps p.tables e below (s₁.setTop (mkF m 3 #[.val (.int xw1), .val (.int xw2), .val (.int xq), .val (.int xf), .unset, .unset, .unset, .unset, .unset, .unset, .unset, .unset, .unset] [(.int (2147483647 : Int32)), (.int xw1)])) _
    refine XS.iand X0.here hx rfl (hb hby at_3) rfl ?_
    show Steps p.tables e below (s₁.setTop (mkF m 4 #[.val (.int xw1), .val (.int xw2), .val (.int xq), .val (.int xf), .unset, .unset, .unset, .unset, .unset, .unset, .unset, .unset, .unset] [(.int (xw1 &&& (2147483647 : Int32)))])) _
    refine XS.istore X0.here hx rfl (hb hby at_4) rfl (l' := #[.val (.int xw1), .val (.int xw2), .val (.int xq), .val (.int xf), .val (.int (xw1 &&& (2147483647 : Int32))), .unset, .unset, .unset, .unset, .unset, .unset, .unset, .unset]) rfl ?_
    show Steps p.tables e below (s₁.setTop (mkF m 6 #[.val (.int xw1), .val (.int xw2), .val (.int xq), .val (.int xf), .val (.int (xw1 &&& (2147483647 : Int32))), .unset, .unset, .unset, .unset, .unset, .unset, .unset, .unset] [])) _
    exact k
  obtain ⟨w1, hw1⟩ : ∃ z : Int32, z = (xw1 &&& (2147483647 : Int32)) := ⟨_, rfl⟩
  rw [← hw1] at pre1
  have pre2 : ∀ t, Steps p.tables e below (s₁.setTop (mkF m 12 #[.val (.int xw1), .val (.int xw2), .val (.int xq), .val (.int xf), .val (.int w1), .val (.int (xw2 &&& (2147483647 : Int32))), .unset, .unset, .unset, .unset, .unset, .unset, .unset] [])) t → Steps p.tables e below (s₁.setTop (entryFrame m #[(.int xw1), (.int xw2), (.int xq), (.int xf)] maxLocals)) t := by
    intro t k
    refine pre1 t ?_
    refine XS.iloadN X0.here hx rfl (hb hby at_6) rfl ?_
    show Steps p.tables e below (s₁.setTop (mkF m 7 #[.val (.int xw1), .val (.int xw2), .val (.int xq), .val (.int xf), .val (.int w1), .unset, .unset, .unset, .unset, .unset, .unset, .unset, .unset] [(.int xw2)])) _
    refine X0.ldcInt hx hown (mvT hZ (hw _ (List.mem_of_getElem? (i := 0) rfl))) (g := (mkF m 7 #[.val (.int xw1), .val (.int xw2), .val (.int xq), .val (.int xf), .val (.int w1), .unset, .unset, .unset, .unset, .unset, .unset, .unset, .unset] [(.int xw2)])) rfl (hb hby at_7) _ ?_
    show Steps p.tables e below (s₁.setTop (mkF m 9 #[.val (.int xw1), .val (.int xw2), .val (.int xq), .val (.int xf), .val (.int w1), .unset, .unset, .unset, .unset, .unset, .unset, .unset, .unset] [(.int (2147483647 : Int32)), (.int xw2)])) _
    refine XS.iand X0.here hx rfl (hb hby at_9) rfl ?_
    show Steps p.tables e below (s₁.setTop (mkF m 10 #[.val (.int xw1), .val (.int xw2), .val (.int xq), .val (.int xf), .val (.int w1), .unset, .unset, .unset, .unset, .unset, .unset, .unset, .unset] [(.int (xw2 &&& (2147483647 : Int32)))])) _
    refine XS.istore X0.here hx rfl (hb hby at_10) rfl (l' := #[.val (.int xw1), .val (.int xw2), .val (.int xq), .val (.int xf), .val (.int w1), .val (.int (xw2 &&& (2147483647 : Int32))), .unset, .unset, .unset, .unset, .unset, .unset, .unset]) rfl ?_
    show Steps p.tables e below (s₁.setTop (mkF m 12 #[.val (.int xw1), .val (.int xw2), .val (.int xq), .val (.int xf), .val (.int w1), .val (.int (xw2 &&& (2147483647 : Int32))), .unset, .unset, .unset, .unset, .unset, .unset, .unset] [])) _
    exact k
  obtain ⟨w2, hw2⟩ : ∃ z : Int32, z = (xw2 &&& (2147483647 : Int32)) := ⟨_, rfl⟩
  rw [← hw2] at pre2
  have pre3 : ∀ t, Steps p.tables e below (s₁.setTop (mkF m 18 #[.val (.int xw1), .val (.int xw2), .val (.int xq), .val (.int xf), .val (.int w1), .val (.int w2), .val (.int (xq &&& (2147483647 : Int32))), .unset, .unset, .unset, .unset, .unset, .unset] [])) t → Steps p.tables e below (s₁.setTop (entryFrame m #[(.int xw1), (.int xw2), (.int xq), (.int xf)] maxLocals)) t := by
    intro t k
    refine pre2 t ?_
    refine XS.iloadN X0.here hx rfl (hb hby at_12) rfl ?_
    show Steps p.tables e below (s₁.setTop (mkF m 13 #[.val (.int xw1), .val (.int xw2), .val (.int xq), .val (.int xf), .val (.int w1), .val (.int w2), .unset, .unset, .unset, .unset, .unset, .unset, .unset] [(.int xq)])) _
    refine X0.ldcInt hx hown (mvT hZ (hw _ (List.mem_of_getElem? (i := 0) rfl))) (g := (mkF m 13 #[.val (.int xw1), .val (.int xw2), .val (.int xq), .val (.int xf), .val (.int w1), .val (.int w2), .unset, .unset, .unset, .unset, .unset, .unset, .unset] [(.int xq)])) rfl (hb hby at_13) _ ?_
    show Steps p.tables e below (s₁.setTop (mkF m 15 #[.val (.int xw1), .val (.int xw2), .val (.int xq), .val (.int xf), .val (.int w1), .val (.int w2), .unset, .unset, .unset, .unset, .unset, .unset, .unset] [(.int (2147483647 : Int32)), (.int xq)])) _
    refine XS.iand X0.here hx rfl (hb hby at_15) rfl ?_
    show Steps p.tables e below (s₁.setTop (mkF m 16 #[.val (.int xw1), .val (.int xw2), .val (.int xq), .val (.int xf), .val (.int w1), .val (.int w2), .unset, .unset, .unset, .unset, .unset, .unset, .unset] [(.int (xq &&& (2147483647 : Int32)))])) _
    refine XS.istore X0.here hx rfl (hb hby at_16) rfl (l' := #[.val (.int xw1), .val (.int xw2), .val (.int xq), .val (.int xf), .val (.int w1), .val (.int w2), .val (.int (xq &&& (2147483647 : Int32))), .unset, .unset, .unset, .unset, .unset, .unset]) rfl ?_
    show Steps p.tables e below (s₁.setTop (mkF m 18 #[.val (.int xw1), .val (.int xw2), .val (.int xq), .val (.int xf), .val (.int w1), .val (.int w2), .val (.int (xq &&& (2147483647 : Int32))), .unset, .unset, .unset, .unset, .unset, .unset] [])) _
    exact k
  obtain ⟨mv, hmv⟩ : ∃ z : Int32, z = (xq &&& (2147483647 : Int32)) := ⟨_, rfl⟩
  rw [← hmv] at pre3
  have pre4 : ∀ t, Steps p.tables e below (s₁.setTop (mkF m 29 #[.val (.int xw1), .val (.int xw2), .val (.int xq), .val (.int xf), .val (.int w1), .val (.int w2), .val (.int mv), .val (.int ((xf &&& (1 : Int32)) + ((xf >>> ((1 : Int32) &&& 31)) &&& (1 : Int32)))), .unset, .unset, .unset, .unset, .unset] [])) t → Steps p.tables e below (s₁.setTop (entryFrame m #[(.int xw1), (.int xw2), (.int xq), (.int xf)] maxLocals)) t := by
    intro t k
    refine pre3 t ?_
    refine XS.iloadN X0.here hx rfl (hb hby at_18) rfl ?_
    show Steps p.tables e below (s₁.setTop (mkF m 19 #[.val (.int xw1), .val (.int xw2), .val (.int xq), .val (.int xf), .val (.int w1), .val (.int w2), .val (.int mv), .unset, .unset, .unset, .unset, .unset, .unset] [(.int xf)])) _
    refine XS.iconst X0.here hx rfl (hb hby at_19) ?_
    show Steps p.tables e below (s₁.setTop (mkF m 20 #[.val (.int xw1), .val (.int xw2), .val (.int xq), .val (.int xf), .val (.int w1), .val (.int w2), .val (.int mv), .unset, .unset, .unset, .unset, .unset, .unset] [(.int (1 : Int32)), (.int xf)])) _
    refine XS.iand X0.here hx rfl (hb hby at_20) rfl ?_
    show Steps p.tables e below (s₁.setTop (mkF m 21 #[.val (.int xw1), .val (.int xw2), .val (.int xq), .val (.int xf), .val (.int w1), .val (.int w2), .val (.int mv), .unset, .unset, .unset, .unset, .unset, .unset] [(.int (xf &&& (1 : Int32)))])) _
    refine XS.iloadN X0.here hx rfl (hb hby at_21) rfl ?_
    show Steps p.tables e below (s₁.setTop (mkF m 22 #[.val (.int xw1), .val (.int xw2), .val (.int xq), .val (.int xf), .val (.int w1), .val (.int w2), .val (.int mv), .unset, .unset, .unset, .unset, .unset, .unset] [(.int xf), (.int (xf &&& (1 : Int32)))])) _
    refine XS.iconst X0.here hx rfl (hb hby at_22) ?_
    show Steps p.tables e below (s₁.setTop (mkF m 23 #[.val (.int xw1), .val (.int xw2), .val (.int xq), .val (.int xf), .val (.int w1), .val (.int w2), .val (.int mv), .unset, .unset, .unset, .unset, .unset, .unset] [(.int (1 : Int32)), (.int xf), (.int (xf &&& (1 : Int32)))])) _
    refine XS.ishr X0.here hx rfl (hb hby at_23) rfl ?_
    show Steps p.tables e below (s₁.setTop (mkF m 24 #[.val (.int xw1), .val (.int xw2), .val (.int xq), .val (.int xf), .val (.int w1), .val (.int w2), .val (.int mv), .unset, .unset, .unset, .unset, .unset, .unset] [(.int (xf >>> ((1 : Int32) &&& 31))), (.int (xf &&& (1 : Int32)))])) _
    refine XS.iconst X0.here hx rfl (hb hby at_24) ?_
    show Steps p.tables e below (s₁.setTop (mkF m 25 #[.val (.int xw1), .val (.int xw2), .val (.int xq), .val (.int xf), .val (.int w1), .val (.int w2), .val (.int mv), .unset, .unset, .unset, .unset, .unset, .unset] [(.int (1 : Int32)), (.int (xf >>> ((1 : Int32) &&& 31))), (.int (xf &&& (1 : Int32)))])) _
    refine XS.iand X0.here hx rfl (hb hby at_25) rfl ?_
    show Steps p.tables e below (s₁.setTop (mkF m 26 #[.val (.int xw1), .val (.int xw2), .val (.int xq), .val (.int xf), .val (.int w1), .val (.int w2), .val (.int mv), .unset, .unset, .unset, .unset, .unset, .unset] [(.int ((xf >>> ((1 : Int32) &&& 31)) &&& (1 : Int32))), (.int (xf &&& (1 : Int32)))])) _
    refine XS.iadd X0.here hx rfl (hb hby at_26) rfl ?_
    show Steps p.tables e below (s₁.setTop (mkF m 27 #[.val (.int xw1), .val (.int xw2), .val (.int xq), .val (.int xf), .val (.int w1), .val (.int w2), .val (.int mv), .unset, .unset, .unset, .unset, .unset, .unset] [(.int ((xf &&& (1 : Int32)) + ((xf >>> ((1 : Int32) &&& 31)) &&& (1 : Int32))))])) _
    refine XS.istore X0.here hx rfl (hb hby at_27) rfl (l' := #[.val (.int xw1), .val (.int xw2), .val (.int xq), .val (.int xf), .val (.int w1), .val (.int w2), .val (.int mv), .val (.int ((xf &&& (1 : Int32)) + ((xf >>> ((1 : Int32) &&& 31)) &&& (1 : Int32)))), .unset, .unset, .unset, .unset, .unset]) rfl ?_
    show Steps p.tables e below (s₁.setTop (mkF m 29 #[.val (.int xw1), .val (.int xw2), .val (.int xq), .val (.int xf), .val (.int w1), .val (.int w2), .val (.int mv), .val (.int ((xf &&& (1 : Int32)) + ((xf >>> ((1 : Int32) &&& 31)) &&& (1 : Int32)))), .unset, .unset, .unset, .unset, .unset] [])) _
    exact k
  obtain ⟨ap, hap⟩ : ∃ z : Int32, z = ((xf &&& (1 : Int32)) + ((xf >>> ((1 : Int32) &&& 31)) &&& (1 : Int32))) := ⟨_, rfl⟩
  rw [← hap] at pre4
  have pre5 : ∀ t, Steps p.tables e below (s₁.setTop (mkF m 36 #[.val (.int xw1), .val (.int xw2), .val (.int xq), .val (.int xf), .val (.int w1), .val (.int w2), .val (.int mv), .val (.int ap), .val (.int ((xf >>> ((2 : Int32) &&& 31)) &&& (1 : Int32))), .unset, .unset, .unset, .unset] [])) t → Steps p.tables e below (s₁.setTop (entryFrame m #[(.int xw1), (.int xw2), (.int xq), (.int xf)] maxLocals)) t := by
    intro t k
    refine pre4 t ?_
    refine XS.iloadN X0.here hx rfl (hb hby at_29) rfl ?_
    show Steps p.tables e below (s₁.setTop (mkF m 30 #[.val (.int xw1), .val (.int xw2), .val (.int xq), .val (.int xf), .val (.int w1), .val (.int w2), .val (.int mv), .val (.int ap), .unset, .unset, .unset, .unset, .unset] [(.int xf)])) _
    refine XS.iconst X0.here hx rfl (hb hby at_30) ?_
    show Steps p.tables e below (s₁.setTop (mkF m 31 #[.val (.int xw1), .val (.int xw2), .val (.int xq), .val (.int xf), .val (.int w1), .val (.int w2), .val (.int mv), .val (.int ap), .unset, .unset, .unset, .unset, .unset] [(.int (2 : Int32)), (.int xf)])) _
    refine XS.ishr X0.here hx rfl (hb hby at_31) rfl ?_
    show Steps p.tables e below (s₁.setTop (mkF m 32 #[.val (.int xw1), .val (.int xw2), .val (.int xq), .val (.int xf), .val (.int w1), .val (.int w2), .val (.int mv), .val (.int ap), .unset, .unset, .unset, .unset, .unset] [(.int (xf >>> ((2 : Int32) &&& 31)))])) _
    refine XS.iconst X0.here hx rfl (hb hby at_32) ?_
    show Steps p.tables e below (s₁.setTop (mkF m 33 #[.val (.int xw1), .val (.int xw2), .val (.int xq), .val (.int xf), .val (.int w1), .val (.int w2), .val (.int mv), .val (.int ap), .unset, .unset, .unset, .unset, .unset] [(.int (1 : Int32)), (.int (xf >>> ((2 : Int32) &&& 31)))])) _
    refine XS.iand X0.here hx rfl (hb hby at_33) rfl ?_
    show Steps p.tables e below (s₁.setTop (mkF m 34 #[.val (.int xw1), .val (.int xw2), .val (.int xq), .val (.int xf), .val (.int w1), .val (.int w2), .val (.int mv), .val (.int ap), .unset, .unset, .unset, .unset, .unset] [(.int ((xf >>> ((2 : Int32) &&& 31)) &&& (1 : Int32)))])) _
    refine XS.istore X0.here hx rfl (hb hby at_34) rfl (l' := #[.val (.int xw1), .val (.int xw2), .val (.int xq), .val (.int xf), .val (.int w1), .val (.int w2), .val (.int mv), .val (.int ap), .val (.int ((xf >>> ((2 : Int32) &&& 31)) &&& (1 : Int32))), .unset, .unset, .unset, .unset]) rfl ?_
    show Steps p.tables e below (s₁.setTop (mkF m 36 #[.val (.int xw1), .val (.int xw2), .val (.int xq), .val (.int xf), .val (.int w1), .val (.int w2), .val (.int mv), .val (.int ap), .val (.int ((xf >>> ((2 : Int32) &&& 31)) &&& (1 : Int32))), .unset, .unset, .unset, .unset] [])) _
    exact k
  obtain ⟨de, hde⟩ : ∃ z : Int32, z = ((xf >>> ((2 : Int32) &&& 31)) &&& (1 : Int32)) := ⟨_, rfl⟩
  rw [← hde] at pre5
  have pre6 : ∀ t, Steps p.tables e below (s₁.setTop (mkF m 41 #[.val (.int xw1), .val (.int xw2), .val (.int xq), .val (.int xf), .val (.int w1), .val (.int w2), .val (.int mv), .val (.int ap), .val (.int de), .unset, .unset, .unset, .unset] [(.int ((xf >>> ((3 : Int32) &&& 31)) &&& (1 : Int32)))])) t → Steps p.tables e below (s₁.setTop (entryFrame m #[(.int xw1), (.int xw2), (.int xq), (.int xf)] maxLocals)) t := by
    intro t k
    refine pre5 t ?_
    refine XS.iloadN X0.here hx rfl (hb hby at_36) rfl ?_
    show Steps p.tables e below (s₁.setTop (mkF m 37 #[.val (.int xw1), .val (.int xw2), .val (.int xq), .val (.int xf), .val (.int w1), .val (.int w2), .val (.int mv), .val (.int ap), .val (.int de), .unset, .unset, .unset, .unset] [(.int xf)])) _
    refine XS.iconst X0.here hx rfl (hb hby at_37) ?_
    show Steps p.tables e below (s₁.setTop (mkF m 38 #[.val (.int xw1), .val (.int xw2), .val (.int xq), .val (.int xf), .val (.int w1), .val (.int w2), .val (.int mv), .val (.int ap), .val (.int de), .unset, .unset, .unset, .unset] [(.int (3 : Int32)), (.int xf)])) _
    refine XS.ishr X0.here hx rfl (hb hby at_38) rfl ?_
    show Steps p.tables e below (s₁.setTop (mkF m 39 #[.val (.int xw1), .val (.int xw2), .val (.int xq), .val (.int xf), .val (.int w1), .val (.int w2), .val (.int mv), .val (.int ap), .val (.int de), .unset, .unset, .unset, .unset] [(.int (xf >>> ((3 : Int32) &&& 31)))])) _
    refine XS.iconst X0.here hx rfl (hb hby at_39) ?_
    show Steps p.tables e below (s₁.setTop (mkF m 40 #[.val (.int xw1), .val (.int xw2), .val (.int xq), .val (.int xf), .val (.int w1), .val (.int w2), .val (.int mv), .val (.int ap), .val (.int de), .unset, .unset, .unset, .unset] [(.int (1 : Int32)), (.int (xf >>> ((3 : Int32) &&& 31)))])) _
    refine XS.iand X0.here hx rfl (hb hby at_40) rfl ?_
    show Steps p.tables e below (s₁.setTop (mkF m 41 #[.val (.int xw1), .val (.int xw2), .val (.int xq), .val (.int xf), .val (.int w1), .val (.int w2), .val (.int mv), .val (.int ap), .val (.int de), .unset, .unset, .unset, .unset] [(.int ((xf >>> ((3 : Int32) &&& 31)) &&& (1 : Int32)))])) _
    exact k
  obtain ⟨v41, hv41⟩ : ∃ z : Int32, z = (if ((xf >>> ((3 : Int32) &&& 31)) &&& (1 : Int32)) = (0 : Int32) then (0 : Int32) else (1 : Int32)) := ⟨_, rfl⟩
  have pre7 : ∀ t, Steps p.tables e below (s₁.setTop (mkF m 49 #[.val (.int xw1), .val (.int xw2), .val (.int xq), .val (.int xf), .val (.int w1), .val (.int w2), .val (.int mv), .val (.int ap), .val (.int de), .unset, .unset, .unset, .unset] [(.int v41)])) t → Steps p.tables e below (s₁.setTop (entryFrame m #[(.int xw1), (.int xw2), (.int xq), (.int xf)] maxLocals)) t := by
    intro t k
    refine pre6 t ?_
    by_cases hc41 : ((xf >>> ((3 : Int32) &&& 31)) &&& (1 : Int32)) = (0 : Int32)
    · refine XS.ifYes X0.here hx rfl (pc0 := 41) (pc' := 48) rfl (hb hby at_41) rfl ((if0 _ _).trans (teq hc41).1) (by decide) (by decide) ?_
      show Steps p.tables e below (s₁.setTop (mkF m 48 #[.val (.int xw1), .val (.int xw2), .val (.int xq), .val (.int xf), .val (.int w1), .val (.int w2), .val (.int mv), .val (.int ap), .val (.int de), .unset, .unset, .unset, .unset] [])) _
      refine XS.iconst X0.here hx rfl (hb hby at_48) ?_
      show Steps p.tables e below (s₁.setTop (mkF m 49 #[.val (.int xw1), .val (.int xw2), .val (.int xq), .val (.int xf), .val (.int w1), .val (.int w2), .val (.int mv), .val (.int ap), .val (.int de), .unset, .unset, .unset, .unset] [(.int (0 : Int32))])) _
      rw [show v41 = (0 : Int32) from by rw [hv41, if_pos hc41]] at k
      exact k
    · refine XS.ifNo X0.here hx rfl (hb hby at_41) rfl ((if0 _ _).trans (feq hc41).1) ?_
      show Steps p.tables e below (s₁.setTop (mkF m 44 #[.val (.int xw1), .val (.int xw2), .val (.int xq), .val (.int xf), .val (.int w1), .val (.int w2), .val (.int mv), .val (.int ap), .val (.int de), .unset, .unset, .unset, .unset] [])) _
      refine XS.iconst X0.here hx rfl (hb hby at_44) ?_
      show Steps p.tables e below (s₁.setTop (mkF m 45 #[.val (.int xw1), .val (.int xw2), .val (.int xq), .val (.int xf), .val (.int w1), .val (.int w2), .val (.int mv), .val (.int ap), .val (.int de), .unset, .unset, .unset, .unset] [(.int (1 : Int32))])) _
      refine XS.goto X0.here hx rfl (pc0 := 45) (pc' := 49) rfl (hb hby at_45) (by decide) (by decide) ?_
      show Steps p.tables e below (s₁.setTop (mkF m 49 #[.val (.int xw1), .val (.int xw2), .val (.int xq), .val (.int xf), .val (.int w1), .val (.int w2), .val (.int mv), .val (.int ap), .val (.int de), .unset, .unset, .unset, .unset] [(.int (1 : Int32))])) _
      rw [show v41 = (1 : Int32) from by rw [hv41, if_neg hc41]] at k
      exact k
  have pre8 : ∀ t, Steps p.tables e below (s₁.setTop (mkF m 51 #[.val (.int xw1), .val (.int xw2), .val (.int xq), .val (.int xf), .val (.int w1), .val (.int w2), .val (.int mv), .val (.int ap), .val (.int de), .val (.int v41), .unset, .unset, .unset] [])) t → Steps p.tables e below (s₁.setTop (entryFrame m #[(.int xw1), (.int xw2), (.int xq), (.int xf)] maxLocals)) t := by
    intro t k
    refine pre7 t ?_
    refine XS.istore X0.here hx rfl (hb hby at_49) rfl (l' := #[.val (.int xw1), .val (.int xw2), .val (.int xq), .val (.int xf), .val (.int w1), .val (.int w2), .val (.int mv), .val (.int ap), .val (.int de), .val (.int v41), .unset, .unset, .unset]) rfl ?_
    show Steps p.tables e below (s₁.setTop (mkF m 51 #[.val (.int xw1), .val (.int xw2), .val (.int xq), .val (.int xf), .val (.int w1), .val (.int w2), .val (.int mv), .val (.int ap), .val (.int de), .val (.int v41), .unset, .unset, .unset] [])) _
    exact k
  obtain ⟨T9, h9, X9, e9, E9, A9, D9, -, st9⟩ := newO X0 hx hZ hown (hw _ (List.mem_of_getElem? (i := 1) rfl)) (hw _ (List.mem_of_getElem? (i := 2) rfl)) (hw _ (List.mem_of_getElem? (i := 3) rfl)) e0 (g := (mkF m 51 #[.val (.int xw1), .val (.int xw2), .val (.int xq), .val (.int xf), .val (.int w1), .val (.int w2), .val (.int mv), .val (.int ap), .val (.int de), .val (.int v41), .unset, .unset, .unset] [])) rfl (hb hby at_51) (by decide) (by decide)
  obtain ⟨b9, g9⟩ : ∃ z, z = h0.size := ⟨_, rfl⟩
  rw [← g9] at A9 D9 st9
  have g_b9 : n0 ≤ b9 := Nat.le_trans Z0 (Nat.le_of_eq g9.symm)
  have sz_b9 : h0.size ≤ b9 := Nat.le_trans (Keep.refl h0 ([] : List Addr)).1 (Nat.le_of_eq g9.symm)
  have K9 : Keep h0 h9 ([] : List Addr) := (Keep.refl h0 ([] : List Addr)).ext E9
  have z9 : n0 ≤ h9.size := Nat.le_trans Z0 K9.1
  have F_applications_b9 : Fld Z h9 b9 "com/example/suitor/suitor/SolverStatistics" "applications" "J" (.long (0 : Int64)) := D9 (Or.inl (hw _ (List.mem_of_getElem? (i := 16) rfl))) (ty := .long) (by decide)
  have F_walkSteps_b9 : Fld Z h9 b9 "com/example/suitor/suitor/SolverStatistics" "walkSteps" "J" (.long (0 : Int64)) := D9 (Or.inl (hw _ (List.mem_of_getElem? (i := 18) rfl))) (ty := .long) (by decide)
  have F_deletions_b9 : Fld Z h9 b9 "com/example/suitor/suitor/SolverStatistics" "deletions" "J" (.long (0 : Int64)) := D9 (Or.inl (hw _ (List.mem_of_getElem? (i := 20) rfl))) (ty := .long) (by decide)
  have F_queueMoves_b9 : Fld Z h9 b9 "com/example/suitor/suitor/SolverStatistics" "queueMoves" "J" (.long (0 : Int64)) := D9 (Or.inl (hw _ (List.mem_of_getElem? (i := 22) rfl))) (ty := .long) (by decide)
  have F_passes_b9 : Fld Z h9 b9 "com/example/suitor/suitor/SolverStatistics" "passes" "J" (.long (0 : Int64)) := D9 (Or.inl (hw _ (List.mem_of_getElem? (i := 44) rfl))) (ty := .long) (by decide)
  have pre10 : ∀ t, Steps p.tables e below (T9.setTop (mkF m 54 #[.val (.int xw1), .val (.int xw2), .val (.int xq), .val (.int xf), .val (.int w1), .val (.int w2), .val (.int mv), .val (.int ap), .val (.int de), .val (.int v41), .unset, .unset, .unset] [(.ref b9)])) t → Steps p.tables e below (s₁.setTop (entryFrame m #[(.int xw1), (.int xw2), (.int xq), (.int xf)] maxLocals)) t := fun t k => pre8 t (st9 t k)
  have pre11 : ∀ t, Steps p.tables e below (T9.setTop (mkF m 55 #[.val (.int xw1), .val (.int xw2), .val (.int xq), .val (.int xf), .val (.int w1), .val (.int w2), .val (.int mv), .val (.int ap), .val (.int de), .val (.int v41), .unset, .unset, .unset] [(.ref b9), (.ref b9)])) t → Steps p.tables e below (s₁.setTop (entryFrame m #[(.int xw1), (.int xw2), (.int xq), (.int xf)] maxLocals)) t := by
    intro t k
    refine pre10 t ?_
    refine XS.dup X9.here hx rfl (hb hby at_54) rfl rfl ?_
    show Steps p.tables e below (T9.setTop (mkF m 55 #[.val (.int xw1), .val (.int xw2), .val (.int xq), .val (.int xf), .val (.int w1), .val (.int w2), .val (.int mv), .val (.int ap), .val (.int de), .val (.int v41), .unset, .unset, .unset] [(.ref b9), (.ref b9)])) _
    exact k
  obtain ⟨_, _, ⟨T12, L12, k12, n12⟩, -, X12, ⟨Lc12, hQ12, l12, y12, z12⟩, st12⟩ := X9.specialBack hx (y := (⟨"com/example/suitor/suitor/SolverStatistics", "<init>", "()V"⟩ : MethodName)) rfl hown (mvT hZ (hw _ (List.mem_of_getElem? (i := 4) rfl))) (mvT hZ (hw _ (List.mem_of_getElem? (i := 5) rfl))) (mvT hZ (hw _ (List.mem_of_getElem? (i := 6) rfl))) (by decide) (backOf (W := 1) (rm_init l Z a0 hw [] b9 h9 n0 z9 A9 (g_b9) F_applications_b9 F_walkSteps_b9 F_deletions_b9 F_queueMoves_b9 F_passes_b9) hZ (hw _ (List.mem_of_getElem? (i := 6) rfl)) (hw _ (List.mem_of_getElem? (i := 3) rfl)) (by decide) (by decide)) (g := (mkF m 55 #[.val (.int xw1), .val (.int xw2), .val (.int xq), .val (.int xf), .val (.int w1), .val (.int w2), .val (.int mv), .val (.int ap), .val (.int de), .val (.int v41), .unset, .unset, .unset] [(.ref b9), (.ref b9)])) rfl (by rw [hml]; rfl) (Steps.refl _) (a := b9) (argsL := []) (rest := [(.ref b9)]) (lenOf pd0 rfl) rfl (by show 2 * 0 + _ ≤ _; exact Nat.le_of_eq rfl) (hb hby at_55) (fun _ _ => ⟨rfl, e9, (by decide : 1 + 0 ≤ _), (by decide : 5 + 0 ≤ _)⟩)
  dsimp only [Pt.U, Pt.locs, Pt.cells, Pt.slots] at X12 l12 y12 z12 st12 hQ12
  subst l12 y12 z12
  obtain ⟨rfl, M12, kp12, f12_0, f12_1, f12_2, f12_3, f12_4, f12_5⟩ := hQ12
  have K12 : Keep h0 T12.heap ([] : List Addr) := K9.trans kp12 all0
  have zz12 : n0 ≤ T12.heap.size := Nat.le_trans Z0 K12.1
  have N12 := Fr.app N0 M12
  have pre13 : ∀ t, Steps p.tables e below (T12.setTop (mkF m 58 #[.val (.int xw1), .val (.int xw2), .val (.int xq), .val (.int xf), .val (.int w1), .val (.int w2), .val (.int mv), .val (.int ap), .val (.int de), .val (.int v41), .unset, .unset, .unset] [(.ref b9)])) t → Steps p.tables e below (s₁.setTop (entryFrame m #[(.int xw1), (.int xw2), (.int xq), (.int xf)] maxLocals)) t := fun t k => pre11 t (st12.trans k)
  have pre14 : ∀ t, Steps p.tables e below (T12.setTop (mkF m 62 #[.val (.int xw1), .val (.int xw2), .val (.int xq), .val (.int xf), .val (.int w1), .val (.int w2), .val (.int mv), .val (.int ap), .val (.int de), .val (.int v41), .val (.ref b9), .unset, .unset] [(.ref b9)])) t → Steps p.tables e below (s₁.setTop (entryFrame m #[(.int xw1), (.int xw2), (.int xq), (.int xf)] maxLocals)) t := by
    intro t k
    refine pre13 t ?_
    refine XS.astore X12.here hx rfl (hb hby at_58) rfl rfl (l' := #[.val (.int xw1), .val (.int xw2), .val (.int xq), .val (.int xf), .val (.int w1), .val (.int w2), .val (.int mv), .val (.int ap), .val (.int de), .val (.int v41), .val (.ref b9), .unset, .unset]) rfl ?_
    show Steps p.tables e below (T12.setTop (mkF m 60 #[.val (.int xw1), .val (.int xw2), .val (.int xq), .val (.int xf), .val (.int w1), .val (.int w2), .val (.int mv), .val (.int ap), .val (.int de), .val (.int v41), .val (.ref b9), .unset, .unset] [])) _
    refine XS.aload X12.here hx rfl (hb hby at_60) rfl rfl ?_
    show Steps p.tables e below (T12.setTop (mkF m 62 #[.val (.int xw1), .val (.int xw2), .val (.int xq), .val (.int xf), .val (.int w1), .val (.int w2), .val (.int mv), .val (.int ap), .val (.int de), .val (.int v41), .val (.ref b9), .unset, .unset] [(.ref b9)])) _
    exact k
  obtain ⟨cq15, kq15, q15a, q15b, q15c⟩ := isOf hZ rfl f12_0
  obtain ⟨_, _, ⟨T15, L15, k15, n15⟩, -, X15, ⟨Lc15, hQ15, l15, y15, z15⟩, st15⟩ := X12.virtualBack hx (y := (⟨"com/example/suitor/suitor/SolverStatistics", "getSteps", "()J"⟩ : MethodName)) (z := (⟨"com/example/suitor/suitor/SolverStatistics", "getSteps", "()J"⟩ : MethodName)) hown (mvT hZ (hw _ (List.mem_of_getElem? (i := 10) rfl))) (mvT hZ (hw _ (List.mem_of_getElem? (i := 11) rfl))) (notFace_of_selects (args := #[]) (mvT hZ (hw _ (List.mem_of_getElem? (i := 13) rfl)))) (mvT hZ (hw _ (List.mem_of_getElem? (i := 13) rfl))) (mvT hZ (hw _ (List.mem_of_getElem? (i := 12) rfl))) (by decide) (backOf (W := 0) (rm_steps l Z a0 hw [] b9 (0 : Int64) (0 : Int64) (0 : Int64) (0 : Int64) T12.heap n0 zz12 f12_1 f12_2 f12_3 f12_4) hZ (hw _ (List.mem_of_getElem? (i := 14) rfl)) (hw _ (List.mem_of_getElem? (i := 3) rfl)) (by decide) (by decide)) q15a q15c (g := (mkF m 62 #[.val (.int xw1), .val (.int xw2), .val (.int xq), .val (.int xf), .val (.int w1), .val (.int w2), .val (.int mv), .val (.int ap), .val (.int de), .val (.int v41), .val (.ref b9), .unset, .unset] [(.ref b9)])) rfl (by rw [hml]; rfl) (Steps.refl _) (argsL := []) (rest := []) (lenOf pd1 rfl) rfl (by show 2 * 0 + _ ≤ _; exact Nat.le_of_eq rfl) (hb hby at_62) (fun _ _ => ⟨rfl, rfl, (by decide : 1 + 0 ≤ _), (by decide : 5 + 0 ≤ _)⟩)
  dsimp only [Pt.U, Pt.locs, Pt.cells, Pt.slots] at X15 l15 y15 z15 st15 hQ15
  subst l15 y15 z15
  obtain ⟨rfl, M15, e15⟩ := hQ15
  have N15 := Fr.app N12 M15
  have pre16 : ∀ t, Steps p.tables e below (T15.setTop (mkF m 65 #[.val (.int xw1), .val (.int xw2), .val (.int xq), .val (.int xf), .val (.int w1), .val (.int w2), .val (.int mv), .val (.int ap), .val (.int de), .val (.int v41), .val (.ref b9), .unset, .unset] [(.long ((((0 : Int64) + (0 : Int64)) + (0 : Int64)) + (0 : Int64)))])) t → Steps p.tables e below (s₁.setTop (entryFrame m #[(.int xw1), (.int xw2), (.int xq), (.int xf)] maxLocals)) t := fun t k => pre14 t (st15.trans k)
  have pre17 : ∀ t, Steps p.tables e below (T15.setTop (mkF m 75 #[.val (.int xw1), .val (.int xw2), .val (.int xq), .val (.int xf), .val (.int w1), .val (.int w2), .val (.int mv), .val (.int ap), .val (.int de), .val (.int v41), .val (.ref b9), .unset, .unset] [(.int (xf &&& (1 : Int32)))])) t → Steps p.tables e below (s₁.setTop (entryFrame m #[(.int xw1), (.int xw2), (.int xq), (.int xf)] maxLocals)) t := by
    intro t k
    refine pre16 t ?_
    refine XS.lconst X15.here hx rfl (hb hby at_65) ?_
    show Steps p.tables e below (T15.setTop (mkF m 66 #[.val (.int xw1), .val (.int xw2), .val (.int xq), .val (.int xf), .val (.int w1), .val (.int w2), .val (.int mv), .val (.int ap), .val (.int de), .val (.int v41), .val (.ref b9), .unset, .unset] [(.long (0 : Int64)), (.long ((((0 : Int64) + (0 : Int64)) + (0 : Int64)) + (0 : Int64)))])) _
    refine XS.lcmp X15.here hx rfl (hb hby at_66) rfl ?_
    show Steps p.tables e below (T15.setTop (mkF m 67 #[.val (.int xw1), .val (.int xw2), .val (.int xq), .val (.int xf), .val (.int w1), .val (.int w2), .val (.int mv), .val (.int ap), .val (.int de), .val (.int v41), .val (.ref b9), .unset, .unset] [(.int (lcmpW ((((0 : Int64) + (0 : Int64)) + (0 : Int64)) + (0 : Int64)) (0 : Int64)))])) _
    refine XS.ifYes X15.here hx rfl (pc0 := 67) (pc' := 72) rfl (hb hby at_67) rfl ((if0 _ _).trans (teq ((lw_eq _ _).mpr (show ((((0 : Int64) + (0 : Int64)) + (0 : Int64)) + (0 : Int64)) = (0 : Int64) from by decide))).1) (by decide) (by decide) ?_
    show Steps p.tables e below (T15.setTop (mkF m 72 #[.val (.int xw1), .val (.int xw2), .val (.int xq), .val (.int xf), .val (.int w1), .val (.int w2), .val (.int mv), .val (.int ap), .val (.int de), .val (.int v41), .val (.ref b9), .unset, .unset] [])) _
    refine XS.iloadN X15.here hx rfl (hb hby at_72) rfl ?_
    show Steps p.tables e below (T15.setTop (mkF m 73 #[.val (.int xw1), .val (.int xw2), .val (.int xq), .val (.int xf), .val (.int w1), .val (.int w2), .val (.int mv), .val (.int ap), .val (.int de), .val (.int v41), .val (.ref b9), .unset, .unset] [(.int xf)])) _
    refine XS.iconst X15.here hx rfl (hb hby at_73) ?_
    show Steps p.tables e below (T15.setTop (mkF m 74 #[.val (.int xw1), .val (.int xw2), .val (.int xq), .val (.int xf), .val (.int w1), .val (.int w2), .val (.int mv), .val (.int ap), .val (.int de), .val (.int v41), .val (.ref b9), .unset, .unset] [(.int (1 : Int32)), (.int xf)])) _
    refine XS.iand X15.here hx rfl (hb hby at_74) rfl ?_
    show Steps p.tables e below (T15.setTop (mkF m 75 #[.val (.int xw1), .val (.int xw2), .val (.int xq), .val (.int xf), .val (.int w1), .val (.int w2), .val (.int mv), .val (.int ap), .val (.int de), .val (.int v41), .val (.ref b9), .unset, .unset] [(.int (xf &&& (1 : Int32)))])) _
    exact k
  by_cases hc75 : (xf &&& (1 : Int32)) = (0 : Int32)
  · have pre18 : ∀ t, Steps p.tables e below (T15.setTop (mkF m 88 #[.val (.int xw1), .val (.int xw2), .val (.int xq), .val (.int xf), .val (.int w1), .val (.int w2), .val (.int mv), .val (.int ap), .val (.int de), .val (.int v41), .val (.ref b9), .unset, .unset] [(.int ((xf >>> ((1 : Int32) &&& 31)) &&& (1 : Int32)))])) t → Steps p.tables e below (s₁.setTop (entryFrame m #[(.int xw1), (.int xw2), (.int xq), (.int xf)] maxLocals)) t := by
      intro t k
      refine pre17 t ?_
      refine XS.ifYes X15.here hx rfl (pc0 := 75) (pc' := 83) rfl (hb hby at_75) rfl ((if0 _ _).trans (teq hc75).1) (by decide) (by decide) ?_
      show Steps p.tables e below (T15.setTop (mkF m 83 #[.val (.int xw1), .val (.int xw2), .val (.int xq), .val (.int xf), .val (.int w1), .val (.int w2), .val (.int mv), .val (.int ap), .val (.int de), .val (.int v41), .val (.ref b9), .unset, .unset] [])) _
      refine XS.iloadN X15.here hx rfl (hb hby at_83) rfl ?_
      show Steps p.tables e below (T15.setTop (mkF m 84 #[.val (.int xw1), .val (.int xw2), .val (.int xq), .val (.int xf), .val (.int w1), .val (.int w2), .val (.int mv), .val (.int ap), .val (.int de), .val (.int v41), .val (.ref b9), .unset, .unset] [(.int xf)])) _
      refine XS.iconst X15.here hx rfl (hb hby at_84) ?_
      show Steps p.tables e below (T15.setTop (mkF m 85 #[.val (.int xw1), .val (.int xw2), .val (.int xq), .val (.int xf), .val (.int w1), .val (.int w2), .val (.int mv), .val (.int ap), .val (.int de), .val (.int v41), .val (.ref b9), .unset, .unset] [(.int (1 : Int32)), (.int xf)])) _
      refine XS.ishr X15.here hx rfl (hb hby at_85) rfl ?_
      show Steps p.tables e below (T15.setTop (mkF m 86 #[.val (.int xw1), .val (.int xw2), .val (.int xq), .val (.int xf), .val (.int w1), .val (.int w2), .val (.int mv), .val (.int ap), .val (.int de), .val (.int v41), .val (.ref b9), .unset, .unset] [(.int (xf >>> ((1 : Int32) &&& 31)))])) _
      refine XS.iconst X15.here hx rfl (hb hby at_86) ?_
      show Steps p.tables e below (T15.setTop (mkF m 87 #[.val (.int xw1), .val (.int xw2), .val (.int xq), .val (.int xf), .val (.int w1), .val (.int w2), .val (.int mv), .val (.int ap), .val (.int de), .val (.int v41), .val (.ref b9), .unset, .unset] [(.int (1 : Int32)), (.int (xf >>> ((1 : Int32) &&& 31)))])) _
      refine XS.iand X15.here hx rfl (hb hby at_87) rfl ?_
      show Steps p.tables e below (T15.setTop (mkF m 88 #[.val (.int xw1), .val (.int xw2), .val (.int xq), .val (.int xf), .val (.int w1), .val (.int w2), .val (.int mv), .val (.int ap), .val (.int de), .val (.int v41), .val (.ref b9), .unset, .unset] [(.int ((xf >>> ((1 : Int32) &&& 31)) &&& (1 : Int32)))])) _
      exact k
    by_cases hc88 : ((xf >>> ((1 : Int32) &&& 31)) &&& (1 : Int32)) = (0 : Int32)
    · have pre19 : ∀ t, Steps p.tables e below (T15.setTop (mkF m 100 #[.val (.int xw1), .val (.int xw2), .val (.int xq), .val (.int xf), .val (.int w1), .val (.int w2), .val (.int mv), .val (.int ap), .val (.int de), .val (.int v41), .val (.ref b9), .unset, .unset] [(.int w1), (.ref b9)])) t → Steps p.tables e below (s₁.setTop (entryFrame m #[(.int xw1), (.int xw2), (.int xq), (.int xf)] maxLocals)) t := by
        intro t k
        refine pre18 t ?_
        refine XS.ifYes X15.here hx rfl (pc0 := 88) (pc' := 96) rfl (hb hby at_88) rfl ((if0 _ _).trans (teq hc88).1) (by decide) (by decide) ?_
        show Steps p.tables e below (T15.setTop (mkF m 96 #[.val (.int xw1), .val (.int xw2), .val (.int xq), .val (.int xf), .val (.int w1), .val (.int w2), .val (.int mv), .val (.int ap), .val (.int de), .val (.int v41), .val (.ref b9), .unset, .unset] [])) _
        refine XS.aload X15.here hx rfl (hb hby at_96) rfl rfl ?_
        show Steps p.tables e below (T15.setTop (mkF m 98 #[.val (.int xw1), .val (.int xw2), .val (.int xq), .val (.int xf), .val (.int w1), .val (.int w2), .val (.int mv), .val (.int ap), .val (.int de), .val (.int v41), .val (.ref b9), .unset, .unset] [(.ref b9)])) _
        refine XS.iload X15.here hx rfl (hb hby at_98) rfl ?_
        show Steps p.tables e below (T15.setTop (mkF m 100 #[.val (.int xw1), .val (.int xw2), .val (.int xq), .val (.int xf), .val (.int w1), .val (.int w2), .val (.int mv), .val (.int ap), .val (.int de), .val (.int v41), .val (.ref b9), .unset, .unset] [(.int w1), (.ref b9)])) _
        exact k
      obtain ⟨cq20, kq20, q20a, q20b, q20c⟩ := isOf hZ e15 f12_0
      obtain ⟨_, _, ⟨T20, L20, k20, n20⟩, -, X20, ⟨Lc20, hQ20, l20, y20, z20⟩, st20⟩ := X15.virtualBack hx (y := (⟨"com/example/suitor/suitor/SolverStatistics", "countWalkSteps", "(I)V"⟩ : MethodName)) (z := (⟨"com/example/suitor/suitor/SolverStatistics", "countWalkSteps", "(I)V"⟩ : MethodName)) hown (mvT hZ (hw _ (List.mem_of_getElem? (i := 28) rfl))) (mvT hZ (hw _ (List.mem_of_getElem? (i := 29) rfl))) (notFace_of_selects (args := #[]) (mvT hZ (hw _ (List.mem_of_getElem? (i := 31) rfl)))) (mvT hZ (hw _ (List.mem_of_getElem? (i := 31) rfl))) (mvT hZ (hw _ (List.mem_of_getElem? (i := 30) rfl))) (by decide) (backOf (W := 0) (rm_countWalkSteps l Z a0 hw [] b9 w1 (0 : Int64) (0 : Int64) (0 : Int64) (0 : Int64) (0 : Int64) T12.heap n0 zz12 f12_0 (g_b9) f12_1 f12_2 f12_3 f12_4 f12_5) hZ (hw _ (List.mem_of_getElem? (i := 32) rfl)) (hw _ (List.mem_of_getElem? (i := 3) rfl)) (by decide) (by decide)) q20a q20c (g := (mkF m 100 #[.val (.int xw1), .val (.int xw2), .val (.int xq), .val (.int xf), .val (.int w1), .val (.int w2), .val (.int mv), .val (.int ap), .val (.int de), .val (.int v41), .val (.ref b9), .unset, .unset] [(.int w1), (.ref b9)])) rfl (by rw [hml]; rfl) (Steps.refl _) (argsL := [(.int w1)]) (rest := []) (lenOf pd2 rfl) rfl (by show 2 * 0 + _ ≤ _; exact Nat.le_of_eq rfl) (hb hby at_100) (fun _ _ => ⟨rfl, e15, (by decide : 1 + 0 ≤ _), (by decide : 5 + 0 ≤ _)⟩)
      dsimp only [Pt.U, Pt.locs, Pt.cells, Pt.slots] at X20 l20 y20 z20 st20 hQ20
      subst l20 y20 z20
      obtain ⟨rfl, M20, kp20, f20_0, f20_1, f20_2, f20_3, f20_4, f20_5⟩ := hQ20
      have K20 : Keep h0 T20.heap ([] : List Addr) := K12.trans kp20 (allS (P := fun x => x ∈ ([] : List Addr) ∨ h0.size ≤ x) (Or.inr sz_b9) all0)
      have zz20 : n0 ≤ T20.heap.size := Nat.le_trans Z0 K20.1
      have N20 := Fr.app N15 M20
      have pre21 : ∀ t, Steps p.tables e below (T20.setTop (mkF m 103 #[.val (.int xw1), .val (.int xw2), .val (.int xq), .val (.int xf), .val (.int w1), .val (.int w2), .val (.int mv), .val (.int ap), .val (.int de), .val (.int v41), .val (.ref b9), .unset, .unset] [])) t → Steps p.tables e below (s₁.setTop (entryFrame m #[(.int xw1), (.int xw2), (.int xq), (.int xf)] maxLocals)) t := fun t k => pre19 t (st20.trans k)
      have pre22 : ∀ t, Steps p.tables e below (T20.setTop (mkF m 105 #[.val (.int xw1), .val (.int xw2), .val (.int xq), .val (.int xf), .val (.int w1), .val (.int w2), .val (.int mv), .val (.int ap), .val (.int de), .val (.int v41), .val (.ref b9), .unset, .unset] [(.int de)])) t → Steps p.tables e below (s₁.setTop (entryFrame m #[(.int xw1), (.int xw2), (.int xq), (.int xf)] maxLocals)) t := by
        intro t k
        refine pre21 t ?_
        refine XS.iload X20.here hx rfl (hb hby at_103) rfl ?_
        show Steps p.tables e below (T20.setTop (mkF m 105 #[.val (.int xw1), .val (.int xw2), .val (.int xq), .val (.int xf), .val (.int w1), .val (.int w2), .val (.int mv), .val (.int ap), .val (.int de), .val (.int v41), .val (.ref b9), .unset, .unset] [(.int de)])) _
        exact k
      by_cases hc105 : de = (0 : Int32)
      · have pre23 : ∀ t, Steps p.tables e below (T20.setTop (mkF m 115 #[.val (.int xw1), .val (.int xw2), .val (.int xq), .val (.int xf), .val (.int w1), .val (.int w2), .val (.int mv), .val (.int ap), .val (.int de), .val (.int v41), .val (.ref b9), .unset, .unset] [(.int v41)])) t → Steps p.tables e below (s₁.setTop (entryFrame m #[(.int xw1), (.int xw2), (.int xq), (.int xf)] maxLocals)) t := by
          intro t k
          refine pre22 t ?_
          refine XS.ifYes X20.here hx rfl (pc0 := 105) (pc' := 113) rfl (hb hby at_105) rfl ((if0 _ _).trans (teq hc105).1) (by decide) (by decide) ?_
          show Steps p.tables e below (T20.setTop (mkF m 113 #[.val (.int xw1), .val (.int xw2), .val (.int xq), .val (.int xf), .val (.int w1), .val (.int w2), .val (.int mv), .val (.int ap), .val (.int de), .val (.int v41), .val (.ref b9), .unset, .unset] [])) _
          refine XS.iload X20.here hx rfl (hb hby at_113) rfl ?_
          show Steps p.tables e below (T20.setTop (mkF m 115 #[.val (.int xw1), .val (.int xw2), .val (.int xq), .val (.int xf), .val (.int w1), .val (.int w2), .val (.int mv), .val (.int ap), .val (.int de), .val (.int v41), .val (.ref b9), .unset, .unset] [(.int v41)])) _
          exact k
        by_cases hc115 : v41 = (0 : Int32)
        · have pre24 : ∀ t, Steps p.tables e below (T20.setTop (mkF m 127 #[.val (.int xw1), .val (.int xw2), .val (.int xq), .val (.int xf), .val (.int w1), .val (.int w2), .val (.int mv), .val (.int ap), .val (.int de), .val (.int v41), .val (.ref b9), .unset, .unset] [(.int mv), (.ref b9)])) t → Steps p.tables e below (s₁.setTop (entryFrame m #[(.int xw1), (.int xw2), (.int xq), (.int xf)] maxLocals)) t := by
            intro t k
            refine pre23 t ?_
            refine XS.ifYes X20.here hx rfl (pc0 := 115) (pc' := 123) rfl (hb hby at_115) rfl ((if0 _ _).trans (teq hc115).1) (by decide) (by decide) ?_
            show Steps p.tables e below (T20.setTop (mkF m 123 #[.val (.int xw1), .val (.int xw2), .val (.int xq), .val (.int xf), .val (.int w1), .val (.int w2), .val (.int mv), .val (.int ap), .val (.int de), .val (.int v41), .val (.ref b9), .unset, .unset] [])) _
            refine XS.aload X20.here hx rfl (hb hby at_123) rfl rfl ?_
            show Steps p.tables e below (T20.setTop (mkF m 125 #[.val (.int xw1), .val (.int xw2), .val (.int xq), .val (.int xf), .val (.int w1), .val (.int w2), .val (.int mv), .val (.int ap), .val (.int de), .val (.int v41), .val (.ref b9), .unset, .unset] [(.ref b9)])) _
            refine XS.iload X20.here hx rfl (hb hby at_125) rfl ?_
            show Steps p.tables e below (T20.setTop (mkF m 127 #[.val (.int xw1), .val (.int xw2), .val (.int xq), .val (.int xf), .val (.int w1), .val (.int w2), .val (.int mv), .val (.int ap), .val (.int de), .val (.int v41), .val (.ref b9), .unset, .unset] [(.int mv), (.ref b9)])) _
            exact k
          obtain ⟨cq25, kq25, q25a, q25b, q25c⟩ := isOf hZ rfl f20_0
          obtain ⟨_, _, ⟨T25, L25, k25, n25⟩, -, X25, ⟨Lc25, hQ25, l25, y25, z25⟩, st25⟩ := X20.virtualBack hx (y := (⟨"com/example/suitor/suitor/SolverStatistics", "countQueueMoves", "(I)V"⟩ : MethodName)) (z := (⟨"com/example/suitor/suitor/SolverStatistics", "countQueueMoves", "(I)V"⟩ : MethodName)) hown (mvT hZ (hw _ (List.mem_of_getElem? (i := 33) rfl))) (mvT hZ (hw _ (List.mem_of_getElem? (i := 34) rfl))) (notFace_of_selects (args := #[]) (mvT hZ (hw _ (List.mem_of_getElem? (i := 36) rfl)))) (mvT hZ (hw _ (List.mem_of_getElem? (i := 36) rfl))) (mvT hZ (hw _ (List.mem_of_getElem? (i := 35) rfl))) (by decide) (backOf (W := 0) (rm_countQueueMoves l Z a0 hw [] b9 mv (0 : Int64) ((0 : Int64) + (w1.toInt64)) (0 : Int64) (0 : Int64) (0 : Int64) T20.heap n0 zz20 f20_0 (g_b9) f20_1 f20_2 f20_3 f20_4 f20_5) hZ (hw _ (List.mem_of_getElem? (i := 37) rfl)) (hw _ (List.mem_of_getElem? (i := 3) rfl)) (by decide) (by decide)) q25a q25c (g := (mkF m 127 #[.val (.int xw1), .val (.int xw2), .val (.int xq), .val (.int xf), .val (.int w1), .val (.int w2), .val (.int mv), .val (.int ap), .val (.int de), .val (.int v41), .val (.ref b9), .unset, .unset] [(.int mv), (.ref b9)])) rfl (by rw [hml]; rfl) (Steps.refl _) (argsL := [(.int mv)]) (rest := []) (lenOf pd2 rfl) rfl (by show 2 * 0 + _ ≤ _; exact Nat.le_of_eq rfl) (hb hby at_127) (fun _ _ => ⟨rfl, rfl, (by decide : 1 + 0 ≤ _), (by decide : 5 + 0 ≤ _)⟩)
          dsimp only [Pt.U, Pt.locs, Pt.cells, Pt.slots] at X25 l25 y25 z25 st25 hQ25
          subst l25 y25 z25
          obtain ⟨rfl, M25, kp25, f25_0, f25_1, f25_2, f25_3, f25_4, f25_5⟩ := hQ25
          have K25 : Keep h0 T25.heap ([] : List Addr) := K20.trans kp25 (allS (P := fun x => x ∈ ([] : List Addr) ∨ h0.size ≤ x) (Or.inr sz_b9) all0)
          have zz25 : n0 ≤ T25.heap.size := Nat.le_trans Z0 K25.1
          have N25 := Fr.app N20 M25
          have pre26 : ∀ t, Steps p.tables e below (T25.setTop (mkF m 130 #[.val (.int xw1), .val (.int xw2), .val (.int xq), .val (.int xf), .val (.int w1), .val (.int w2), .val (.int mv), .val (.int ap), .val (.int de), .val (.int v41), .val (.ref b9), .unset, .unset] [])) t → Steps p.tables e below (s₁.setTop (entryFrame m #[(.int xw1), (.int xw2), (.int xq), (.int xf)] maxLocals)) t := fun t k => pre24 t (st25.trans k)
          have pre27 : ∀ t, Steps p.tables e below (T25.setTop (mkF m 134 #[.val (.int xw1), .val (.int xw2), .val (.int xq), .val (.int xf), .val (.int w1), .val (.int w2), .val (.int mv), .val (.int ap), .val (.int de), .val (.int v41), .val (.ref b9), .unset, .unset] [(.int w2), (.ref b9)])) t → Steps p.tables e below (s₁.setTop (entryFrame m #[(.int xw1), (.int xw2), (.int xq), (.int xf)] maxLocals)) t := by
            intro t k
            refine pre26 t ?_
            refine XS.aload X25.here hx rfl (hb hby at_130) rfl rfl ?_
            show Steps p.tables e below (T25.setTop (mkF m 132 #[.val (.int xw1), .val (.int xw2), .val (.int xq), .val (.int xf), .val (.int w1), .val (.int w2), .val (.int mv), .val (.int ap), .val (.int de), .val (.int v41), .val (.ref b9), .unset, .unset] [(.ref b9)])) _
            refine XS.iload X25.here hx rfl (hb hby at_132) rfl ?_
            show Steps p.tables e below (T25.setTop (mkF m 134 #[.val (.int xw1), .val (.int xw2), .val (.int xq), .val (.int xf), .val (.int w1), .val (.int w2), .val (.int mv), .val (.int ap), .val (.int de), .val (.int v41), .val (.ref b9), .unset, .unset] [(.int w2), (.ref b9)])) _
            exact k
          obtain ⟨cq28, kq28, q28a, q28b, q28c⟩ := isOf hZ rfl f25_0
          obtain ⟨_, _, ⟨T28, L28, k28, n28⟩, -, X28, ⟨Lc28, hQ28, l28, y28, z28⟩, st28⟩ := X25.virtualBack hx (y := (⟨"com/example/suitor/suitor/SolverStatistics", "countWalkSteps", "(I)V"⟩ : MethodName)) (z := (⟨"com/example/suitor/suitor/SolverStatistics", "countWalkSteps", "(I)V"⟩ : MethodName)) hown (mvT hZ (hw _ (List.mem_of_getElem? (i := 28) rfl))) (mvT hZ (hw _ (List.mem_of_getElem? (i := 29) rfl))) (notFace_of_selects (args := #[]) (mvT hZ (hw _ (List.mem_of_getElem? (i := 31) rfl)))) (mvT hZ (hw _ (List.mem_of_getElem? (i := 31) rfl))) (mvT hZ (hw _ (List.mem_of_getElem? (i := 30) rfl))) (by decide) (backOf (W := 0) (rm_countWalkSteps l Z a0 hw [] b9 w2 (0 : Int64) ((0 : Int64) + (w1.toInt64)) (0 : Int64) ((0 : Int64) + (mv.toInt64)) (0 : Int64) T25.heap n0 zz25 f25_0 (g_b9) f25_1 f25_2 f25_3 f25_4 f25_5) hZ (hw _ (List.mem_of_getElem? (i := 32) rfl)) (hw _ (List.mem_of_getElem? (i := 3) rfl)) (by decide) (by decide)) q28a q28c (g := (mkF m 134 #[.val (.int xw1), .val (.int xw2), .val (.int xq), .val (.int xf), .val (.int w1), .val (.int w2), .val (.int mv), .val (.int ap), .val (.int de), .val (.int v41), .val (.ref b9), .unset, .unset] [(.int w2), (.ref b9)])) rfl (by rw [hml]; rfl) (Steps.refl _) (argsL := [(.int w2)]) (rest := []) (lenOf pd2 rfl) rfl (by show 2 * 0 + _ ≤ _; exact Nat.le_of_eq rfl) (hb hby at_134) (fun _ _ => ⟨rfl, rfl, (by decide : 1 + 0 ≤ _), (by decide : 5 + 0 ≤ _)⟩)
          dsimp only [Pt.U, Pt.locs, Pt.cells, Pt.slots] at X28 l28 y28 z28 st28 hQ28
          subst l28 y28 z28
          obtain ⟨rfl, M28, kp28, f28_0, f28_1, f28_2, f28_3, f28_4, f28_5⟩ := hQ28
          have K28 : Keep h0 T28.heap ([] : List Addr) := K25.trans kp28 (allS (P := fun x => x ∈ ([] : List Addr) ∨ h0.size ≤ x) (Or.inr sz_b9) all0)
          have zz28 : n0 ≤ T28.heap.size := Nat.le_trans Z0 K28.1
          have N28 := Fr.app N25 M28
          have pre29 : ∀ t, Steps p.tables e below (T28.setTop (mkF m 137 #[.val (.int xw1), .val (.int xw2), .val (.int xq), .val (.int xf), .val (.int w1), .val (.int w2), .val (.int mv), .val (.int ap), .val (.int de), .val (.int v41), .val (.ref b9), .unset, .unset] [])) t → Steps p.tables e below (s₁.setTop (entryFrame m #[(.int xw1), (.int xw2), (.int xq), (.int xf)] maxLocals)) t := fun t k => pre27 t (st28.trans k)
          have pre30 : ∀ t, Steps p.tables e below (T28.setTop (mkF m 158 #[.val (.int xw1), .val (.int xw2), .val (.int xq), .val (.int xf), .val (.int w1), .val (.int w2), .val (.int mv), .val (.int ap), .val (.int de), .val (.int v41), .val (.ref b9), .val (.long (((((ap.toInt64) + (w1.toInt64)) + (w2.toInt64)) + (de.toInt64)) + (mv.toInt64))), .second] [])) t → Steps p.tables e below (s₁.setTop (entryFrame m #[(.int xw1), (.int xw2), (.int xq), (.int xf)] maxLocals)) t := by
            intro t k
            refine pre29 t ?_
            refine XS.iload X28.here hx rfl (hb hby at_137) rfl ?_
            show Steps p.tables e below (T28.setTop (mkF m 139 #[.val (.int xw1), .val (.int xw2), .val (.int xq), .val (.int xf), .val (.int w1), .val (.int w2), .val (.int mv), .val (.int ap), .val (.int de), .val (.int v41), .val (.ref b9), .unset, .unset] [(.int ap)])) _
            refine XS.i2l X28.here hx rfl (hb hby at_139) rfl ?_
            show Steps p.tables e below (T28.setTop (mkF m 140 #[.val (.int xw1), .val (.int xw2), .val (.int xq), .val (.int xf), .val (.int w1), .val (.int w2), .val (.int mv), .val (.int ap), .val (.int de), .val (.int v41), .val (.ref b9), .unset, .unset] [(.long (ap.toInt64))])) _
            refine XS.iload X28.here hx rfl (hb hby at_140) rfl ?_
            show Steps p.tables e below (T28.setTop (mkF m 142 #[.val (.int xw1), .val (.int xw2), .val (.int xq), .val (.int xf), .val (.int w1), .val (.int w2), .val (.int mv), .val (.int ap), .val (.int de), .val (.int v41), .val (.ref b9), .unset, .unset] [(.int w1), (.long (ap.toInt64))])) _
            refine XS.i2l X28.here hx rfl (hb hby at_142) rfl ?_
            show Steps p.tables e below (T28.setTop (mkF m 143 #[.val (.int xw1), .val (.int xw2), .val (.int xq), .val (.int xf), .val (.int w1), .val (.int w2), .val (.int mv), .val (.int ap), .val (.int de), .val (.int v41), .val (.ref b9), .unset, .unset] [(.long (w1.toInt64)), (.long (ap.toInt64))])) _
            refine XS.ladd X28.here hx rfl (hb hby at_143) rfl ?_
            show Steps p.tables e below (T28.setTop (mkF m 144 #[.val (.int xw1), .val (.int xw2), .val (.int xq), .val (.int xf), .val (.int w1), .val (.int w2), .val (.int mv), .val (.int ap), .val (.int de), .val (.int v41), .val (.ref b9), .unset, .unset] [(.long ((ap.toInt64) + (w1.toInt64)))])) _
            refine XS.iload X28.here hx rfl (hb hby at_144) rfl ?_
            show Steps p.tables e below (T28.setTop (mkF m 146 #[.val (.int xw1), .val (.int xw2), .val (.int xq), .val (.int xf), .val (.int w1), .val (.int w2), .val (.int mv), .val (.int ap), .val (.int de), .val (.int v41), .val (.ref b9), .unset, .unset] [(.int w2), (.long ((ap.toInt64) + (w1.toInt64)))])) _
            refine XS.i2l X28.here hx rfl (hb hby at_146) rfl ?_
            show Steps p.tables e below (T28.setTop (mkF m 147 #[.val (.int xw1), .val (.int xw2), .val (.int xq), .val (.int xf), .val (.int w1), .val (.int w2), .val (.int mv), .val (.int ap), .val (.int de), .val (.int v41), .val (.ref b9), .unset, .unset] [(.long (w2.toInt64)), (.long ((ap.toInt64) + (w1.toInt64)))])) _
            refine XS.ladd X28.here hx rfl (hb hby at_147) rfl ?_
            show Steps p.tables e below (T28.setTop (mkF m 148 #[.val (.int xw1), .val (.int xw2), .val (.int xq), .val (.int xf), .val (.int w1), .val (.int w2), .val (.int mv), .val (.int ap), .val (.int de), .val (.int v41), .val (.ref b9), .unset, .unset] [(.long (((ap.toInt64) + (w1.toInt64)) + (w2.toInt64)))])) _
            refine XS.iload X28.here hx rfl (hb hby at_148) rfl ?_
            show Steps p.tables e below (T28.setTop (mkF m 150 #[.val (.int xw1), .val (.int xw2), .val (.int xq), .val (.int xf), .val (.int w1), .val (.int w2), .val (.int mv), .val (.int ap), .val (.int de), .val (.int v41), .val (.ref b9), .unset, .unset] [(.int de), (.long (((ap.toInt64) + (w1.toInt64)) + (w2.toInt64)))])) _
            refine XS.i2l X28.here hx rfl (hb hby at_150) rfl ?_
            show Steps p.tables e below (T28.setTop (mkF m 151 #[.val (.int xw1), .val (.int xw2), .val (.int xq), .val (.int xf), .val (.int w1), .val (.int w2), .val (.int mv), .val (.int ap), .val (.int de), .val (.int v41), .val (.ref b9), .unset, .unset] [(.long (de.toInt64)), (.long (((ap.toInt64) + (w1.toInt64)) + (w2.toInt64)))])) _
            refine XS.ladd X28.here hx rfl (hb hby at_151) rfl ?_
            show Steps p.tables e below (T28.setTop (mkF m 152 #[.val (.int xw1), .val (.int xw2), .val (.int xq), .val (.int xf), .val (.int w1), .val (.int w2), .val (.int mv), .val (.int ap), .val (.int de), .val (.int v41), .val (.ref b9), .unset, .unset] [(.long ((((ap.toInt64) + (w1.toInt64)) + (w2.toInt64)) + (de.toInt64)))])) _
            refine XS.iload X28.here hx rfl (hb hby at_152) rfl ?_
            show Steps p.tables e below (T28.setTop (mkF m 154 #[.val (.int xw1), .val (.int xw2), .val (.int xq), .val (.int xf), .val (.int w1), .val (.int w2), .val (.int mv), .val (.int ap), .val (.int de), .val (.int v41), .val (.ref b9), .unset, .unset] [(.int mv), (.long ((((ap.toInt64) + (w1.toInt64)) + (w2.toInt64)) + (de.toInt64)))])) _
            refine XS.i2l X28.here hx rfl (hb hby at_154) rfl ?_
            show Steps p.tables e below (T28.setTop (mkF m 155 #[.val (.int xw1), .val (.int xw2), .val (.int xq), .val (.int xf), .val (.int w1), .val (.int w2), .val (.int mv), .val (.int ap), .val (.int de), .val (.int v41), .val (.ref b9), .unset, .unset] [(.long (mv.toInt64)), (.long ((((ap.toInt64) + (w1.toInt64)) + (w2.toInt64)) + (de.toInt64)))])) _
            refine XS.ladd X28.here hx rfl (hb hby at_155) rfl ?_
            show Steps p.tables e below (T28.setTop (mkF m 156 #[.val (.int xw1), .val (.int xw2), .val (.int xq), .val (.int xf), .val (.int w1), .val (.int w2), .val (.int mv), .val (.int ap), .val (.int de), .val (.int v41), .val (.ref b9), .unset, .unset] [(.long (((((ap.toInt64) + (w1.toInt64)) + (w2.toInt64)) + (de.toInt64)) + (mv.toInt64)))])) _
            refine XS.lstore X28.here hx rfl (hb hby at_156) rfl (l' := #[.val (.int xw1), .val (.int xw2), .val (.int xq), .val (.int xf), .val (.int w1), .val (.int w2), .val (.int mv), .val (.int ap), .val (.int de), .val (.int v41), .val (.ref b9), .val (.long (((((ap.toInt64) + (w1.toInt64)) + (w2.toInt64)) + (de.toInt64)) + (mv.toInt64))), .second]) rfl ?_
            show Steps p.tables e below (T28.setTop (mkF m 158 #[.val (.int xw1), .val (.int xw2), .val (.int xq), .val (.int xf), .val (.int w1), .val (.int w2), .val (.int mv), .val (.int ap), .val (.int de), .val (.int v41), .val (.ref b9), .val (.long (((((ap.toInt64) + (w1.toInt64)) + (w2.toInt64)) + (de.toInt64)) + (mv.toInt64))), .second] [])) _
            exact k
          obtain ⟨ex, hex⟩ : ∃ z : Int64, z = (((((ap.toInt64) + (w1.toInt64)) + (w2.toInt64)) + (de.toInt64)) + (mv.toInt64)) := ⟨_, rfl⟩
          rw [← hex] at pre30
          have pre31 : ∀ t, Steps p.tables e below (T28.setTop (mkF m 160 #[.val (.int xw1), .val (.int xw2), .val (.int xq), .val (.int xf), .val (.int w1), .val (.int w2), .val (.int mv), .val (.int ap), .val (.int de), .val (.int v41), .val (.ref b9), .val (.long ex), .second] [(.ref b9)])) t → Steps p.tables e below (s₁.setTop (entryFrame m #[(.int xw1), (.int xw2), (.int xq), (.int xf)] maxLocals)) t := by
            intro t k
            refine pre30 t ?_
            refine XS.aload X28.here hx rfl (hb hby at_158) rfl rfl ?_
            show Steps p.tables e below (T28.setTop (mkF m 160 #[.val (.int xw1), .val (.int xw2), .val (.int xq), .val (.int xf), .val (.int w1), .val (.int w2), .val (.int mv), .val (.int ap), .val (.int de), .val (.int v41), .val (.ref b9), .val (.long ex), .second] [(.ref b9)])) _
            exact k
          obtain ⟨cq32, kq32, q32a, q32b, q32c⟩ := isOf hZ rfl f28_0
          obtain ⟨_, _, ⟨T32, L32, k32, n32⟩, -, X32, ⟨Lc32, hQ32, l32, y32, z32⟩, st32⟩ := X28.virtualBack hx (y := (⟨"com/example/suitor/suitor/SolverStatistics", "getSteps", "()J"⟩ : MethodName)) (z := (⟨"com/example/suitor/suitor/SolverStatistics", "getSteps", "()J"⟩ : MethodName)) hown (mvT hZ (hw _ (List.mem_of_getElem? (i := 10) rfl))) (mvT hZ (hw _ (List.mem_of_getElem? (i := 11) rfl))) (notFace_of_selects (args := #[]) (mvT hZ (hw _ (List.mem_of_getElem? (i := 13) rfl)))) (mvT hZ (hw _ (List.mem_of_getElem? (i := 13) rfl))) (mvT hZ (hw _ (List.mem_of_getElem? (i := 12) rfl))) (by decide) (backOf (W := 0) (rm_steps l Z a0 hw [] b9 (0 : Int64) (((0 : Int64) + (w1.toInt64)) + (w2.toInt64)) (0 : Int64) ((0 : Int64) + (mv.toInt64)) T28.heap n0 zz28 f28_1 f28_2 f28_3 f28_4) hZ (hw _ (List.mem_of_getElem? (i := 14) rfl)) (hw _ (List.mem_of_getElem? (i := 3) rfl)) (by decide) (by decide)) q32a q32c (g := (mkF m 160 #[.val (.int xw1), .val (.int xw2), .val (.int xq), .val (.int xf), .val (.int w1), .val (.int w2), .val (.int mv), .val (.int ap), .val (.int de), .val (.int v41), .val (.ref b9), .val (.long ex), .second] [(.ref b9)])) rfl (by rw [hml]; rfl) (Steps.refl _) (argsL := []) (rest := []) (lenOf pd1 rfl) rfl (by show 2 * 0 + _ ≤ _; exact Nat.le_of_eq rfl) (hb hby at_160) (fun _ _ => ⟨rfl, rfl, (by decide : 1 + 0 ≤ _), (by decide : 5 + 0 ≤ _)⟩)
          dsimp only [Pt.U, Pt.locs, Pt.cells, Pt.slots] at X32 l32 y32 z32 st32 hQ32
          subst l32 y32 z32
          obtain ⟨rfl, M32, e32⟩ := hQ32
          have N32 := Fr.app N28 M32
          have pre33 : ∀ t, Steps p.tables e below (T32.setTop (mkF m 163 #[.val (.int xw1), .val (.int xw2), .val (.int xq), .val (.int xf), .val (.int w1), .val (.int w2), .val (.int mv), .val (.int ap), .val (.int de), .val (.int v41), .val (.ref b9), .val (.long ex), .second] [(.long ((((0 : Int64) + (((0 : Int64) + (w1.toInt64)) + (w2.toInt64))) + (0 : Int64)) + ((0 : Int64) + (mv.toInt64))))])) t → Steps p.tables e below (s₁.setTop (entryFrame m #[(.int xw1), (.int xw2), (.int xq), (.int xf)] maxLocals)) t := fun t k => pre31 t (st32.trans k)
          have pre34 : ∀ t, Steps p.tables e below (T32.setTop (mkF m 174 #[.val (.int xw1), .val (.int xw2), .val (.int xq), .val (.int xf), .val (.int w1), .val (.int w2), .val (.int mv), .val (.int ap), .val (.int de), .val (.int v41), .val (.ref b9), .val (.long ex), .second] [(.int (1 : Int32))])) t → Steps p.tables e below (s₁.setTop (entryFrame m #[(.int xw1), (.int xw2), (.int xq), (.int xf)] maxLocals)) t := by
            intro t k
            refine pre33 t ?_
            refine XS.lload X32.here hx rfl (hb hby at_163) rfl ?_
            show Steps p.tables e below (T32.setTop (mkF m 165 #[.val (.int xw1), .val (.int xw2), .val (.int xq), .val (.int xf), .val (.int w1), .val (.int w2), .val (.int mv), .val (.int ap), .val (.int de), .val (.int v41), .val (.ref b9), .val (.long ex), .second] [(.long ex), (.long ((((0 : Int64) + (((0 : Int64) + (w1.toInt64)) + (w2.toInt64))) + (0 : Int64)) + ((0 : Int64) + (mv.toInt64))))])) _
            refine XS.lcmp X32.here hx rfl (hb hby at_165) rfl ?_
            show Steps p.tables e below (T32.setTop (mkF m 166 #[.val (.int xw1), .val (.int xw2), .val (.int xq), .val (.int xf), .val (.int w1), .val (.int w2), .val (.int mv), .val (.int ap), .val (.int de), .val (.int v41), .val (.ref b9), .val (.long ex), .second] [(.int (lcmpW ((((0 : Int64) + (((0 : Int64) + (w1.toInt64)) + (w2.toInt64))) + (0 : Int64)) + ((0 : Int64) + (mv.toInt64))) ex))])) _
            refine XS.ifNo X32.here hx rfl (hb hby at_166) rfl ((if0 _ _).trans (teq ((lw_eq _ _).mpr (show ((((0 : Int64) + (((0 : Int64) + (w1.toInt64)) + (w2.toInt64))) + (0 : Int64)) + ((0 : Int64) + (mv.toInt64))) = ex from by rw [hex]; exact own_0 w1 w2 mv xf ap de hap hde hc75 hc88 hc105))).2) ?_
            show Steps p.tables e below (T32.setTop (mkF m 169 #[.val (.int xw1), .val (.int xw2), .val (.int xq), .val (.int xf), .val (.int w1), .val (.int w2), .val (.int mv), .val (.int ap), .val (.int de), .val (.int v41), .val (.ref b9), .val (.long ex), .second] [])) _
            refine XS.iconst X32.here hx rfl (hb hby at_169) ?_
            show Steps p.tables e below (T32.setTop (mkF m 170 #[.val (.int xw1), .val (.int xw2), .val (.int xq), .val (.int xf), .val (.int w1), .val (.int w2), .val (.int mv), .val (.int ap), .val (.int de), .val (.int v41), .val (.ref b9), .val (.long ex), .second] [(.int (1 : Int32))])) _
            refine XS.goto X32.here hx rfl (pc0 := 170) (pc' := 174) rfl (hb hby at_170) (by decide) (by decide) ?_
            show Steps p.tables e below (T32.setTop (mkF m 174 #[.val (.int xw1), .val (.int xw2), .val (.int xq), .val (.int xf), .val (.int w1), .val (.int w2), .val (.int mv), .val (.int ap), .val (.int de), .val (.int v41), .val (.ref b9), .val (.long ex), .second] [(.int (1 : Int32))])) _
            exact k
          obtain ⟨fs, hr, hrun, hended, hW, hsame⟩ := X32.leave (v := some (.int (1 : Int32))) (fun h => by rw [Bd.returns] at h; cases h)
          refine ⟨_, _, pre34 _ ?_, hrun, hended, _, _, rfl, ?_, ⟨_, rfl⟩, hW, hsame.mono (by decide) (by decide)⟩
          · exact retN X32 hx (t := .boolean) Bd.returns (by simp) (hb hby at_174) hr
          · show Q_rm0 Z xw1 xw2 xq xf h0 n0 _ T32.heap _
            rw [e32]
            exact ⟨rfl, N32⟩
        · have pre35 : ∀ t, Steps p.tables e below (T20.setTop (mkF m 120 #[.val (.int xw1), .val (.int xw2), .val (.int xq), .val (.int xf), .val (.int w1), .val (.int w2), .val (.int mv), .val (.int ap), .val (.int de), .val (.int v41), .val (.ref b9), .unset, .unset] [(.ref b9)])) t → Steps p.tables e below (s₁.setTop (entryFrame m #[(.int xw1), (.int xw2), (.int xq), (.int xf)] maxLocals)) t := by
            intro t k
            refine pre23 t ?_
            refine XS.ifNo X20.here hx rfl (hb hby at_115) rfl ((if0 _ _).trans (feq hc115).1) ?_
            show Steps p.tables e below (T20.setTop (mkF m 118 #[.val (.int xw1), .val (.int xw2), .val (.int xq), .val (.int xf), .val (.int w1), .val (.int w2), .val (.int mv), .val (.int ap), .val (.int de), .val (.int v41), .val (.ref b9), .unset, .unset] [])) _
            refine XS.aload X20.here hx rfl (hb hby at_118) rfl rfl ?_
            show Steps p.tables e below (T20.setTop (mkF m 120 #[.val (.int xw1), .val (.int xw2), .val (.int xq), .val (.int xf), .val (.int w1), .val (.int w2), .val (.int mv), .val (.int ap), .val (.int de), .val (.int v41), .val (.ref b9), .unset, .unset] [(.ref b9)])) _
            exact k
          obtain ⟨cq36, kq36, q36a, q36b, q36c⟩ := isOf hZ rfl f20_0
          obtain ⟨_, _, ⟨T36, L36, k36, n36⟩, -, X36, ⟨Lc36, hQ36, l36, y36, z36⟩, st36⟩ := X20.virtualBack hx (y := (⟨"com/example/suitor/suitor/SolverStatistics", "countPass", "()V"⟩ : MethodName)) (z := (⟨"com/example/suitor/suitor/SolverStatistics", "countPass", "()V"⟩ : MethodName)) hown (mvT hZ (hw _ (List.mem_of_getElem? (i := 38) rfl))) (mvT hZ (hw _ (List.mem_of_getElem? (i := 39) rfl))) (notFace_of_selects (args := #[]) (mvT hZ (hw _ (List.mem_of_getElem? (i := 41) rfl)))) (mvT hZ (hw _ (List.mem_of_getElem? (i := 41) rfl))) (mvT hZ (hw _ (List.mem_of_getElem? (i := 40) rfl))) (by decide) (backOf (W := 0) (rm_countPass l Z a0 hw [] b9 (0 : Int64) ((0 : Int64) + (w1.toInt64)) (0 : Int64) (0 : Int64) (0 : Int64) T20.heap n0 zz20 f20_0 (g_b9) f20_1 f20_2 f20_3 f20_4 f20_5) hZ (hw _ (List.mem_of_getElem? (i := 42) rfl)) (hw _ (List.mem_of_getElem? (i := 3) rfl)) (by decide) (by decide)) q36a q36c (g := (mkF m 120 #[.val (.int xw1), .val (.int xw2), .val (.int xq), .val (.int xf), .val (.int w1), .val (.int w2), .val (.int mv), .val (.int ap), .val (.int de), .val (.int v41), .val (.ref b9), .unset, .unset] [(.ref b9)])) rfl (by rw [hml]; rfl) (Steps.refl _) (argsL := []) (rest := []) (lenOf pd0 rfl) rfl (by show 2 * 0 + _ ≤ _; exact Nat.le_of_eq rfl) (hb hby at_120) (fun _ _ => ⟨rfl, rfl, (by decide : 1 + 0 ≤ _), (by decide : 5 + 0 ≤ _)⟩)
          dsimp only [Pt.U, Pt.locs, Pt.cells, Pt.slots] at X36 l36 y36 z36 st36 hQ36
          subst l36 y36 z36
          obtain ⟨rfl, M36, kp36, f36_0, f36_1, f36_2, f36_3, f36_4, f36_5⟩ := hQ36
          have K36 : Keep h0 T36.heap ([] : List Addr) := K20.trans kp36 (allS (P := fun x => x ∈ ([] : List Addr) ∨ h0.size ≤ x) (Or.inr sz_b9) all0)
          have zz36 : n0 ≤ T36.heap.size := Nat.le_trans Z0 K36.1
          have N36 := Fr.app N20 M36
          have pre37 : ∀ t, Steps p.tables e below (T36.setTop (mkF m 123 #[.val (.int xw1), .val (.int xw2), .val (.int xq), .val (.int xf), .val (.int w1), .val (.int w2), .val (.int mv), .val (.int ap), .val (.int de), .val (.int v41), .val (.ref b9), .unset, .unset] [])) t → Steps p.tables e below (s₁.setTop (entryFrame m #[(.int xw1), (.int xw2), (.int xq), (.int xf)] maxLocals)) t := fun t k => pre35 t (st36.trans k)
          have pre38 : ∀ t, Steps p.tables e below (T36.setTop (mkF m 127 #[.val (.int xw1), .val (.int xw2), .val (.int xq), .val (.int xf), .val (.int w1), .val (.int w2), .val (.int mv), .val (.int ap), .val (.int de), .val (.int v41), .val (.ref b9), .unset, .unset] [(.int mv), (.ref b9)])) t → Steps p.tables e below (s₁.setTop (entryFrame m #[(.int xw1), (.int xw2), (.int xq), (.int xf)] maxLocals)) t := by
            intro t k
            refine pre37 t ?_
            refine XS.aload X36.here hx rfl (hb hby at_123) rfl rfl ?_
            show Steps p.tables e below (T36.setTop (mkF m 125 #[.val (.int xw1), .val (.int xw2), .val (.int xq), .val (.int xf), .val (.int w1), .val (.int w2), .val (.int mv), .val (.int ap), .val (.int de), .val (.int v41), .val (.ref b9), .unset, .unset] [(.ref b9)])) _
            refine XS.iload X36.here hx rfl (hb hby at_125) rfl ?_
            show Steps p.tables e below (T36.setTop (mkF m 127 #[.val (.int xw1), .val (.int xw2), .val (.int xq), .val (.int xf), .val (.int w1), .val (.int w2), .val (.int mv), .val (.int ap), .val (.int de), .val (.int v41), .val (.ref b9), .unset, .unset] [(.int mv), (.ref b9)])) _
            exact k
          obtain ⟨cq39, kq39, q39a, q39b, q39c⟩ := isOf hZ rfl f36_0
          obtain ⟨_, _, ⟨T39, L39, k39, n39⟩, -, X39, ⟨Lc39, hQ39, l39, y39, z39⟩, st39⟩ := X36.virtualBack hx (y := (⟨"com/example/suitor/suitor/SolverStatistics", "countQueueMoves", "(I)V"⟩ : MethodName)) (z := (⟨"com/example/suitor/suitor/SolverStatistics", "countQueueMoves", "(I)V"⟩ : MethodName)) hown (mvT hZ (hw _ (List.mem_of_getElem? (i := 33) rfl))) (mvT hZ (hw _ (List.mem_of_getElem? (i := 34) rfl))) (notFace_of_selects (args := #[]) (mvT hZ (hw _ (List.mem_of_getElem? (i := 36) rfl)))) (mvT hZ (hw _ (List.mem_of_getElem? (i := 36) rfl))) (mvT hZ (hw _ (List.mem_of_getElem? (i := 35) rfl))) (by decide) (backOf (W := 0) (rm_countQueueMoves l Z a0 hw [] b9 mv (0 : Int64) ((0 : Int64) + (w1.toInt64)) (0 : Int64) (0 : Int64) ((0 : Int64) + (1 : Int64)) T36.heap n0 zz36 f36_0 (g_b9) f36_1 f36_2 f36_3 f36_4 f36_5) hZ (hw _ (List.mem_of_getElem? (i := 37) rfl)) (hw _ (List.mem_of_getElem? (i := 3) rfl)) (by decide) (by decide)) q39a q39c (g := (mkF m 127 #[.val (.int xw1), .val (.int xw2), .val (.int xq), .val (.int xf), .val (.int w1), .val (.int w2), .val (.int mv), .val (.int ap), .val (.int de), .val (.int v41), .val (.ref b9), .unset, .unset] [(.int mv), (.ref b9)])) rfl (by rw [hml]; rfl) (Steps.refl _) (argsL := [(.int mv)]) (rest := []) (lenOf pd2 rfl) rfl (by show 2 * 0 + _ ≤ _; exact Nat.le_of_eq rfl) (hb hby at_127) (fun _ _ => ⟨rfl, rfl, (by decide : 1 + 0 ≤ _), (by decide : 5 + 0 ≤ _)⟩)
          dsimp only [Pt.U, Pt.locs, Pt.cells, Pt.slots] at X39 l39 y39 z39 st39 hQ39
          subst l39 y39 z39
          obtain ⟨rfl, M39, kp39, f39_0, f39_1, f39_2, f39_3, f39_4, f39_5⟩ := hQ39
          have K39 : Keep h0 T39.heap ([] : List Addr) := K36.trans kp39 (allS (P := fun x => x ∈ ([] : List Addr) ∨ h0.size ≤ x) (Or.inr sz_b9) all0)
          have zz39 : n0 ≤ T39.heap.size := Nat.le_trans Z0 K39.1
          have N39 := Fr.app N36 M39
          have pre40 : ∀ t, Steps p.tables e below (T39.setTop (mkF m 130 #[.val (.int xw1), .val (.int xw2), .val (.int xq), .val (.int xf), .val (.int w1), .val (.int w2), .val (.int mv), .val (.int ap), .val (.int de), .val (.int v41), .val (.ref b9), .unset, .unset] [])) t → Steps p.tables e below (s₁.setTop (entryFrame m #[(.int xw1), (.int xw2), (.int xq), (.int xf)] maxLocals)) t := fun t k => pre38 t (st39.trans k)
          have pre41 : ∀ t, Steps p.tables e below (T39.setTop (mkF m 134 #[.val (.int xw1), .val (.int xw2), .val (.int xq), .val (.int xf), .val (.int w1), .val (.int w2), .val (.int mv), .val (.int ap), .val (.int de), .val (.int v41), .val (.ref b9), .unset, .unset] [(.int w2), (.ref b9)])) t → Steps p.tables e below (s₁.setTop (entryFrame m #[(.int xw1), (.int xw2), (.int xq), (.int xf)] maxLocals)) t := by
            intro t k
            refine pre40 t ?_
            refine XS.aload X39.here hx rfl (hb hby at_130) rfl rfl ?_
            show Steps p.tables e below (T39.setTop (mkF m 132 #[.val (.int xw1), .val (.int xw2), .val (.int xq), .val (.int xf), .val (.int w1), .val (.int w2), .val (.int mv), .val (.int ap), .val (.int de), .val (.int v41), .val (.ref b9), .unset, .unset] [(.ref b9)])) _
            refine XS.iload X39.here hx rfl (hb hby at_132) rfl ?_
            show Steps p.tables e below (T39.setTop (mkF m 134 #[.val (.int xw1), .val (.int xw2), .val (.int xq), .val (.int xf), .val (.int w1), .val (.int w2), .val (.int mv), .val (.int ap), .val (.int de), .val (.int v41), .val (.ref b9), .unset, .unset] [(.int w2), (.ref b9)])) _
            exact k
          obtain ⟨cq42, kq42, q42a, q42b, q42c⟩ := isOf hZ rfl f39_0
          obtain ⟨_, _, ⟨T42, L42, k42, n42⟩, -, X42, ⟨Lc42, hQ42, l42, y42, z42⟩, st42⟩ := X39.virtualBack hx (y := (⟨"com/example/suitor/suitor/SolverStatistics", "countWalkSteps", "(I)V"⟩ : MethodName)) (z := (⟨"com/example/suitor/suitor/SolverStatistics", "countWalkSteps", "(I)V"⟩ : MethodName)) hown (mvT hZ (hw _ (List.mem_of_getElem? (i := 28) rfl))) (mvT hZ (hw _ (List.mem_of_getElem? (i := 29) rfl))) (notFace_of_selects (args := #[]) (mvT hZ (hw _ (List.mem_of_getElem? (i := 31) rfl)))) (mvT hZ (hw _ (List.mem_of_getElem? (i := 31) rfl))) (mvT hZ (hw _ (List.mem_of_getElem? (i := 30) rfl))) (by decide) (backOf (W := 0) (rm_countWalkSteps l Z a0 hw [] b9 w2 (0 : Int64) ((0 : Int64) + (w1.toInt64)) (0 : Int64) ((0 : Int64) + (mv.toInt64)) ((0 : Int64) + (1 : Int64)) T39.heap n0 zz39 f39_0 (g_b9) f39_1 f39_2 f39_3 f39_4 f39_5) hZ (hw _ (List.mem_of_getElem? (i := 32) rfl)) (hw _ (List.mem_of_getElem? (i := 3) rfl)) (by decide) (by decide)) q42a q42c (g := (mkF m 134 #[.val (.int xw1), .val (.int xw2), .val (.int xq), .val (.int xf), .val (.int w1), .val (.int w2), .val (.int mv), .val (.int ap), .val (.int de), .val (.int v41), .val (.ref b9), .unset, .unset] [(.int w2), (.ref b9)])) rfl (by rw [hml]; rfl) (Steps.refl _) (argsL := [(.int w2)]) (rest := []) (lenOf pd2 rfl) rfl (by show 2 * 0 + _ ≤ _; exact Nat.le_of_eq rfl) (hb hby at_134) (fun _ _ => ⟨rfl, rfl, (by decide : 1 + 0 ≤ _), (by decide : 5 + 0 ≤ _)⟩)
          dsimp only [Pt.U, Pt.locs, Pt.cells, Pt.slots] at X42 l42 y42 z42 st42 hQ42
          subst l42 y42 z42
          obtain ⟨rfl, M42, kp42, f42_0, f42_1, f42_2, f42_3, f42_4, f42_5⟩ := hQ42
          have K42 : Keep h0 T42.heap ([] : List Addr) := K39.trans kp42 (allS (P := fun x => x ∈ ([] : List Addr) ∨ h0.size ≤ x) (Or.inr sz_b9) all0)
          have zz42 : n0 ≤ T42.heap.size := Nat.le_trans Z0 K42.1
          have N42 := Fr.app N39 M42
          have pre43 : ∀ t, Steps p.tables e below (T42.setTop (mkF m 137 #[.val (.int xw1), .val (.int xw2), .val (.int xq), .val (.int xf), .val (.int w1), .val (.int w2), .val (.int mv), .val (.int ap), .val (.int de), .val (.int v41), .val (.ref b9), .unset, .unset] [])) t → Steps p.tables e below (s₁.setTop (entryFrame m #[(.int xw1), (.int xw2), (.int xq), (.int xf)] maxLocals)) t := fun t k => pre41 t (st42.trans k)
          have pre44 : ∀ t, Steps p.tables e below (T42.setTop (mkF m 158 #[.val (.int xw1), .val (.int xw2), .val (.int xq), .val (.int xf), .val (.int w1), .val (.int w2), .val (.int mv), .val (.int ap), .val (.int de), .val (.int v41), .val (.ref b9), .val (.long (((((ap.toInt64) + (w1.toInt64)) + (w2.toInt64)) + (de.toInt64)) + (mv.toInt64))), .second] [])) t → Steps p.tables e below (s₁.setTop (entryFrame m #[(.int xw1), (.int xw2), (.int xq), (.int xf)] maxLocals)) t := by
            intro t k
            refine pre43 t ?_
            refine XS.iload X42.here hx rfl (hb hby at_137) rfl ?_
            show Steps p.tables e below (T42.setTop (mkF m 139 #[.val (.int xw1), .val (.int xw2), .val (.int xq), .val (.int xf), .val (.int w1), .val (.int w2), .val (.int mv), .val (.int ap), .val (.int de), .val (.int v41), .val (.ref b9), .unset, .unset] [(.int ap)])) _
            refine XS.i2l X42.here hx rfl (hb hby at_139) rfl ?_
            show Steps p.tables e below (T42.setTop (mkF m 140 #[.val (.int xw1), .val (.int xw2), .val (.int xq), .val (.int xf), .val (.int w1), .val (.int w2), .val (.int mv), .val (.int ap), .val (.int de), .val (.int v41), .val (.ref b9), .unset, .unset] [(.long (ap.toInt64))])) _
            refine XS.iload X42.here hx rfl (hb hby at_140) rfl ?_
            show Steps p.tables e below (T42.setTop (mkF m 142 #[.val (.int xw1), .val (.int xw2), .val (.int xq), .val (.int xf), .val (.int w1), .val (.int w2), .val (.int mv), .val (.int ap), .val (.int de), .val (.int v41), .val (.ref b9), .unset, .unset] [(.int w1), (.long (ap.toInt64))])) _
            refine XS.i2l X42.here hx rfl (hb hby at_142) rfl ?_
            show Steps p.tables e below (T42.setTop (mkF m 143 #[.val (.int xw1), .val (.int xw2), .val (.int xq), .val (.int xf), .val (.int w1), .val (.int w2), .val (.int mv), .val (.int ap), .val (.int de), .val (.int v41), .val (.ref b9), .unset, .unset] [(.long (w1.toInt64)), (.long (ap.toInt64))])) _
            refine XS.ladd X42.here hx rfl (hb hby at_143) rfl ?_
            show Steps p.tables e below (T42.setTop (mkF m 144 #[.val (.int xw1), .val (.int xw2), .val (.int xq), .val (.int xf), .val (.int w1), .val (.int w2), .val (.int mv), .val (.int ap), .val (.int de), .val (.int v41), .val (.ref b9), .unset, .unset] [(.long ((ap.toInt64) + (w1.toInt64)))])) _
            refine XS.iload X42.here hx rfl (hb hby at_144) rfl ?_
            show Steps p.tables e below (T42.setTop (mkF m 146 #[.val (.int xw1), .val (.int xw2), .val (.int xq), .val (.int xf), .val (.int w1), .val (.int w2), .val (.int mv), .val (.int ap), .val (.int de), .val (.int v41), .val (.ref b9), .unset, .unset] [(.int w2), (.long ((ap.toInt64) + (w1.toInt64)))])) _
            refine XS.i2l X42.here hx rfl (hb hby at_146) rfl ?_
            show Steps p.tables e below (T42.setTop (mkF m 147 #[.val (.int xw1), .val (.int xw2), .val (.int xq), .val (.int xf), .val (.int w1), .val (.int w2), .val (.int mv), .val (.int ap), .val (.int de), .val (.int v41), .val (.ref b9), .unset, .unset] [(.long (w2.toInt64)), (.long ((ap.toInt64) + (w1.toInt64)))])) _
            refine XS.ladd X42.here hx rfl (hb hby at_147) rfl ?_
            show Steps p.tables e below (T42.setTop (mkF m 148 #[.val (.int xw1), .val (.int xw2), .val (.int xq), .val (.int xf), .val (.int w1), .val (.int w2), .val (.int mv), .val (.int ap), .val (.int de), .val (.int v41), .val (.ref b9), .unset, .unset] [(.long (((ap.toInt64) + (w1.toInt64)) + (w2.toInt64)))])) _
            refine XS.iload X42.here hx rfl (hb hby at_148) rfl ?_
            show Steps p.tables e below (T42.setTop (mkF m 150 #[.val (.int xw1), .val (.int xw2), .val (.int xq), .val (.int xf), .val (.int w1), .val (.int w2), .val (.int mv), .val (.int ap), .val (.int de), .val (.int v41), .val (.ref b9), .unset, .unset] [(.int de), (.long (((ap.toInt64) + (w1.toInt64)) + (w2.toInt64)))])) _
            refine XS.i2l X42.here hx rfl (hb hby at_150) rfl ?_
            show Steps p.tables e below (T42.setTop (mkF m 151 #[.val (.int xw1), .val (.int xw2), .val (.int xq), .val (.int xf), .val (.int w1), .val (.int w2), .val (.int mv), .val (.int ap), .val (.int de), .val (.int v41), .val (.ref b9), .unset, .unset] [(.long (de.toInt64)), (.long (((ap.toInt64) + (w1.toInt64)) + (w2.toInt64)))])) _
            refine XS.ladd X42.here hx rfl (hb hby at_151) rfl ?_
            show Steps p.tables e below (T42.setTop (mkF m 152 #[.val (.int xw1), .val (.int xw2), .val (.int xq), .val (.int xf), .val (.int w1), .val (.int w2), .val (.int mv), .val (.int ap), .val (.int de), .val (.int v41), .val (.ref b9), .unset, .unset] [(.long ((((ap.toInt64) + (w1.toInt64)) + (w2.toInt64)) + (de.toInt64)))])) _
            refine XS.iload X42.here hx rfl (hb hby at_152) rfl ?_
            show Steps p.tables e below (T42.setTop (mkF m 154 #[.val (.int xw1), .val (.int xw2), .val (.int xq), .val (.int xf), .val (.int w1), .val (.int w2), .val (.int mv), .val (.int ap), .val (.int de), .val (.int v41), .val (.ref b9), .unset, .unset] [(.int mv), (.long ((((ap.toInt64) + (w1.toInt64)) + (w2.toInt64)) + (de.toInt64)))])) _
            refine XS.i2l X42.here hx rfl (hb hby at_154) rfl ?_
            show Steps p.tables e below (T42.setTop (mkF m 155 #[.val (.int xw1), .val (.int xw2), .val (.int xq), .val (.int xf), .val (.int w1), .val (.int w2), .val (.int mv), .val (.int ap), .val (.int de), .val (.int v41), .val (.ref b9), .unset, .unset] [(.long (mv.toInt64)), (.long ((((ap.toInt64) + (w1.toInt64)) + (w2.toInt64)) + (de.toInt64)))])) _
            refine XS.ladd X42.here hx rfl (hb hby at_155) rfl ?_
            show Steps p.tables e below (T42.setTop (mkF m 156 #[.val (.int xw1), .val (.int xw2), .val (.int xq), .val (.int xf), .val (.int w1), .val (.int w2), .val (.int mv), .val (.int ap), .val (.int de), .val (.int v41), .val (.ref b9), .unset, .unset] [(.long (((((ap.toInt64) + (w1.toInt64)) + (w2.toInt64)) + (de.toInt64)) + (mv.toInt64)))])) _
            refine XS.lstore X42.here hx rfl (hb hby at_156) rfl (l' := #[.val (.int xw1), .val (.int xw2), .val (.int xq), .val (.int xf), .val (.int w1), .val (.int w2), .val (.int mv), .val (.int ap), .val (.int de), .val (.int v41), .val (.ref b9), .val (.long (((((ap.toInt64) + (w1.toInt64)) + (w2.toInt64)) + (de.toInt64)) + (mv.toInt64))), .second]) rfl ?_
            show Steps p.tables e below (T42.setTop (mkF m 158 #[.val (.int xw1), .val (.int xw2), .val (.int xq), .val (.int xf), .val (.int w1), .val (.int w2), .val (.int mv), .val (.int ap), .val (.int de), .val (.int v41), .val (.ref b9), .val (.long (((((ap.toInt64) + (w1.toInt64)) + (w2.toInt64)) + (de.toInt64)) + (mv.toInt64))), .second] [])) _
            exact k
          obtain ⟨ex, hex⟩ : ∃ z : Int64, z = (((((ap.toInt64) + (w1.toInt64)) + (w2.toInt64)) + (de.toInt64)) + (mv.toInt64)) := ⟨_, rfl⟩
          rw [← hex] at pre44
          have pre45 : ∀ t, Steps p.tables e below (T42.setTop (mkF m 160 #[.val (.int xw1), .val (.int xw2), .val (.int xq), .val (.int xf), .val (.int w1), .val (.int w2), .val (.int mv), .val (.int ap), .val (.int de), .val (.int v41), .val (.ref b9), .val (.long ex), .second] [(.ref b9)])) t → Steps p.tables e below (s₁.setTop (entryFrame m #[(.int xw1), (.int xw2), (.int xq), (.int xf)] maxLocals)) t := by
            intro t k
            refine pre44 t ?_
            refine XS.aload X42.here hx rfl (hb hby at_158) rfl rfl ?_
            show Steps p.tables e below (T42.setTop (mkF m 160 #[.val (.int xw1), .val (.int xw2), .val (.int xq), .val (.int xf), .val (.int w1), .val (.int w2), .val (.int mv), .val (.int ap), .val (.int de), .val (.int v41), .val (.ref b9), .val (.long ex), .second] [(.ref b9)])) _
            exact k
          obtain ⟨cq46, kq46, q46a, q46b, q46c⟩ := isOf hZ rfl f42_0
          obtain ⟨_, _, ⟨T46, L46, k46, n46⟩, -, X46, ⟨Lc46, hQ46, l46, y46, z46⟩, st46⟩ := X42.virtualBack hx (y := (⟨"com/example/suitor/suitor/SolverStatistics", "getSteps", "()J"⟩ : MethodName)) (z := (⟨"com/example/suitor/suitor/SolverStatistics", "getSteps", "()J"⟩ : MethodName)) hown (mvT hZ (hw _ (List.mem_of_getElem? (i := 10) rfl))) (mvT hZ (hw _ (List.mem_of_getElem? (i := 11) rfl))) (notFace_of_selects (args := #[]) (mvT hZ (hw _ (List.mem_of_getElem? (i := 13) rfl)))) (mvT hZ (hw _ (List.mem_of_getElem? (i := 13) rfl))) (mvT hZ (hw _ (List.mem_of_getElem? (i := 12) rfl))) (by decide) (backOf (W := 0) (rm_steps l Z a0 hw [] b9 (0 : Int64) (((0 : Int64) + (w1.toInt64)) + (w2.toInt64)) (0 : Int64) ((0 : Int64) + (mv.toInt64)) T42.heap n0 zz42 f42_1 f42_2 f42_3 f42_4) hZ (hw _ (List.mem_of_getElem? (i := 14) rfl)) (hw _ (List.mem_of_getElem? (i := 3) rfl)) (by decide) (by decide)) q46a q46c (g := (mkF m 160 #[.val (.int xw1), .val (.int xw2), .val (.int xq), .val (.int xf), .val (.int w1), .val (.int w2), .val (.int mv), .val (.int ap), .val (.int de), .val (.int v41), .val (.ref b9), .val (.long ex), .second] [(.ref b9)])) rfl (by rw [hml]; rfl) (Steps.refl _) (argsL := []) (rest := []) (lenOf pd1 rfl) rfl (by show 2 * 0 + _ ≤ _; exact Nat.le_of_eq rfl) (hb hby at_160) (fun _ _ => ⟨rfl, rfl, (by decide : 1 + 0 ≤ _), (by decide : 5 + 0 ≤ _)⟩)
          dsimp only [Pt.U, Pt.locs, Pt.cells, Pt.slots] at X46 l46 y46 z46 st46 hQ46
          subst l46 y46 z46
          obtain ⟨rfl, M46, e46⟩ := hQ46
          have N46 := Fr.app N42 M46
          have pre47 : ∀ t, Steps p.tables e below (T46.setTop (mkF m 163 #[.val (.int xw1), .val (.int xw2), .val (.int xq), .val (.int xf), .val (.int w1), .val (.int w2), .val (.int mv), .val (.int ap), .val (.int de), .val (.int v41), .val (.ref b9), .val (.long ex), .second] [(.long ((((0 : Int64) + (((0 : Int64) + (w1.toInt64)) + (w2.toInt64))) + (0 : Int64)) + ((0 : Int64) + (mv.toInt64))))])) t → Steps p.tables e below (s₁.setTop (entryFrame m #[(.int xw1), (.int xw2), (.int xq), (.int xf)] maxLocals)) t := fun t k => pre45 t (st46.trans k)
          have pre48 : ∀ t, Steps p.tables e below (T46.setTop (mkF m 174 #[.val (.int xw1), .val (.int xw2), .val (.int xq), .val (.int xf), .val (.int w1), .val (.int w2), .val (.int mv), .val (.int ap), .val (.int de), .val (.int v41), .val (.ref b9), .val (.long ex), .second] [(.int (1 : Int32))])) t → Steps p.tables e below (s₁.setTop (entryFrame m #[(.int xw1), (.int xw2), (.int xq), (.int xf)] maxLocals)) t := by
            intro t k
            refine pre47 t ?_
            refine XS.lload X46.here hx rfl (hb hby at_163) rfl ?_
            show Steps p.tables e below (T46.setTop (mkF m 165 #[.val (.int xw1), .val (.int xw2), .val (.int xq), .val (.int xf), .val (.int w1), .val (.int w2), .val (.int mv), .val (.int ap), .val (.int de), .val (.int v41), .val (.ref b9), .val (.long ex), .second] [(.long ex), (.long ((((0 : Int64) + (((0 : Int64) + (w1.toInt64)) + (w2.toInt64))) + (0 : Int64)) + ((0 : Int64) + (mv.toInt64))))])) _
            refine XS.lcmp X46.here hx rfl (hb hby at_165) rfl ?_
            show Steps p.tables e below (T46.setTop (mkF m 166 #[.val (.int xw1), .val (.int xw2), .val (.int xq), .val (.int xf), .val (.int w1), .val (.int w2), .val (.int mv), .val (.int ap), .val (.int de), .val (.int v41), .val (.ref b9), .val (.long ex), .second] [(.int (lcmpW ((((0 : Int64) + (((0 : Int64) + (w1.toInt64)) + (w2.toInt64))) + (0 : Int64)) + ((0 : Int64) + (mv.toInt64))) ex))])) _
            refine XS.ifNo X46.here hx rfl (hb hby at_166) rfl ((if0 _ _).trans (teq ((lw_eq _ _).mpr (show ((((0 : Int64) + (((0 : Int64) + (w1.toInt64)) + (w2.toInt64))) + (0 : Int64)) + ((0 : Int64) + (mv.toInt64))) = ex from by rw [hex]; exact own_0 w1 w2 mv xf ap de hap hde hc75 hc88 hc105))).2) ?_
            show Steps p.tables e below (T46.setTop (mkF m 169 #[.val (.int xw1), .val (.int xw2), .val (.int xq), .val (.int xf), .val (.int w1), .val (.int w2), .val (.int mv), .val (.int ap), .val (.int de), .val (.int v41), .val (.ref b9), .val (.long ex), .second] [])) _
            refine XS.iconst X46.here hx rfl (hb hby at_169) ?_
            show Steps p.tables e below (T46.setTop (mkF m 170 #[.val (.int xw1), .val (.int xw2), .val (.int xq), .val (.int xf), .val (.int w1), .val (.int w2), .val (.int mv), .val (.int ap), .val (.int de), .val (.int v41), .val (.ref b9), .val (.long ex), .second] [(.int (1 : Int32))])) _
            refine XS.goto X46.here hx rfl (pc0 := 170) (pc' := 174) rfl (hb hby at_170) (by decide) (by decide) ?_
            show Steps p.tables e below (T46.setTop (mkF m 174 #[.val (.int xw1), .val (.int xw2), .val (.int xq), .val (.int xf), .val (.int w1), .val (.int w2), .val (.int mv), .val (.int ap), .val (.int de), .val (.int v41), .val (.ref b9), .val (.long ex), .second] [(.int (1 : Int32))])) _
            exact k
          obtain ⟨fs, hr, hrun, hended, hW, hsame⟩ := X46.leave (v := some (.int (1 : Int32))) (fun h => by rw [Bd.returns] at h; cases h)
          refine ⟨_, _, pre48 _ ?_, hrun, hended, _, _, rfl, ?_, ⟨_, rfl⟩, hW, hsame.mono (by decide) (by decide)⟩
          · exact retN X46 hx (t := .boolean) Bd.returns (by simp) (hb hby at_174) hr
          · show Q_rm0 Z xw1 xw2 xq xf h0 n0 _ T46.heap _
            rw [e46]
            exact ⟨rfl, N46⟩
      · have pre49 : ∀ t, Steps p.tables e below (T20.setTop (mkF m 110 #[.val (.int xw1), .val (.int xw2), .val (.int xq), .val (.int xf), .val (.int w1), .val (.int w2), .val (.int mv), .val (.int ap), .val (.int de), .val (.int v41), .val (.ref b9), .unset, .unset] [(.ref b9)])) t → Steps p.tables e below (s₁.setTop (entryFrame m #[(.int xw1), (.int xw2), (.int xq), (.int xf)] maxLocals)) t := by
          intro t k
          refine pre22 t ?_
          refine XS.ifNo X20.here hx rfl (hb hby at_105) rfl ((if0 _ _).trans (feq hc105).1) ?_
          show Steps p.tables e below (T20.setTop (mkF m 108 #[.val (.int xw1), .val (.int xw2), .val (.int xq), .val (.int xf), .val (.int w1), .val (.int w2), .val (.int mv), .val (.int ap), .val (.int de), .val (.int v41), .val (.ref b9), .unset, .unset] [])) _
          refine XS.aload X20.here hx rfl (hb hby at_108) rfl rfl ?_
          show Steps p.tables e below (T20.setTop (mkF m 110 #[.val (.int xw1), .val (.int xw2), .val (.int xq), .val (.int xf), .val (.int w1), .val (.int w2), .val (.int mv), .val (.int ap), .val (.int de), .val (.int v41), .val (.ref b9), .unset, .unset] [(.ref b9)])) _
          exact k
        obtain ⟨cq50, kq50, q50a, q50b, q50c⟩ := isOf hZ rfl f20_0
        obtain ⟨_, _, ⟨T50, L50, k50, n50⟩, -, X50, ⟨Lc50, hQ50, l50, y50, z50⟩, st50⟩ := X20.virtualBack hx (y := (⟨"com/example/suitor/suitor/SolverStatistics", "countDeletion", "()V"⟩ : MethodName)) (z := (⟨"com/example/suitor/suitor/SolverStatistics", "countDeletion", "()V"⟩ : MethodName)) hown (mvT hZ (hw _ (List.mem_of_getElem? (i := 45) rfl))) (mvT hZ (hw _ (List.mem_of_getElem? (i := 46) rfl))) (notFace_of_selects (args := #[]) (mvT hZ (hw _ (List.mem_of_getElem? (i := 48) rfl)))) (mvT hZ (hw _ (List.mem_of_getElem? (i := 48) rfl))) (mvT hZ (hw _ (List.mem_of_getElem? (i := 47) rfl))) (by decide) (backOf (W := 0) (rm_countDeletion l Z a0 hw [] b9 (0 : Int64) ((0 : Int64) + (w1.toInt64)) (0 : Int64) (0 : Int64) (0 : Int64) T20.heap n0 zz20 f20_0 (g_b9) f20_1 f20_2 f20_3 f20_4 f20_5) hZ (hw _ (List.mem_of_getElem? (i := 49) rfl)) (hw _ (List.mem_of_getElem? (i := 3) rfl)) (by decide) (by decide)) q50a q50c (g := (mkF m 110 #[.val (.int xw1), .val (.int xw2), .val (.int xq), .val (.int xf), .val (.int w1), .val (.int w2), .val (.int mv), .val (.int ap), .val (.int de), .val (.int v41), .val (.ref b9), .unset, .unset] [(.ref b9)])) rfl (by rw [hml]; rfl) (Steps.refl _) (argsL := []) (rest := []) (lenOf pd0 rfl) rfl (by show 2 * 0 + _ ≤ _; exact Nat.le_of_eq rfl) (hb hby at_110) (fun _ _ => ⟨rfl, rfl, (by decide : 1 + 0 ≤ _), (by decide : 5 + 0 ≤ _)⟩)
        dsimp only [Pt.U, Pt.locs, Pt.cells, Pt.slots] at X50 l50 y50 z50 st50 hQ50
        subst l50 y50 z50
        obtain ⟨rfl, M50, kp50, f50_0, f50_1, f50_2, f50_3, f50_4, f50_5⟩ := hQ50
        have K50 : Keep h0 T50.heap ([] : List Addr) := K20.trans kp50 (allS (P := fun x => x ∈ ([] : List Addr) ∨ h0.size ≤ x) (Or.inr sz_b9) all0)
        have zz50 : n0 ≤ T50.heap.size := Nat.le_trans Z0 K50.1
        have N50 := Fr.app N20 M50
        have pre51 : ∀ t, Steps p.tables e below (T50.setTop (mkF m 113 #[.val (.int xw1), .val (.int xw2), .val (.int xq), .val (.int xf), .val (.int w1), .val (.int w2), .val (.int mv), .val (.int ap), .val (.int de), .val (.int v41), .val (.ref b9), .unset, .unset] [])) t → Steps p.tables e below (s₁.setTop (entryFrame m #[(.int xw1), (.int xw2), (.int xq), (.int xf)] maxLocals)) t := fun t k => pre49 t (st50.trans k)
        have pre52 : ∀ t, Steps p.tables e below (T50.setTop (mkF m 115 #[.val (.int xw1), .val (.int xw2), .val (.int xq), .val (.int xf), .val (.int w1), .val (.int w2), .val (.int mv), .val (.int ap), .val (.int de), .val (.int v41), .val (.ref b9), .unset, .unset] [(.int v41)])) t → Steps p.tables e below (s₁.setTop (entryFrame m #[(.int xw1), (.int xw2), (.int xq), (.int xf)] maxLocals)) t := by
          intro t k
          refine pre51 t ?_
          refine XS.iload X50.here hx rfl (hb hby at_113) rfl ?_
          show Steps p.tables e below (T50.setTop (mkF m 115 #[.val (.int xw1), .val (.int xw2), .val (.int xq), .val (.int xf), .val (.int w1), .val (.int w2), .val (.int mv), .val (.int ap), .val (.int de), .val (.int v41), .val (.ref b9), .unset, .unset] [(.int v41)])) _
          exact k
        by_cases hc115 : v41 = (0 : Int32)
        · have pre53 : ∀ t, Steps p.tables e below (T50.setTop (mkF m 127 #[.val (.int xw1), .val (.int xw2), .val (.int xq), .val (.int xf), .val (.int w1), .val (.int w2), .val (.int mv), .val (.int ap), .val (.int de), .val (.int v41), .val (.ref b9), .unset, .unset] [(.int mv), (.ref b9)])) t → Steps p.tables e below (s₁.setTop (entryFrame m #[(.int xw1), (.int xw2), (.int xq), (.int xf)] maxLocals)) t := by
            intro t k
            refine pre52 t ?_
            refine XS.ifYes X50.here hx rfl (pc0 := 115) (pc' := 123) rfl (hb hby at_115) rfl ((if0 _ _).trans (teq hc115).1) (by decide) (by decide) ?_
            show Steps p.tables e below (T50.setTop (mkF m 123 #[.val (.int xw1), .val (.int xw2), .val (.int xq), .val (.int xf), .val (.int w1), .val (.int w2), .val (.int mv), .val (.int ap), .val (.int de), .val (.int v41), .val (.ref b9), .unset, .unset] [])) _
            refine XS.aload X50.here hx rfl (hb hby at_123) rfl rfl ?_
            show Steps p.tables e below (T50.setTop (mkF m 125 #[.val (.int xw1), .val (.int xw2), .val (.int xq), .val (.int xf), .val (.int w1), .val (.int w2), .val (.int mv), .val (.int ap), .val (.int de), .val (.int v41), .val (.ref b9), .unset, .unset] [(.ref b9)])) _
            refine XS.iload X50.here hx rfl (hb hby at_125) rfl ?_
            show Steps p.tables e below (T50.setTop (mkF m 127 #[.val (.int xw1), .val (.int xw2), .val (.int xq), .val (.int xf), .val (.int w1), .val (.int w2), .val (.int mv), .val (.int ap), .val (.int de), .val (.int v41), .val (.ref b9), .unset, .unset] [(.int mv), (.ref b9)])) _
            exact k
          obtain ⟨cq54, kq54, q54a, q54b, q54c⟩ := isOf hZ rfl f50_0
          obtain ⟨_, _, ⟨T54, L54, k54, n54⟩, -, X54, ⟨Lc54, hQ54, l54, y54, z54⟩, st54⟩ := X50.virtualBack hx (y := (⟨"com/example/suitor/suitor/SolverStatistics", "countQueueMoves", "(I)V"⟩ : MethodName)) (z := (⟨"com/example/suitor/suitor/SolverStatistics", "countQueueMoves", "(I)V"⟩ : MethodName)) hown (mvT hZ (hw _ (List.mem_of_getElem? (i := 33) rfl))) (mvT hZ (hw _ (List.mem_of_getElem? (i := 34) rfl))) (notFace_of_selects (args := #[]) (mvT hZ (hw _ (List.mem_of_getElem? (i := 36) rfl)))) (mvT hZ (hw _ (List.mem_of_getElem? (i := 36) rfl))) (mvT hZ (hw _ (List.mem_of_getElem? (i := 35) rfl))) (by decide) (backOf (W := 0) (rm_countQueueMoves l Z a0 hw [] b9 mv (0 : Int64) ((0 : Int64) + (w1.toInt64)) ((0 : Int64) + (1 : Int64)) (0 : Int64) (0 : Int64) T50.heap n0 zz50 f50_0 (g_b9) f50_1 f50_2 f50_3 f50_4 f50_5) hZ (hw _ (List.mem_of_getElem? (i := 37) rfl)) (hw _ (List.mem_of_getElem? (i := 3) rfl)) (by decide) (by decide)) q54a q54c (g := (mkF m 127 #[.val (.int xw1), .val (.int xw2), .val (.int xq), .val (.int xf), .val (.int w1), .val (.int w2), .val (.int mv), .val (.int ap), .val (.int de), .val (.int v41), .val (.ref b9), .unset, .unset] [(.int mv), (.ref b9)])) rfl (by rw [hml]; rfl) (Steps.refl _) (argsL := [(.int mv)]) (rest := []) (lenOf pd2 rfl) rfl (by show 2 * 0 + _ ≤ _; exact Nat.le_of_eq rfl) (hb hby at_127) (fun _ _ => ⟨rfl, rfl, (by decide : 1 + 0 ≤ _), (by decide : 5 + 0 ≤ _)⟩)
          dsimp only [Pt.U, Pt.locs, Pt.cells, Pt.slots] at X54 l54 y54 z54 st54 hQ54
          subst l54 y54 z54
          obtain ⟨rfl, M54, kp54, f54_0, f54_1, f54_2, f54_3, f54_4, f54_5⟩ := hQ54
          have K54 : Keep h0 T54.heap ([] : List Addr) := K50.trans kp54 (allS (P := fun x => x ∈ ([] : List Addr) ∨ h0.size ≤ x) (Or.inr sz_b9) all0)
          have zz54 : n0 ≤ T54.heap.size := Nat.le_trans Z0 K54.1
          have N54 := Fr.app N50 M54
          have pre55 : ∀ t, Steps p.tables e below (T54.setTop (mkF m 130 #[.val (.int xw1), .val (.int xw2), .val (.int xq), .val (.int xf), .val (.int w1), .val (.int w2), .val (.int mv), .val (.int ap), .val (.int de), .val (.int v41), .val (.ref b9), .unset, .unset] [])) t → Steps p.tables e below (s₁.setTop (entryFrame m #[(.int xw1), (.int xw2), (.int xq), (.int xf)] maxLocals)) t := fun t k => pre53 t (st54.trans k)
          have pre56 : ∀ t, Steps p.tables e below (T54.setTop (mkF m 134 #[.val (.int xw1), .val (.int xw2), .val (.int xq), .val (.int xf), .val (.int w1), .val (.int w2), .val (.int mv), .val (.int ap), .val (.int de), .val (.int v41), .val (.ref b9), .unset, .unset] [(.int w2), (.ref b9)])) t → Steps p.tables e below (s₁.setTop (entryFrame m #[(.int xw1), (.int xw2), (.int xq), (.int xf)] maxLocals)) t := by
            intro t k
            refine pre55 t ?_
            refine XS.aload X54.here hx rfl (hb hby at_130) rfl rfl ?_
            show Steps p.tables e below (T54.setTop (mkF m 132 #[.val (.int xw1), .val (.int xw2), .val (.int xq), .val (.int xf), .val (.int w1), .val (.int w2), .val (.int mv), .val (.int ap), .val (.int de), .val (.int v41), .val (.ref b9), .unset, .unset] [(.ref b9)])) _
            refine XS.iload X54.here hx rfl (hb hby at_132) rfl ?_
            show Steps p.tables e below (T54.setTop (mkF m 134 #[.val (.int xw1), .val (.int xw2), .val (.int xq), .val (.int xf), .val (.int w1), .val (.int w2), .val (.int mv), .val (.int ap), .val (.int de), .val (.int v41), .val (.ref b9), .unset, .unset] [(.int w2), (.ref b9)])) _
            exact k
          obtain ⟨cq57, kq57, q57a, q57b, q57c⟩ := isOf hZ rfl f54_0
          obtain ⟨_, _, ⟨T57, L57, k57, n57⟩, -, X57, ⟨Lc57, hQ57, l57, y57, z57⟩, st57⟩ := X54.virtualBack hx (y := (⟨"com/example/suitor/suitor/SolverStatistics", "countWalkSteps", "(I)V"⟩ : MethodName)) (z := (⟨"com/example/suitor/suitor/SolverStatistics", "countWalkSteps", "(I)V"⟩ : MethodName)) hown (mvT hZ (hw _ (List.mem_of_getElem? (i := 28) rfl))) (mvT hZ (hw _ (List.mem_of_getElem? (i := 29) rfl))) (notFace_of_selects (args := #[]) (mvT hZ (hw _ (List.mem_of_getElem? (i := 31) rfl)))) (mvT hZ (hw _ (List.mem_of_getElem? (i := 31) rfl))) (mvT hZ (hw _ (List.mem_of_getElem? (i := 30) rfl))) (by decide) (backOf (W := 0) (rm_countWalkSteps l Z a0 hw [] b9 w2 (0 : Int64) ((0 : Int64) + (w1.toInt64)) ((0 : Int64) + (1 : Int64)) ((0 : Int64) + (mv.toInt64)) (0 : Int64) T54.heap n0 zz54 f54_0 (g_b9) f54_1 f54_2 f54_3 f54_4 f54_5) hZ (hw _ (List.mem_of_getElem? (i := 32) rfl)) (hw _ (List.mem_of_getElem? (i := 3) rfl)) (by decide) (by decide)) q57a q57c (g := (mkF m 134 #[.val (.int xw1), .val (.int xw2), .val (.int xq), .val (.int xf), .val (.int w1), .val (.int w2), .val (.int mv), .val (.int ap), .val (.int de), .val (.int v41), .val (.ref b9), .unset, .unset] [(.int w2), (.ref b9)])) rfl (by rw [hml]; rfl) (Steps.refl _) (argsL := [(.int w2)]) (rest := []) (lenOf pd2 rfl) rfl (by show 2 * 0 + _ ≤ _; exact Nat.le_of_eq rfl) (hb hby at_134) (fun _ _ => ⟨rfl, rfl, (by decide : 1 + 0 ≤ _), (by decide : 5 + 0 ≤ _)⟩)
          dsimp only [Pt.U, Pt.locs, Pt.cells, Pt.slots] at X57 l57 y57 z57 st57 hQ57
          subst l57 y57 z57
          obtain ⟨rfl, M57, kp57, f57_0, f57_1, f57_2, f57_3, f57_4, f57_5⟩ := hQ57
          have K57 : Keep h0 T57.heap ([] : List Addr) := K54.trans kp57 (allS (P := fun x => x ∈ ([] : List Addr) ∨ h0.size ≤ x) (Or.inr sz_b9) all0)
          have zz57 : n0 ≤ T57.heap.size := Nat.le_trans Z0 K57.1
          have N57 := Fr.app N54 M57
          have pre58 : ∀ t, Steps p.tables e below (T57.setTop (mkF m 137 #[.val (.int xw1), .val (.int xw2), .val (.int xq), .val (.int xf), .val (.int w1), .val (.int w2), .val (.int mv), .val (.int ap), .val (.int de), .val (.int v41), .val (.ref b9), .unset, .unset] [])) t → Steps p.tables e below (s₁.setTop (entryFrame m #[(.int xw1), (.int xw2), (.int xq), (.int xf)] maxLocals)) t := fun t k => pre56 t (st57.trans k)
          have pre59 : ∀ t, Steps p.tables e below (T57.setTop (mkF m 158 #[.val (.int xw1), .val (.int xw2), .val (.int xq), .val (.int xf), .val (.int w1), .val (.int w2), .val (.int mv), .val (.int ap), .val (.int de), .val (.int v41), .val (.ref b9), .val (.long (((((ap.toInt64) + (w1.toInt64)) + (w2.toInt64)) + (de.toInt64)) + (mv.toInt64))), .second] [])) t → Steps p.tables e below (s₁.setTop (entryFrame m #[(.int xw1), (.int xw2), (.int xq), (.int xf)] maxLocals)) t := by
            intro t k
            refine pre58 t ?_
            refine XS.iload X57.here hx rfl (hb hby at_137) rfl ?_
            show Steps p.tables e below (T57.setTop (mkF m 139 #[.val (.int xw1), .val (.int xw2), .val (.int xq), .val (.int xf), .val (.int w1), .val (.int w2), .val (.int mv), .val (.int ap), .val (.int de), .val (.int v41), .val (.ref b9), .unset, .unset] [(.int ap)])) _
            refine XS.i2l X57.here hx rfl (hb hby at_139) rfl ?_
            show Steps p.tables e below (T57.setTop (mkF m 140 #[.val (.int xw1), .val (.int xw2), .val (.int xq), .val (.int xf), .val (.int w1), .val (.int w2), .val (.int mv), .val (.int ap), .val (.int de), .val (.int v41), .val (.ref b9), .unset, .unset] [(.long (ap.toInt64))])) _
            refine XS.iload X57.here hx rfl (hb hby at_140) rfl ?_
            show Steps p.tables e below (T57.setTop (mkF m 142 #[.val (.int xw1), .val (.int xw2), .val (.int xq), .val (.int xf), .val (.int w1), .val (.int w2), .val (.int mv), .val (.int ap), .val (.int de), .val (.int v41), .val (.ref b9), .unset, .unset] [(.int w1), (.long (ap.toInt64))])) _
            refine XS.i2l X57.here hx rfl (hb hby at_142) rfl ?_
            show Steps p.tables e below (T57.setTop (mkF m 143 #[.val (.int xw1), .val (.int xw2), .val (.int xq), .val (.int xf), .val (.int w1), .val (.int w2), .val (.int mv), .val (.int ap), .val (.int de), .val (.int v41), .val (.ref b9), .unset, .unset] [(.long (w1.toInt64)), (.long (ap.toInt64))])) _
            refine XS.ladd X57.here hx rfl (hb hby at_143) rfl ?_
            show Steps p.tables e below (T57.setTop (mkF m 144 #[.val (.int xw1), .val (.int xw2), .val (.int xq), .val (.int xf), .val (.int w1), .val (.int w2), .val (.int mv), .val (.int ap), .val (.int de), .val (.int v41), .val (.ref b9), .unset, .unset] [(.long ((ap.toInt64) + (w1.toInt64)))])) _
            refine XS.iload X57.here hx rfl (hb hby at_144) rfl ?_
            show Steps p.tables e below (T57.setTop (mkF m 146 #[.val (.int xw1), .val (.int xw2), .val (.int xq), .val (.int xf), .val (.int w1), .val (.int w2), .val (.int mv), .val (.int ap), .val (.int de), .val (.int v41), .val (.ref b9), .unset, .unset] [(.int w2), (.long ((ap.toInt64) + (w1.toInt64)))])) _
            refine XS.i2l X57.here hx rfl (hb hby at_146) rfl ?_
            show Steps p.tables e below (T57.setTop (mkF m 147 #[.val (.int xw1), .val (.int xw2), .val (.int xq), .val (.int xf), .val (.int w1), .val (.int w2), .val (.int mv), .val (.int ap), .val (.int de), .val (.int v41), .val (.ref b9), .unset, .unset] [(.long (w2.toInt64)), (.long ((ap.toInt64) + (w1.toInt64)))])) _
            refine XS.ladd X57.here hx rfl (hb hby at_147) rfl ?_
            show Steps p.tables e below (T57.setTop (mkF m 148 #[.val (.int xw1), .val (.int xw2), .val (.int xq), .val (.int xf), .val (.int w1), .val (.int w2), .val (.int mv), .val (.int ap), .val (.int de), .val (.int v41), .val (.ref b9), .unset, .unset] [(.long (((ap.toInt64) + (w1.toInt64)) + (w2.toInt64)))])) _
            refine XS.iload X57.here hx rfl (hb hby at_148) rfl ?_
            show Steps p.tables e below (T57.setTop (mkF m 150 #[.val (.int xw1), .val (.int xw2), .val (.int xq), .val (.int xf), .val (.int w1), .val (.int w2), .val (.int mv), .val (.int ap), .val (.int de), .val (.int v41), .val (.ref b9), .unset, .unset] [(.int de), (.long (((ap.toInt64) + (w1.toInt64)) + (w2.toInt64)))])) _
            refine XS.i2l X57.here hx rfl (hb hby at_150) rfl ?_
            show Steps p.tables e below (T57.setTop (mkF m 151 #[.val (.int xw1), .val (.int xw2), .val (.int xq), .val (.int xf), .val (.int w1), .val (.int w2), .val (.int mv), .val (.int ap), .val (.int de), .val (.int v41), .val (.ref b9), .unset, .unset] [(.long (de.toInt64)), (.long (((ap.toInt64) + (w1.toInt64)) + (w2.toInt64)))])) _
            refine XS.ladd X57.here hx rfl (hb hby at_151) rfl ?_
            show Steps p.tables e below (T57.setTop (mkF m 152 #[.val (.int xw1), .val (.int xw2), .val (.int xq), .val (.int xf), .val (.int w1), .val (.int w2), .val (.int mv), .val (.int ap), .val (.int de), .val (.int v41), .val (.ref b9), .unset, .unset] [(.long ((((ap.toInt64) + (w1.toInt64)) + (w2.toInt64)) + (de.toInt64)))])) _
            refine XS.iload X57.here hx rfl (hb hby at_152) rfl ?_
            show Steps p.tables e below (T57.setTop (mkF m 154 #[.val (.int xw1), .val (.int xw2), .val (.int xq), .val (.int xf), .val (.int w1), .val (.int w2), .val (.int mv), .val (.int ap), .val (.int de), .val (.int v41), .val (.ref b9), .unset, .unset] [(.int mv), (.long ((((ap.toInt64) + (w1.toInt64)) + (w2.toInt64)) + (de.toInt64)))])) _
            refine XS.i2l X57.here hx rfl (hb hby at_154) rfl ?_
            show Steps p.tables e below (T57.setTop (mkF m 155 #[.val (.int xw1), .val (.int xw2), .val (.int xq), .val (.int xf), .val (.int w1), .val (.int w2), .val (.int mv), .val (.int ap), .val (.int de), .val (.int v41), .val (.ref b9), .unset, .unset] [(.long (mv.toInt64)), (.long ((((ap.toInt64) + (w1.toInt64)) + (w2.toInt64)) + (de.toInt64)))])) _
            refine XS.ladd X57.here hx rfl (hb hby at_155) rfl ?_
            show Steps p.tables e below (T57.setTop (mkF m 156 #[.val (.int xw1), .val (.int xw2), .val (.int xq), .val (.int xf), .val (.int w1), .val (.int w2), .val (.int mv), .val (.int ap), .val (.int de), .val (.int v41), .val (.ref b9), .unset, .unset] [(.long (((((ap.toInt64) + (w1.toInt64)) + (w2.toInt64)) + (de.toInt64)) + (mv.toInt64)))])) _
            refine XS.lstore X57.here hx rfl (hb hby at_156) rfl (l' := #[.val (.int xw1), .val (.int xw2), .val (.int xq), .val (.int xf), .val (.int w1), .val (.int w2), .val (.int mv), .val (.int ap), .val (.int de), .val (.int v41), .val (.ref b9), .val (.long (((((ap.toInt64) + (w1.toInt64)) + (w2.toInt64)) + (de.toInt64)) + (mv.toInt64))), .second]) rfl ?_
            show Steps p.tables e below (T57.setTop (mkF m 158 #[.val (.int xw1), .val (.int xw2), .val (.int xq), .val (.int xf), .val (.int w1), .val (.int w2), .val (.int mv), .val (.int ap), .val (.int de), .val (.int v41), .val (.ref b9), .val (.long (((((ap.toInt64) + (w1.toInt64)) + (w2.toInt64)) + (de.toInt64)) + (mv.toInt64))), .second] [])) _
            exact k
          obtain ⟨ex, hex⟩ : ∃ z : Int64, z = (((((ap.toInt64) + (w1.toInt64)) + (w2.toInt64)) + (de.toInt64)) + (mv.toInt64)) := ⟨_, rfl⟩
          rw [← hex] at pre59
          have pre60 : ∀ t, Steps p.tables e below (T57.setTop (mkF m 160 #[.val (.int xw1), .val (.int xw2), .val (.int xq), .val (.int xf), .val (.int w1), .val (.int w2), .val (.int mv), .val (.int ap), .val (.int de), .val (.int v41), .val (.ref b9), .val (.long ex), .second] [(.ref b9)])) t → Steps p.tables e below (s₁.setTop (entryFrame m #[(.int xw1), (.int xw2), (.int xq), (.int xf)] maxLocals)) t := by
            intro t k
            refine pre59 t ?_
            refine XS.aload X57.here hx rfl (hb hby at_158) rfl rfl ?_
            show Steps p.tables e below (T57.setTop (mkF m 160 #[.val (.int xw1), .val (.int xw2), .val (.int xq), .val (.int xf), .val (.int w1), .val (.int w2), .val (.int mv), .val (.int ap), .val (.int de), .val (.int v41), .val (.ref b9), .val (.long ex), .second] [(.ref b9)])) _
            exact k
          obtain ⟨cq61, kq61, q61a, q61b, q61c⟩ := isOf hZ rfl f57_0
          obtain ⟨_, _, ⟨T61, L61, k61, n61⟩, -, X61, ⟨Lc61, hQ61, l61, y61, z61⟩, st61⟩ := X57.virtualBack hx (y := (⟨"com/example/suitor/suitor/SolverStatistics", "getSteps", "()J"⟩ : MethodName)) (z := (⟨"com/example/suitor/suitor/SolverStatistics", "getSteps", "()J"⟩ : MethodName)) hown (mvT hZ (hw _ (List.mem_of_getElem? (i := 10) rfl))) (mvT hZ (hw _ (List.mem_of_getElem? (i := 11) rfl))) (notFace_of_selects (args := #[]) (mvT hZ (hw _ (List.mem_of_getElem? (i := 13) rfl)))) (mvT hZ (hw _ (List.mem_of_getElem? (i := 13) rfl))) (mvT hZ (hw _ (List.mem_of_getElem? (i := 12) rfl))) (by decide) (backOf (W := 0) (rm_steps l Z a0 hw [] b9 (0 : Int64) (((0 : Int64) + (w1.toInt64)) + (w2.toInt64)) ((0 : Int64) + (1 : Int64)) ((0 : Int64) + (mv.toInt64)) T57.heap n0 zz57 f57_1 f57_2 f57_3 f57_4) hZ (hw _ (List.mem_of_getElem? (i := 14) rfl)) (hw _ (List.mem_of_getElem? (i := 3) rfl)) (by decide) (by decide)) q61a q61c (g := (mkF m 160 #[.val (.int xw1), .val (.int xw2), .val (.int xq), .val (.int xf), .val (.int w1), .val (.int w2), .val (.int mv), .val (.int ap), .val (.int de), .val (.int v41), .val (.ref b9), .val (.long ex), .second] [(.ref b9)])) rfl (by rw [hml]; rfl) (Steps.refl _) (argsL := []) (rest := []) (lenOf pd1 rfl) rfl (by show 2 * 0 + _ ≤ _; exact Nat.le_of_eq rfl) (hb hby at_160) (fun _ _ => ⟨rfl, rfl, (by decide : 1 + 0 ≤ _), (by decide : 5 + 0 ≤ _)⟩)
          dsimp only [Pt.U, Pt.locs, Pt.cells, Pt.slots] at X61 l61 y61 z61 st61 hQ61
          subst l61 y61 z61
          obtain ⟨rfl, M61, e61⟩ := hQ61
          have N61 := Fr.app N57 M61
          have pre62 : ∀ t, Steps p.tables e below (T61.setTop (mkF m 163 #[.val (.int xw1), .val (.int xw2), .val (.int xq), .val (.int xf), .val (.int w1), .val (.int w2), .val (.int mv), .val (.int ap), .val (.int de), .val (.int v41), .val (.ref b9), .val (.long ex), .second] [(.long ((((0 : Int64) + (((0 : Int64) + (w1.toInt64)) + (w2.toInt64))) + ((0 : Int64) + (1 : Int64))) + ((0 : Int64) + (mv.toInt64))))])) t → Steps p.tables e below (s₁.setTop (entryFrame m #[(.int xw1), (.int xw2), (.int xq), (.int xf)] maxLocals)) t := fun t k => pre60 t (st61.trans k)
          have pre63 : ∀ t, Steps p.tables e below (T61.setTop (mkF m 174 #[.val (.int xw1), .val (.int xw2), .val (.int xq), .val (.int xf), .val (.int w1), .val (.int w2), .val (.int mv), .val (.int ap), .val (.int de), .val (.int v41), .val (.ref b9), .val (.long ex), .second] [(.int (1 : Int32))])) t → Steps p.tables e below (s₁.setTop (entryFrame m #[(.int xw1), (.int xw2), (.int xq), (.int xf)] maxLocals)) t := by
            intro t k
            refine pre62 t ?_
            refine XS.lload X61.here hx rfl (hb hby at_163) rfl ?_
            show Steps p.tables e below (T61.setTop (mkF m 165 #[.val (.int xw1), .val (.int xw2), .val (.int xq), .val (.int xf), .val (.int w1), .val (.int w2), .val (.int mv), .val (.int ap), .val (.int de), .val (.int v41), .val (.ref b9), .val (.long ex), .second] [(.long ex), (.long ((((0 : Int64) + (((0 : Int64) + (w1.toInt64)) + (w2.toInt64))) + ((0 : Int64) + (1 : Int64))) + ((0 : Int64) + (mv.toInt64))))])) _
            refine XS.lcmp X61.here hx rfl (hb hby at_165) rfl ?_
            show Steps p.tables e below (T61.setTop (mkF m 166 #[.val (.int xw1), .val (.int xw2), .val (.int xq), .val (.int xf), .val (.int w1), .val (.int w2), .val (.int mv), .val (.int ap), .val (.int de), .val (.int v41), .val (.ref b9), .val (.long ex), .second] [(.int (lcmpW ((((0 : Int64) + (((0 : Int64) + (w1.toInt64)) + (w2.toInt64))) + ((0 : Int64) + (1 : Int64))) + ((0 : Int64) + (mv.toInt64))) ex))])) _
            refine XS.ifNo X61.here hx rfl (hb hby at_166) rfl ((if0 _ _).trans (teq ((lw_eq _ _).mpr (show ((((0 : Int64) + (((0 : Int64) + (w1.toInt64)) + (w2.toInt64))) + ((0 : Int64) + (1 : Int64))) + ((0 : Int64) + (mv.toInt64))) = ex from by rw [hex]; exact own_1 w1 w2 mv xf ap de hap hde hc75 hc88 hc105))).2) ?_
            show Steps p.tables e below (T61.setTop (mkF m 169 #[.val (.int xw1), .val (.int xw2), .val (.int xq), .val (.int xf), .val (.int w1), .val (.int w2), .val (.int mv), .val (.int ap), .val (.int de), .val (.int v41), .val (.ref b9), .val (.long ex), .second] [])) _
            refine XS.iconst X61.here hx rfl (hb hby at_169) ?_
            show Steps p.tables e below (T61.setTop (mkF m 170 #[.val (.int xw1), .val (.int xw2), .val (.int xq), .val (.int xf), .val (.int w1), .val (.int w2), .val (.int mv), .val (.int ap), .val (.int de), .val (.int v41), .val (.ref b9), .val (.long ex), .second] [(.int (1 : Int32))])) _
            refine XS.goto X61.here hx rfl (pc0 := 170) (pc' := 174) rfl (hb hby at_170) (by decide) (by decide) ?_
            show Steps p.tables e below (T61.setTop (mkF m 174 #[.val (.int xw1), .val (.int xw2), .val (.int xq), .val (.int xf), .val (.int w1), .val (.int w2), .val (.int mv), .val (.int ap), .val (.int de), .val (.int v41), .val (.ref b9), .val (.long ex), .second] [(.int (1 : Int32))])) _
            exact k
          obtain ⟨fs, hr, hrun, hended, hW, hsame⟩ := X61.leave (v := some (.int (1 : Int32))) (fun h => by rw [Bd.returns] at h; cases h)
          refine ⟨_, _, pre63 _ ?_, hrun, hended, _, _, rfl, ?_, ⟨_, rfl⟩, hW, hsame.mono (by decide) (by decide)⟩
          · exact retN X61 hx (t := .boolean) Bd.returns (by simp) (hb hby at_174) hr
          · show Q_rm0 Z xw1 xw2 xq xf h0 n0 _ T61.heap _
            rw [e61]
            exact ⟨rfl, N61⟩
        · have pre64 : ∀ t, Steps p.tables e below (T50.setTop (mkF m 120 #[.val (.int xw1), .val (.int xw2), .val (.int xq), .val (.int xf), .val (.int w1), .val (.int w2), .val (.int mv), .val (.int ap), .val (.int de), .val (.int v41), .val (.ref b9), .unset, .unset] [(.ref b9)])) t → Steps p.tables e below (s₁.setTop (entryFrame m #[(.int xw1), (.int xw2), (.int xq), (.int xf)] maxLocals)) t := by
            intro t k
            refine pre52 t ?_
            refine XS.ifNo X50.here hx rfl (hb hby at_115) rfl ((if0 _ _).trans (feq hc115).1) ?_
            show Steps p.tables e below (T50.setTop (mkF m 118 #[.val (.int xw1), .val (.int xw2), .val (.int xq), .val (.int xf), .val (.int w1), .val (.int w2), .val (.int mv), .val (.int ap), .val (.int de), .val (.int v41), .val (.ref b9), .unset, .unset] [])) _
            refine XS.aload X50.here hx rfl (hb hby at_118) rfl rfl ?_
            show Steps p.tables e below (T50.setTop (mkF m 120 #[.val (.int xw1), .val (.int xw2), .val (.int xq), .val (.int xf), .val (.int w1), .val (.int w2), .val (.int mv), .val (.int ap), .val (.int de), .val (.int v41), .val (.ref b9), .unset, .unset] [(.ref b9)])) _
            exact k
          obtain ⟨cq65, kq65, q65a, q65b, q65c⟩ := isOf hZ rfl f50_0
          obtain ⟨_, _, ⟨T65, L65, k65, n65⟩, -, X65, ⟨Lc65, hQ65, l65, y65, z65⟩, st65⟩ := X50.virtualBack hx (y := (⟨"com/example/suitor/suitor/SolverStatistics", "countPass", "()V"⟩ : MethodName)) (z := (⟨"com/example/suitor/suitor/SolverStatistics", "countPass", "()V"⟩ : MethodName)) hown (mvT hZ (hw _ (List.mem_of_getElem? (i := 38) rfl))) (mvT hZ (hw _ (List.mem_of_getElem? (i := 39) rfl))) (notFace_of_selects (args := #[]) (mvT hZ (hw _ (List.mem_of_getElem? (i := 41) rfl)))) (mvT hZ (hw _ (List.mem_of_getElem? (i := 41) rfl))) (mvT hZ (hw _ (List.mem_of_getElem? (i := 40) rfl))) (by decide) (backOf (W := 0) (rm_countPass l Z a0 hw [] b9 (0 : Int64) ((0 : Int64) + (w1.toInt64)) ((0 : Int64) + (1 : Int64)) (0 : Int64) (0 : Int64) T50.heap n0 zz50 f50_0 (g_b9) f50_1 f50_2 f50_3 f50_4 f50_5) hZ (hw _ (List.mem_of_getElem? (i := 42) rfl)) (hw _ (List.mem_of_getElem? (i := 3) rfl)) (by decide) (by decide)) q65a q65c (g := (mkF m 120 #[.val (.int xw1), .val (.int xw2), .val (.int xq), .val (.int xf), .val (.int w1), .val (.int w2), .val (.int mv), .val (.int ap), .val (.int de), .val (.int v41), .val (.ref b9), .unset, .unset] [(.ref b9)])) rfl (by rw [hml]; rfl) (Steps.refl _) (argsL := []) (rest := []) (lenOf pd0 rfl) rfl (by show 2 * 0 + _ ≤ _; exact Nat.le_of_eq rfl) (hb hby at_120) (fun _ _ => ⟨rfl, rfl, (by decide : 1 + 0 ≤ _), (by decide : 5 + 0 ≤ _)⟩)
          dsimp only [Pt.U, Pt.locs, Pt.cells, Pt.slots] at X65 l65 y65 z65 st65 hQ65
          subst l65 y65 z65
          obtain ⟨rfl, M65, kp65, f65_0, f65_1, f65_2, f65_3, f65_4, f65_5⟩ := hQ65
          have K65 : Keep h0 T65.heap ([] : List Addr) := K50.trans kp65 (allS (P := fun x => x ∈ ([] : List Addr) ∨ h0.size ≤ x) (Or.inr sz_b9) all0)
          have zz65 : n0 ≤ T65.heap.size := Nat.le_trans Z0 K65.1
          have N65 := Fr.app N50 M65
          have pre66 : ∀ t, Steps p.tables e below (T65.setTop (mkF m 123 #[.val (.int xw1), .val (.int xw2), .val (.int xq), .val (.int xf), .val (.int w1), .val (.int w2), .val (.int mv), .val (.int ap), .val (.int de), .val (.int v41), .val (.ref b9), .unset, .unset] [])) t → Steps p.tables e below (s₁.setTop (entryFrame m #[(.int xw1), (.int xw2), (.int xq), (.int xf)] maxLocals)) t := fun t k => pre64 t (st65.trans k)
          have pre67 : ∀ t, Steps p.tables e below (T65.setTop (mkF m 127 #[.val (.int xw1), .val (.int xw2), .val (.int xq), .val (.int xf), .val (.int w1), .val (.int w2), .val (.int mv), .val (.int ap), .val (.int de), .val (.int v41), .val (.ref b9), .unset, .unset] [(.int mv), (.ref b9)])) t → Steps p.tables e below (s₁.setTop (entryFrame m #[(.int xw1), (.int xw2), (.int xq), (.int xf)] maxLocals)) t := by
            intro t k
            refine pre66 t ?_
            refine XS.aload X65.here hx rfl (hb hby at_123) rfl rfl ?_
            show Steps p.tables e below (T65.setTop (mkF m 125 #[.val (.int xw1), .val (.int xw2), .val (.int xq), .val (.int xf), .val (.int w1), .val (.int w2), .val (.int mv), .val (.int ap), .val (.int de), .val (.int v41), .val (.ref b9), .unset, .unset] [(.ref b9)])) _
            refine XS.iload X65.here hx rfl (hb hby at_125) rfl ?_
            show Steps p.tables e below (T65.setTop (mkF m 127 #[.val (.int xw1), .val (.int xw2), .val (.int xq), .val (.int xf), .val (.int w1), .val (.int w2), .val (.int mv), .val (.int ap), .val (.int de), .val (.int v41), .val (.ref b9), .unset, .unset] [(.int mv), (.ref b9)])) _
            exact k
          obtain ⟨cq68, kq68, q68a, q68b, q68c⟩ := isOf hZ rfl f65_0
          obtain ⟨_, _, ⟨T68, L68, k68, n68⟩, -, X68, ⟨Lc68, hQ68, l68, y68, z68⟩, st68⟩ := X65.virtualBack hx (y := (⟨"com/example/suitor/suitor/SolverStatistics", "countQueueMoves", "(I)V"⟩ : MethodName)) (z := (⟨"com/example/suitor/suitor/SolverStatistics", "countQueueMoves", "(I)V"⟩ : MethodName)) hown (mvT hZ (hw _ (List.mem_of_getElem? (i := 33) rfl))) (mvT hZ (hw _ (List.mem_of_getElem? (i := 34) rfl))) (notFace_of_selects (args := #[]) (mvT hZ (hw _ (List.mem_of_getElem? (i := 36) rfl)))) (mvT hZ (hw _ (List.mem_of_getElem? (i := 36) rfl))) (mvT hZ (hw _ (List.mem_of_getElem? (i := 35) rfl))) (by decide) (backOf (W := 0) (rm_countQueueMoves l Z a0 hw [] b9 mv (0 : Int64) ((0 : Int64) + (w1.toInt64)) ((0 : Int64) + (1 : Int64)) (0 : Int64) ((0 : Int64) + (1 : Int64)) T65.heap n0 zz65 f65_0 (g_b9) f65_1 f65_2 f65_3 f65_4 f65_5) hZ (hw _ (List.mem_of_getElem? (i := 37) rfl)) (hw _ (List.mem_of_getElem? (i := 3) rfl)) (by decide) (by decide)) q68a q68c (g := (mkF m 127 #[.val (.int xw1), .val (.int xw2), .val (.int xq), .val (.int xf), .val (.int w1), .val (.int w2), .val (.int mv), .val (.int ap), .val (.int de), .val (.int v41), .val (.ref b9), .unset, .unset] [(.int mv), (.ref b9)])) rfl (by rw [hml]; rfl) (Steps.refl _) (argsL := [(.int mv)]) (rest := []) (lenOf pd2 rfl) rfl (by show 2 * 0 + _ ≤ _; exact Nat.le_of_eq rfl) (hb hby at_127) (fun _ _ => ⟨rfl, rfl, (by decide : 1 + 0 ≤ _), (by decide : 5 + 0 ≤ _)⟩)
          dsimp only [Pt.U, Pt.locs, Pt.cells, Pt.slots] at X68 l68 y68 z68 st68 hQ68
          subst l68 y68 z68
          obtain ⟨rfl, M68, kp68, f68_0, f68_1, f68_2, f68_3, f68_4, f68_5⟩ := hQ68
          have K68 : Keep h0 T68.heap ([] : List Addr) := K65.trans kp68 (allS (P := fun x => x ∈ ([] : List Addr) ∨ h0.size ≤ x) (Or.inr sz_b9) all0)
          have zz68 : n0 ≤ T68.heap.size := Nat.le_trans Z0 K68.1
          have N68 := Fr.app N65 M68
          have pre69 : ∀ t, Steps p.tables e below (T68.setTop (mkF m 130 #[.val (.int xw1), .val (.int xw2), .val (.int xq), .val (.int xf), .val (.int w1), .val (.int w2), .val (.int mv), .val (.int ap), .val (.int de), .val (.int v41), .val (.ref b9), .unset, .unset] [])) t → Steps p.tables e below (s₁.setTop (entryFrame m #[(.int xw1), (.int xw2), (.int xq), (.int xf)] maxLocals)) t := fun t k => pre67 t (st68.trans k)
          have pre70 : ∀ t, Steps p.tables e below (T68.setTop (mkF m 134 #[.val (.int xw1), .val (.int xw2), .val (.int xq), .val (.int xf), .val (.int w1), .val (.int w2), .val (.int mv), .val (.int ap), .val (.int de), .val (.int v41), .val (.ref b9), .unset, .unset] [(.int w2), (.ref b9)])) t → Steps p.tables e below (s₁.setTop (entryFrame m #[(.int xw1), (.int xw2), (.int xq), (.int xf)] maxLocals)) t := by
            intro t k
            refine pre69 t ?_
            refine XS.aload X68.here hx rfl (hb hby at_130) rfl rfl ?_
            show Steps p.tables e below (T68.setTop (mkF m 132 #[.val (.int xw1), .val (.int xw2), .val (.int xq), .val (.int xf), .val (.int w1), .val (.int w2), .val (.int mv), .val (.int ap), .val (.int de), .val (.int v41), .val (.ref b9), .unset, .unset] [(.ref b9)])) _
            refine XS.iload X68.here hx rfl (hb hby at_132) rfl ?_
            show Steps p.tables e below (T68.setTop (mkF m 134 #[.val (.int xw1), .val (.int xw2), .val (.int xq), .val (.int xf), .val (.int w1), .val (.int w2), .val (.int mv), .val (.int ap), .val (.int de), .val (.int v41), .val (.ref b9), .unset, .unset] [(.int w2), (.ref b9)])) _
            exact k
          obtain ⟨cq71, kq71, q71a, q71b, q71c⟩ := isOf hZ rfl f68_0
          obtain ⟨_, _, ⟨T71, L71, k71, n71⟩, -, X71, ⟨Lc71, hQ71, l71, y71, z71⟩, st71⟩ := X68.virtualBack hx (y := (⟨"com/example/suitor/suitor/SolverStatistics", "countWalkSteps", "(I)V"⟩ : MethodName)) (z := (⟨"com/example/suitor/suitor/SolverStatistics", "countWalkSteps", "(I)V"⟩ : MethodName)) hown (mvT hZ (hw _ (List.mem_of_getElem? (i := 28) rfl))) (mvT hZ (hw _ (List.mem_of_getElem? (i := 29) rfl))) (notFace_of_selects (args := #[]) (mvT hZ (hw _ (List.mem_of_getElem? (i := 31) rfl)))) (mvT hZ (hw _ (List.mem_of_getElem? (i := 31) rfl))) (mvT hZ (hw _ (List.mem_of_getElem? (i := 30) rfl))) (by decide) (backOf (W := 0) (rm_countWalkSteps l Z a0 hw [] b9 w2 (0 : Int64) ((0 : Int64) + (w1.toInt64)) ((0 : Int64) + (1 : Int64)) ((0 : Int64) + (mv.toInt64)) ((0 : Int64) + (1 : Int64)) T68.heap n0 zz68 f68_0 (g_b9) f68_1 f68_2 f68_3 f68_4 f68_5) hZ (hw _ (List.mem_of_getElem? (i := 32) rfl)) (hw _ (List.mem_of_getElem? (i := 3) rfl)) (by decide) (by decide)) q71a q71c (g := (mkF m 134 #[.val (.int xw1), .val (.int xw2), .val (.int xq), .val (.int xf), .val (.int w1), .val (.int w2), .val (.int mv), .val (.int ap), .val (.int de), .val (.int v41), .val (.ref b9), .unset, .unset] [(.int w2), (.ref b9)])) rfl (by rw [hml]; rfl) (Steps.refl _) (argsL := [(.int w2)]) (rest := []) (lenOf pd2 rfl) rfl (by show 2 * 0 + _ ≤ _; exact Nat.le_of_eq rfl) (hb hby at_134) (fun _ _ => ⟨rfl, rfl, (by decide : 1 + 0 ≤ _), (by decide : 5 + 0 ≤ _)⟩)
          dsimp only [Pt.U, Pt.locs, Pt.cells, Pt.slots] at X71 l71 y71 z71 st71 hQ71
          subst l71 y71 z71
          obtain ⟨rfl, M71, kp71, f71_0, f71_1, f71_2, f71_3, f71_4, f71_5⟩ := hQ71
          have K71 : Keep h0 T71.heap ([] : List Addr) := K68.trans kp71 (allS (P := fun x => x ∈ ([] : List Addr) ∨ h0.size ≤ x) (Or.inr sz_b9) all0)
          have zz71 : n0 ≤ T71.heap.size := Nat.le_trans Z0 K71.1
          have N71 := Fr.app N68 M71
          have pre72 : ∀ t, Steps p.tables e below (T71.setTop (mkF m 137 #[.val (.int xw1), .val (.int xw2), .val (.int xq), .val (.int xf), .val (.int w1), .val (.int w2), .val (.int mv), .val (.int ap), .val (.int de), .val (.int v41), .val (.ref b9), .unset, .unset] [])) t → Steps p.tables e below (s₁.setTop (entryFrame m #[(.int xw1), (.int xw2), (.int xq), (.int xf)] maxLocals)) t := fun t k => pre70 t (st71.trans k)
          have pre73 : ∀ t, Steps p.tables e below (T71.setTop (mkF m 158 #[.val (.int xw1), .val (.int xw2), .val (.int xq), .val (.int xf), .val (.int w1), .val (.int w2), .val (.int mv), .val (.int ap), .val (.int de), .val (.int v41), .val (.ref b9), .val (.long (((((ap.toInt64) + (w1.toInt64)) + (w2.toInt64)) + (de.toInt64)) + (mv.toInt64))), .second] [])) t → Steps p.tables e below (s₁.setTop (entryFrame m #[(.int xw1), (.int xw2), (.int xq), (.int xf)] maxLocals)) t := by
            intro t k
            refine pre72 t ?_
            refine XS.iload X71.here hx rfl (hb hby at_137) rfl ?_
            show Steps p.tables e below (T71.setTop (mkF m 139 #[.val (.int xw1), .val (.int xw2), .val (.int xq), .val (.int xf), .val (.int w1), .val (.int w2), .val (.int mv), .val (.int ap), .val (.int de), .val (.int v41), .val (.ref b9), .unset, .unset] [(.int ap)])) _
            refine XS.i2l X71.here hx rfl (hb hby at_139) rfl ?_
            show Steps p.tables e below (T71.setTop (mkF m 140 #[.val (.int xw1), .val (.int xw2), .val (.int xq), .val (.int xf), .val (.int w1), .val (.int w2), .val (.int mv), .val (.int ap), .val (.int de), .val (.int v41), .val (.ref b9), .unset, .unset] [(.long (ap.toInt64))])) _
            refine XS.iload X71.here hx rfl (hb hby at_140) rfl ?_
            show Steps p.tables e below (T71.setTop (mkF m 142 #[.val (.int xw1), .val (.int xw2), .val (.int xq), .val (.int xf), .val (.int w1), .val (.int w2), .val (.int mv), .val (.int ap), .val (.int de), .val (.int v41), .val (.ref b9), .unset, .unset] [(.int w1), (.long (ap.toInt64))])) _
            refine XS.i2l X71.here hx rfl (hb hby at_142) rfl ?_
            show Steps p.tables e below (T71.setTop (mkF m 143 #[.val (.int xw1), .val (.int xw2), .val (.int xq), .val (.int xf), .val (.int w1), .val (.int w2), .val (.int mv), .val (.int ap), .val (.int de), .val (.int v41), .val (.ref b9), .unset, .unset] [(.long (w1.toInt64)), (.long (ap.toInt64))])) _
            refine XS.ladd X71.here hx rfl (hb hby at_143) rfl ?_
            show Steps p.tables e below (T71.setTop (mkF m 144 #[.val (.int xw1), .val (.int xw2), .val (.int xq), .val (.int xf), .val (.int w1), .val (.int w2), .val (.int mv), .val (.int ap), .val (.int de), .val (.int v41), .val (.ref b9), .unset, .unset] [(.long ((ap.toInt64) + (w1.toInt64)))])) _
            refine XS.iload X71.here hx rfl (hb hby at_144) rfl ?_
            show Steps p.tables e below (T71.setTop (mkF m 146 #[.val (.int xw1), .val (.int xw2), .val (.int xq), .val (.int xf), .val (.int w1), .val (.int w2), .val (.int mv), .val (.int ap), .val (.int de), .val (.int v41), .val (.ref b9), .unset, .unset] [(.int w2), (.long ((ap.toInt64) + (w1.toInt64)))])) _
            refine XS.i2l X71.here hx rfl (hb hby at_146) rfl ?_
            show Steps p.tables e below (T71.setTop (mkF m 147 #[.val (.int xw1), .val (.int xw2), .val (.int xq), .val (.int xf), .val (.int w1), .val (.int w2), .val (.int mv), .val (.int ap), .val (.int de), .val (.int v41), .val (.ref b9), .unset, .unset] [(.long (w2.toInt64)), (.long ((ap.toInt64) + (w1.toInt64)))])) _
            refine XS.ladd X71.here hx rfl (hb hby at_147) rfl ?_
            show Steps p.tables e below (T71.setTop (mkF m 148 #[.val (.int xw1), .val (.int xw2), .val (.int xq), .val (.int xf), .val (.int w1), .val (.int w2), .val (.int mv), .val (.int ap), .val (.int de), .val (.int v41), .val (.ref b9), .unset, .unset] [(.long (((ap.toInt64) + (w1.toInt64)) + (w2.toInt64)))])) _
            refine XS.iload X71.here hx rfl (hb hby at_148) rfl ?_
            show Steps p.tables e below (T71.setTop (mkF m 150 #[.val (.int xw1), .val (.int xw2), .val (.int xq), .val (.int xf), .val (.int w1), .val (.int w2), .val (.int mv), .val (.int ap), .val (.int de), .val (.int v41), .val (.ref b9), .unset, .unset] [(.int de), (.long (((ap.toInt64) + (w1.toInt64)) + (w2.toInt64)))])) _
            refine XS.i2l X71.here hx rfl (hb hby at_150) rfl ?_
            show Steps p.tables e below (T71.setTop (mkF m 151 #[.val (.int xw1), .val (.int xw2), .val (.int xq), .val (.int xf), .val (.int w1), .val (.int w2), .val (.int mv), .val (.int ap), .val (.int de), .val (.int v41), .val (.ref b9), .unset, .unset] [(.long (de.toInt64)), (.long (((ap.toInt64) + (w1.toInt64)) + (w2.toInt64)))])) _
            refine XS.ladd X71.here hx rfl (hb hby at_151) rfl ?_
            show Steps p.tables e below (T71.setTop (mkF m 152 #[.val (.int xw1), .val (.int xw2), .val (.int xq), .val (.int xf), .val (.int w1), .val (.int w2), .val (.int mv), .val (.int ap), .val (.int de), .val (.int v41), .val (.ref b9), .unset, .unset] [(.long ((((ap.toInt64) + (w1.toInt64)) + (w2.toInt64)) + (de.toInt64)))])) _
            refine XS.iload X71.here hx rfl (hb hby at_152) rfl ?_
            show Steps p.tables e below (T71.setTop (mkF m 154 #[.val (.int xw1), .val (.int xw2), .val (.int xq), .val (.int xf), .val (.int w1), .val (.int w2), .val (.int mv), .val (.int ap), .val (.int de), .val (.int v41), .val (.ref b9), .unset, .unset] [(.int mv), (.long ((((ap.toInt64) + (w1.toInt64)) + (w2.toInt64)) + (de.toInt64)))])) _
            refine XS.i2l X71.here hx rfl (hb hby at_154) rfl ?_
            show Steps p.tables e below (T71.setTop (mkF m 155 #[.val (.int xw1), .val (.int xw2), .val (.int xq), .val (.int xf), .val (.int w1), .val (.int w2), .val (.int mv), .val (.int ap), .val (.int de), .val (.int v41), .val (.ref b9), .unset, .unset] [(.long (mv.toInt64)), (.long ((((ap.toInt64) + (w1.toInt64)) + (w2.toInt64)) + (de.toInt64)))])) _
            refine XS.ladd X71.here hx rfl (hb hby at_155) rfl ?_
            show Steps p.tables e below (T71.setTop (mkF m 156 #[.val (.int xw1), .val (.int xw2), .val (.int xq), .val (.int xf), .val (.int w1), .val (.int w2), .val (.int mv), .val (.int ap), .val (.int de), .val (.int v41), .val (.ref b9), .unset, .unset] [(.long (((((ap.toInt64) + (w1.toInt64)) + (w2.toInt64)) + (de.toInt64)) + (mv.toInt64)))])) _
            refine XS.lstore X71.here hx rfl (hb hby at_156) rfl (l' := #[.val (.int xw1), .val (.int xw2), .val (.int xq), .val (.int xf), .val (.int w1), .val (.int w2), .val (.int mv), .val (.int ap), .val (.int de), .val (.int v41), .val (.ref b9), .val (.long (((((ap.toInt64) + (w1.toInt64)) + (w2.toInt64)) + (de.toInt64)) + (mv.toInt64))), .second]) rfl ?_
            show Steps p.tables e below (T71.setTop (mkF m 158 #[.val (.int xw1), .val (.int xw2), .val (.int xq), .val (.int xf), .val (.int w1), .val (.int w2), .val (.int mv), .val (.int ap), .val (.int de), .val (.int v41), .val (.ref b9), .val (.long (((((ap.toInt64) + (w1.toInt64)) + (w2.toInt64)) + (de.toInt64)) + (mv.toInt64))), .second] [])) _
            exact k
          obtain ⟨ex, hex⟩ : ∃ z : Int64, z = (((((ap.toInt64) + (w1.toInt64)) + (w2.toInt64)) + (de.toInt64)) + (mv.toInt64)) := ⟨_, rfl⟩
          rw [← hex] at pre73
          have pre74 : ∀ t, Steps p.tables e below (T71.setTop (mkF m 160 #[.val (.int xw1), .val (.int xw2), .val (.int xq), .val (.int xf), .val (.int w1), .val (.int w2), .val (.int mv), .val (.int ap), .val (.int de), .val (.int v41), .val (.ref b9), .val (.long ex), .second] [(.ref b9)])) t → Steps p.tables e below (s₁.setTop (entryFrame m #[(.int xw1), (.int xw2), (.int xq), (.int xf)] maxLocals)) t := by
            intro t k
            refine pre73 t ?_
            refine XS.aload X71.here hx rfl (hb hby at_158) rfl rfl ?_
            show Steps p.tables e below (T71.setTop (mkF m 160 #[.val (.int xw1), .val (.int xw2), .val (.int xq), .val (.int xf), .val (.int w1), .val (.int w2), .val (.int mv), .val (.int ap), .val (.int de), .val (.int v41), .val (.ref b9), .val (.long ex), .second] [(.ref b9)])) _
            exact k
          obtain ⟨cq75, kq75, q75a, q75b, q75c⟩ := isOf hZ rfl f71_0
          obtain ⟨_, _, ⟨T75, L75, k75, n75⟩, -, X75, ⟨Lc75, hQ75, l75, y75, z75⟩, st75⟩ := X71.virtualBack hx (y := (⟨"com/example/suitor/suitor/SolverStatistics", "getSteps", "()J"⟩ : MethodName)) (z := (⟨"com/example/suitor/suitor/SolverStatistics", "getSteps", "()J"⟩ : MethodName)) hown (mvT hZ (hw _ (List.mem_of_getElem? (i := 10) rfl))) (mvT hZ (hw _ (List.mem_of_getElem? (i := 11) rfl))) (notFace_of_selects (args := #[]) (mvT hZ (hw _ (List.mem_of_getElem? (i := 13) rfl)))) (mvT hZ (hw _ (List.mem_of_getElem? (i := 13) rfl))) (mvT hZ (hw _ (List.mem_of_getElem? (i := 12) rfl))) (by decide) (backOf (W := 0) (rm_steps l Z a0 hw [] b9 (0 : Int64) (((0 : Int64) + (w1.toInt64)) + (w2.toInt64)) ((0 : Int64) + (1 : Int64)) ((0 : Int64) + (mv.toInt64)) T71.heap n0 zz71 f71_1 f71_2 f71_3 f71_4) hZ (hw _ (List.mem_of_getElem? (i := 14) rfl)) (hw _ (List.mem_of_getElem? (i := 3) rfl)) (by decide) (by decide)) q75a q75c (g := (mkF m 160 #[.val (.int xw1), .val (.int xw2), .val (.int xq), .val (.int xf), .val (.int w1), .val (.int w2), .val (.int mv), .val (.int ap), .val (.int de), .val (.int v41), .val (.ref b9), .val (.long ex), .second] [(.ref b9)])) rfl (by rw [hml]; rfl) (Steps.refl _) (argsL := []) (rest := []) (lenOf pd1 rfl) rfl (by show 2 * 0 + _ ≤ _; exact Nat.le_of_eq rfl) (hb hby at_160) (fun _ _ => ⟨rfl, rfl, (by decide : 1 + 0 ≤ _), (by decide : 5 + 0 ≤ _)⟩)
          dsimp only [Pt.U, Pt.locs, Pt.cells, Pt.slots] at X75 l75 y75 z75 st75 hQ75
          subst l75 y75 z75
          obtain ⟨rfl, M75, e75⟩ := hQ75
          have N75 := Fr.app N71 M75
          have pre76 : ∀ t, Steps p.tables e below (T75.setTop (mkF m 163 #[.val (.int xw1), .val (.int xw2), .val (.int xq), .val (.int xf), .val (.int w1), .val (.int w2), .val (.int mv), .val (.int ap), .val (.int de), .val (.int v41), .val (.ref b9), .val (.long ex), .second] [(.long ((((0 : Int64) + (((0 : Int64) + (w1.toInt64)) + (w2.toInt64))) + ((0 : Int64) + (1 : Int64))) + ((0 : Int64) + (mv.toInt64))))])) t → Steps p.tables e below (s₁.setTop (entryFrame m #[(.int xw1), (.int xw2), (.int xq), (.int xf)] maxLocals)) t := fun t k => pre74 t (st75.trans k)
          have pre77 : ∀ t, Steps p.tables e below (T75.setTop (mkF m 174 #[.val (.int xw1), .val (.int xw2), .val (.int xq), .val (.int xf), .val (.int w1), .val (.int w2), .val (.int mv), .val (.int ap), .val (.int de), .val (.int v41), .val (.ref b9), .val (.long ex), .second] [(.int (1 : Int32))])) t → Steps p.tables e below (s₁.setTop (entryFrame m #[(.int xw1), (.int xw2), (.int xq), (.int xf)] maxLocals)) t := by
            intro t k
            refine pre76 t ?_
            refine XS.lload X75.here hx rfl (hb hby at_163) rfl ?_
            show Steps p.tables e below (T75.setTop (mkF m 165 #[.val (.int xw1), .val (.int xw2), .val (.int xq), .val (.int xf), .val (.int w1), .val (.int w2), .val (.int mv), .val (.int ap), .val (.int de), .val (.int v41), .val (.ref b9), .val (.long ex), .second] [(.long ex), (.long ((((0 : Int64) + (((0 : Int64) + (w1.toInt64)) + (w2.toInt64))) + ((0 : Int64) + (1 : Int64))) + ((0 : Int64) + (mv.toInt64))))])) _
            refine XS.lcmp X75.here hx rfl (hb hby at_165) rfl ?_
            show Steps p.tables e below (T75.setTop (mkF m 166 #[.val (.int xw1), .val (.int xw2), .val (.int xq), .val (.int xf), .val (.int w1), .val (.int w2), .val (.int mv), .val (.int ap), .val (.int de), .val (.int v41), .val (.ref b9), .val (.long ex), .second] [(.int (lcmpW ((((0 : Int64) + (((0 : Int64) + (w1.toInt64)) + (w2.toInt64))) + ((0 : Int64) + (1 : Int64))) + ((0 : Int64) + (mv.toInt64))) ex))])) _
            refine XS.ifNo X75.here hx rfl (hb hby at_166) rfl ((if0 _ _).trans (teq ((lw_eq _ _).mpr (show ((((0 : Int64) + (((0 : Int64) + (w1.toInt64)) + (w2.toInt64))) + ((0 : Int64) + (1 : Int64))) + ((0 : Int64) + (mv.toInt64))) = ex from by rw [hex]; exact own_1 w1 w2 mv xf ap de hap hde hc75 hc88 hc105))).2) ?_
            show Steps p.tables e below (T75.setTop (mkF m 169 #[.val (.int xw1), .val (.int xw2), .val (.int xq), .val (.int xf), .val (.int w1), .val (.int w2), .val (.int mv), .val (.int ap), .val (.int de), .val (.int v41), .val (.ref b9), .val (.long ex), .second] [])) _
            refine XS.iconst X75.here hx rfl (hb hby at_169) ?_
            show Steps p.tables e below (T75.setTop (mkF m 170 #[.val (.int xw1), .val (.int xw2), .val (.int xq), .val (.int xf), .val (.int w1), .val (.int w2), .val (.int mv), .val (.int ap), .val (.int de), .val (.int v41), .val (.ref b9), .val (.long ex), .second] [(.int (1 : Int32))])) _
            refine XS.goto X75.here hx rfl (pc0 := 170) (pc' := 174) rfl (hb hby at_170) (by decide) (by decide) ?_
            show Steps p.tables e below (T75.setTop (mkF m 174 #[.val (.int xw1), .val (.int xw2), .val (.int xq), .val (.int xf), .val (.int w1), .val (.int w2), .val (.int mv), .val (.int ap), .val (.int de), .val (.int v41), .val (.ref b9), .val (.long ex), .second] [(.int (1 : Int32))])) _
            exact k
          obtain ⟨fs, hr, hrun, hended, hW, hsame⟩ := X75.leave (v := some (.int (1 : Int32))) (fun h => by rw [Bd.returns] at h; cases h)
          refine ⟨_, _, pre77 _ ?_, hrun, hended, _, _, rfl, ?_, ⟨_, rfl⟩, hW, hsame.mono (by decide) (by decide)⟩
          · exact retN X75 hx (t := .boolean) Bd.returns (by simp) (hb hby at_174) hr
          · show Q_rm0 Z xw1 xw2 xq xf h0 n0 _ T75.heap _
            rw [e75]
            exact ⟨rfl, N75⟩
    · have pre78 : ∀ t, Steps p.tables e below (T15.setTop (mkF m 93 #[.val (.int xw1), .val (.int xw2), .val (.int xq), .val (.int xf), .val (.int w1), .val (.int w2), .val (.int mv), .val (.int ap), .val (.int de), .val (.int v41), .val (.ref b9), .unset, .unset] [(.ref b9)])) t → Steps p.tables e below (s₁.setTop (entryFrame m #[(.int xw1), (.int xw2), (.int xq), (.int xf)] maxLocals)) t := by
        intro t k
        refine pre18 t ?_
        refine XS.ifNo X15.here hx rfl (hb hby at_88) rfl ((if0 _ _).trans (feq hc88).1) ?_
        show Steps p.tables e below (T15.setTop (mkF m 91 #[.val (.int xw1), .val (.int xw2), .val (.int xq), .val (.int xf), .val (.int w1), .val (.int w2), .val (.int mv), .val (.int ap), .val (.int de), .val (.int v41), .val (.ref b9), .unset, .unset] [])) _
        refine XS.aload X15.here hx rfl (hb hby at_91) rfl rfl ?_
        show Steps p.tables e below (T15.setTop (mkF m 93 #[.val (.int xw1), .val (.int xw2), .val (.int xq), .val (.int xf), .val (.int w1), .val (.int w2), .val (.int mv), .val (.int ap), .val (.int de), .val (.int v41), .val (.ref b9), .unset, .unset] [(.ref b9)])) _
        exact k
      obtain ⟨cq79, kq79, q79a, q79b, q79c⟩ := isOf hZ e15 f12_0
      obtain ⟨_, _, ⟨T79, L79, k79, n79⟩, -, X79, ⟨Lc79, hQ79, l79, y79, z79⟩, st79⟩ := X15.virtualBack hx (y := (⟨"com/example/suitor/suitor/SolverStatistics", "countApplication", "()V"⟩ : MethodName)) (z := (⟨"com/example/suitor/suitor/SolverStatistics", "countApplication", "()V"⟩ : MethodName)) hown (mvT hZ (hw _ (List.mem_of_getElem? (i := 23) rfl))) (mvT hZ (hw _ (List.mem_of_getElem? (i := 24) rfl))) (notFace_of_selects (args := #[]) (mvT hZ (hw _ (List.mem_of_getElem? (i := 26) rfl)))) (mvT hZ (hw _ (List.mem_of_getElem? (i := 26) rfl))) (mvT hZ (hw _ (List.mem_of_getElem? (i := 25) rfl))) (by decide) (backOf (W := 0) (rm_countApplication l Z a0 hw [] b9 (0 : Int64) (0 : Int64) (0 : Int64) (0 : Int64) (0 : Int64) T12.heap n0 zz12 f12_0 (g_b9) f12_1 f12_2 f12_3 f12_4 f12_5) hZ (hw _ (List.mem_of_getElem? (i := 27) rfl)) (hw _ (List.mem_of_getElem? (i := 3) rfl)) (by decide) (by decide)) q79a q79c (g := (mkF m 93 #[.val (.int xw1), .val (.int xw2), .val (.int xq), .val (.int xf), .val (.int w1), .val (.int w2), .val (.int mv), .val (.int ap), .val (.int de), .val (.int v41), .val (.ref b9), .unset, .unset] [(.ref b9)])) rfl (by rw [hml]; rfl) (Steps.refl _) (argsL := []) (rest := []) (lenOf pd0 rfl) rfl (by show 2 * 0 + _ ≤ _; exact Nat.le_of_eq rfl) (hb hby at_93) (fun _ _ => ⟨rfl, e15, (by decide : 1 + 0 ≤ _), (by decide : 5 + 0 ≤ _)⟩)
      dsimp only [Pt.U, Pt.locs, Pt.cells, Pt.slots] at X79 l79 y79 z79 st79 hQ79
      subst l79 y79 z79
      obtain ⟨rfl, M79, kp79, f79_0, f79_1, f79_2, f79_3, f79_4, f79_5⟩ := hQ79
      have K79 : Keep h0 T79.heap ([] : List Addr) := K12.trans kp79 (allS (P := fun x => x ∈ ([] : List Addr) ∨ h0.size ≤ x) (Or.inr sz_b9) all0)
      have zz79 : n0 ≤ T79.heap.size := Nat.le_trans Z0 K79.1
      have N79 := Fr.app N15 M79
      have pre80 : ∀ t, Steps p.tables e below (T79.setTop (mkF m 96 #[.val (.int xw1), .val (.int xw2), .val (.int xq), .val (.int xf), .val (.int w1), .val (.int w2), .val (.int mv), .val (.int ap), .val (.int de), .val (.int v41), .val (.ref b9), .unset, .unset] [])) t → Steps p.tables e below (s₁.setTop (entryFrame m #[(.int xw1), (.int xw2), (.int xq), (.int xf)] maxLocals)) t := fun t k => pre78 t (st79.trans k)
      have pre81 : ∀ t, Steps p.tables e below (T79.setTop (mkF m 100 #[.val (.int xw1), .val (.int xw2), .val (.int xq), .val (.int xf), .val (.int w1), .val (.int w2), .val (.int mv), .val (.int ap), .val (.int de), .val (.int v41), .val (.ref b9), .unset, .unset] [(.int w1), (.ref b9)])) t → Steps p.tables e below (s₁.setTop (entryFrame m #[(.int xw1), (.int xw2), (.int xq), (.int xf)] maxLocals)) t := by
        intro t k
        refine pre80 t ?_
        refine XS.aload X79.here hx rfl (hb hby at_96) rfl rfl ?_
        show Steps p.tables e below (T79.setTop (mkF m 98 #[.val (.int xw1), .val (.int xw2), .val (.int xq), .val (.int xf), .val (.int w1), .val (.int w2), .val (.int mv), .val (.int ap), .val (.int de), .val (.int v41), .val (.ref b9), .unset, .unset] [(.ref b9)])) _
        refine XS.iload X79.here hx rfl (hb hby at_98) rfl ?_
        show Steps p.tables e below (T79.setTop (mkF m 100 #[.val (.int xw1), .val (.int xw2), .val (.int xq), .val (.int xf), .val (.int w1), .val (.int w2), .val (.int mv), .val (.int ap), .val (.int de), .val (.int v41), .val (.ref b9), .unset, .unset] [(.int w1), (.ref b9)])) _
        exact k
      obtain ⟨cq82, kq82, q82a, q82b, q82c⟩ := isOf hZ rfl f79_0
      obtain ⟨_, _, ⟨T82, L82, k82, n82⟩, -, X82, ⟨Lc82, hQ82, l82, y82, z82⟩, st82⟩ := X79.virtualBack hx (y := (⟨"com/example/suitor/suitor/SolverStatistics", "countWalkSteps", "(I)V"⟩ : MethodName)) (z := (⟨"com/example/suitor/suitor/SolverStatistics", "countWalkSteps", "(I)V"⟩ : MethodName)) hown (mvT hZ (hw _ (List.mem_of_getElem? (i := 28) rfl))) (mvT hZ (hw _ (List.mem_of_getElem? (i := 29) rfl))) (notFace_of_selects (args := #[]) (mvT hZ (hw _ (List.mem_of_getElem? (i := 31) rfl)))) (mvT hZ (hw _ (List.mem_of_getElem? (i := 31) rfl))) (mvT hZ (hw _ (List.mem_of_getElem? (i := 30) rfl))) (by decide) (backOf (W := 0) (rm_countWalkSteps l Z a0 hw [] b9 w1 ((0 : Int64) + (1 : Int64)) (0 : Int64) (0 : Int64) (0 : Int64) (0 : Int64) T79.heap n0 zz79 f79_0 (g_b9) f79_1 f79_2 f79_3 f79_4 f79_5) hZ (hw _ (List.mem_of_getElem? (i := 32) rfl)) (hw _ (List.mem_of_getElem? (i := 3) rfl)) (by decide) (by decide)) q82a q82c (g := (mkF m 100 #[.val (.int xw1), .val (.int xw2), .val (.int xq), .val (.int xf), .val (.int w1), .val (.int w2), .val (.int mv), .val (.int ap), .val (.int de), .val (.int v41), .val (.ref b9), .unset, .unset] [(.int w1), (.ref b9)])) rfl (by rw [hml]; rfl) (Steps.refl _) (argsL := [(.int w1)]) (rest := []) (lenOf pd2 rfl) rfl (by show 2 * 0 + _ ≤ _; exact Nat.le_of_eq rfl) (hb hby at_100) (fun _ _ => ⟨rfl, rfl, (by decide : 1 + 0 ≤ _), (by decide : 5 + 0 ≤ _)⟩)
      dsimp only [Pt.U, Pt.locs, Pt.cells, Pt.slots] at X82 l82 y82 z82 st82 hQ82
      subst l82 y82 z82
      obtain ⟨rfl, M82, kp82, f82_0, f82_1, f82_2, f82_3, f82_4, f82_5⟩ := hQ82
      have K82 : Keep h0 T82.heap ([] : List Addr) := K79.trans kp82 (allS (P := fun x => x ∈ ([] : List Addr) ∨ h0.size ≤ x) (Or.inr sz_b9) all0)
      have zz82 : n0 ≤ T82.heap.size := Nat.le_trans Z0 K82.1
      have N82 := Fr.app N79 M82
      have pre83 : ∀ t, Steps p.tables e below (T82.setTop (mkF m 103 #[.val (.int xw1), .val (.int xw2), .val (.int xq), .val (.int xf), .val (.int w1), .val (.int w2), .val (.int mv), .val (.int ap), .val (.int de), .val (.int v41), .val (.ref b9), .unset, .unset] [])) t → Steps p.tables e below (s₁.setTop (entryFrame m #[(.int xw1), (.int xw2), (.int xq), (.int xf)] maxLocals)) t := fun t k => pre81 t (st82.trans k)
      have pre84 : ∀ t, Steps p.tables e below (T82.setTop (mkF m 105 #[.val (.int xw1), .val (.int xw2), .val (.int xq), .val (.int xf), .val (.int w1), .val (.int w2), .val (.int mv), .val (.int ap), .val (.int de), .val (.int v41), .val (.ref b9), .unset, .unset] [(.int de)])) t → Steps p.tables e below (s₁.setTop (entryFrame m #[(.int xw1), (.int xw2), (.int xq), (.int xf)] maxLocals)) t := by
        intro t k
        refine pre83 t ?_
        refine XS.iload X82.here hx rfl (hb hby at_103) rfl ?_
        show Steps p.tables e below (T82.setTop (mkF m 105 #[.val (.int xw1), .val (.int xw2), .val (.int xq), .val (.int xf), .val (.int w1), .val (.int w2), .val (.int mv), .val (.int ap), .val (.int de), .val (.int v41), .val (.ref b9), .unset, .unset] [(.int de)])) _
        exact k
      by_cases hc105 : de = (0 : Int32)
      · have pre85 : ∀ t, Steps p.tables e below (T82.setTop (mkF m 115 #[.val (.int xw1), .val (.int xw2), .val (.int xq), .val (.int xf), .val (.int w1), .val (.int w2), .val (.int mv), .val (.int ap), .val (.int de), .val (.int v41), .val (.ref b9), .unset, .unset] [(.int v41)])) t → Steps p.tables e below (s₁.setTop (entryFrame m #[(.int xw1), (.int xw2), (.int xq), (.int xf)] maxLocals)) t := by
          intro t k
          refine pre84 t ?_
          refine XS.ifYes X82.here hx rfl (pc0 := 105) (pc' := 113) rfl (hb hby at_105) rfl ((if0 _ _).trans (teq hc105).1) (by decide) (by decide) ?_
          show Steps p.tables e below (T82.setTop (mkF m 113 #[.val (.int xw1), .val (.int xw2), .val (.int xq), .val (.int xf), .val (.int w1), .val (.int w2), .val (.int mv), .val (.int ap), .val (.int de), .val (.int v41), .val (.ref b9), .unset, .unset] [])) _
          refine XS.iload X82.here hx rfl (hb hby at_113) rfl ?_
          show Steps p.tables e below (T82.setTop (mkF m 115 #[.val (.int xw1), .val (.int xw2), .val (.int xq), .val (.int xf), .val (.int w1), .val (.int w2), .val (.int mv), .val (.int ap), .val (.int de), .val (.int v41), .val (.ref b9), .unset, .unset] [(.int v41)])) _
          exact k
        by_cases hc115 : v41 = (0 : Int32)
        · have pre86 : ∀ t, Steps p.tables e below (T82.setTop (mkF m 127 #[.val (.int xw1), .val (.int xw2), .val (.int xq), .val (.int xf), .val (.int w1), .val (.int w2), .val (.int mv), .val (.int ap), .val (.int de), .val (.int v41), .val (.ref b9), .unset, .unset] [(.int mv), (.ref b9)])) t → Steps p.tables e below (s₁.setTop (entryFrame m #[(.int xw1), (.int xw2), (.int xq), (.int xf)] maxLocals)) t := by
            intro t k
            refine pre85 t ?_
            refine XS.ifYes X82.here hx rfl (pc0 := 115) (pc' := 123) rfl (hb hby at_115) rfl ((if0 _ _).trans (teq hc115).1) (by decide) (by decide) ?_
            show Steps p.tables e below (T82.setTop (mkF m 123 #[.val (.int xw1), .val (.int xw2), .val (.int xq), .val (.int xf), .val (.int w1), .val (.int w2), .val (.int mv), .val (.int ap), .val (.int de), .val (.int v41), .val (.ref b9), .unset, .unset] [])) _
            refine XS.aload X82.here hx rfl (hb hby at_123) rfl rfl ?_
            show Steps p.tables e below (T82.setTop (mkF m 125 #[.val (.int xw1), .val (.int xw2), .val (.int xq), .val (.int xf), .val (.int w1), .val (.int w2), .val (.int mv), .val (.int ap), .val (.int de), .val (.int v41), .val (.ref b9), .unset, .unset] [(.ref b9)])) _
            refine XS.iload X82.here hx rfl (hb hby at_125) rfl ?_
            show Steps p.tables e below (T82.setTop (mkF m 127 #[.val (.int xw1), .val (.int xw2), .val (.int xq), .val (.int xf), .val (.int w1), .val (.int w2), .val (.int mv), .val (.int ap), .val (.int de), .val (.int v41), .val (.ref b9), .unset, .unset] [(.int mv), (.ref b9)])) _
            exact k
          obtain ⟨cq87, kq87, q87a, q87b, q87c⟩ := isOf hZ rfl f82_0
          obtain ⟨_, _, ⟨T87, L87, k87, n87⟩, -, X87, ⟨Lc87, hQ87, l87, y87, z87⟩, st87⟩ := X82.virtualBack hx (y := (⟨"com/example/suitor/suitor/SolverStatistics", "countQueueMoves", "(I)V"⟩ : MethodName)) (z := (⟨"com/example/suitor/suitor/SolverStatistics", "countQueueMoves", "(I)V"⟩ : MethodName)) hown (mvT hZ (hw _ (List.mem_of_getElem? (i := 33) rfl))) (mvT hZ (hw _ (List.mem_of_getElem? (i := 34) rfl))) (notFace_of_selects (args := #[]) (mvT hZ (hw _ (List.mem_of_getElem? (i := 36) rfl)))) (mvT hZ (hw _ (List.mem_of_getElem? (i := 36) rfl))) (mvT hZ (hw _ (List.mem_of_getElem? (i := 35) rfl))) (by decide) (backOf (W := 0) (rm_countQueueMoves l Z a0 hw [] b9 mv ((0 : Int64) + (1 : Int64)) ((0 : Int64) + (w1.toInt64)) (0 : Int64) (0 : Int64) (0 : Int64) T82.heap n0 zz82 f82_0 (g_b9) f82_1 f82_2 f82_3 f82_4 f82_5) hZ (hw _ (List.mem_of_getElem? (i := 37) rfl)) (hw _ (List.mem_of_getElem? (i := 3) rfl)) (by decide) (by decide)) q87a q87c (g := (mkF m 127 #[.val (.int xw1), .val (.int xw2), .val (.int xq), .val (.int xf), .val (.int w1), .val (.int w2), .val (.int mv), .val (.int ap), .val (.int de), .val (.int v41), .val (.ref b9), .unset, .unset] [(.int mv), (.ref b9)])) rfl (by rw [hml]; rfl) (Steps.refl _) (argsL := [(.int mv)]) (rest := []) (lenOf pd2 rfl) rfl (by show 2 * 0 + _ ≤ _; exact Nat.le_of_eq rfl) (hb hby at_127) (fun _ _ => ⟨rfl, rfl, (by decide : 1 + 0 ≤ _), (by decide : 5 + 0 ≤ _)⟩)
          dsimp only [Pt.U, Pt.locs, Pt.cells, Pt.slots] at X87 l87 y87 z87 st87 hQ87
          subst l87 y87 z87
          obtain ⟨rfl, M87, kp87, f87_0, f87_1, f87_2, f87_3, f87_4, f87_5⟩ := hQ87
          have K87 : Keep h0 T87.heap ([] : List Addr) := K82.trans kp87 (allS (P := fun x => x ∈ ([] : List Addr) ∨ h0.size ≤ x) (Or.inr sz_b9) all0)
          have zz87 : n0 ≤ T87.heap.size := Nat.le_trans Z0 K87.1
          have N87 := Fr.app N82 M87
          have pre88 : ∀ t, Steps p.tables e below (T87.setTop (mkF m 130 #[.val (.int xw1), .val (.int xw2), .val (.int xq), .val (.int xf), .val (.int w1), .val (.int w2), .val (.int mv), .val (.int ap), .val (.int de), .val (.int v41), .val (.ref b9), .unset, .unset] [])) t → Steps p.tables e below (s₁.setTop (entryFrame m #[(.int xw1), (.int xw2), (.int xq), (.int xf)] maxLocals)) t := fun t k => pre86 t (st87.trans k)
          have pre89 : ∀ t, Steps p.tables e below (T87.setTop (mkF m 134 #[.val (.int xw1), .val (.int xw2), .val (.int xq), .val (.int xf), .val (.int w1), .val (.int w2), .val (.int mv), .val (.int ap), .val (.int de), .val (.int v41), .val (.ref b9), .unset, .unset] [(.int w2), (.ref b9)])) t → Steps p.tables e below (s₁.setTop (entryFrame m #[(.int xw1), (.int xw2), (.int xq), (.int xf)] maxLocals)) t := by
            intro t k
            refine pre88 t ?_
            refine XS.aload X87.here hx rfl (hb hby at_130) rfl rfl ?_
            show Steps p.tables e below (T87.setTop (mkF m 132 #[.val (.int xw1), .val (.int xw2), .val (.int xq), .val (.int xf), .val (.int w1), .val (.int w2), .val (.int mv), .val (.int ap), .val (.int de), .val (.int v41), .val (.ref b9), .unset, .unset] [(.ref b9)])) _
            refine XS.iload X87.here hx rfl (hb hby at_132) rfl ?_
            show Steps p.tables e below (T87.setTop (mkF m 134 #[.val (.int xw1), .val (.int xw2), .val (.int xq), .val (.int xf), .val (.int w1), .val (.int w2), .val (.int mv), .val (.int ap), .val (.int de), .val (.int v41), .val (.ref b9), .unset, .unset] [(.int w2), (.ref b9)])) _
            exact k
          obtain ⟨cq90, kq90, q90a, q90b, q90c⟩ := isOf hZ rfl f87_0
          obtain ⟨_, _, ⟨T90, L90, k90, n90⟩, -, X90, ⟨Lc90, hQ90, l90, y90, z90⟩, st90⟩ := X87.virtualBack hx (y := (⟨"com/example/suitor/suitor/SolverStatistics", "countWalkSteps", "(I)V"⟩ : MethodName)) (z := (⟨"com/example/suitor/suitor/SolverStatistics", "countWalkSteps", "(I)V"⟩ : MethodName)) hown (mvT hZ (hw _ (List.mem_of_getElem? (i := 28) rfl))) (mvT hZ (hw _ (List.mem_of_getElem? (i := 29) rfl))) (notFace_of_selects (args := #[]) (mvT hZ (hw _ (List.mem_of_getElem? (i := 31) rfl)))) (mvT hZ (hw _ (List.mem_of_getElem? (i := 31) rfl))) (mvT hZ (hw _ (List.mem_of_getElem? (i := 30) rfl))) (by decide) (backOf (W := 0) (rm_countWalkSteps l Z a0 hw [] b9 w2 ((0 : Int64) + (1 : Int64)) ((0 : Int64) + (w1.toInt64)) (0 : Int64) ((0 : Int64) + (mv.toInt64)) (0 : Int64) T87.heap n0 zz87 f87_0 (g_b9) f87_1 f87_2 f87_3 f87_4 f87_5) hZ (hw _ (List.mem_of_getElem? (i := 32) rfl)) (hw _ (List.mem_of_getElem? (i := 3) rfl)) (by decide) (by decide)) q90a q90c (g := (mkF m 134 #[.val (.int xw1), .val (.int xw2), .val (.int xq), .val (.int xf), .val (.int w1), .val (.int w2), .val (.int mv), .val (.int ap), .val (.int de), .val (.int v41), .val (.ref b9), .unset, .unset] [(.int w2), (.ref b9)])) rfl (by rw [hml]; rfl) (Steps.refl _) (argsL := [(.int w2)]) (rest := []) (lenOf pd2 rfl) rfl (by show 2 * 0 + _ ≤ _; exact Nat.le_of_eq rfl) (hb hby at_134) (fun _ _ => ⟨rfl, rfl, (by decide : 1 + 0 ≤ _), (by decide : 5 + 0 ≤ _)⟩)
          dsimp only [Pt.U, Pt.locs, Pt.cells, Pt.slots] at X90 l90 y90 z90 st90 hQ90
          subst l90 y90 z90
          obtain ⟨rfl, M90, kp90, f90_0, f90_1, f90_2, f90_3, f90_4, f90_5⟩ := hQ90
          have K90 : Keep h0 T90.heap ([] : List Addr) := K87.trans kp90 (allS (P := fun x => x ∈ ([] : List Addr) ∨ h0.size ≤ x) (Or.inr sz_b9) all0)
          have zz90 : n0 ≤ T90.heap.size := Nat.le_trans Z0 K90.1
          have N90 := Fr.app N87 M90
          have pre91 : ∀ t, Steps p.tables e below (T90.setTop (mkF m 137 #[.val (.int xw1), .val (.int xw2), .val (.int xq), .val (.int xf), .val (.int w1), .val (.int w2), .val (.int mv), .val (.int ap), .val (.int de), .val (.int v41), .val (.ref b9), .unset, .unset] [])) t → Steps p.tables e below (s₁.setTop (entryFrame m #[(.int xw1), (.int xw2), (.int xq), (.int xf)] maxLocals)) t := fun t k => pre89 t (st90.trans k)
          have pre92 : ∀ t, Steps p.tables e below (T90.setTop (mkF m 158 #[.val (.int xw1), .val (.int xw2), .val (.int xq), .val (.int xf), .val (.int w1), .val (.int w2), .val (.int mv), .val (.int ap), .val (.int de), .val (.int v41), .val (.ref b9), .val (.long (((((ap.toInt64) + (w1.toInt64)) + (w2.toInt64)) + (de.toInt64)) + (mv.toInt64))), .second] [])) t → Steps p.tables e below (s₁.setTop (entryFrame m #[(.int xw1), (.int xw2), (.int xq), (.int xf)] maxLocals)) t := by
            intro t k
            refine pre91 t ?_
            refine XS.iload X90.here hx rfl (hb hby at_137) rfl ?_
            show Steps p.tables e below (T90.setTop (mkF m 139 #[.val (.int xw1), .val (.int xw2), .val (.int xq), .val (.int xf), .val (.int w1), .val (.int w2), .val (.int mv), .val (.int ap), .val (.int de), .val (.int v41), .val (.ref b9), .unset, .unset] [(.int ap)])) _
            refine XS.i2l X90.here hx rfl (hb hby at_139) rfl ?_
            show Steps p.tables e below (T90.setTop (mkF m 140 #[.val (.int xw1), .val (.int xw2), .val (.int xq), .val (.int xf), .val (.int w1), .val (.int w2), .val (.int mv), .val (.int ap), .val (.int de), .val (.int v41), .val (.ref b9), .unset, .unset] [(.long (ap.toInt64))])) _
            refine XS.iload X90.here hx rfl (hb hby at_140) rfl ?_
            show Steps p.tables e below (T90.setTop (mkF m 142 #[.val (.int xw1), .val (.int xw2), .val (.int xq), .val (.int xf), .val (.int w1), .val (.int w2), .val (.int mv), .val (.int ap), .val (.int de), .val (.int v41), .val (.ref b9), .unset, .unset] [(.int w1), (.long (ap.toInt64))])) _
            refine XS.i2l X90.here hx rfl (hb hby at_142) rfl ?_
            show Steps p.tables e below (T90.setTop (mkF m 143 #[.val (.int xw1), .val (.int xw2), .val (.int xq), .val (.int xf), .val (.int w1), .val (.int w2), .val (.int mv), .val (.int ap), .val (.int de), .val (.int v41), .val (.ref b9), .unset, .unset] [(.long (w1.toInt64)), (.long (ap.toInt64))])) _
            refine XS.ladd X90.here hx rfl (hb hby at_143) rfl ?_
            show Steps p.tables e below (T90.setTop (mkF m 144 #[.val (.int xw1), .val (.int xw2), .val (.int xq), .val (.int xf), .val (.int w1), .val (.int w2), .val (.int mv), .val (.int ap), .val (.int de), .val (.int v41), .val (.ref b9), .unset, .unset] [(.long ((ap.toInt64) + (w1.toInt64)))])) _
            refine XS.iload X90.here hx rfl (hb hby at_144) rfl ?_
            show Steps p.tables e below (T90.setTop (mkF m 146 #[.val (.int xw1), .val (.int xw2), .val (.int xq), .val (.int xf), .val (.int w1), .val (.int w2), .val (.int mv), .val (.int ap), .val (.int de), .val (.int v41), .val (.ref b9), .unset, .unset] [(.int w2), (.long ((ap.toInt64) + (w1.toInt64)))])) _
            refine XS.i2l X90.here hx rfl (hb hby at_146) rfl ?_
            show Steps p.tables e below (T90.setTop (mkF m 147 #[.val (.int xw1), .val (.int xw2), .val (.int xq), .val (.int xf), .val (.int w1), .val (.int w2), .val (.int mv), .val (.int ap), .val (.int de), .val (.int v41), .val (.ref b9), .unset, .unset] [(.long (w2.toInt64)), (.long ((ap.toInt64) + (w1.toInt64)))])) _
            refine XS.ladd X90.here hx rfl (hb hby at_147) rfl ?_
            show Steps p.tables e below (T90.setTop (mkF m 148 #[.val (.int xw1), .val (.int xw2), .val (.int xq), .val (.int xf), .val (.int w1), .val (.int w2), .val (.int mv), .val (.int ap), .val (.int de), .val (.int v41), .val (.ref b9), .unset, .unset] [(.long (((ap.toInt64) + (w1.toInt64)) + (w2.toInt64)))])) _
            refine XS.iload X90.here hx rfl (hb hby at_148) rfl ?_
            show Steps p.tables e below (T90.setTop (mkF m 150 #[.val (.int xw1), .val (.int xw2), .val (.int xq), .val (.int xf), .val (.int w1), .val (.int w2), .val (.int mv), .val (.int ap), .val (.int de), .val (.int v41), .val (.ref b9), .unset, .unset] [(.int de), (.long (((ap.toInt64) + (w1.toInt64)) + (w2.toInt64)))])) _
            refine XS.i2l X90.here hx rfl (hb hby at_150) rfl ?_
            show Steps p.tables e below (T90.setTop (mkF m 151 #[.val (.int xw1), .val (.int xw2), .val (.int xq), .val (.int xf), .val (.int w1), .val (.int w2), .val (.int mv), .val (.int ap), .val (.int de), .val (.int v41), .val (.ref b9), .unset, .unset] [(.long (de.toInt64)), (.long (((ap.toInt64) + (w1.toInt64)) + (w2.toInt64)))])) _
            refine XS.ladd X90.here hx rfl (hb hby at_151) rfl ?_
            show Steps p.tables e below (T90.setTop (mkF m 152 #[.val (.int xw1), .val (.int xw2), .val (.int xq), .val (.int xf), .val (.int w1), .val (.int w2), .val (.int mv), .val (.int ap), .val (.int de), .val (.int v41), .val (.ref b9), .unset, .unset] [(.long ((((ap.toInt64) + (w1.toInt64)) + (w2.toInt64)) + (de.toInt64)))])) _
            refine XS.iload X90.here hx rfl (hb hby at_152) rfl ?_
            show Steps p.tables e below (T90.setTop (mkF m 154 #[.val (.int xw1), .val (.int xw2), .val (.int xq), .val (.int xf), .val (.int w1), .val (.int w2), .val (.int mv), .val (.int ap), .val (.int de), .val (.int v41), .val (.ref b9), .unset, .unset] [(.int mv), (.long ((((ap.toInt64) + (w1.toInt64)) + (w2.toInt64)) + (de.toInt64)))])) _
            refine XS.i2l X90.here hx rfl (hb hby at_154) rfl ?_
            show Steps p.tables e below (T90.setTop (mkF m 155 #[.val (.int xw1), .val (.int xw2), .val (.int xq), .val (.int xf), .val (.int w1), .val (.int w2), .val (.int mv), .val (.int ap), .val (.int de), .val (.int v41), .val (.ref b9), .unset, .unset] [(.long (mv.toInt64)), (.long ((((ap.toInt64) + (w1.toInt64)) + (w2.toInt64)) + (de.toInt64)))])) _
            refine XS.ladd X90.here hx rfl (hb hby at_155) rfl ?_
            show Steps p.tables e below (T90.setTop (mkF m 156 #[.val (.int xw1), .val (.int xw2), .val (.int xq), .val (.int xf), .val (.int w1), .val (.int w2), .val (.int mv), .val (.int ap), .val (.int de), .val (.int v41), .val (.ref b9), .unset, .unset] [(.long (((((ap.toInt64) + (w1.toInt64)) + (w2.toInt64)) + (de.toInt64)) + (mv.toInt64)))])) _
            refine XS.lstore X90.here hx rfl (hb hby at_156) rfl (l' := #[.val (.int xw1), .val (.int xw2), .val (.int xq), .val (.int xf), .val (.int w1), .val (.int w2), .val (.int mv), .val (.int ap), .val (.int de), .val (.int v41), .val (.ref b9), .val (.long (((((ap.toInt64) + (w1.toInt64)) + (w2.toInt64)) + (de.toInt64)) + (mv.toInt64))), .second]) rfl ?_
            show Steps p.tables e below (T90.setTop (mkF m 158 #[.val (.int xw1), .val (.int xw2), .val (.int xq), .val (.int xf), .val (.int w1), .val (.int w2), .val (.int mv), .val (.int ap), .val (.int de), .val (.int v41), .val (.ref b9), .val (.long (((((ap.toInt64) + (w1.toInt64)) + (w2.toInt64)) + (de.toInt64)) + (mv.toInt64))), .second] [])) _
            exact k
          obtain ⟨ex, hex⟩ : ∃ z : Int64, z = (((((ap.toInt64) + (w1.toInt64)) + (w2.toInt64)) + (de.toInt64)) + (mv.toInt64)) := ⟨_, rfl⟩
          rw [← hex] at pre92
          have pre93 : ∀ t, Steps p.tables e below (T90.setTop (mkF m 160 #[.val (.int xw1), .val (.int xw2), .val (.int xq), .val (.int xf), .val (.int w1), .val (.int w2), .val (.int mv), .val (.int ap), .val (.int de), .val (.int v41), .val (.ref b9), .val (.long ex), .second] [(.ref b9)])) t → Steps p.tables e below (s₁.setTop (entryFrame m #[(.int xw1), (.int xw2), (.int xq), (.int xf)] maxLocals)) t := by
            intro t k
            refine pre92 t ?_
            refine XS.aload X90.here hx rfl (hb hby at_158) rfl rfl ?_
            show Steps p.tables e below (T90.setTop (mkF m 160 #[.val (.int xw1), .val (.int xw2), .val (.int xq), .val (.int xf), .val (.int w1), .val (.int w2), .val (.int mv), .val (.int ap), .val (.int de), .val (.int v41), .val (.ref b9), .val (.long ex), .second] [(.ref b9)])) _
            exact k
          obtain ⟨cq94, kq94, q94a, q94b, q94c⟩ := isOf hZ rfl f90_0
          obtain ⟨_, _, ⟨T94, L94, k94, n94⟩, -, X94, ⟨Lc94, hQ94, l94, y94, z94⟩, st94⟩ := X90.virtualBack hx (y := (⟨"com/example/suitor/suitor/SolverStatistics", "getSteps", "()J"⟩ : MethodName)) (z := (⟨"com/example/suitor/suitor/SolverStatistics", "getSteps", "()J"⟩ : MethodName)) hown (mvT hZ (hw _ (List.mem_of_getElem? (i := 10) rfl))) (mvT hZ (hw _ (List.mem_of_getElem? (i := 11) rfl))) (notFace_of_selects (args := #[]) (mvT hZ (hw _ (List.mem_of_getElem? (i := 13) rfl)))) (mvT hZ (hw _ (List.mem_of_getElem? (i := 13) rfl))) (mvT hZ (hw _ (List.mem_of_getElem? (i := 12) rfl))) (by decide) (backOf (W := 0) (rm_steps l Z a0 hw [] b9 ((0 : Int64) + (1 : Int64)) (((0 : Int64) + (w1.toInt64)) + (w2.toInt64)) (0 : Int64) ((0 : Int64) + (mv.toInt64)) T90.heap n0 zz90 f90_1 f90_2 f90_3 f90_4) hZ (hw _ (List.mem_of_getElem? (i := 14) rfl)) (hw _ (List.mem_of_getElem? (i := 3) rfl)) (by decide) (by decide)) q94a q94c (g := (mkF m 160 #[.val (.int xw1), .val (.int xw2), .val (.int xq), .val (.int xf), .val (.int w1), .val (.int w2), .val (.int mv), .val (.int ap), .val (.int de), .val (.int v41), .val (.ref b9), .val (.long ex), .second] [(.ref b9)])) rfl (by rw [hml]; rfl) (Steps.refl _) (argsL := []) (rest := []) (lenOf pd1 rfl) rfl (by show 2 * 0 + _ ≤ _; exact Nat.le_of_eq rfl) (hb hby at_160) (fun _ _ => ⟨rfl, rfl, (by decide : 1 + 0 ≤ _), (by decide : 5 + 0 ≤ _)⟩)
          dsimp only [Pt.U, Pt.locs, Pt.cells, Pt.slots] at X94 l94 y94 z94 st94 hQ94
          subst l94 y94 z94
          obtain ⟨rfl, M94, e94⟩ := hQ94
          have N94 := Fr.app N90 M94
          have pre95 : ∀ t, Steps p.tables e below (T94.setTop (mkF m 163 #[.val (.int xw1), .val (.int xw2), .val (.int xq), .val (.int xf), .val (.int w1), .val (.int w2), .val (.int mv), .val (.int ap), .val (.int de), .val (.int v41), .val (.ref b9), .val (.long ex), .second] [(.long (((((0 : Int64) + (1 : Int64)) + (((0 : Int64) + (w1.toInt64)) + (w2.toInt64))) + (0 : Int64)) + ((0 : Int64) + (mv.toInt64))))])) t → Steps p.tables e below (s₁.setTop (entryFrame m #[(.int xw1), (.int xw2), (.int xq), (.int xf)] maxLocals)) t := fun t k => pre93 t (st94.trans k)
          have pre96 : ∀ t, Steps p.tables e below (T94.setTop (mkF m 174 #[.val (.int xw1), .val (.int xw2), .val (.int xq), .val (.int xf), .val (.int w1), .val (.int w2), .val (.int mv), .val (.int ap), .val (.int de), .val (.int v41), .val (.ref b9), .val (.long ex), .second] [(.int (1 : Int32))])) t → Steps p.tables e below (s₁.setTop (entryFrame m #[(.int xw1), (.int xw2), (.int xq), (.int xf)] maxLocals)) t := by
            intro t k
            refine pre95 t ?_
            refine XS.lload X94.here hx rfl (hb hby at_163) rfl ?_
            show Steps p.tables e below (T94.setTop (mkF m 165 #[.val (.int xw1), .val (.int xw2), .val (.int xq), .val (.int xf), .val (.int w1), .val (.int w2), .val (.int mv), .val (.int ap), .val (.int de), .val (.int v41), .val (.ref b9), .val (.long ex), .second] [(.long ex), (.long (((((0 : Int64) + (1 : Int64)) + (((0 : Int64) + (w1.toInt64)) + (w2.toInt64))) + (0 : Int64)) + ((0 : Int64) + (mv.toInt64))))])) _
            refine XS.lcmp X94.here hx rfl (hb hby at_165) rfl ?_
            show Steps p.tables e below (T94.setTop (mkF m 166 #[.val (.int xw1), .val (.int xw2), .val (.int xq), .val (.int xf), .val (.int w1), .val (.int w2), .val (.int mv), .val (.int ap), .val (.int de), .val (.int v41), .val (.ref b9), .val (.long ex), .second] [(.int (lcmpW (((((0 : Int64) + (1 : Int64)) + (((0 : Int64) + (w1.toInt64)) + (w2.toInt64))) + (0 : Int64)) + ((0 : Int64) + (mv.toInt64))) ex))])) _
            refine XS.ifNo X94.here hx rfl (hb hby at_166) rfl ((if0 _ _).trans (teq ((lw_eq _ _).mpr (show (((((0 : Int64) + (1 : Int64)) + (((0 : Int64) + (w1.toInt64)) + (w2.toInt64))) + (0 : Int64)) + ((0 : Int64) + (mv.toInt64))) = ex from by rw [hex]; exact own_2 w1 w2 mv xf ap de hap hde hc75 hc88 hc105))).2) ?_
            show Steps p.tables e below (T94.setTop (mkF m 169 #[.val (.int xw1), .val (.int xw2), .val (.int xq), .val (.int xf), .val (.int w1), .val (.int w2), .val (.int mv), .val (.int ap), .val (.int de), .val (.int v41), .val (.ref b9), .val (.long ex), .second] [])) _
            refine XS.iconst X94.here hx rfl (hb hby at_169) ?_
            show Steps p.tables e below (T94.setTop (mkF m 170 #[.val (.int xw1), .val (.int xw2), .val (.int xq), .val (.int xf), .val (.int w1), .val (.int w2), .val (.int mv), .val (.int ap), .val (.int de), .val (.int v41), .val (.ref b9), .val (.long ex), .second] [(.int (1 : Int32))])) _
            refine XS.goto X94.here hx rfl (pc0 := 170) (pc' := 174) rfl (hb hby at_170) (by decide) (by decide) ?_
            show Steps p.tables e below (T94.setTop (mkF m 174 #[.val (.int xw1), .val (.int xw2), .val (.int xq), .val (.int xf), .val (.int w1), .val (.int w2), .val (.int mv), .val (.int ap), .val (.int de), .val (.int v41), .val (.ref b9), .val (.long ex), .second] [(.int (1 : Int32))])) _
            exact k
          obtain ⟨fs, hr, hrun, hended, hW, hsame⟩ := X94.leave (v := some (.int (1 : Int32))) (fun h => by rw [Bd.returns] at h; cases h)
          refine ⟨_, _, pre96 _ ?_, hrun, hended, _, _, rfl, ?_, ⟨_, rfl⟩, hW, hsame.mono (by decide) (by decide)⟩
          · exact retN X94 hx (t := .boolean) Bd.returns (by simp) (hb hby at_174) hr
          · show Q_rm0 Z xw1 xw2 xq xf h0 n0 _ T94.heap _
            rw [e94]
            exact ⟨rfl, N94⟩
        · have pre97 : ∀ t, Steps p.tables e below (T82.setTop (mkF m 120 #[.val (.int xw1), .val (.int xw2), .val (.int xq), .val (.int xf), .val (.int w1), .val (.int w2), .val (.int mv), .val (.int ap), .val (.int de), .val (.int v41), .val (.ref b9), .unset, .unset] [(.ref b9)])) t → Steps p.tables e below (s₁.setTop (entryFrame m #[(.int xw1), (.int xw2), (.int xq), (.int xf)] maxLocals)) t := by
            intro t k
            refine pre85 t ?_
            refine XS.ifNo X82.here hx rfl (hb hby at_115) rfl ((if0 _ _).trans (feq hc115).1) ?_
            show Steps p.tables e below (T82.setTop (mkF m 118 #[.val (.int xw1), .val (.int xw2), .val (.int xq), .val (.int xf), .val (.int w1), .val (.int w2), .val (.int mv), .val (.int ap), .val (.int de), .val (.int v41), .val (.ref b9), .unset, .unset] [])) _
            refine XS.aload X82.here hx rfl (hb hby at_118) rfl rfl ?_
            show Steps p.tables e below (T82.setTop (mkF m 120 #[.val (.int xw1), .val (.int xw2), .val (.int xq), .val (.int xf), .val (.int w1), .val (.int w2), .val (.int mv), .val (.int ap), .val (.int de), .val (.int v41), .val (.ref b9), .unset, .unset] [(.ref b9)])) _
            exact k
          obtain ⟨cq98, kq98, q98a, q98b, q98c⟩ := isOf hZ rfl f82_0
          obtain ⟨_, _, ⟨T98, L98, k98, n98⟩, -, X98, ⟨Lc98, hQ98, l98, y98, z98⟩, st98⟩ := X82.virtualBack hx (y := (⟨"com/example/suitor/suitor/SolverStatistics", "countPass", "()V"⟩ : MethodName)) (z := (⟨"com/example/suitor/suitor/SolverStatistics", "countPass", "()V"⟩ : MethodName)) hown (mvT hZ (hw _ (List.mem_of_getElem? (i := 38) rfl))) (mvT hZ (hw _ (List.mem_of_getElem? (i := 39) rfl))) (notFace_of_selects (args := #[]) (mvT hZ (hw _ (List.mem_of_getElem? (i := 41) rfl)))) (mvT hZ (hw _ (List.mem_of_getElem? (i := 41) rfl))) (mvT hZ (hw _ (List.mem_of_getElem? (i := 40) rfl))) (by decide) (backOf (W := 0) (rm_countPass l Z a0 hw [] b9 ((0 : Int64) + (1 : Int64)) ((0 : Int64) + (w1.toInt64)) (0 : Int64) (0 : Int64) (0 : Int64) T82.heap n0 zz82 f82_0 (g_b9) f82_1 f82_2 f82_3 f82_4 f82_5) hZ (hw _ (List.mem_of_getElem? (i := 42) rfl)) (hw _ (List.mem_of_getElem? (i := 3) rfl)) (by decide) (by decide)) q98a q98c (g := (mkF m 120 #[.val (.int xw1), .val (.int xw2), .val (.int xq), .val (.int xf), .val (.int w1), .val (.int w2), .val (.int mv), .val (.int ap), .val (.int de), .val (.int v41), .val (.ref b9), .unset, .unset] [(.ref b9)])) rfl (by rw [hml]; rfl) (Steps.refl _) (argsL := []) (rest := []) (lenOf pd0 rfl) rfl (by show 2 * 0 + _ ≤ _; exact Nat.le_of_eq rfl) (hb hby at_120) (fun _ _ => ⟨rfl, rfl, (by decide : 1 + 0 ≤ _), (by decide : 5 + 0 ≤ _)⟩)
          dsimp only [Pt.U, Pt.locs, Pt.cells, Pt.slots] at X98 l98 y98 z98 st98 hQ98
          subst l98 y98 z98
          obtain ⟨rfl, M98, kp98, f98_0, f98_1, f98_2, f98_3, f98_4, f98_5⟩ := hQ98
          have K98 : Keep h0 T98.heap ([] : List Addr) := K82.trans kp98 (allS (P := fun x => x ∈ ([] : List Addr) ∨ h0.size ≤ x) (Or.inr sz_b9) all0)
          have zz98 : n0 ≤ T98.heap.size := Nat.le_trans Z0 K98.1
          have N98 := Fr.app N82 M98
          have pre99 : ∀ t, Steps p.tables e below (T98.setTop (mkF m 123 #[.val (.int xw1), .val (.int xw2), .val (.int xq), .val (.int xf), .val (.int w1), .val (.int w2), .val (.int mv), .val (.int ap), .val (.int de), .val (.int v41), .val (.ref b9), .unset, .unset] [])) t → Steps p.tables e below (s₁.setTop (entryFrame m #[(.int xw1), (.int xw2), (.int xq), (.int xf)] maxLocals)) t := fun t k => pre97 t (st98.trans k)
          have pre100 : ∀ t, Steps p.tables e below (T98.setTop (mkF m 127 #[.val (.int xw1), .val (.int xw2), .val (.int xq), .val (.int xf), .val (.int w1), .val (.int w2), .val (.int mv), .val (.int ap), .val (.int de), .val (.int v41), .val (.ref b9), .unset, .unset] [(.int mv), (.ref b9)])) t → Steps p.tables e below (s₁.setTop (entryFrame m #[(.int xw1), (.int xw2), (.int xq), (.int xf)] maxLocals)) t := by
            intro t k
            refine pre99 t ?_
            refine XS.aload X98.here hx rfl (hb hby at_123) rfl rfl ?_
            show Steps p.tables e below (T98.setTop (mkF m 125 #[.val (.int xw1), .val (.int xw2), .val (.int xq), .val (.int xf), .val (.int w1), .val (.int w2), .val (.int mv), .val (.int ap), .val (.int de), .val (.int v41), .val (.ref b9), .unset, .unset] [(.ref b9)])) _
            refine XS.iload X98.here hx rfl (hb hby at_125) rfl ?_
            show Steps p.tables e below (T98.setTop (mkF m 127 #[.val (.int xw1), .val (.int xw2), .val (.int xq), .val (.int xf), .val (.int w1), .val (.int w2), .val (.int mv), .val (.int ap), .val (.int de), .val (.int v41), .val (.ref b9), .unset, .unset] [(.int mv), (.ref b9)])) _
            exact k
          obtain ⟨cq101, kq101, q101a, q101b, q101c⟩ := isOf hZ rfl f98_0
          obtain ⟨_, _, ⟨T101, L101, k101, n101⟩, -, X101, ⟨Lc101, hQ101, l101, y101, z101⟩, st101⟩ := X98.virtualBack hx (y := (⟨"com/example/suitor/suitor/SolverStatistics", "countQueueMoves", "(I)V"⟩ : MethodName)) (z := (⟨"com/example/suitor/suitor/SolverStatistics", "countQueueMoves", "(I)V"⟩ : MethodName)) hown (mvT hZ (hw _ (List.mem_of_getElem? (i := 33) rfl))) (mvT hZ (hw _ (List.mem_of_getElem? (i := 34) rfl))) (notFace_of_selects (args := #[]) (mvT hZ (hw _ (List.mem_of_getElem? (i := 36) rfl)))) (mvT hZ (hw _ (List.mem_of_getElem? (i := 36) rfl))) (mvT hZ (hw _ (List.mem_of_getElem? (i := 35) rfl))) (by decide) (backOf (W := 0) (rm_countQueueMoves l Z a0 hw [] b9 mv ((0 : Int64) + (1 : Int64)) ((0 : Int64) + (w1.toInt64)) (0 : Int64) (0 : Int64) ((0 : Int64) + (1 : Int64)) T98.heap n0 zz98 f98_0 (g_b9) f98_1 f98_2 f98_3 f98_4 f98_5) hZ (hw _ (List.mem_of_getElem? (i := 37) rfl)) (hw _ (List.mem_of_getElem? (i := 3) rfl)) (by decide) (by decide)) q101a q101c (g := (mkF m 127 #[.val (.int xw1), .val (.int xw2), .val (.int xq), .val (.int xf), .val (.int w1), .val (.int w2), .val (.int mv), .val (.int ap), .val (.int de), .val (.int v41), .val (.ref b9), .unset, .unset] [(.int mv), (.ref b9)])) rfl (by rw [hml]; rfl) (Steps.refl _) (argsL := [(.int mv)]) (rest := []) (lenOf pd2 rfl) rfl (by show 2 * 0 + _ ≤ _; exact Nat.le_of_eq rfl) (hb hby at_127) (fun _ _ => ⟨rfl, rfl, (by decide : 1 + 0 ≤ _), (by decide : 5 + 0 ≤ _)⟩)
          dsimp only [Pt.U, Pt.locs, Pt.cells, Pt.slots] at X101 l101 y101 z101 st101 hQ101
          subst l101 y101 z101
          obtain ⟨rfl, M101, kp101, f101_0, f101_1, f101_2, f101_3, f101_4, f101_5⟩ := hQ101
          have K101 : Keep h0 T101.heap ([] : List Addr) := K98.trans kp101 (allS (P := fun x => x ∈ ([] : List Addr) ∨ h0.size ≤ x) (Or.inr sz_b9) all0)
          have zz101 : n0 ≤ T101.heap.size := Nat.le_trans Z0 K101.1
          have N101 := Fr.app N98 M101
          have pre102 : ∀ t, Steps p.tables e below (T101.setTop (mkF m 130 #[.val (.int xw1), .val (.int xw2), .val (.int xq), .val (.int xf), .val (.int w1), .val (.int w2), .val (.int mv), .val (.int ap), .val (.int de), .val (.int v41), .val (.ref b9), .unset, .unset] [])) t → Steps p.tables e below (s₁.setTop (entryFrame m #[(.int xw1), (.int xw2), (.int xq), (.int xf)] maxLocals)) t := fun t k => pre100 t (st101.trans k)
          have pre103 : ∀ t, Steps p.tables e below (T101.setTop (mkF m 134 #[.val (.int xw1), .val (.int xw2), .val (.int xq), .val (.int xf), .val (.int w1), .val (.int w2), .val (.int mv), .val (.int ap), .val (.int de), .val (.int v41), .val (.ref b9), .unset, .unset] [(.int w2), (.ref b9)])) t → Steps p.tables e below (s₁.setTop (entryFrame m #[(.int xw1), (.int xw2), (.int xq), (.int xf)] maxLocals)) t := by
            intro t k
            refine pre102 t ?_
            refine XS.aload X101.here hx rfl (hb hby at_130) rfl rfl ?_
            show Steps p.tables e below (T101.setTop (mkF m 132 #[.val (.int xw1), .val (.int xw2), .val (.int xq), .val (.int xf), .val (.int w1), .val (.int w2), .val (.int mv), .val (.int ap), .val (.int de), .val (.int v41), .val (.ref b9), .unset, .unset] [(.ref b9)])) _
            refine XS.iload X101.here hx rfl (hb hby at_132) rfl ?_
            show Steps p.tables e below (T101.setTop (mkF m 134 #[.val (.int xw1), .val (.int xw2), .val (.int xq), .val (.int xf), .val (.int w1), .val (.int w2), .val (.int mv), .val (.int ap), .val (.int de), .val (.int v41), .val (.ref b9), .unset, .unset] [(.int w2), (.ref b9)])) _
            exact k
          obtain ⟨cq104, kq104, q104a, q104b, q104c⟩ := isOf hZ rfl f101_0
          obtain ⟨_, _, ⟨T104, L104, k104, n104⟩, -, X104, ⟨Lc104, hQ104, l104, y104, z104⟩, st104⟩ := X101.virtualBack hx (y := (⟨"com/example/suitor/suitor/SolverStatistics", "countWalkSteps", "(I)V"⟩ : MethodName)) (z := (⟨"com/example/suitor/suitor/SolverStatistics", "countWalkSteps", "(I)V"⟩ : MethodName)) hown (mvT hZ (hw _ (List.mem_of_getElem? (i := 28) rfl))) (mvT hZ (hw _ (List.mem_of_getElem? (i := 29) rfl))) (notFace_of_selects (args := #[]) (mvT hZ (hw _ (List.mem_of_getElem? (i := 31) rfl)))) (mvT hZ (hw _ (List.mem_of_getElem? (i := 31) rfl))) (mvT hZ (hw _ (List.mem_of_getElem? (i := 30) rfl))) (by decide) (backOf (W := 0) (rm_countWalkSteps l Z a0 hw [] b9 w2 ((0 : Int64) + (1 : Int64)) ((0 : Int64) + (w1.toInt64)) (0 : Int64) ((0 : Int64) + (mv.toInt64)) ((0 : Int64) + (1 : Int64)) T101.heap n0 zz101 f101_0 (g_b9) f101_1 f101_2 f101_3 f101_4 f101_5) hZ (hw _ (List.mem_of_getElem? (i := 32) rfl)) (hw _ (List.mem_of_getElem? (i := 3) rfl)) (by decide) (by decide)) q104a q104c (g := (mkF m 134 #[.val (.int xw1), .val (.int xw2), .val (.int xq), .val (.int xf), .val (.int w1), .val (.int w2), .val (.int mv), .val (.int ap), .val (.int de), .val (.int v41), .val (.ref b9), .unset, .unset] [(.int w2), (.ref b9)])) rfl (by rw [hml]; rfl) (Steps.refl _) (argsL := [(.int w2)]) (rest := []) (lenOf pd2 rfl) rfl (by show 2 * 0 + _ ≤ _; exact Nat.le_of_eq rfl) (hb hby at_134) (fun _ _ => ⟨rfl, rfl, (by decide : 1 + 0 ≤ _), (by decide : 5 + 0 ≤ _)⟩)
          dsimp only [Pt.U, Pt.locs, Pt.cells, Pt.slots] at X104 l104 y104 z104 st104 hQ104
          subst l104 y104 z104
          obtain ⟨rfl, M104, kp104, f104_0, f104_1, f104_2, f104_3, f104_4, f104_5⟩ := hQ104
          have K104 : Keep h0 T104.heap ([] : List Addr) := K101.trans kp104 (allS (P := fun x => x ∈ ([] : List Addr) ∨ h0.size ≤ x) (Or.inr sz_b9) all0)
          have zz104 : n0 ≤ T104.heap.size := Nat.le_trans Z0 K104.1
          have N104 := Fr.app N101 M104
          have pre105 : ∀ t, Steps p.tables e below (T104.setTop (mkF m 137 #[.val (.int xw1), .val (.int xw2), .val (.int xq), .val (.int xf), .val (.int w1), .val (.int w2), .val (.int mv), .val (.int ap), .val (.int de), .val (.int v41), .val (.ref b9), .unset, .unset] [])) t → Steps p.tables e below (s₁.setTop (entryFrame m #[(.int xw1), (.int xw2), (.int xq), (.int xf)] maxLocals)) t := fun t k => pre103 t (st104.trans k)
          have pre106 : ∀ t, Steps p.tables e below (T104.setTop (mkF m 158 #[.val (.int xw1), .val (.int xw2), .val (.int xq), .val (.int xf), .val (.int w1), .val (.int w2), .val (.int mv), .val (.int ap), .val (.int de), .val (.int v41), .val (.ref b9), .val (.long (((((ap.toInt64) + (w1.toInt64)) + (w2.toInt64)) + (de.toInt64)) + (mv.toInt64))), .second] [])) t → Steps p.tables e below (s₁.setTop (entryFrame m #[(.int xw1), (.int xw2), (.int xq), (.int xf)] maxLocals)) t := by
            intro t k
            refine pre105 t ?_
            refine XS.iload X104.here hx rfl (hb hby at_137) rfl ?_
            show Steps p.tables e below (T104.setTop (mkF m 139 #[.val (.int xw1), .val (.int xw2), .val (.int xq), .val (.int xf), .val (.int w1), .val (.int w2), .val (.int mv), .val (.int ap), .val (.int de), .val (.int v41), .val (.ref b9), .unset, .unset] [(.int ap)])) _
            refine XS.i2l X104.here hx rfl (hb hby at_139) rfl ?_
            show Steps p.tables e below (T104.setTop (mkF m 140 #[.val (.int xw1), .val (.int xw2), .val (.int xq), .val (.int xf), .val (.int w1), .val (.int w2), .val (.int mv), .val (.int ap), .val (.int de), .val (.int v41), .val (.ref b9), .unset, .unset] [(.long (ap.toInt64))])) _
            refine XS.iload X104.here hx rfl (hb hby at_140) rfl ?_
            show Steps p.tables e below (T104.setTop (mkF m 142 #[.val (.int xw1), .val (.int xw2), .val (.int xq), .val (.int xf), .val (.int w1), .val (.int w2), .val (.int mv), .val (.int ap), .val (.int de), .val (.int v41), .val (.ref b9), .unset, .unset] [(.int w1), (.long (ap.toInt64))])) _
            refine XS.i2l X104.here hx rfl (hb hby at_142) rfl ?_
            show Steps p.tables e below (T104.setTop (mkF m 143 #[.val (.int xw1), .val (.int xw2), .val (.int xq), .val (.int xf), .val (.int w1), .val (.int w2), .val (.int mv), .val (.int ap), .val (.int de), .val (.int v41), .val (.ref b9), .unset, .unset] [(.long (w1.toInt64)), (.long (ap.toInt64))])) _
            refine XS.ladd X104.here hx rfl (hb hby at_143) rfl ?_
            show Steps p.tables e below (T104.setTop (mkF m 144 #[.val (.int xw1), .val (.int xw2), .val (.int xq), .val (.int xf), .val (.int w1), .val (.int w2), .val (.int mv), .val (.int ap), .val (.int de), .val (.int v41), .val (.ref b9), .unset, .unset] [(.long ((ap.toInt64) + (w1.toInt64)))])) _
            refine XS.iload X104.here hx rfl (hb hby at_144) rfl ?_
            show Steps p.tables e below (T104.setTop (mkF m 146 #[.val (.int xw1), .val (.int xw2), .val (.int xq), .val (.int xf), .val (.int w1), .val (.int w2), .val (.int mv), .val (.int ap), .val (.int de), .val (.int v41), .val (.ref b9), .unset, .unset] [(.int w2), (.long ((ap.toInt64) + (w1.toInt64)))])) _
            refine XS.i2l X104.here hx rfl (hb hby at_146) rfl ?_
            show Steps p.tables e below (T104.setTop (mkF m 147 #[.val (.int xw1), .val (.int xw2), .val (.int xq), .val (.int xf), .val (.int w1), .val (.int w2), .val (.int mv), .val (.int ap), .val (.int de), .val (.int v41), .val (.ref b9), .unset, .unset] [(.long (w2.toInt64)), (.long ((ap.toInt64) + (w1.toInt64)))])) _
            refine XS.ladd X104.here hx rfl (hb hby at_147) rfl ?_
            show Steps p.tables e below (T104.setTop (mkF m 148 #[.val (.int xw1), .val (.int xw2), .val (.int xq), .val (.int xf), .val (.int w1), .val (.int w2), .val (.int mv), .val (.int ap), .val (.int de), .val (.int v41), .val (.ref b9), .unset, .unset] [(.long (((ap.toInt64) + (w1.toInt64)) + (w2.toInt64)))])) _
            refine XS.iload X104.here hx rfl (hb hby at_148) rfl ?_
            show Steps p.tables e below (T104.setTop (mkF m 150 #[.val (.int xw1), .val (.int xw2), .val (.int xq), .val (.int xf), .val (.int w1), .val (.int w2), .val (.int mv), .val (.int ap), .val (.int de), .val (.int v41), .val (.ref b9), .unset, .unset] [(.int de), (.long (((ap.toInt64) + (w1.toInt64)) + (w2.toInt64)))])) _
            refine XS.i2l X104.here hx rfl (hb hby at_150) rfl ?_
            show Steps p.tables e below (T104.setTop (mkF m 151 #[.val (.int xw1), .val (.int xw2), .val (.int xq), .val (.int xf), .val (.int w1), .val (.int w2), .val (.int mv), .val (.int ap), .val (.int de), .val (.int v41), .val (.ref b9), .unset, .unset] [(.long (de.toInt64)), (.long (((ap.toInt64) + (w1.toInt64)) + (w2.toInt64)))])) _
            refine XS.ladd X104.here hx rfl (hb hby at_151) rfl ?_
            show Steps p.tables e below (T104.setTop (mkF m 152 #[.val (.int xw1), .val (.int xw2), .val (.int xq), .val (.int xf), .val (.int w1), .val (.int w2), .val (.int mv), .val (.int ap), .val (.int de), .val (.int v41), .val (.ref b9), .unset, .unset] [(.long ((((ap.toInt64) + (w1.toInt64)) + (w2.toInt64)) + (de.toInt64)))])) _
            refine XS.iload X104.here hx rfl (hb hby at_152) rfl ?_
            show Steps p.tables e below (T104.setTop (mkF m 154 #[.val (.int xw1), .val (.int xw2), .val (.int xq), .val (.int xf), .val (.int w1), .val (.int w2), .val (.int mv), .val (.int ap), .val (.int de), .val (.int v41), .val (.ref b9), .unset, .unset] [(.int mv), (.long ((((ap.toInt64) + (w1.toInt64)) + (w2.toInt64)) + (de.toInt64)))])) _
            refine XS.i2l X104.here hx rfl (hb hby at_154) rfl ?_
            show Steps p.tables e below (T104.setTop (mkF m 155 #[.val (.int xw1), .val (.int xw2), .val (.int xq), .val (.int xf), .val (.int w1), .val (.int w2), .val (.int mv), .val (.int ap), .val (.int de), .val (.int v41), .val (.ref b9), .unset, .unset] [(.long (mv.toInt64)), (.long ((((ap.toInt64) + (w1.toInt64)) + (w2.toInt64)) + (de.toInt64)))])) _
            refine XS.ladd X104.here hx rfl (hb hby at_155) rfl ?_
            show Steps p.tables e below (T104.setTop (mkF m 156 #[.val (.int xw1), .val (.int xw2), .val (.int xq), .val (.int xf), .val (.int w1), .val (.int w2), .val (.int mv), .val (.int ap), .val (.int de), .val (.int v41), .val (.ref b9), .unset, .unset] [(.long (((((ap.toInt64) + (w1.toInt64)) + (w2.toInt64)) + (de.toInt64)) + (mv.toInt64)))])) _
            refine XS.lstore X104.here hx rfl (hb hby at_156) rfl (l' := #[.val (.int xw1), .val (.int xw2), .val (.int xq), .val (.int xf), .val (.int w1), .val (.int w2), .val (.int mv), .val (.int ap), .val (.int de), .val (.int v41), .val (.ref b9), .val (.long (((((ap.toInt64) + (w1.toInt64)) + (w2.toInt64)) + (de.toInt64)) + (mv.toInt64))), .second]) rfl ?_
            show Steps p.tables e below (T104.setTop (mkF m 158 #[.val (.int xw1), .val (.int xw2), .val (.int xq), .val (.int xf), .val (.int w1), .val (.int w2), .val (.int mv), .val (.int ap), .val (.int de), .val (.int v41), .val (.ref b9), .val (.long (((((ap.toInt64) + (w1.toInt64)) + (w2.toInt64)) + (de.toInt64)) + (mv.toInt64))), .second] [])) _
            exact k
          obtain ⟨ex, hex⟩ : ∃ z : Int64, z = (((((ap.toInt64) + (w1.toInt64)) + (w2.toInt64)) + (de.toInt64)) + (mv.toInt64)) := ⟨_, rfl⟩
          rw [← hex] at pre106
          have pre107 : ∀ t, Steps p.tables e below (T104.setTop (mkF m 160 #[.val (.int xw1), .val (.int xw2), .val (.int xq), .val (.int xf), .val (.int w1), .val (.int w2), .val (.int mv), .val (.int ap), .val (.int de), .val (.int v41), .val (.ref b9), .val (.long ex), .second] [(.ref b9)])) t → Steps p.tables e below (s₁.setTop (entryFrame m #[(.int xw1), (.int xw2), (.int xq), (.int xf)] maxLocals)) t := by
            intro t k
            refine pre106 t ?_
            refine XS.aload X104.here hx rfl (hb hby at_158) rfl rfl ?_
            show Steps p.tables e below (T104.setTop (mkF m 160 #[.val (.int xw1), .val (.int xw2), .val (.int xq), .val (.int xf), .val (.int w1), .val (.int w2), .val (.int mv), .val (.int ap), .val (.int de), .val (.int v41), .val (.ref b9), .val (.long ex), .second] [(.ref b9)])) _
            exact k
          obtain ⟨cq108, kq108, q108a, q108b, q108c⟩ := isOf hZ rfl f104_0
          obtain ⟨_, _, ⟨T108, L108, k108, n108⟩, -, X108, ⟨Lc108, hQ108, l108, y108, z108⟩, st108⟩ := X104.virtualBack hx (y := (⟨"com/example/suitor/suitor/SolverStatistics", "getSteps", "()J"⟩ : MethodName)) (z := (⟨"com/example/suitor/suitor/SolverStatistics", "getSteps", "()J"⟩ : MethodName)) hown (mvT hZ (hw _ (List.mem_of_getElem? (i := 10) rfl))) (mvT hZ (hw _ (List.mem_of_getElem? (i := 11) rfl))) (notFace_of_selects (args := #[]) (mvT hZ (hw _ (List.mem_of_getElem? (i := 13) rfl)))) (mvT hZ (hw _ (List.mem_of_getElem? (i := 13) rfl))) (mvT hZ (hw _ (List.mem_of_getElem? (i := 12) rfl))) (by decide) (backOf (W := 0) (rm_steps l Z a0 hw [] b9 ((0 : Int64) + (1 : Int64)) (((0 : Int64) + (w1.toInt64)) + (w2.toInt64)) (0 : Int64) ((0 : Int64) + (mv.toInt64)) T104.heap n0 zz104 f104_1 f104_2 f104_3 f104_4) hZ (hw _ (List.mem_of_getElem? (i := 14) rfl)) (hw _ (List.mem_of_getElem? (i := 3) rfl)) (by decide) (by decide)) q108a q108c (g := (mkF m 160 #[.val (.int xw1), .val (.int xw2), .val (.int xq), .val (.int xf), .val (.int w1), .val (.int w2), .val (.int mv), .val (.int ap), .val (.int de), .val (.int v41), .val (.ref b9), .val (.long ex), .second] [(.ref b9)])) rfl (by rw [hml]; rfl) (Steps.refl _) (argsL := []) (rest := []) (lenOf pd1 rfl) rfl (by show 2 * 0 + _ ≤ _; exact Nat.le_of_eq rfl) (hb hby at_160) (fun _ _ => ⟨rfl, rfl, (by decide : 1 + 0 ≤ _), (by decide : 5 + 0 ≤ _)⟩)
          dsimp only [Pt.U, Pt.locs, Pt.cells, Pt.slots] at X108 l108 y108 z108 st108 hQ108
          subst l108 y108 z108
          obtain ⟨rfl, M108, e108⟩ := hQ108
          have N108 := Fr.app N104 M108
          have pre109 : ∀ t, Steps p.tables e below (T108.setTop (mkF m 163 #[.val (.int xw1), .val (.int xw2), .val (.int xq), .val (.int xf), .val (.int w1), .val (.int w2), .val (.int mv), .val (.int ap), .val (.int de), .val (.int v41), .val (.ref b9), .val (.long ex), .second] [(.long (((((0 : Int64) + (1 : Int64)) + (((0 : Int64) + (w1.toInt64)) + (w2.toInt64))) + (0 : Int64)) + ((0 : Int64) + (mv.toInt64))))])) t → Steps p.tables e below (s₁.setTop (entryFrame m #[(.int xw1), (.int xw2), (.int xq), (.int xf)] maxLocals)) t := fun t k => pre107 t (st108.trans k)
          have pre110 : ∀ t, Steps p.tables e below (T108.setTop (mkF m 174 #[.val (.int xw1), .val (.int xw2), .val (.int xq), .val (.int xf), .val (.int w1), .val (.int w2), .val (.int mv), .val (.int ap), .val (.int de), .val (.int v41), .val (.ref b9), .val (.long ex), .second] [(.int (1 : Int32))])) t → Steps p.tables e below (s₁.setTop (entryFrame m #[(.int xw1), (.int xw2), (.int xq), (.int xf)] maxLocals)) t := by
            intro t k
            refine pre109 t ?_
            refine XS.lload X108.here hx rfl (hb hby at_163) rfl ?_
            show Steps p.tables e below (T108.setTop (mkF m 165 #[.val (.int xw1), .val (.int xw2), .val (.int xq), .val (.int xf), .val (.int w1), .val (.int w2), .val (.int mv), .val (.int ap), .val (.int de), .val (.int v41), .val (.ref b9), .val (.long ex), .second] [(.long ex), (.long (((((0 : Int64) + (1 : Int64)) + (((0 : Int64) + (w1.toInt64)) + (w2.toInt64))) + (0 : Int64)) + ((0 : Int64) + (mv.toInt64))))])) _
            refine XS.lcmp X108.here hx rfl (hb hby at_165) rfl ?_
            show Steps p.tables e below (T108.setTop (mkF m 166 #[.val (.int xw1), .val (.int xw2), .val (.int xq), .val (.int xf), .val (.int w1), .val (.int w2), .val (.int mv), .val (.int ap), .val (.int de), .val (.int v41), .val (.ref b9), .val (.long ex), .second] [(.int (lcmpW (((((0 : Int64) + (1 : Int64)) + (((0 : Int64) + (w1.toInt64)) + (w2.toInt64))) + (0 : Int64)) + ((0 : Int64) + (mv.toInt64))) ex))])) _
            refine XS.ifNo X108.here hx rfl (hb hby at_166) rfl ((if0 _ _).trans (teq ((lw_eq _ _).mpr (show (((((0 : Int64) + (1 : Int64)) + (((0 : Int64) + (w1.toInt64)) + (w2.toInt64))) + (0 : Int64)) + ((0 : Int64) + (mv.toInt64))) = ex from by rw [hex]; exact own_2 w1 w2 mv xf ap de hap hde hc75 hc88 hc105))).2) ?_
            show Steps p.tables e below (T108.setTop (mkF m 169 #[.val (.int xw1), .val (.int xw2), .val (.int xq), .val (.int xf), .val (.int w1), .val (.int w2), .val (.int mv), .val (.int ap), .val (.int de), .val (.int v41), .val (.ref b9), .val (.long ex), .second] [])) _
            refine XS.iconst X108.here hx rfl (hb hby at_169) ?_
            show Steps p.tables e below (T108.setTop (mkF m 170 #[.val (.int xw1), .val (.int xw2), .val (.int xq), .val (.int xf), .val (.int w1), .val (.int w2), .val (.int mv), .val (.int ap), .val (.int de), .val (.int v41), .val (.ref b9), .val (.long ex), .second] [(.int (1 : Int32))])) _
            refine XS.goto X108.here hx rfl (pc0 := 170) (pc' := 174) rfl (hb hby at_170) (by decide) (by decide) ?_
            show Steps p.tables e below (T108.setTop (mkF m 174 #[.val (.int xw1), .val (.int xw2), .val (.int xq), .val (.int xf), .val (.int w1), .val (.int w2), .val (.int mv), .val (.int ap), .val (.int de), .val (.int v41), .val (.ref b9), .val (.long ex), .second] [(.int (1 : Int32))])) _
            exact k
          obtain ⟨fs, hr, hrun, hended, hW, hsame⟩ := X108.leave (v := some (.int (1 : Int32))) (fun h => by rw [Bd.returns] at h; cases h)
          refine ⟨_, _, pre110 _ ?_, hrun, hended, _, _, rfl, ?_, ⟨_, rfl⟩, hW, hsame.mono (by decide) (by decide)⟩
          · exact retN X108 hx (t := .boolean) Bd.returns (by simp) (hb hby at_174) hr
          · show Q_rm0 Z xw1 xw2 xq xf h0 n0 _ T108.heap _
            rw [e108]
            exact ⟨rfl, N108⟩
      · have pre111 : ∀ t, Steps p.tables e below (T82.setTop (mkF m 110 #[.val (.int xw1), .val (.int xw2), .val (.int xq), .val (.int xf), .val (.int w1), .val (.int w2), .val (.int mv), .val (.int ap), .val (.int de), .val (.int v41), .val (.ref b9), .unset, .unset] [(.ref b9)])) t → Steps p.tables e below (s₁.setTop (entryFrame m #[(.int xw1), (.int xw2), (.int xq), (.int xf)] maxLocals)) t := by
          intro t k
          refine pre84 t ?_
          refine XS.ifNo X82.here hx rfl (hb hby at_105) rfl ((if0 _ _).trans (feq hc105).1) ?_
          show Steps p.tables e below (T82.setTop (mkF m 108 #[.val (.int xw1), .val (.int xw2), .val (.int xq), .val (.int xf), .val (.int w1), .val (.int w2), .val (.int mv), .val (.int ap), .val (.int de), .val (.int v41), .val (.ref b9), .unset, .unset] [])) _
          refine XS.aload X82.here hx rfl (hb hby at_108) rfl rfl ?_
          show Steps p.tables e below (T82.setTop (mkF m 110 #[.val (.int xw1), .val (.int xw2), .val (.int xq), .val (.int xf), .val (.int w1), .val (.int w2), .val (.int mv), .val (.int ap), .val (.int de), .val (.int v41), .val (.ref b9), .unset, .unset] [(.ref b9)])) _
          exact k
        obtain ⟨cq112, kq112, q112a, q112b, q112c⟩ := isOf hZ rfl f82_0
        obtain ⟨_, _, ⟨T112, L112, k112, n112⟩, -, X112, ⟨Lc112, hQ112, l112, y112, z112⟩, st112⟩ := X82.virtualBack hx (y := (⟨"com/example/suitor/suitor/SolverStatistics", "countDeletion", "()V"⟩ : MethodName)) (z := (⟨"com/example/suitor/suitor/SolverStatistics", "countDeletion", "()V"⟩ : MethodName)) hown (mvT hZ (hw _ (List.mem_of_getElem? (i := 45) rfl))) (mvT hZ (hw _ (List.mem_of_getElem? (i := 46) rfl))) (notFace_of_selects (args := #[]) (mvT hZ (hw _ (List.mem_of_getElem? (i := 48) rfl)))) (mvT hZ (hw _ (List.mem_of_getElem? (i := 48) rfl))) (mvT hZ (hw _ (List.mem_of_getElem? (i := 47) rfl))) (by decide) (backOf (W := 0) (rm_countDeletion l Z a0 hw [] b9 ((0 : Int64) + (1 : Int64)) ((0 : Int64) + (w1.toInt64)) (0 : Int64) (0 : Int64) (0 : Int64) T82.heap n0 zz82 f82_0 (g_b9) f82_1 f82_2 f82_3 f82_4 f82_5) hZ (hw _ (List.mem_of_getElem? (i := 49) rfl)) (hw _ (List.mem_of_getElem? (i := 3) rfl)) (by decide) (by decide)) q112a q112c (g := (mkF m 110 #[.val (.int xw1), .val (.int xw2), .val (.int xq), .val (.int xf), .val (.int w1), .val (.int w2), .val (.int mv), .val (.int ap), .val (.int de), .val (.int v41), .val (.ref b9), .unset, .unset] [(.ref b9)])) rfl (by rw [hml]; rfl) (Steps.refl _) (argsL := []) (rest := []) (lenOf pd0 rfl) rfl (by show 2 * 0 + _ ≤ _; exact Nat.le_of_eq rfl) (hb hby at_110) (fun _ _ => ⟨rfl, rfl, (by decide : 1 + 0 ≤ _), (by decide : 5 + 0 ≤ _)⟩)
        dsimp only [Pt.U, Pt.locs, Pt.cells, Pt.slots] at X112 l112 y112 z112 st112 hQ112
        subst l112 y112 z112
        obtain ⟨rfl, M112, kp112, f112_0, f112_1, f112_2, f112_3, f112_4, f112_5⟩ := hQ112
        have K112 : Keep h0 T112.heap ([] : List Addr) := K82.trans kp112 (allS (P := fun x => x ∈ ([] : List Addr) ∨ h0.size ≤ x) (Or.inr sz_b9) all0)
        have zz112 : n0 ≤ T112.heap.size := Nat.le_trans Z0 K112.1
        have N112 := Fr.app N82 M112
        have pre113 : ∀ t, Steps p.tables e below (T112.setTop (mkF m 113 #[.val (.int xw1), .val (.int xw2), .val (.int xq), .val (.int xf), .val (.int w1), .val (.int w2), .val (.int mv), .val (.int ap), .val (.int de), .val (.int v41), .val (.ref b9), .unset, .unset] [])) t → Steps p.tables e below (s₁.setTop (entryFrame m #[(.int xw1), (.int xw2), (.int xq), (.int xf)] maxLocals)) t := fun t k => pre111 t (st112.trans k)
        have pre114 : ∀ t, Steps p.tables e below (T112.setTop (mkF m 115 #[.val (.int xw1), .val (.int xw2), .val (.int xq), .val (.int xf), .val (.int w1), .val (.int w2), .val (.int mv), .val (.int ap), .val (.int de), .val (.int v41), .val (.ref b9), .unset, .unset] [(.int v41)])) t → Steps p.tables e below (s₁.setTop (entryFrame m #[(.int xw1), (.int xw2), (.int xq), (.int xf)] maxLocals)) t := by
          intro t k
          refine pre113 t ?_
          refine XS.iload X112.here hx rfl (hb hby at_113) rfl ?_
          show Steps p.tables e below (T112.setTop (mkF m 115 #[.val (.int xw1), .val (.int xw2), .val (.int xq), .val (.int xf), .val (.int w1), .val (.int w2), .val (.int mv), .val (.int ap), .val (.int de), .val (.int v41), .val (.ref b9), .unset, .unset] [(.int v41)])) _
          exact k
        by_cases hc115 : v41 = (0 : Int32)
        · have pre115 : ∀ t, Steps p.tables e below (T112.setTop (mkF m 127 #[.val (.int xw1), .val (.int xw2), .val (.int xq), .val (.int xf), .val (.int w1), .val (.int w2), .val (.int mv), .val (.int ap), .val (.int de), .val (.int v41), .val (.ref b9), .unset, .unset] [(.int mv), (.ref b9)])) t → Steps p.tables e below (s₁.setTop (entryFrame m #[(.int xw1), (.int xw2), (.int xq), (.int xf)] maxLocals)) t := by
            intro t k
            refine pre114 t ?_
            refine XS.ifYes X112.here hx rfl (pc0 := 115) (pc' := 123) rfl (hb hby at_115) rfl ((if0 _ _).trans (teq hc115).1) (by decide) (by decide) ?_
            show Steps p.tables e below (T112.setTop (mkF m 123 #[.val (.int xw1), .val (.int xw2), .val (.int xq), .val (.int xf), .val (.int w1), .val (.int w2), .val (.int mv), .val (.int ap), .val (.int de), .val (.int v41), .val (.ref b9), .unset, .unset] [])) _
            refine XS.aload X112.here hx rfl (hb hby at_123) rfl rfl ?_
            show Steps p.tables e below (T112.setTop (mkF m 125 #[.val (.int xw1), .val (.int xw2), .val (.int xq), .val (.int xf), .val (.int w1), .val (.int w2), .val (.int mv), .val (.int ap), .val (.int de), .val (.int v41), .val (.ref b9), .unset, .unset] [(.ref b9)])) _
            refine XS.iload X112.here hx rfl (hb hby at_125) rfl ?_
            show Steps p.tables e below (T112.setTop (mkF m 127 #[.val (.int xw1), .val (.int xw2), .val (.int xq), .val (.int xf), .val (.int w1), .val (.int w2), .val (.int mv), .val (.int ap), .val (.int de), .val (.int v41), .val (.ref b9), .unset, .unset] [(.int mv), (.ref b9)])) _
            exact k
          obtain ⟨cq116, kq116, q116a, q116b, q116c⟩ := isOf hZ rfl f112_0
          obtain ⟨_, _, ⟨T116, L116, k116, n116⟩, -, X116, ⟨Lc116, hQ116, l116, y116, z116⟩, st116⟩ := X112.virtualBack hx (y := (⟨"com/example/suitor/suitor/SolverStatistics", "countQueueMoves", "(I)V"⟩ : MethodName)) (z := (⟨"com/example/suitor/suitor/SolverStatistics", "countQueueMoves", "(I)V"⟩ : MethodName)) hown (mvT hZ (hw _ (List.mem_of_getElem? (i := 33) rfl))) (mvT hZ (hw _ (List.mem_of_getElem? (i := 34) rfl))) (notFace_of_selects (args := #[]) (mvT hZ (hw _ (List.mem_of_getElem? (i := 36) rfl)))) (mvT hZ (hw _ (List.mem_of_getElem? (i := 36) rfl))) (mvT hZ (hw _ (List.mem_of_getElem? (i := 35) rfl))) (by decide) (backOf (W := 0) (rm_countQueueMoves l Z a0 hw [] b9 mv ((0 : Int64) + (1 : Int64)) ((0 : Int64) + (w1.toInt64)) ((0 : Int64) + (1 : Int64)) (0 : Int64) (0 : Int64) T112.heap n0 zz112 f112_0 (g_b9) f112_1 f112_2 f112_3 f112_4 f112_5) hZ (hw _ (List.mem_of_getElem? (i := 37) rfl)) (hw _ (List.mem_of_getElem? (i := 3) rfl)) (by decide) (by decide)) q116a q116c (g := (mkF m 127 #[.val (.int xw1), .val (.int xw2), .val (.int xq), .val (.int xf), .val (.int w1), .val (.int w2), .val (.int mv), .val (.int ap), .val (.int de), .val (.int v41), .val (.ref b9), .unset, .unset] [(.int mv), (.ref b9)])) rfl (by rw [hml]; rfl) (Steps.refl _) (argsL := [(.int mv)]) (rest := []) (lenOf pd2 rfl) rfl (by show 2 * 0 + _ ≤ _; exact Nat.le_of_eq rfl) (hb hby at_127) (fun _ _ => ⟨rfl, rfl, (by decide : 1 + 0 ≤ _), (by decide : 5 + 0 ≤ _)⟩)
          dsimp only [Pt.U, Pt.locs, Pt.cells, Pt.slots] at X116 l116 y116 z116 st116 hQ116
          subst l116 y116 z116
          obtain ⟨rfl, M116, kp116, f116_0, f116_1, f116_2, f116_3, f116_4, f116_5⟩ := hQ116
          have K116 : Keep h0 T116.heap ([] : List Addr) := K112.trans kp116 (allS (P := fun x => x ∈ ([] : List Addr) ∨ h0.size ≤ x) (Or.inr sz_b9) all0)
          have zz116 : n0 ≤ T116.heap.size := Nat.le_trans Z0 K116.1
          have N116 := Fr.app N112 M116
          have pre117 : ∀ t, Steps p.tables e below (T116.setTop (mkF m 130 #[.val (.int xw1), .val (.int xw2), .val (.int xq), .val (.int xf), .val (.int w1), .val (.int w2), .val (.int mv), .val (.int ap), .val (.int de), .val (.int v41), .val (.ref b9), .unset, .unset] [])) t → Steps p.tables e below (s₁.setTop (entryFrame m #[(.int xw1), (.int xw2), (.int xq), (.int xf)] maxLocals)) t := fun t k => pre115 t (st116.trans k)
          have pre118 : ∀ t, Steps p.tables e below (T116.setTop (mkF m 134 #[.val (.int xw1), .val (.int xw2), .val (.int xq), .val (.int xf), .val (.int w1), .val (.int w2), .val (.int mv), .val (.int ap), .val (.int de), .val (.int v41), .val (.ref b9), .unset, .unset] [(.int w2), (.ref b9)])) t → Steps p.tables e below (s₁.setTop (entryFrame m #[(.int xw1), (.int xw2), (.int xq), (.int xf)] maxLocals)) t := by
            intro t k
            refine pre117 t ?_
            refine XS.aload X116.here hx rfl (hb hby at_130) rfl rfl ?_
            show Steps p.tables e below (T116.setTop (mkF m 132 #[.val (.int xw1), .val (.int xw2), .val (.int xq), .val (.int xf), .val (.int w1), .val (.int w2), .val (.int mv), .val (.int ap), .val (.int de), .val (.int v41), .val (.ref b9), .unset, .unset] [(.ref b9)])) _
            refine XS.iload X116.here hx rfl (hb hby at_132) rfl ?_
            show Steps p.tables e below (T116.setTop (mkF m 134 #[.val (.int xw1), .val (.int xw2), .val (.int xq), .val (.int xf), .val (.int w1), .val (.int w2), .val (.int mv), .val (.int ap), .val (.int de), .val (.int v41), .val (.ref b9), .unset, .unset] [(.int w2), (.ref b9)])) _
            exact k
          obtain ⟨cq119, kq119, q119a, q119b, q119c⟩ := isOf hZ rfl f116_0
          obtain ⟨_, _, ⟨T119, L119, k119, n119⟩, -, X119, ⟨Lc119, hQ119, l119, y119, z119⟩, st119⟩ := X116.virtualBack hx (y := (⟨"com/example/suitor/suitor/SolverStatistics", "countWalkSteps", "(I)V"⟩ : MethodName)) (z := (⟨"com/example/suitor/suitor/SolverStatistics", "countWalkSteps", "(I)V"⟩ : MethodName)) hown (mvT hZ (hw _ (List.mem_of_getElem? (i := 28) rfl))) (mvT hZ (hw _ (List.mem_of_getElem? (i := 29) rfl))) (notFace_of_selects (args := #[]) (mvT hZ (hw _ (List.mem_of_getElem? (i := 31) rfl)))) (mvT hZ (hw _ (List.mem_of_getElem? (i := 31) rfl))) (mvT hZ (hw _ (List.mem_of_getElem? (i := 30) rfl))) (by decide) (backOf (W := 0) (rm_countWalkSteps l Z a0 hw [] b9 w2 ((0 : Int64) + (1 : Int64)) ((0 : Int64) + (w1.toInt64)) ((0 : Int64) + (1 : Int64)) ((0 : Int64) + (mv.toInt64)) (0 : Int64) T116.heap n0 zz116 f116_0 (g_b9) f116_1 f116_2 f116_3 f116_4 f116_5) hZ (hw _ (List.mem_of_getElem? (i := 32) rfl)) (hw _ (List.mem_of_getElem? (i := 3) rfl)) (by decide) (by decide)) q119a q119c (g := (mkF m 134 #[.val (.int xw1), .val (.int xw2), .val (.int xq), .val (.int xf), .val (.int w1), .val (.int w2), .val (.int mv), .val (.int ap), .val (.int de), .val (.int v41), .val (.ref b9), .unset, .unset] [(.int w2), (.ref b9)])) rfl (by rw [hml]; rfl) (Steps.refl _) (argsL := [(.int w2)]) (rest := []) (lenOf pd2 rfl) rfl (by show 2 * 0 + _ ≤ _; exact Nat.le_of_eq rfl) (hb hby at_134) (fun _ _ => ⟨rfl, rfl, (by decide : 1 + 0 ≤ _), (by decide : 5 + 0 ≤ _)⟩)
          dsimp only [Pt.U, Pt.locs, Pt.cells, Pt.slots] at X119 l119 y119 z119 st119 hQ119
          subst l119 y119 z119
          obtain ⟨rfl, M119, kp119, f119_0, f119_1, f119_2, f119_3, f119_4, f119_5⟩ := hQ119
          have K119 : Keep h0 T119.heap ([] : List Addr) := K116.trans kp119 (allS (P := fun x => x ∈ ([] : List Addr) ∨ h0.size ≤ x) (Or.inr sz_b9) all0)
          have zz119 : n0 ≤ T119.heap.size := Nat.le_trans Z0 K119.1
          have N119 := Fr.app N116 M119
          have pre120 : ∀ t, Steps p.tables e below (T119.setTop (mkF m 137 #[.val (.int xw1), .val (.int xw2), .val (.int xq), .val (.int xf), .val (.int w1), .val (.int w2), .val (.int mv), .val (.int ap), .val (.int de), .val (.int v41), .val (.ref b9), .unset, .unset] [])) t → Steps p.tables e below (s₁.setTop (entryFrame m #[(.int xw1), (.int xw2), (.int xq), (.int xf)] maxLocals)) t := fun t k => pre118 t (st119.trans k)
          have pre121 : ∀ t, Steps p.tables e below (T119.setTop (mkF m 158 #[.val (.int xw1), .val (.int xw2), .val (.int xq), .val (.int xf), .val (.int w1), .val (.int w2), .val (.int mv), .val (.int ap), .val (.int de), .val (.int v41), .val (.ref b9), .val (.long (((((ap.toInt64) + (w1.toInt64)) + (w2.toInt64)) + (de.toInt64)) + (mv.toInt64))), .second] [])) t → Steps p.tables e below (s₁.setTop (entryFrame m #[(.int xw1), (.int xw2), (.int xq), (.int xf)] maxLocals)) t := by
            intro t k
            refine pre120 t ?_
            refine XS.iload X119.here hx rfl (hb hby at_137) rfl ?_
            show Steps p.tables e below (T119.setTop (mkF m 139 #[.val (.int xw1), .val (.int xw2), .val (.int xq), .val (.int xf), .val (.int w1), .val (.int w2), .val (.int mv), .val (.int ap), .val (.int de), .val (.int v41), .val (.ref b9), .unset, .unset] [(.int ap)])) _
            refine XS.i2l X119.here hx rfl (hb hby at_139) rfl ?_
            show Steps p.tables e below (T119.setTop (mkF m 140 #[.val (.int xw1), .val (.int xw2), .val (.int xq), .val (.int xf), .val (.int w1), .val (.int w2), .val (.int mv), .val (.int ap), .val (.int de), .val (.int v41), .val (.ref b9), .unset, .unset] [(.long (ap.toInt64))])) _
            refine XS.iload X119.here hx rfl (hb hby at_140) rfl ?_
            show Steps p.tables e below (T119.setTop (mkF m 142 #[.val (.int xw1), .val (.int xw2), .val (.int xq), .val (.int xf), .val (.int w1), .val (.int w2), .val (.int mv), .val (.int ap), .val (.int de), .val (.int v41), .val (.ref b9), .unset, .unset] [(.int w1), (.long (ap.toInt64))])) _
            refine XS.i2l X119.here hx rfl (hb hby at_142) rfl ?_
            show Steps p.tables e below (T119.setTop (mkF m 143 #[.val (.int xw1), .val (.int xw2), .val (.int xq), .val (.int xf), .val (.int w1), .val (.int w2), .val (.int mv), .val (.int ap), .val (.int de), .val (.int v41), .val (.ref b9), .unset, .unset] [(.long (w1.toInt64)), (.long (ap.toInt64))])) _
            refine XS.ladd X119.here hx rfl (hb hby at_143) rfl ?_
            show Steps p.tables e below (T119.setTop (mkF m 144 #[.val (.int xw1), .val (.int xw2), .val (.int xq), .val (.int xf), .val (.int w1), .val (.int w2), .val (.int mv), .val (.int ap), .val (.int de), .val (.int v41), .val (.ref b9), .unset, .unset] [(.long ((ap.toInt64) + (w1.toInt64)))])) _
            refine XS.iload X119.here hx rfl (hb hby at_144) rfl ?_
            show Steps p.tables e below (T119.setTop (mkF m 146 #[.val (.int xw1), .val (.int xw2), .val (.int xq), .val (.int xf), .val (.int w1), .val (.int w2), .val (.int mv), .val (.int ap), .val (.int de), .val (.int v41), .val (.ref b9), .unset, .unset] [(.int w2), (.long ((ap.toInt64) + (w1.toInt64)))])) _
            refine XS.i2l X119.here hx rfl (hb hby at_146) rfl ?_
            show Steps p.tables e below (T119.setTop (mkF m 147 #[.val (.int xw1), .val (.int xw2), .val (.int xq), .val (.int xf), .val (.int w1), .val (.int w2), .val (.int mv), .val (.int ap), .val (.int de), .val (.int v41), .val (.ref b9), .unset, .unset] [(.long (w2.toInt64)), (.long ((ap.toInt64) + (w1.toInt64)))])) _
            refine XS.ladd X119.here hx rfl (hb hby at_147) rfl ?_
            show Steps p.tables e below (T119.setTop (mkF m 148 #[.val (.int xw1), .val (.int xw2), .val (.int xq), .val (.int xf), .val (.int w1), .val (.int w2), .val (.int mv), .val (.int ap), .val (.int de), .val (.int v41), .val (.ref b9), .unset, .unset] [(.long (((ap.toInt64) + (w1.toInt64)) + (w2.toInt64)))])) _
            refine XS.iload X119.here hx rfl (hb hby at_148) rfl ?_
            show Steps p.tables e below (T119.setTop (mkF m 150 #[.val (.int xw1), .val (.int xw2), .val (.int xq), .val (.int xf), .val (.int w1), .val (.int w2), .val (.int mv), .val (.int ap), .val (.int de), .val (.int v41), .val (.ref b9), .unset, .unset] [(.int de), (.long (((ap.toInt64) + (w1.toInt64)) + (w2.toInt64)))])) _
            refine XS.i2l X119.here hx rfl (hb hby at_150) rfl ?_
            show Steps p.tables e below (T119.setTop (mkF m 151 #[.val (.int xw1), .val (.int xw2), .val (.int xq), .val (.int xf), .val (.int w1), .val (.int w2), .val (.int mv), .val (.int ap), .val (.int de), .val (.int v41), .val (.ref b9), .unset, .unset] [(.long (de.toInt64)), (.long (((ap.toInt64) + (w1.toInt64)) + (w2.toInt64)))])) _
            refine XS.ladd X119.here hx rfl (hb hby at_151) rfl ?_
            show Steps p.tables e below (T119.setTop (mkF m 152 #[.val (.int xw1), .val (.int xw2), .val (.int xq), .val (.int xf), .val (.int w1), .val (.int w2), .val (.int mv), .val (.int ap), .val (.int de), .val (.int v41), .val (.ref b9), .unset, .unset] [(.long ((((ap.toInt64) + (w1.toInt64)) + (w2.toInt64)) + (de.toInt64)))])) _
            refine XS.iload X119.here hx rfl (hb hby at_152) rfl ?_
            show Steps p.tables e below (T119.setTop (mkF m 154 #[.val (.int xw1), .val (.int xw2), .val (.int xq), .val (.int xf), .val (.int w1), .val (.int w2), .val (.int mv), .val (.int ap), .val (.int de), .val (.int v41), .val (.ref b9), .unset, .unset] [(.int mv), (.long ((((ap.toInt64) + (w1.toInt64)) + (w2.toInt64)) + (de.toInt64)))])) _
            refine XS.i2l X119.here hx rfl (hb hby at_154) rfl ?_
            show Steps p.tables e below (T119.setTop (mkF m 155 #[.val (.int xw1), .val (.int xw2), .val (.int xq), .val (.int xf), .val (.int w1), .val (.int w2), .val (.int mv), .val (.int ap), .val (.int de), .val (.int v41), .val (.ref b9), .unset, .unset] [(.long (mv.toInt64)), (.long ((((ap.toInt64) + (w1.toInt64)) + (w2.toInt64)) + (de.toInt64)))])) _
            refine XS.ladd X119.here hx rfl (hb hby at_155) rfl ?_
            show Steps p.tables e below (T119.setTop (mkF m 156 #[.val (.int xw1), .val (.int xw2), .val (.int xq), .val (.int xf), .val (.int w1), .val (.int w2), .val (.int mv), .val (.int ap), .val (.int de), .val (.int v41), .val (.ref b9), .unset, .unset] [(.long (((((ap.toInt64) + (w1.toInt64)) + (w2.toInt64)) + (de.toInt64)) + (mv.toInt64)))])) _
            refine XS.lstore X119.here hx rfl (hb hby at_156) rfl (l' := #[.val (.int xw1), .val (.int xw2), .val (.int xq), .val (.int xf), .val (.int w1), .val (.int w2), .val (.int mv), .val (.int ap), .val (.int de), .val (.int v41), .val (.ref b9), .val (.long (((((ap.toInt64) + (w1.toInt64)) + (w2.toInt64)) + (de.toInt64)) + (mv.toInt64))), .second]) rfl ?_
            show Steps p.tables e below (T119.setTop (mkF m 158 #[.val (.int xw1), .val (.int xw2), .val (.int xq), .val (.int xf), .val (.int w1), .val (.int w2), .val (.int mv), .val (.int ap), .val (.int de), .val (.int v41), .val (.ref b9), .val (.long (((((ap.toInt64) + (w1.toInt64)) + (w2.toInt64)) + (de.toInt64)) + (mv.toInt64))), .second] [])) _
            exact k
          obtain ⟨ex, hex⟩ : ∃ z : Int64, z = (((((ap.toInt64) + (w1.toInt64)) + (w2.toInt64)) + (de.toInt64)) + (mv.toInt64)) := ⟨_, rfl⟩
          rw [← hex] at pre121
          have pre122 : ∀ t, Steps p.tables e below (T119.setTop (mkF m 160 #[.val (.int xw1), .val (.int xw2), .val (.int xq), .val (.int xf), .val (.int w1), .val (.int w2), .val (.int mv), .val (.int ap), .val (.int de), .val (.int v41), .val (.ref b9), .val (.long ex), .second] [(.ref b9)])) t → Steps p.tables e below (s₁.setTop (entryFrame m #[(.int xw1), (.int xw2), (.int xq), (.int xf)] maxLocals)) t := by
            intro t k
            refine pre121 t ?_
            refine XS.aload X119.here hx rfl (hb hby at_158) rfl rfl ?_
            show Steps p.tables e below (T119.setTop (mkF m 160 #[.val (.int xw1), .val (.int xw2), .val (.int xq), .val (.int xf), .val (.int w1), .val (.int w2), .val (.int mv), .val (.int ap), .val (.int de), .val (.int v41), .val (.ref b9), .val (.long ex), .second] [(.ref b9)])) _
            exact k
          obtain ⟨cq123, kq123, q123a, q123b, q123c⟩ := isOf hZ rfl f119_0
          obtain ⟨_, _, ⟨T123, L123, k123, n123⟩, -, X123, ⟨Lc123, hQ123, l123, y123, z123⟩, st123⟩ := X119.virtualBack hx (y := (⟨"com/example/suitor/suitor/SolverStatistics", "getSteps", "()J"⟩ : MethodName)) (z := (⟨"com/example/suitor/suitor/SolverStatistics", "getSteps", "()J"⟩ : MethodName)) hown (mvT hZ (hw _ (List.mem_of_getElem? (i := 10) rfl))) (mvT hZ (hw _ (List.mem_of_getElem? (i := 11) rfl))) (notFace_of_selects (args := #[]) (mvT hZ (hw _ (List.mem_of_getElem? (i := 13) rfl)))) (mvT hZ (hw _ (List.mem_of_getElem? (i := 13) rfl))) (mvT hZ (hw _ (List.mem_of_getElem? (i := 12) rfl))) (by decide) (backOf (W := 0) (rm_steps l Z a0 hw [] b9 ((0 : Int64) + (1 : Int64)) (((0 : Int64) + (w1.toInt64)) + (w2.toInt64)) ((0 : Int64) + (1 : Int64)) ((0 : Int64) + (mv.toInt64)) T119.heap n0 zz119 f119_1 f119_2 f119_3 f119_4) hZ (hw _ (List.mem_of_getElem? (i := 14) rfl)) (hw _ (List.mem_of_getElem? (i := 3) rfl)) (by decide) (by decide)) q123a q123c (g := (mkF m 160 #[.val (.int xw1), .val (.int xw2), .val (.int xq), .val (.int xf), .val (.int w1), .val (.int w2), .val (.int mv), .val (.int ap), .val (.int de), .val (.int v41), .val (.ref b9), .val (.long ex), .second] [(.ref b9)])) rfl (by rw [hml]; rfl) (Steps.refl _) (argsL := []) (rest := []) (lenOf pd1 rfl) rfl (by show 2 * 0 + _ ≤ _; exact Nat.le_of_eq rfl) (hb hby at_160) (fun _ _ => ⟨rfl, rfl, (by decide : 1 + 0 ≤ _), (by decide : 5 + 0 ≤ _)⟩)
          dsimp only [Pt.U, Pt.locs, Pt.cells, Pt.slots] at X123 l123 y123 z123 st123 hQ123
          subst l123 y123 z123
          obtain ⟨rfl, M123, e123⟩ := hQ123
          have N123 := Fr.app N119 M123
          have pre124 : ∀ t, Steps p.tables e below (T123.setTop (mkF m 163 #[.val (.int xw1), .val (.int xw2), .val (.int xq), .val (.int xf), .val (.int w1), .val (.int w2), .val (.int mv), .val (.int ap), .val (.int de), .val (.int v41), .val (.ref b9), .val (.long ex), .second] [(.long (((((0 : Int64) + (1 : Int64)) + (((0 : Int64) + (w1.toInt64)) + (w2.toInt64))) + ((0 : Int64) + (1 : Int64))) + ((0 : Int64) + (mv.toInt64))))])) t → Steps p.tables e below (s₁.setTop (entryFrame m #[(.int xw1), (.int xw2), (.int xq), (.int xf)] maxLocals)) t := fun t k => pre122 t (st123.trans k)
          have pre125 : ∀ t, Steps p.tables e below (T123.setTop (mkF m 174 #[.val (.int xw1), .val (.int xw2), .val (.int xq), .val (.int xf), .val (.int w1), .val (.int w2), .val (.int mv), .val (.int ap), .val (.int de), .val (.int v41), .val (.ref b9), .val (.long ex), .second] [(.int (1 : Int32))])) t → Steps p.tables e below (s₁.setTop (entryFrame m #[(.int xw1), (.int xw2), (.int xq), (.int xf)] maxLocals)) t := by
            intro t k
            refine pre124 t ?_
            refine XS.lload X123.here hx rfl (hb hby at_163) rfl ?_
            show Steps p.tables e below (T123.setTop (mkF m 165 #[.val (.int xw1), .val (.int xw2), .val (.int xq), .val (.int xf), .val (.int w1), .val (.int w2), .val (.int mv), .val (.int ap), .val (.int de), .val (.int v41), .val (.ref b9), .val (.long ex), .second] [(.long ex), (.long (((((0 : Int64) + (1 : Int64)) + (((0 : Int64) + (w1.toInt64)) + (w2.toInt64))) + ((0 : Int64) + (1 : Int64))) + ((0 : Int64) + (mv.toInt64))))])) _
            refine XS.lcmp X123.here hx rfl (hb hby at_165) rfl ?_
            show Steps p.tables e below (T123.setTop (mkF m 166 #[.val (.int xw1), .val (.int xw2), .val (.int xq), .val (.int xf), .val (.int w1), .val (.int w2), .val (.int mv), .val (.int ap), .val (.int de), .val (.int v41), .val (.ref b9), .val (.long ex), .second] [(.int (lcmpW (((((0 : Int64) + (1 : Int64)) + (((0 : Int64) + (w1.toInt64)) + (w2.toInt64))) + ((0 : Int64) + (1 : Int64))) + ((0 : Int64) + (mv.toInt64))) ex))])) _
            refine XS.ifNo X123.here hx rfl (hb hby at_166) rfl ((if0 _ _).trans (teq ((lw_eq _ _).mpr (show (((((0 : Int64) + (1 : Int64)) + (((0 : Int64) + (w1.toInt64)) + (w2.toInt64))) + ((0 : Int64) + (1 : Int64))) + ((0 : Int64) + (mv.toInt64))) = ex from by rw [hex]; exact own_3 w1 w2 mv xf ap de hap hde hc75 hc88 hc105))).2) ?_
            show Steps p.tables e below (T123.setTop (mkF m 169 #[.val (.int xw1), .val (.int xw2), .val (.int xq), .val (.int xf), .val (.int w1), .val (.int w2), .val (.int mv), .val (.int ap), .val (.int de), .val (.int v41), .val (.ref b9), .val (.long ex), .second] [])) _
            refine XS.iconst X123.here hx rfl (hb hby at_169) ?_
            show Steps p.tables e below (T123.setTop (mkF m 170 #[.val (.int xw1), .val (.int xw2), .val (.int xq), .val (.int xf), .val (.int w1), .val (.int w2), .val (.int mv), .val (.int ap), .val (.int de), .val (.int v41), .val (.ref b9), .val (.long ex), .second] [(.int (1 : Int32))])) _
            refine XS.goto X123.here hx rfl (pc0 := 170) (pc' := 174) rfl (hb hby at_170) (by decide) (by decide) ?_
            show Steps p.tables e below (T123.setTop (mkF m 174 #[.val (.int xw1), .val (.int xw2), .val (.int xq), .val (.int xf), .val (.int w1), .val (.int w2), .val (.int mv), .val (.int ap), .val (.int de), .val (.int v41), .val (.ref b9), .val (.long ex), .second] [(.int (1 : Int32))])) _
            exact k
          obtain ⟨fs, hr, hrun, hended, hW, hsame⟩ := X123.leave (v := some (.int (1 : Int32))) (fun h => by rw [Bd.returns] at h; cases h)
          refine ⟨_, _, pre125 _ ?_, hrun, hended, _, _, rfl, ?_, ⟨_, rfl⟩, hW, hsame.mono (by decide) (by decide)⟩
          · exact retN X123 hx (t := .boolean) Bd.returns (by simp) (hb hby at_174) hr
          · show Q_rm0 Z xw1 xw2 xq xf h0 n0 _ T123.heap _
            rw [e123]
            exact ⟨rfl, N123⟩
        · have pre126 : ∀ t, Steps p.tables e below (T112.setTop (mkF m 120 #[.val (.int xw1), .val (.int xw2), .val (.int xq), .val (.int xf), .val (.int w1), .val (.int w2), .val (.int mv), .val (.int ap), .val (.int de), .val (.int v41), .val (.ref b9), .unset, .unset] [(.ref b9)])) t → Steps p.tables e below (s₁.setTop (entryFrame m #[(.int xw1), (.int xw2), (.int xq), (.int xf)] maxLocals)) t := by
            intro t k
            refine pre114 t ?_
            refine XS.ifNo X112.here hx rfl (hb hby at_115) rfl ((if0 _ _).trans (feq hc115).1) ?_
            show Steps p.tables e below (T112.setTop (mkF m 118 #[.val (.int xw1), .val (.int xw2), .val (.int xq), .val (.int xf), .val (.int w1), .val (.int w2), .val (.int mv), .val (.int ap), .val (.int de), .val (.int v41), .val (.ref b9), .unset, .unset] [])) _
            refine XS.aload X112.here hx rfl (hb hby at_118) rfl rfl ?_
            show Steps p.tables e below (T112.setTop (mkF m 120 #[.val (.int xw1), .val (.int xw2), .val (.int xq), .val (.int xf), .val (.int w1), .val (.int w2), .val (.int mv), .val (.int ap), .val (.int de), .val (.int v41), .val (.ref b9), .unset, .unset] [(.ref b9)])) _
            exact k
          obtain ⟨cq127, kq127, q127a, q127b, q127c⟩ := isOf hZ rfl f112_0
          obtain ⟨_, _, ⟨T127, L127, k127, n127⟩, -, X127, ⟨Lc127, hQ127, l127, y127, z127⟩, st127⟩ := X112.virtualBack hx (y := (⟨"com/example/suitor/suitor/SolverStatistics", "countPass", "()V"⟩ : MethodName)) (z := (⟨"com/example/suitor/suitor/SolverStatistics", "countPass", "()V"⟩ : MethodName)) hown (mvT hZ (hw _ (List.mem_of_getElem? (i := 38) rfl))) (mvT hZ (hw _ (List.mem_of_getElem? (i := 39) rfl))) (notFace_of_selects (args := #[]) (mvT hZ (hw _ (List.mem_of_getElem? (i := 41) rfl)))) (mvT hZ (hw _ (List.mem_of_getElem? (i := 41) rfl))) (mvT hZ (hw _ (List.mem_of_getElem? (i := 40) rfl))) (by decide) (backOf (W := 0) (rm_countPass l Z a0 hw [] b9 ((0 : Int64) + (1 : Int64)) ((0 : Int64) + (w1.toInt64)) ((0 : Int64) + (1 : Int64)) (0 : Int64) (0 : Int64) T112.heap n0 zz112 f112_0 (g_b9) f112_1 f112_2 f112_3 f112_4 f112_5) hZ (hw _ (List.mem_of_getElem? (i := 42) rfl)) (hw _ (List.mem_of_getElem? (i := 3) rfl)) (by decide) (by decide)) q127a q127c (g := (mkF m 120 #[.val (.int xw1), .val (.int xw2), .val (.int xq), .val (.int xf), .val (.int w1), .val (.int w2), .val (.int mv), .val (.int ap), .val (.int de), .val (.int v41), .val (.ref b9), .unset, .unset] [(.ref b9)])) rfl (by rw [hml]; rfl) (Steps.refl _) (argsL := []) (rest := []) (lenOf pd0 rfl) rfl (by show 2 * 0 + _ ≤ _; exact Nat.le_of_eq rfl) (hb hby at_120) (fun _ _ => ⟨rfl, rfl, (by decide : 1 + 0 ≤ _), (by decide : 5 + 0 ≤ _)⟩)
          dsimp only [Pt.U, Pt.locs, Pt.cells, Pt.slots] at X127 l127 y127 z127 st127 hQ127
          subst l127 y127 z127
          obtain ⟨rfl, M127, kp127, f127_0, f127_1, f127_2, f127_3, f127_4, f127_5⟩ := hQ127
          have K127 : Keep h0 T127.heap ([] : List Addr) := K112.trans kp127 (allS (P := fun x => x ∈ ([] : List Addr) ∨ h0.size ≤ x) (Or.inr sz_b9) all0)
          have zz127 : n0 ≤ T127.heap.size := Nat.le_trans Z0 K127.1
          have N127 := Fr.app N112 M127
          have pre128 : ∀ t, Steps p.tables e below (T127.setTop (mkF m 123 #[.val (.int xw1), .val (.int xw2), .val (.int xq), .val (.int xf), .val (.int w1), .val (.int w2), .val (.int mv), .val (.int ap), .val (.int de), .val (.int v41), .val (.ref b9), .unset, .unset] [])) t → Steps p.tables e below (s₁.setTop (entryFrame m #[(.int xw1), (.int xw2), (.int xq), (.int xf)] maxLocals)) t := fun t k => pre126 t (st127.trans k)
          have pre129 : ∀ t, Steps p.tables e below (T127.setTop (mkF m 127 #[.val (.int xw1), .val (.int xw2), .val (.int xq), .val (.int xf), .val (.int w1), .val (.int w2), .val (.int mv), .val (.int ap), .val (.int de), .val (.int v41), .val (.ref b9), .unset, .unset] [(.int mv), (.ref b9)])) t → Steps p.tables e below (s₁.setTop (entryFrame m #[(.int xw1), (.int xw2), (.int xq), (.int xf)] maxLocals)) t := by
            intro t k
            refine pre128 t ?_
            refine XS.aload X127.here hx rfl (hb hby at_123) rfl rfl ?_
            show Steps p.tables e below (T127.setTop (mkF m 125 #[.val (.int xw1), .val (.int xw2), .val (.int xq), .val (.int xf), .val (.int w1), .val (.int w2), .val (.int mv), .val (.int ap), .val (.int de), .val (.int v41), .val (.ref b9), .unset, .unset] [(.ref b9)])) _
            refine XS.iload X127.here hx rfl (hb hby at_125) rfl ?_
            show Steps p.tables e below (T127.setTop (mkF m 127 #[.val (.int xw1), .val (.int xw2), .val (.int xq), .val (.int xf), .val (.int w1), .val (.int w2), .val (.int mv), .val (.int ap), .val (.int de), .val (.int v41), .val (.ref b9), .unset, .unset] [(.int mv), (.ref b9)])) _
            exact k
          obtain ⟨cq130, kq130, q130a, q130b, q130c⟩ := isOf hZ rfl f127_0
          obtain ⟨_, _, ⟨T130, L130, k130, n130⟩, -, X130, ⟨Lc130, hQ130, l130, y130, z130⟩, st130⟩ := X127.virtualBack hx (y := (⟨"com/example/suitor/suitor/SolverStatistics", "countQueueMoves", "(I)V"⟩ : MethodName)) (z := (⟨"com/example/suitor/suitor/SolverStatistics", "countQueueMoves", "(I)V"⟩ : MethodName)) hown (mvT hZ (hw _ (List.mem_of_getElem? (i := 33) rfl))) (mvT hZ (hw _ (List.mem_of_getElem? (i := 34) rfl))) (notFace_of_selects (args := #[]) (mvT hZ (hw _ (List.mem_of_getElem? (i := 36) rfl)))) (mvT hZ (hw _ (List.mem_of_getElem? (i := 36) rfl))) (mvT hZ (hw _ (List.mem_of_getElem? (i := 35) rfl))) (by decide) (backOf (W := 0) (rm_countQueueMoves l Z a0 hw [] b9 mv ((0 : Int64) + (1 : Int64)) ((0 : Int64) + (w1.toInt64)) ((0 : Int64) + (1 : Int64)) (0 : Int64) ((0 : Int64) + (1 : Int64)) T127.heap n0 zz127 f127_0 (g_b9) f127_1 f127_2 f127_3 f127_4 f127_5) hZ (hw _ (List.mem_of_getElem? (i := 37) rfl)) (hw _ (List.mem_of_getElem? (i := 3) rfl)) (by decide) (by decide)) q130a q130c (g := (mkF m 127 #[.val (.int xw1), .val (.int xw2), .val (.int xq), .val (.int xf), .val (.int w1), .val (.int w2), .val (.int mv), .val (.int ap), .val (.int de), .val (.int v41), .val (.ref b9), .unset, .unset] [(.int mv), (.ref b9)])) rfl (by rw [hml]; rfl) (Steps.refl _) (argsL := [(.int mv)]) (rest := []) (lenOf pd2 rfl) rfl (by show 2 * 0 + _ ≤ _; exact Nat.le_of_eq rfl) (hb hby at_127) (fun _ _ => ⟨rfl, rfl, (by decide : 1 + 0 ≤ _), (by decide : 5 + 0 ≤ _)⟩)
          dsimp only [Pt.U, Pt.locs, Pt.cells, Pt.slots] at X130 l130 y130 z130 st130 hQ130
          subst l130 y130 z130
          obtain ⟨rfl, M130, kp130, f130_0, f130_1, f130_2, f130_3, f130_4, f130_5⟩ := hQ130
          have K130 : Keep h0 T130.heap ([] : List Addr) := K127.trans kp130 (allS (P := fun x => x ∈ ([] : List Addr) ∨ h0.size ≤ x) (Or.inr sz_b9) all0)
          have zz130 : n0 ≤ T130.heap.size := Nat.le_trans Z0 K130.1
          have N130 := Fr.app N127 M130
          have pre131 : ∀ t, Steps p.tables e below (T130.setTop (mkF m 130 #[.val (.int xw1), .val (.int xw2), .val (.int xq), .val (.int xf), .val (.int w1), .val (.int w2), .val (.int mv), .val (.int ap), .val (.int de), .val (.int v41), .val (.ref b9), .unset, .unset] [])) t → Steps p.tables e below (s₁.setTop (entryFrame m #[(.int xw1), (.int xw2), (.int xq), (.int xf)] maxLocals)) t := fun t k => pre129 t (st130.trans k)
          have pre132 : ∀ t, Steps p.tables e below (T130.setTop (mkF m 134 #[.val (.int xw1), .val (.int xw2), .val (.int xq), .val (.int xf), .val (.int w1), .val (.int w2), .val (.int mv), .val (.int ap), .val (.int de), .val (.int v41), .val (.ref b9), .unset, .unset] [(.int w2), (.ref b9)])) t → Steps p.tables e below (s₁.setTop (entryFrame m #[(.int xw1), (.int xw2), (.int xq), (.int xf)] maxLocals)) t := by
            intro t k
            refine pre131 t ?_
            refine XS.aload X130.here hx rfl (hb hby at_130) rfl rfl ?_
            show Steps p.tables e below (T130.setTop (mkF m 132 #[.val (.int xw1), .val (.int xw2), .val (.int xq), .val (.int xf), .val (.int w1), .val (.int w2), .val (.int mv), .val (.int ap), .val (.int de), .val (.int v41), .val (.ref b9), .unset, .unset] [(.ref b9)])) _
            refine XS.iload X130.here hx rfl (hb hby at_132) rfl ?_
            show Steps p.tables e below (T130.setTop (mkF m 134 #[.val (.int xw1), .val (.int xw2), .val (.int xq), .val (.int xf), .val (.int w1), .val (.int w2), .val (.int mv), .val (.int ap), .val (.int de), .val (.int v41), .val (.ref b9), .unset, .unset] [(.int w2), (.ref b9)])) _
            exact k
          obtain ⟨cq133, kq133, q133a, q133b, q133c⟩ := isOf hZ rfl f130_0
          obtain ⟨_, _, ⟨T133, L133, k133, n133⟩, -, X133, ⟨Lc133, hQ133, l133, y133, z133⟩, st133⟩ := X130.virtualBack hx (y := (⟨"com/example/suitor/suitor/SolverStatistics", "countWalkSteps", "(I)V"⟩ : MethodName)) (z := (⟨"com/example/suitor/suitor/SolverStatistics", "countWalkSteps", "(I)V"⟩ : MethodName)) hown (mvT hZ (hw _ (List.mem_of_getElem? (i := 28) rfl))) (mvT hZ (hw _ (List.mem_of_getElem? (i := 29) rfl))) (notFace_of_selects (args := #[]) (mvT hZ (hw _ (List.mem_of_getElem? (i := 31) rfl)))) (mvT hZ (hw _ (List.mem_of_getElem? (i := 31) rfl))) (mvT hZ (hw _ (List.mem_of_getElem? (i := 30) rfl))) (by decide) (backOf (W := 0) (rm_countWalkSteps l Z a0 hw [] b9 w2 ((0 : Int64) + (1 : Int64)) ((0 : Int64) + (w1.toInt64)) ((0 : Int64) + (1 : Int64)) ((0 : Int64) + (mv.toInt64)) ((0 : Int64) + (1 : Int64)) T130.heap n0 zz130 f130_0 (g_b9) f130_1 f130_2 f130_3 f130_4 f130_5) hZ (hw _ (List.mem_of_getElem? (i := 32) rfl)) (hw _ (List.mem_of_getElem? (i := 3) rfl)) (by decide) (by decide)) q133a q133c (g := (mkF m 134 #[.val (.int xw1), .val (.int xw2), .val (.int xq), .val (.int xf), .val (.int w1), .val (.int w2), .val (.int mv), .val (.int ap), .val (.int de), .val (.int v41), .val (.ref b9), .unset, .unset] [(.int w2), (.ref b9)])) rfl (by rw [hml]; rfl) (Steps.refl _) (argsL := [(.int w2)]) (rest := []) (lenOf pd2 rfl) rfl (by show 2 * 0 + _ ≤ _; exact Nat.le_of_eq rfl) (hb hby at_134) (fun _ _ => ⟨rfl, rfl, (by decide : 1 + 0 ≤ _), (by decide : 5 + 0 ≤ _)⟩)
          dsimp only [Pt.U, Pt.locs, Pt.cells, Pt.slots] at X133 l133 y133 z133 st133 hQ133
          subst l133 y133 z133
          obtain ⟨rfl, M133, kp133, f133_0, f133_1, f133_2, f133_3, f133_4, f133_5⟩ := hQ133
          have K133 : Keep h0 T133.heap ([] : List Addr) := K130.trans kp133 (allS (P := fun x => x ∈ ([] : List Addr) ∨ h0.size ≤ x) (Or.inr sz_b9) all0)
          have zz133 : n0 ≤ T133.heap.size := Nat.le_trans Z0 K133.1
          have N133 := Fr.app N130 M133
          have pre134 : ∀ t, Steps p.tables e below (T133.setTop (mkF m 137 #[.val (.int xw1), .val (.int xw2), .val (.int xq), .val (.int xf), .val (.int w1), .val (.int w2), .val (.int mv), .val (.int ap), .val (.int de), .val (.int v41), .val (.ref b9), .unset, .unset] [])) t → Steps p.tables e below (s₁.setTop (entryFrame m #[(.int xw1), (.int xw2), (.int xq), (.int xf)] maxLocals)) t := fun t k => pre132 t (st133.trans k)
          have pre135 : ∀ t, Steps p.tables e below (T133.setTop (mkF m 158 #[.val (.int xw1), .val (.int xw2), .val (.int xq), .val (.int xf), .val (.int w1), .val (.int w2), .val (.int mv), .val (.int ap), .val (.int de), .val (.int v41), .val (.ref b9), .val (.long (((((ap.toInt64) + (w1.toInt64)) + (w2.toInt64)) + (de.toInt64)) + (mv.toInt64))), .second] [])) t → Steps p.tables e below (s₁.setTop (entryFrame m #[(.int xw1), (.int xw2), (.int xq), (.int xf)] maxLocals)) t := by
            intro t k
            refine pre134 t ?_
            refine XS.iload X133.here hx rfl (hb hby at_137) rfl ?_
            show Steps p.tables e below (T133.setTop (mkF m 139 #[.val (.int xw1), .val (.int xw2), .val (.int xq), .val (.int xf), .val (.int w1), .val (.int w2), .val (.int mv), .val (.int ap), .val (.int de), .val (.int v41), .val (.ref b9), .unset, .unset] [(.int ap)])) _
            refine XS.i2l X133.here hx rfl (hb hby at_139) rfl ?_
            show Steps p.tables e below (T133.setTop (mkF m 140 #[.val (.int xw1), .val (.int xw2), .val (.int xq), .val (.int xf), .val (.int w1), .val (.int w2), .val (.int mv), .val (.int ap), .val (.int de), .val (.int v41), .val (.ref b9), .unset, .unset] [(.long (ap.toInt64))])) _
            refine XS.iload X133.here hx rfl (hb hby at_140) rfl ?_
            show Steps p.tables e below (T133.setTop (mkF m 142 #[.val (.int xw1), .val (.int xw2), .val (.int xq), .val (.int xf), .val (.int w1), .val (.int w2), .val (.int mv), .val (.int ap), .val (.int de), .val (.int v41), .val (.ref b9), .unset, .unset] [(.int w1), (.long (ap.toInt64))])) _
            refine XS.i2l X133.here hx rfl (hb hby at_142) rfl ?_
            show Steps p.tables e below (T133.setTop (mkF m 143 #[.val (.int xw1), .val (.int xw2), .val (.int xq), .val (.int xf), .val (.int w1), .val (.int w2), .val (.int mv), .val (.int ap), .val (.int de), .val (.int v41), .val (.ref b9), .unset, .unset] [(.long (w1.toInt64)), (.long (ap.toInt64))])) _
            refine XS.ladd X133.here hx rfl (hb hby at_143) rfl ?_
            show Steps p.tables e below (T133.setTop (mkF m 144 #[.val (.int xw1), .val (.int xw2), .val (.int xq), .val (.int xf), .val (.int w1), .val (.int w2), .val (.int mv), .val (.int ap), .val (.int de), .val (.int v41), .val (.ref b9), .unset, .unset] [(.long ((ap.toInt64) + (w1.toInt64)))])) _
            refine XS.iload X133.here hx rfl (hb hby at_144) rfl ?_
            show Steps p.tables e below (T133.setTop (mkF m 146 #[.val (.int xw1), .val (.int xw2), .val (.int xq), .val (.int xf), .val (.int w1), .val (.int w2), .val (.int mv), .val (.int ap), .val (.int de), .val (.int v41), .val (.ref b9), .unset, .unset] [(.int w2), (.long ((ap.toInt64) + (w1.toInt64)))])) _
            refine XS.i2l X133.here hx rfl (hb hby at_146) rfl ?_
            show Steps p.tables e below (T133.setTop (mkF m 147 #[.val (.int xw1), .val (.int xw2), .val (.int xq), .val (.int xf), .val (.int w1), .val (.int w2), .val (.int mv), .val (.int ap), .val (.int de), .val (.int v41), .val (.ref b9), .unset, .unset] [(.long (w2.toInt64)), (.long ((ap.toInt64) + (w1.toInt64)))])) _
            refine XS.ladd X133.here hx rfl (hb hby at_147) rfl ?_
            show Steps p.tables e below (T133.setTop (mkF m 148 #[.val (.int xw1), .val (.int xw2), .val (.int xq), .val (.int xf), .val (.int w1), .val (.int w2), .val (.int mv), .val (.int ap), .val (.int de), .val (.int v41), .val (.ref b9), .unset, .unset] [(.long (((ap.toInt64) + (w1.toInt64)) + (w2.toInt64)))])) _
            refine XS.iload X133.here hx rfl (hb hby at_148) rfl ?_
            show Steps p.tables e below (T133.setTop (mkF m 150 #[.val (.int xw1), .val (.int xw2), .val (.int xq), .val (.int xf), .val (.int w1), .val (.int w2), .val (.int mv), .val (.int ap), .val (.int de), .val (.int v41), .val (.ref b9), .unset, .unset] [(.int de), (.long (((ap.toInt64) + (w1.toInt64)) + (w2.toInt64)))])) _
            refine XS.i2l X133.here hx rfl (hb hby at_150) rfl ?_
            show Steps p.tables e below (T133.setTop (mkF m 151 #[.val (.int xw1), .val (.int xw2), .val (.int xq), .val (.int xf), .val (.int w1), .val (.int w2), .val (.int mv), .val (.int ap), .val (.int de), .val (.int v41), .val (.ref b9), .unset, .unset] [(.long (de.toInt64)), (.long (((ap.toInt64) + (w1.toInt64)) + (w2.toInt64)))])) _
            refine XS.ladd X133.here hx rfl (hb hby at_151) rfl ?_
            show Steps p.tables e below (T133.setTop (mkF m 152 #[.val (.int xw1), .val (.int xw2), .val (.int xq), .val (.int xf), .val (.int w1), .val (.int w2), .val (.int mv), .val (.int ap), .val (.int de), .val (.int v41), .val (.ref b9), .unset, .unset] [(.long ((((ap.toInt64) + (w1.toInt64)) + (w2.toInt64)) + (de.toInt64)))])) _
            refine XS.iload X133.here hx rfl (hb hby at_152) rfl ?_
            show Steps p.tables e below (T133.setTop (mkF m 154 #[.val (.int xw1), .val (.int xw2), .val (.int xq), .val (.int xf), .val (.int w1), .val (.int w2), .val (.int mv), .val (.int ap), .val (.int de), .val (.int v41), .val (.ref b9), .unset, .unset] [(.int mv), (.long ((((ap.toInt64) + (w1.toInt64)) + (w2.toInt64)) + (de.toInt64)))])) _
            refine XS.i2l X133.here hx rfl (hb hby at_154) rfl ?_
            show Steps p.tables e below (T133.setTop (mkF m 155 #[.val (.int xw1), .val (.int xw2), .val (.int xq), .val (.int xf), .val (.int w1), .val (.int w2), .val (.int mv), .val (.int ap), .val (.int de), .val (.int v41), .val (.ref b9), .unset, .unset] [(.long (mv.toInt64)), (.long ((((ap.toInt64) + (w1.toInt64)) + (w2.toInt64)) + (de.toInt64)))])) _
            refine XS.ladd X133.here hx rfl (hb hby at_155) rfl ?_
            show Steps p.tables e below (T133.setTop (mkF m 156 #[.val (.int xw1), .val (.int xw2), .val (.int xq), .val (.int xf), .val (.int w1), .val (.int w2), .val (.int mv), .val (.int ap), .val (.int de), .val (.int v41), .val (.ref b9), .unset, .unset] [(.long (((((ap.toInt64) + (w1.toInt64)) + (w2.toInt64)) + (de.toInt64)) + (mv.toInt64)))])) _
            refine XS.lstore X133.here hx rfl (hb hby at_156) rfl (l' := #[.val (.int xw1), .val (.int xw2), .val (.int xq), .val (.int xf), .val (.int w1), .val (.int w2), .val (.int mv), .val (.int ap), .val (.int de), .val (.int v41), .val (.ref b9), .val (.long (((((ap.toInt64) + (w1.toInt64)) + (w2.toInt64)) + (de.toInt64)) + (mv.toInt64))), .second]) rfl ?_
            show Steps p.tables e below (T133.setTop (mkF m 158 #[.val (.int xw1), .val (.int xw2), .val (.int xq), .val (.int xf), .val (.int w1), .val (.int w2), .val (.int mv), .val (.int ap), .val (.int de), .val (.int v41), .val (.ref b9), .val (.long (((((ap.toInt64) + (w1.toInt64)) + (w2.toInt64)) + (de.toInt64)) + (mv.toInt64))), .second] [])) _
            exact k
          obtain ⟨ex, hex⟩ : ∃ z : Int64, z = (((((ap.toInt64) + (w1.toInt64)) + (w2.toInt64)) + (de.toInt64)) + (mv.toInt64)) := ⟨_, rfl⟩
          rw [← hex] at pre135
          have pre136 : ∀ t, Steps p.tables e below (T133.setTop (mkF m 160 #[.val (.int xw1), .val (.int xw2), .val (.int xq), .val (.int xf), .val (.int w1), .val (.int w2), .val (.int mv), .val (.int ap), .val (.int de), .val (.int v41), .val (.ref b9), .val (.long ex), .second] [(.ref b9)])) t → Steps p.tables e below (s₁.setTop (entryFrame m #[(.int xw1), (.int xw2), (.int xq), (.int xf)] maxLocals)) t := by
            intro t k
            refine pre135 t ?_
            refine XS.aload X133.here hx rfl (hb hby at_158) rfl rfl ?_
            show Steps p.tables e below (T133.setTop (mkF m 160 #[.val (.int xw1), .val (.int xw2), .val (.int xq), .val (.int xf), .val (.int w1), .val (.int w2), .val (.int mv), .val (.int ap), .val (.int de), .val (.int v41), .val (.ref b9), .val (.long ex), .second] [(.ref b9)])) _
            exact k
          obtain ⟨cq137, kq137, q137a, q137b, q137c⟩ := isOf hZ rfl f133_0
          obtain ⟨_, _, ⟨T137, L137, k137, n137⟩, -, X137, ⟨Lc137, hQ137, l137, y137, z137⟩, st137⟩ := X133.virtualBack hx (y := (⟨"com/example/suitor/suitor/SolverStatistics", "getSteps", "()J"⟩ : MethodName)) (z := (⟨"com/example/suitor/suitor/SolverStatistics", "getSteps", "()J"⟩ : MethodName)) hown (mvT hZ (hw _ (List.mem_of_getElem? (i := 10) rfl))) (mvT hZ (hw _ (List.mem_of_getElem? (i := 11) rfl))) (notFace_of_selects (args := #[]) (mvT hZ (hw _ (List.mem_of_getElem? (i := 13) rfl)))) (mvT hZ (hw _ (List.mem_of_getElem? (i := 13) rfl))) (mvT hZ (hw _ (List.mem_of_getElem? (i := 12) rfl))) (by decide) (backOf (W := 0) (rm_steps l Z a0 hw [] b9 ((0 : Int64) + (1 : Int64)) (((0 : Int64) + (w1.toInt64)) + (w2.toInt64)) ((0 : Int64) + (1 : Int64)) ((0 : Int64) + (mv.toInt64)) T133.heap n0 zz133 f133_1 f133_2 f133_3 f133_4) hZ (hw _ (List.mem_of_getElem? (i := 14) rfl)) (hw _ (List.mem_of_getElem? (i := 3) rfl)) (by decide) (by decide)) q137a q137c (g := (mkF m 160 #[.val (.int xw1), .val (.int xw2), .val (.int xq), .val (.int xf), .val (.int w1), .val (.int w2), .val (.int mv), .val (.int ap), .val (.int de), .val (.int v41), .val (.ref b9), .val (.long ex), .second] [(.ref b9)])) rfl (by rw [hml]; rfl) (Steps.refl _) (argsL := []) (rest := []) (lenOf pd1 rfl) rfl (by show 2 * 0 + _ ≤ _; exact Nat.le_of_eq rfl) (hb hby at_160) (fun _ _ => ⟨rfl, rfl, (by decide : 1 + 0 ≤ _), (by decide : 5 + 0 ≤ _)⟩)
          dsimp only [Pt.U, Pt.locs, Pt.cells, Pt.slots] at X137 l137 y137 z137 st137 hQ137
          subst l137 y137 z137
          obtain ⟨rfl, M137, e137⟩ := hQ137
          have N137 := Fr.app N133 M137
          have pre138 : ∀ t, Steps p.tables e below (T137.setTop (mkF m 163 #[.val (.int xw1), .val (.int xw2), .val (.int xq), .val (.int xf), .val (.int w1), .val (.int w2), .val (.int mv), .val (.int ap), .val (.int de), .val (.int v41), .val (.ref b9), .val (.long ex), .second] [(.long (((((0 : Int64) + (1 : Int64)) + (((0 : Int64) + (w1.toInt64)) + (w2.toInt64))) + ((0 : Int64) + (1 : Int64))) + ((0 : Int64) + (mv.toInt64))))])) t → Steps p.tables e below (s₁.setTop (entryFrame m #[(.int xw1), (.int xw2), (.int xq), (.int xf)] maxLocals)) t := fun t k => pre136 t (st137.trans k)
          have pre139 : ∀ t, Steps p.tables e below (T137.setTop (mkF m 174 #[.val (.int xw1), .val (.int xw2), .val (.int xq), .val (.int xf), .val (.int w1), .val (.int w2), .val (.int mv), .val (.int ap), .val (.int de), .val (.int v41), .val (.ref b9), .val (.long ex), .second] [(.int (1 : Int32))])) t → Steps p.tables e below (s₁.setTop (entryFrame m #[(.int xw1), (.int xw2), (.int xq), (.int xf)] maxLocals)) t := by
            intro t k
            refine pre138 t ?_
            refine XS.lload X137.here hx rfl (hb hby at_163) rfl ?_
            show Steps p.tables e below (T137.setTop (mkF m 165 #[.val (.int xw1), .val (.int xw2), .val (.int xq), .val (.int xf), .val (.int w1), .val (.int w2), .val (.int mv), .val (.int ap), .val (.int de), .val (.int v41), .val (.ref b9), .val (.long ex), .second] [(.long ex), (.long (((((0 : Int64) + (1 : Int64)) + (((0 : Int64) + (w1.toInt64)) + (w2.toInt64))) + ((0 : Int64) + (1 : Int64))) + ((0 : Int64) + (mv.toInt64))))])) _
            refine XS.lcmp X137.here hx rfl (hb hby at_165) rfl ?_
            show Steps p.tables e below (T137.setTop (mkF m 166 #[.val (.int xw1), .val (.int xw2), .val (.int xq), .val (.int xf), .val (.int w1), .val (.int w2), .val (.int mv), .val (.int ap), .val (.int de), .val (.int v41), .val (.ref b9), .val (.long ex), .second] [(.int (lcmpW (((((0 : Int64) + (1 : Int64)) + (((0 : Int64) + (w1.toInt64)) + (w2.toInt64))) + ((0 : Int64) + (1 : Int64))) + ((0 : Int64) + (mv.toInt64))) ex))])) _
            refine XS.ifNo X137.here hx rfl (hb hby at_166) rfl ((if0 _ _).trans (teq ((lw_eq _ _).mpr (show (((((0 : Int64) + (1 : Int64)) + (((0 : Int64) + (w1.toInt64)) + (w2.toInt64))) + ((0 : Int64) + (1 : Int64))) + ((0 : Int64) + (mv.toInt64))) = ex from by rw [hex]; exact own_3 w1 w2 mv xf ap de hap hde hc75 hc88 hc105))).2) ?_
            show Steps p.tables e below (T137.setTop (mkF m 169 #[.val (.int xw1), .val (.int xw2), .val (.int xq), .val (.int xf), .val (.int w1), .val (.int w2), .val (.int mv), .val (.int ap), .val (.int de), .val (.int v41), .val (.ref b9), .val (.long ex), .second] [])) _
            refine XS.iconst X137.here hx rfl (hb hby at_169) ?_
            show Steps p.tables e below (T137.setTop (mkF m 170 #[.val (.int xw1), .val (.int xw2), .val (.int xq), .val (.int xf), .val (.int w1), .val (.int w2), .val (.int mv), .val (.int ap), .val (.int de), .val (.int v41), .val (.ref b9), .val (.long ex), .second] [(.int (1 : Int32))])) _
            refine XS.goto X137.here hx rfl (pc0 := 170) (pc' := 174) rfl (hb hby at_170) (by decide) (by decide) ?_
            show Steps p.tables e below (T137.setTop (mkF m 174 #[.val (.int xw1), .val (.int xw2), .val (.int xq), .val (.int xf), .val (.int w1), .val (.int w2), .val (.int mv), .val (.int ap), .val (.int de), .val (.int v41), .val (.ref b9), .val (.long ex), .second] [(.int (1 : Int32))])) _
            exact k
          obtain ⟨fs, hr, hrun, hended, hW, hsame⟩ := X137.leave (v := some (.int (1 : Int32))) (fun h => by rw [Bd.returns] at h; cases h)
          refine ⟨_, _, pre139 _ ?_, hrun, hended, _, _, rfl, ?_, ⟨_, rfl⟩, hW, hsame.mono (by decide) (by decide)⟩
          · exact retN X137 hx (t := .boolean) Bd.returns (by simp) (hb hby at_174) hr
          · show Q_rm0 Z xw1 xw2 xq xf h0 n0 _ T137.heap _
            rw [e137]
            exact ⟨rfl, N137⟩
  · have pre140 : ∀ t, Steps p.tables e below (T15.setTop (mkF m 80 #[.val (.int xw1), .val (.int xw2), .val (.int xq), .val (.int xf), .val (.int w1), .val (.int w2), .val (.int mv), .val (.int ap), .val (.int de), .val (.int v41), .val (.ref b9), .unset, .unset] [(.ref b9)])) t → Steps p.tables e below (s₁.setTop (entryFrame m #[(.int xw1), (.int xw2), (.int xq), (.int xf)] maxLocals)) t := by
      intro t k
      refine pre17 t ?_
      refine XS.ifNo X15.here hx rfl (hb hby at_75) rfl ((if0 _ _).trans (feq hc75).1) ?_
      show Steps p.tables e below (T15.setTop (mkF m 78 #[.val (.int xw1), .val (.int xw2), .val (.int xq), .val (.int xf), .val (.int w1), .val (.int w2), .val (.int mv), .val (.int ap), .val (.int de), .val (.int v41), .val (.ref b9), .unset, .unset] [])) _
      refine XS.aload X15.here hx rfl (hb hby at_78) rfl rfl ?_
      show Steps p.tables e below (T15.setTop (mkF m 80 #[.val (.int xw1), .val (.int xw2), .val (.int xq), .val (.int xf), .val (.int w1), .val (.int w2), .val (.int mv), .val (.int ap), .val (.int de), .val (.int v41), .val (.ref b9), .unset, .unset] [(.ref b9)])) _
      exact k
    obtain ⟨cq141, kq141, q141a, q141b, q141c⟩ := isOf hZ e15 f12_0
    obtain ⟨_, _, ⟨T141, L141, k141, n141⟩, -, X141, ⟨Lc141, hQ141, l141, y141, z141⟩, st141⟩ := X15.virtualBack hx (y := (⟨"com/example/suitor/suitor/SolverStatistics", "countApplication", "()V"⟩ : MethodName)) (z := (⟨"com/example/suitor/suitor/SolverStatistics", "countApplication", "()V"⟩ : MethodName)) hown (mvT hZ (hw _ (List.mem_of_getElem? (i := 23) rfl))) (mvT hZ (hw _ (List.mem_of_getElem? (i := 24) rfl))) (notFace_of_selects (args := #[]) (mvT hZ (hw _ (List.mem_of_getElem? (i := 26) rfl)))) (mvT hZ (hw _ (List.mem_of_getElem? (i := 26) rfl))) (mvT hZ (hw _ (List.mem_of_getElem? (i := 25) rfl))) (by decide) (backOf (W := 0) (rm_countApplication l Z a0 hw [] b9 (0 : Int64) (0 : Int64) (0 : Int64) (0 : Int64) (0 : Int64) T12.heap n0 zz12 f12_0 (g_b9) f12_1 f12_2 f12_3 f12_4 f12_5) hZ (hw _ (List.mem_of_getElem? (i := 27) rfl)) (hw _ (List.mem_of_getElem? (i := 3) rfl)) (by decide) (by decide)) q141a q141c (g := (mkF m 80 #[.val (.int xw1), .val (.int xw2), .val (.int xq), .val (.int xf), .val (.int w1), .val (.int w2), .val (.int mv), .val (.int ap), .val (.int de), .val (.int v41), .val (.ref b9), .unset, .unset] [(.ref b9)])) rfl (by rw [hml]; rfl) (Steps.refl _) (argsL := []) (rest := []) (lenOf pd0 rfl) rfl (by show 2 * 0 + _ ≤ _; exact Nat.le_of_eq rfl) (hb hby at_80) (fun _ _ => ⟨rfl, e15, (by decide : 1 + 0 ≤ _), (by decide : 5 + 0 ≤ _)⟩)
    dsimp only [Pt.U, Pt.locs, Pt.cells, Pt.slots] at X141 l141 y141 z141 st141 hQ141
    subst l141 y141 z141
    obtain ⟨rfl, M141, kp141, f141_0, f141_1, f141_2, f141_3, f141_4, f141_5⟩ := hQ141
    have K141 : Keep h0 T141.heap ([] : List Addr) := K12.trans kp141 (allS (P := fun x => x ∈ ([] : List Addr) ∨ h0.size ≤ x) (Or.inr sz_b9) all0)
    have zz141 : n0 ≤ T141.heap.size := Nat.le_trans Z0 K141.1
    have N141 := Fr.app N15 M141
    have pre142 : ∀ t, Steps p.tables e below (T141.setTop (mkF m 83 #[.val (.int xw1), .val (.int xw2), .val (.int xq), .val (.int xf), .val (.int w1), .val (.int w2), .val (.int mv), .val (.int ap), .val (.int de), .val (.int v41), .val (.ref b9), .unset, .unset] [])) t → Steps p.tables e below (s₁.setTop (entryFrame m #[(.int xw1), (.int xw2), (.int xq), (.int xf)] maxLocals)) t := fun t k => pre140 t (st141.trans k)
    have pre143 : ∀ t, Steps p.tables e below (T141.setTop (mkF m 88 #[.val (.int xw1), .val (.int xw2), .val (.int xq), .val (.int xf), .val (.int w1), .val (.int w2), .val (.int mv), .val (.int ap), .val (.int de), .val (.int v41), .val (.ref b9), .unset, .unset] [(.int ((xf >>> ((1 : Int32) &&& 31)) &&& (1 : Int32)))])) t → Steps p.tables e below (s₁.setTop (entryFrame m #[(.int xw1), (.int xw2), (.int xq), (.int xf)] maxLocals)) t := by
      intro t k
      refine pre142 t ?_
      refine XS.iloadN X141.here hx rfl (hb hby at_83) rfl ?_
      show Steps p.tables e below (T141.setTop (mkF m 84 #[.val (.int xw1), .val (.int xw2), .val (.int xq), .val (.int xf), .val (.int w1), .val (.int w2), .val (.int mv), .val (.int ap), .val (.int de), .val (.int v41), .val (.ref b9), .unset, .unset] [(.int xf)])) _
      refine XS.iconst X141.here hx rfl (hb hby at_84) ?_
      show Steps p.tables e below (T141.setTop (mkF m 85 #[.val (.int xw1), .val (.int xw2), .val (.int xq), .val (.int xf), .val (.int w1), .val (.int w2), .val (.int mv), .val (.int ap), .val (.int de), .val (.int v41), .val (.ref b9), .unset, .unset] [(.int (1 : Int32)), (.int xf)])) _
      refine XS.ishr X141.here hx rfl (hb hby at_85) rfl ?_
      show Steps p.tables e below (T141.setTop (mkF m 86 #[.val (.int xw1), .val (.int xw2), .val (.int xq), .val (.int xf), .val (.int w1), .val (.int w2), .val (.int mv), .val (.int ap), .val (.int de), .val (.int v41), .val (.ref b9), .unset, .unset] [(.int (xf >>> ((1 : Int32) &&& 31)))])) _
      refine XS.iconst X141.here hx rfl (hb hby at_86) ?_
      show Steps p.tables e below (T141.setTop (mkF m 87 #[.val (.int xw1), .val (.int xw2), .val (.int xq), .val (.int xf), .val (.int w1), .val (.int w2), .val (.int mv), .val (.int ap), .val (.int de), .val (.int v41), .val (.ref b9), .unset, .unset] [(.int (1 : Int32)), (.int (xf >>> ((1 : Int32) &&& 31)))])) _
      refine XS.iand X141.here hx rfl (hb hby at_87) rfl ?_
      show Steps p.tables e below (T141.setTop (mkF m 88 #[.val (.int xw1), .val (.int xw2), .val (.int xq), .val (.int xf), .val (.int w1), .val (.int w2), .val (.int mv), .val (.int ap), .val (.int de), .val (.int v41), .val (.ref b9), .unset, .unset] [(.int ((xf >>> ((1 : Int32) &&& 31)) &&& (1 : Int32)))])) _
      exact k
    by_cases hc88 : ((xf >>> ((1 : Int32) &&& 31)) &&& (1 : Int32)) = (0 : Int32)
    · have pre144 : ∀ t, Steps p.tables e below (T141.setTop (mkF m 100 #[.val (.int xw1), .val (.int xw2), .val (.int xq), .val (.int xf), .val (.int w1), .val (.int w2), .val (.int mv), .val (.int ap), .val (.int de), .val (.int v41), .val (.ref b9), .unset, .unset] [(.int w1), (.ref b9)])) t → Steps p.tables e below (s₁.setTop (entryFrame m #[(.int xw1), (.int xw2), (.int xq), (.int xf)] maxLocals)) t := by
        intro t k
        refine pre143 t ?_
        refine XS.ifYes X141.here hx rfl (pc0 := 88) (pc' := 96) rfl (hb hby at_88) rfl ((if0 _ _).trans (teq hc88).1) (by decide) (by decide) ?_
        show Steps p.tables e below (T141.setTop (mkF m 96 #[.val (.int xw1), .val (.int xw2), .val (.int xq), .val (.int xf), .val (.int w1), .val (.int w2), .val (.int mv), .val (.int ap), .val (.int de), .val (.int v41), .val (.ref b9), .unset, .unset] [])) _
        refine XS.aload X141.here hx rfl (hb hby at_96) rfl rfl ?_
        show Steps p.tables e below (T141.setTop (mkF m 98 #[.val (.int xw1), .val (.int xw2), .val (.int xq), .val (.int xf), .val (.int w1), .val (.int w2), .val (.int mv), .val (.int ap), .val (.int de), .val (.int v41), .val (.ref b9), .unset, .unset] [(.ref b9)])) _
        refine XS.iload X141.here hx rfl (hb hby at_98) rfl ?_
        show Steps p.tables e below (T141.setTop (mkF m 100 #[.val (.int xw1), .val (.int xw2), .val (.int xq), .val (.int xf), .val (.int w1), .val (.int w2), .val (.int mv), .val (.int ap), .val (.int de), .val (.int v41), .val (.ref b9), .unset, .unset] [(.int w1), (.ref b9)])) _
        exact k
      obtain ⟨cq145, kq145, q145a, q145b, q145c⟩ := isOf hZ rfl f141_0
      obtain ⟨_, _, ⟨T145, L145, k145, n145⟩, -, X145, ⟨Lc145, hQ145, l145, y145, z145⟩, st145⟩ := X141.virtualBack hx (y := (⟨"com/example/suitor/suitor/SolverStatistics", "countWalkSteps", "(I)V"⟩ : MethodName)) (z := (⟨"com/example/suitor/suitor/SolverStatistics", "countWalkSteps", "(I)V"⟩ : MethodName)) hown (mvT hZ (hw _ (List.mem_of_getElem? (i := 28) rfl))) (mvT hZ (hw _ (List.mem_of_getElem? (i := 29) rfl))) (notFace_of_selects (args := #[]) (mvT hZ (hw _ (List.mem_of_getElem? (i := 31) rfl)))) (mvT hZ (hw _ (List.mem_of_getElem? (i := 31) rfl))) (mvT hZ (hw _ (List.mem_of_getElem? (i := 30) rfl))) (by decide) (backOf (W := 0) (rm_countWalkSteps l Z a0 hw [] b9 w1 ((0 : Int64) + (1 : Int64)) (0 : Int64) (0 : Int64) (0 : Int64) (0 : Int64) T141.heap n0 zz141 f141_0 (g_b9) f141_1 f141_2 f141_3 f141_4 f141_5) hZ (hw _ (List.mem_of_getElem? (i := 32) rfl)) (hw _ (List.mem_of_getElem? (i := 3) rfl)) (by decide) (by decide)) q145a q145c (g := (mkF m 100 #[.val (.int xw1), .val (.int xw2), .val (.int xq), .val (.int xf), .val (.int w1), .val (.int w2), .val (.int mv), .val (.int ap), .val (.int de), .val (.int v41), .val (.ref b9), .unset, .unset] [(.int w1), (.ref b9)])) rfl (by rw [hml]; rfl) (Steps.refl _) (argsL := [(.int w1)]) (rest := []) (lenOf pd2 rfl) rfl (by show 2 * 0 + _ ≤ _; exact Nat.le_of_eq rfl) (hb hby at_100) (fun _ _ => ⟨rfl, rfl, (by decide : 1 + 0 ≤ _), (by decide : 5 + 0 ≤ _)⟩)
      dsimp only [Pt.U, Pt.locs, Pt.cells, Pt.slots] at X145 l145 y145 z145 st145 hQ145
      subst l145 y145 z145
      obtain ⟨rfl, M145, kp145, f145_0, f145_1, f145_2, f145_3, f145_4, f145_5⟩ := hQ145
      have K145 : Keep h0 T145.heap ([] : List Addr) := K141.trans kp145 (allS (P := fun x => x ∈ ([] : List Addr) ∨ h0.size ≤ x) (Or.inr sz_b9) all0)
      have zz145 : n0 ≤ T145.heap.size := Nat.le_trans Z0 K145.1
      have N145 := Fr.app N141 M145
      have pre146 : ∀ t, Steps p.tables e below (T145.setTop (mkF m 103 #[.val (.int xw1), .val (.int xw2), .val (.int xq), .val (.int xf), .val (.int w1), .val (.int w2), .val (.int mv), .val (.int ap), .val (.int de), .val (.int v41), .val (.ref b9), .unset, .unset] [])) t → Steps p.tables e below (s₁.setTop (entryFrame m #[(.int xw1), (.int xw2), (.int xq), (.int xf)] maxLocals)) t := fun t k => pre144 t (st145.trans k)
      have pre147 : ∀ t, Steps p.tables e below (T145.setTop (mkF m 105 #[.val (.int xw1), .val (.int xw2), .val (.int xq), .val (.int xf), .val (.int w1), .val (.int w2), .val (.int mv), .val (.int ap), .val (.int de), .val (.int v41), .val (.ref b9), .unset, .unset] [(.int de)])) t → Steps p.tables e below (s₁.setTop (entryFrame m #[(.int xw1), (.int xw2), (.int xq), (.int xf)] maxLocals)) t := by
        intro t k
        refine pre146 t ?_
        refine XS.iload X145.here hx rfl (hb hby at_103) rfl ?_
        show Steps p.tables e below (T145.setTop (mkF m 105 #[.val (.int xw1), .val (.int xw2), .val (.int xq), .val (.int xf), .val (.int w1), .val (.int w2), .val (.int mv), .val (.int ap), .val (.int de), .val (.int v41), .val (.ref b9), .unset, .unset] [(.int de)])) _
        exact k
      by_cases hc105 : de = (0 : Int32)
      · have pre148 : ∀ t, Steps p.tables e below (T145.setTop (mkF m 115 #[.val (.int xw1), .val (.int xw2), .val (.int xq), .val (.int xf), .val (.int w1), .val (.int w2), .val (.int mv), .val (.int ap), .val (.int de), .val (.int v41), .val (.ref b9), .unset, .unset] [(.int v41)])) t → Steps p.tables e below (s₁.setTop (entryFrame m #[(.int xw1), (.int xw2), (.int xq), (.int xf)] maxLocals)) t := by
          intro t k
          refine pre147 t ?_
          refine XS.ifYes X145.here hx rfl (pc0 := 105) (pc' := 113) rfl (hb hby at_105) rfl ((if0 _ _).trans (teq hc105).1) (by decide) (by decide) ?_
          show Steps p.tables e below (T145.setTop (mkF m 113 #[.val (.int xw1), .val (.int xw2), .val (.int xq), .val (.int xf), .val (.int w1), .val (.int w2), .val (.int mv), .val (.int ap), .val (.int de), .val (.int v41), .val (.ref b9), .unset, .unset] [])) _
          refine XS.iload X145.here hx rfl (hb hby at_113) rfl ?_
          show Steps p.tables e below (T145.setTop (mkF m 115 #[.val (.int xw1), .val (.int xw2), .val (.int xq), .val (.int xf), .val (.int w1), .val (.int w2), .val (.int mv), .val (.int ap), .val (.int de), .val (.int v41), .val (.ref b9), .unset, .unset] [(.int v41)])) _
          exact k
        by_cases hc115 : v41 = (0 : Int32)
        · have pre149 : ∀ t, Steps p.tables e below (T145.setTop (mkF m 127 #[.val (.int xw1), .val (.int xw2), .val (.int xq), .val (.int xf), .val (.int w1), .val (.int w2), .val (.int mv), .val (.int ap), .val (.int de), .val (.int v41), .val (.ref b9), .unset, .unset] [(.int mv), (.ref b9)])) t → Steps p.tables e below (s₁.setTop (entryFrame m #[(.int xw1), (.int xw2), (.int xq), (.int xf)] maxLocals)) t := by
            intro t k
            refine pre148 t ?_
            refine XS.ifYes X145.here hx rfl (pc0 := 115) (pc' := 123) rfl (hb hby at_115) rfl ((if0 _ _).trans (teq hc115).1) (by decide) (by decide) ?_
            show Steps p.tables e below (T145.setTop (mkF m 123 #[.val (.int xw1), .val (.int xw2), .val (.int xq), .val (.int xf), .val (.int w1), .val (.int w2), .val (.int mv), .val (.int ap), .val (.int de), .val (.int v41), .val (.ref b9), .unset, .unset] [])) _
            refine XS.aload X145.here hx rfl (hb hby at_123) rfl rfl ?_
            show Steps p.tables e below (T145.setTop (mkF m 125 #[.val (.int xw1), .val (.int xw2), .val (.int xq), .val (.int xf), .val (.int w1), .val (.int w2), .val (.int mv), .val (.int ap), .val (.int de), .val (.int v41), .val (.ref b9), .unset, .unset] [(.ref b9)])) _
            refine XS.iload X145.here hx rfl (hb hby at_125) rfl ?_
            show Steps p.tables e below (T145.setTop (mkF m 127 #[.val (.int xw1), .val (.int xw2), .val (.int xq), .val (.int xf), .val (.int w1), .val (.int w2), .val (.int mv), .val (.int ap), .val (.int de), .val (.int v41), .val (.ref b9), .unset, .unset] [(.int mv), (.ref b9)])) _
            exact k
          obtain ⟨cq150, kq150, q150a, q150b, q150c⟩ := isOf hZ rfl f145_0
          obtain ⟨_, _, ⟨T150, L150, k150, n150⟩, -, X150, ⟨Lc150, hQ150, l150, y150, z150⟩, st150⟩ := X145.virtualBack hx (y := (⟨"com/example/suitor/suitor/SolverStatistics", "countQueueMoves", "(I)V"⟩ : MethodName)) (z := (⟨"com/example/suitor/suitor/SolverStatistics", "countQueueMoves", "(I)V"⟩ : MethodName)) hown (mvT hZ (hw _ (List.mem_of_getElem? (i := 33) rfl))) (mvT hZ (hw _ (List.mem_of_getElem? (i := 34) rfl))) (notFace_of_selects (args := #[]) (mvT hZ (hw _ (List.mem_of_getElem? (i := 36) rfl)))) (mvT hZ (hw _ (List.mem_of_getElem? (i := 36) rfl))) (mvT hZ (hw _ (List.mem_of_getElem? (i := 35) rfl))) (by decide) (backOf (W := 0) (rm_countQueueMoves l Z a0 hw [] b9 mv ((0 : Int64) + (1 : Int64)) ((0 : Int64) + (w1.toInt64)) (0 : Int64) (0 : Int64) (0 : Int64) T145.heap n0 zz145 f145_0 (g_b9) f145_1 f145_2 f145_3 f145_4 f145_5) hZ (hw _ (List.mem_of_getElem? (i := 37) rfl)) (hw _ (List.mem_of_getElem? (i := 3) rfl)) (by decide) (by decide)) q150a q150c (g := (mkF m 127 #[.val (.int xw1), .val (.int xw2), .val (.int xq), .val (.int xf), .val (.int w1), .val (.int w2), .val (.int mv), .val (.int ap), .val (.int de), .val (.int v41), .val (.ref b9), .unset, .unset] [(.int mv), (.ref b9)])) rfl (by rw [hml]; rfl) (Steps.refl _) (argsL := [(.int mv)]) (rest := []) (lenOf pd2 rfl) rfl (by show 2 * 0 + _ ≤ _; exact Nat.le_of_eq rfl) (hb hby at_127) (fun _ _ => ⟨rfl, rfl, (by decide : 1 + 0 ≤ _), (by decide : 5 + 0 ≤ _)⟩)
          dsimp only [Pt.U, Pt.locs, Pt.cells, Pt.slots] at X150 l150 y150 z150 st150 hQ150
          subst l150 y150 z150
          obtain ⟨rfl, M150, kp150, f150_0, f150_1, f150_2, f150_3, f150_4, f150_5⟩ := hQ150
          have K150 : Keep h0 T150.heap ([] : List Addr) := K145.trans kp150 (allS (P := fun x => x ∈ ([] : List Addr) ∨ h0.size ≤ x) (Or.inr sz_b9) all0)
          have zz150 : n0 ≤ T150.heap.size := Nat.le_trans Z0 K150.1
          have N150 := Fr.app N145 M150
          have pre151 : ∀ t, Steps p.tables e below (T150.setTop (mkF m 130 #[.val (.int xw1), .val (.int xw2), .val (.int xq), .val (.int xf), .val (.int w1), .val (.int w2), .val (.int mv), .val (.int ap), .val (.int de), .val (.int v41), .val (.ref b9), .unset, .unset] [])) t → Steps p.tables e below (s₁.setTop (entryFrame m #[(.int xw1), (.int xw2), (.int xq), (.int xf)] maxLocals)) t := fun t k => pre149 t (st150.trans k)
          have pre152 : ∀ t, Steps p.tables e below (T150.setTop (mkF m 134 #[.val (.int xw1), .val (.int xw2), .val (.int xq), .val (.int xf), .val (.int w1), .val (.int w2), .val (.int mv), .val (.int ap), .val (.int de), .val (.int v41), .val (.ref b9), .unset, .unset] [(.int w2), (.ref b9)])) t → Steps p.tables e below (s₁.setTop (entryFrame m #[(.int xw1), (.int xw2), (.int xq), (.int xf)] maxLocals)) t := by
            intro t k
            refine pre151 t ?_
            refine XS.aload X150.here hx rfl (hb hby at_130) rfl rfl ?_
            show Steps p.tables e below (T150.setTop (mkF m 132 #[.val (.int xw1), .val (.int xw2), .val (.int xq), .val (.int xf), .val (.int w1), .val (.int w2), .val (.int mv), .val (.int ap), .val (.int de), .val (.int v41), .val (.ref b9), .unset, .unset] [(.ref b9)])) _
            refine XS.iload X150.here hx rfl (hb hby at_132) rfl ?_
            show Steps p.tables e below (T150.setTop (mkF m 134 #[.val (.int xw1), .val (.int xw2), .val (.int xq), .val (.int xf), .val (.int w1), .val (.int w2), .val (.int mv), .val (.int ap), .val (.int de), .val (.int v41), .val (.ref b9), .unset, .unset] [(.int w2), (.ref b9)])) _
            exact k
          obtain ⟨cq153, kq153, q153a, q153b, q153c⟩ := isOf hZ rfl f150_0
          obtain ⟨_, _, ⟨T153, L153, k153, n153⟩, -, X153, ⟨Lc153, hQ153, l153, y153, z153⟩, st153⟩ := X150.virtualBack hx (y := (⟨"com/example/suitor/suitor/SolverStatistics", "countWalkSteps", "(I)V"⟩ : MethodName)) (z := (⟨"com/example/suitor/suitor/SolverStatistics", "countWalkSteps", "(I)V"⟩ : MethodName)) hown (mvT hZ (hw _ (List.mem_of_getElem? (i := 28) rfl))) (mvT hZ (hw _ (List.mem_of_getElem? (i := 29) rfl))) (notFace_of_selects (args := #[]) (mvT hZ (hw _ (List.mem_of_getElem? (i := 31) rfl)))) (mvT hZ (hw _ (List.mem_of_getElem? (i := 31) rfl))) (mvT hZ (hw _ (List.mem_of_getElem? (i := 30) rfl))) (by decide) (backOf (W := 0) (rm_countWalkSteps l Z a0 hw [] b9 w2 ((0 : Int64) + (1 : Int64)) ((0 : Int64) + (w1.toInt64)) (0 : Int64) ((0 : Int64) + (mv.toInt64)) (0 : Int64) T150.heap n0 zz150 f150_0 (g_b9) f150_1 f150_2 f150_3 f150_4 f150_5) hZ (hw _ (List.mem_of_getElem? (i := 32) rfl)) (hw _ (List.mem_of_getElem? (i := 3) rfl)) (by decide) (by decide)) q153a q153c (g := (mkF m 134 #[.val (.int xw1), .val (.int xw2), .val (.int xq), .val (.int xf), .val (.int w1), .val (.int w2), .val (.int mv), .val (.int ap), .val (.int de), .val (.int v41), .val (.ref b9), .unset, .unset] [(.int w2), (.ref b9)])) rfl (by rw [hml]; rfl) (Steps.refl _) (argsL := [(.int w2)]) (rest := []) (lenOf pd2 rfl) rfl (by show 2 * 0 + _ ≤ _; exact Nat.le_of_eq rfl) (hb hby at_134) (fun _ _ => ⟨rfl, rfl, (by decide : 1 + 0 ≤ _), (by decide : 5 + 0 ≤ _)⟩)
          dsimp only [Pt.U, Pt.locs, Pt.cells, Pt.slots] at X153 l153 y153 z153 st153 hQ153
          subst l153 y153 z153
          obtain ⟨rfl, M153, kp153, f153_0, f153_1, f153_2, f153_3, f153_4, f153_5⟩ := hQ153
          have K153 : Keep h0 T153.heap ([] : List Addr) := K150.trans kp153 (allS (P := fun x => x ∈ ([] : List Addr) ∨ h0.size ≤ x) (Or.inr sz_b9) all0)
          have zz153 : n0 ≤ T153.heap.size := Nat.le_trans Z0 K153.1
          have N153 := Fr.app N150 M153
          have pre154 : ∀ t, Steps p.tables e below (T153.setTop (mkF m 137 #[.val (.int xw1), .val (.int xw2), .val (.int xq), .val (.int xf), .val (.int w1), .val (.int w2), .val (.int mv), .val (.int ap), .val (.int de), .val (.int v41), .val (.ref b9), .unset, .unset] [])) t → Steps p.tables e below (s₁.setTop (entryFrame m #[(.int xw1), (.int xw2), (.int xq), (.int xf)] maxLocals)) t := fun t k => pre152 t (st153.trans k)
          have pre155 : ∀ t, Steps p.tables e below (T153.setTop (mkF m 158 #[.val (.int xw1), .val (.int xw2), .val (.int xq), .val (.int xf), .val (.int w1), .val (.int w2), .val (.int mv), .val (.int ap), .val (.int de), .val (.int v41), .val (.ref b9), .val (.long (((((ap.toInt64) + (w1.toInt64)) + (w2.toInt64)) + (de.toInt64)) + (mv.toInt64))), .second] [])) t → Steps p.tables e below (s₁.setTop (entryFrame m #[(.int xw1), (.int xw2), (.int xq), (.int xf)] maxLocals)) t := by
            intro t k
            refine pre154 t ?_
            refine XS.iload X153.here hx rfl (hb hby at_137) rfl ?_
            show Steps p.tables e below (T153.setTop (mkF m 139 #[.val (.int xw1), .val (.int xw2), .val (.int xq), .val (.int xf), .val (.int w1), .val (.int w2), .val (.int mv), .val (.int ap), .val (.int de), .val (.int v41), .val (.ref b9), .unset, .unset] [(.int ap)])) _
            refine XS.i2l X153.here hx rfl (hb hby at_139) rfl ?_
            show Steps p.tables e below (T153.setTop (mkF m 140 #[.val (.int xw1), .val (.int xw2), .val (.int xq), .val (.int xf), .val (.int w1), .val (.int w2), .val (.int mv), .val (.int ap), .val (.int de), .val (.int v41), .val (.ref b9), .unset, .unset] [(.long (ap.toInt64))])) _
            refine XS.iload X153.here hx rfl (hb hby at_140) rfl ?_
            show Steps p.tables e below (T153.setTop (mkF m 142 #[.val (.int xw1), .val (.int xw2), .val (.int xq), .val (.int xf), .val (.int w1), .val (.int w2), .val (.int mv), .val (.int ap), .val (.int de), .val (.int v41), .val (.ref b9), .unset, .unset] [(.int w1), (.long (ap.toInt64))])) _
            refine XS.i2l X153.here hx rfl (hb hby at_142) rfl ?_
            show Steps p.tables e below (T153.setTop (mkF m 143 #[.val (.int xw1), .val (.int xw2), .val (.int xq), .val (.int xf), .val (.int w1), .val (.int w2), .val (.int mv), .val (.int ap), .val (.int de), .val (.int v41), .val (.ref b9), .unset, .unset] [(.long (w1.toInt64)), (.long (ap.toInt64))])) _
            refine XS.ladd X153.here hx rfl (hb hby at_143) rfl ?_
            show Steps p.tables e below (T153.setTop (mkF m 144 #[.val (.int xw1), .val (.int xw2), .val (.int xq), .val (.int xf), .val (.int w1), .val (.int w2), .val (.int mv), .val (.int ap), .val (.int de), .val (.int v41), .val (.ref b9), .unset, .unset] [(.long ((ap.toInt64) + (w1.toInt64)))])) _
            refine XS.iload X153.here hx rfl (hb hby at_144) rfl ?_
            show Steps p.tables e below (T153.setTop (mkF m 146 #[.val (.int xw1), .val (.int xw2), .val (.int xq), .val (.int xf), .val (.int w1), .val (.int w2), .val (.int mv), .val (.int ap), .val (.int de), .val (.int v41), .val (.ref b9), .unset, .unset] [(.int w2), (.long ((ap.toInt64) + (w1.toInt64)))])) _
            refine XS.i2l X153.here hx rfl (hb hby at_146) rfl ?_
            show Steps p.tables e below (T153.setTop (mkF m 147 #[.val (.int xw1), .val (.int xw2), .val (.int xq), .val (.int xf), .val (.int w1), .val (.int w2), .val (.int mv), .val (.int ap), .val (.int de), .val (.int v41), .val (.ref b9), .unset, .unset] [(.long (w2.toInt64)), (.long ((ap.toInt64) + (w1.toInt64)))])) _
            refine XS.ladd X153.here hx rfl (hb hby at_147) rfl ?_
            show Steps p.tables e below (T153.setTop (mkF m 148 #[.val (.int xw1), .val (.int xw2), .val (.int xq), .val (.int xf), .val (.int w1), .val (.int w2), .val (.int mv), .val (.int ap), .val (.int de), .val (.int v41), .val (.ref b9), .unset, .unset] [(.long (((ap.toInt64) + (w1.toInt64)) + (w2.toInt64)))])) _
            refine XS.iload X153.here hx rfl (hb hby at_148) rfl ?_
            show Steps p.tables e below (T153.setTop (mkF m 150 #[.val (.int xw1), .val (.int xw2), .val (.int xq), .val (.int xf), .val (.int w1), .val (.int w2), .val (.int mv), .val (.int ap), .val (.int de), .val (.int v41), .val (.ref b9), .unset, .unset] [(.int de), (.long (((ap.toInt64) + (w1.toInt64)) + (w2.toInt64)))])) _
            refine XS.i2l X153.here hx rfl (hb hby at_150) rfl ?_
            show Steps p.tables e below (T153.setTop (mkF m 151 #[.val (.int xw1), .val (.int xw2), .val (.int xq), .val (.int xf), .val (.int w1), .val (.int w2), .val (.int mv), .val (.int ap), .val (.int de), .val (.int v41), .val (.ref b9), .unset, .unset] [(.long (de.toInt64)), (.long (((ap.toInt64) + (w1.toInt64)) + (w2.toInt64)))])) _
            refine XS.ladd X153.here hx rfl (hb hby at_151) rfl ?_
            show Steps p.tables e below (T153.setTop (mkF m 152 #[.val (.int xw1), .val (.int xw2), .val (.int xq), .val (.int xf), .val (.int w1), .val (.int w2), .val (.int mv), .val (.int ap), .val (.int de), .val (.int v41), .val (.ref b9), .unset, .unset] [(.long ((((ap.toInt64) + (w1.toInt64)) + (w2.toInt64)) + (de.toInt64)))])) _
            refine XS.iload X153.here hx rfl (hb hby at_152) rfl ?_
            show Steps p.tables e below (T153.setTop (mkF m 154 #[.val (.int xw1), .val (.int xw2), .val (.int xq), .val (.int xf), .val (.int w1), .val (.int w2), .val (.int mv), .val (.int ap), .val (.int de), .val (.int v41), .val (.ref b9), .unset, .unset] [(.int mv), (.long ((((ap.toInt64) + (w1.toInt64)) + (w2.toInt64)) + (de.toInt64)))])) _
            refine XS.i2l X153.here hx rfl (hb hby at_154) rfl ?_
            show Steps p.tables e below (T153.setTop (mkF m 155 #[.val (.int xw1), .val (.int xw2), .val (.int xq), .val (.int xf), .val (.int w1), .val (.int w2), .val (.int mv), .val (.int ap), .val (.int de), .val (.int v41), .val (.ref b9), .unset, .unset] [(.long (mv.toInt64)), (.long ((((ap.toInt64) + (w1.toInt64)) + (w2.toInt64)) + (de.toInt64)))])) _
            refine XS.ladd X153.here hx rfl (hb hby at_155) rfl ?_
            show Steps p.tables e below (T153.setTop (mkF m 156 #[.val (.int xw1), .val (.int xw2), .val (.int xq), .val (.int xf), .val (.int w1), .val (.int w2), .val (.int mv), .val (.int ap), .val (.int de), .val (.int v41), .val (.ref b9), .unset, .unset] [(.long (((((ap.toInt64) + (w1.toInt64)) + (w2.toInt64)) + (de.toInt64)) + (mv.toInt64)))])) _
            refine XS.lstore X153.here hx rfl (hb hby at_156) rfl (l' := #[.val (.int xw1), .val (.int xw2), .val (.int xq), .val (.int xf), .val (.int w1), .val (.int w2), .val (.int mv), .val (.int ap), .val (.int de), .val (.int v41), .val (.ref b9), .val (.long (((((ap.toInt64) + (w1.toInt64)) + (w2.toInt64)) + (de.toInt64)) + (mv.toInt64))), .second]) rfl ?_
            show Steps p.tables e below (T153.setTop (mkF m 158 #[.val (.int xw1), .val (.int xw2), .val (.int xq), .val (.int xf), .val (.int w1), .val (.int w2), .val (.int mv), .val (.int ap), .val (.int de), .val (.int v41), .val (.ref b9), .val (.long (((((ap.toInt64) + (w1.toInt64)) + (w2.toInt64)) + (de.toInt64)) + (mv.toInt64))), .second] [])) _
            exact k
          obtain ⟨ex, hex⟩ : ∃ z : Int64, z = (((((ap.toInt64) + (w1.toInt64)) + (w2.toInt64)) + (de.toInt64)) + (mv.toInt64)) := ⟨_, rfl⟩
          rw [← hex] at pre155
          have pre156 : ∀ t, Steps p.tables e below (T153.setTop (mkF m 160 #[.val (.int xw1), .val (.int xw2), .val (.int xq), .val (.int xf), .val (.int w1), .val (.int w2), .val (.int mv), .val (.int ap), .val (.int de), .val (.int v41), .val (.ref b9), .val (.long ex), .second] [(.ref b9)])) t → Steps p.tables e below (s₁.setTop (entryFrame m #[(.int xw1), (.int xw2), (.int xq), (.int xf)] maxLocals)) t := by
            intro t k
            refine pre155 t ?_
            refine XS.aload X153.here hx rfl (hb hby at_158) rfl rfl ?_
            show Steps p.tables e below (T153.setTop (mkF m 160 #[.val (.int xw1), .val (.int xw2), .val (.int xq), .val (.int xf), .val (.int w1), .val (.int w2), .val (.int mv), .val (.int ap), .val (.int de), .val (.int v41), .val (.ref b9), .val (.long ex), .second] [(.ref b9)])) _
            exact k
          obtain ⟨cq157, kq157, q157a, q157b, q157c⟩ := isOf hZ rfl f153_0
          obtain ⟨_, _, ⟨T157, L157, k157, n157⟩, -, X157, ⟨Lc157, hQ157, l157, y157, z157⟩, st157⟩ := X153.virtualBack hx (y := (⟨"com/example/suitor/suitor/SolverStatistics", "getSteps", "()J"⟩ : MethodName)) (z := (⟨"com/example/suitor/suitor/SolverStatistics", "getSteps", "()J"⟩ : MethodName)) hown (mvT hZ (hw _ (List.mem_of_getElem? (i := 10) rfl))) (mvT hZ (hw _ (List.mem_of_getElem? (i := 11) rfl))) (notFace_of_selects (args := #[]) (mvT hZ (hw _ (List.mem_of_getElem? (i := 13) rfl)))) (mvT hZ (hw _ (List.mem_of_getElem? (i := 13) rfl))) (mvT hZ (hw _ (List.mem_of_getElem? (i := 12) rfl))) (by decide) (backOf (W := 0) (rm_steps l Z a0 hw [] b9 ((0 : Int64) + (1 : Int64)) (((0 : Int64) + (w1.toInt64)) + (w2.toInt64)) (0 : Int64) ((0 : Int64) + (mv.toInt64)) T153.heap n0 zz153 f153_1 f153_2 f153_3 f153_4) hZ (hw _ (List.mem_of_getElem? (i := 14) rfl)) (hw _ (List.mem_of_getElem? (i := 3) rfl)) (by decide) (by decide)) q157a q157c (g := (mkF m 160 #[.val (.int xw1), .val (.int xw2), .val (.int xq), .val (.int xf), .val (.int w1), .val (.int w2), .val (.int mv), .val (.int ap), .val (.int de), .val (.int v41), .val (.ref b9), .val (.long ex), .second] [(.ref b9)])) rfl (by rw [hml]; rfl) (Steps.refl _) (argsL := []) (rest := []) (lenOf pd1 rfl) rfl (by show 2 * 0 + _ ≤ _; exact Nat.le_of_eq rfl) (hb hby at_160) (fun _ _ => ⟨rfl, rfl, (by decide : 1 + 0 ≤ _), (by decide : 5 + 0 ≤ _)⟩)
          dsimp only [Pt.U, Pt.locs, Pt.cells, Pt.slots] at X157 l157 y157 z157 st157 hQ157
          subst l157 y157 z157
          obtain ⟨rfl, M157, e157⟩ := hQ157
          have N157 := Fr.app N153 M157
          have pre158 : ∀ t, Steps p.tables e below (T157.setTop (mkF m 163 #[.val (.int xw1), .val (.int xw2), .val (.int xq), .val (.int xf), .val (.int w1), .val (.int w2), .val (.int mv), .val (.int ap), .val (.int de), .val (.int v41), .val (.ref b9), .val (.long ex), .second] [(.long (((((0 : Int64) + (1 : Int64)) + (((0 : Int64) + (w1.toInt64)) + (w2.toInt64))) + (0 : Int64)) + ((0 : Int64) + (mv.toInt64))))])) t → Steps p.tables e below (s₁.setTop (entryFrame m #[(.int xw1), (.int xw2), (.int xq), (.int xf)] maxLocals)) t := fun t k => pre156 t (st157.trans k)
          have pre159 : ∀ t, Steps p.tables e below (T157.setTop (mkF m 174 #[.val (.int xw1), .val (.int xw2), .val (.int xq), .val (.int xf), .val (.int w1), .val (.int w2), .val (.int mv), .val (.int ap), .val (.int de), .val (.int v41), .val (.ref b9), .val (.long ex), .second] [(.int (1 : Int32))])) t → Steps p.tables e below (s₁.setTop (entryFrame m #[(.int xw1), (.int xw2), (.int xq), (.int xf)] maxLocals)) t := by
            intro t k
            refine pre158 t ?_
            refine XS.lload X157.here hx rfl (hb hby at_163) rfl ?_
            show Steps p.tables e below (T157.setTop (mkF m 165 #[.val (.int xw1), .val (.int xw2), .val (.int xq), .val (.int xf), .val (.int w1), .val (.int w2), .val (.int mv), .val (.int ap), .val (.int de), .val (.int v41), .val (.ref b9), .val (.long ex), .second] [(.long ex), (.long (((((0 : Int64) + (1 : Int64)) + (((0 : Int64) + (w1.toInt64)) + (w2.toInt64))) + (0 : Int64)) + ((0 : Int64) + (mv.toInt64))))])) _
            refine XS.lcmp X157.here hx rfl (hb hby at_165) rfl ?_
            show Steps p.tables e below (T157.setTop (mkF m 166 #[.val (.int xw1), .val (.int xw2), .val (.int xq), .val (.int xf), .val (.int w1), .val (.int w2), .val (.int mv), .val (.int ap), .val (.int de), .val (.int v41), .val (.ref b9), .val (.long ex), .second] [(.int (lcmpW (((((0 : Int64) + (1 : Int64)) + (((0 : Int64) + (w1.toInt64)) + (w2.toInt64))) + (0 : Int64)) + ((0 : Int64) + (mv.toInt64))) ex))])) _
            refine XS.ifNo X157.here hx rfl (hb hby at_166) rfl ((if0 _ _).trans (teq ((lw_eq _ _).mpr (show (((((0 : Int64) + (1 : Int64)) + (((0 : Int64) + (w1.toInt64)) + (w2.toInt64))) + (0 : Int64)) + ((0 : Int64) + (mv.toInt64))) = ex from by rw [hex]; exact own_4 w1 w2 mv xf ap de hap hde hc75 hc88 hc105))).2) ?_
            show Steps p.tables e below (T157.setTop (mkF m 169 #[.val (.int xw1), .val (.int xw2), .val (.int xq), .val (.int xf), .val (.int w1), .val (.int w2), .val (.int mv), .val (.int ap), .val (.int de), .val (.int v41), .val (.ref b9), .val (.long ex), .second] [])) _
            refine XS.iconst X157.here hx rfl (hb hby at_169) ?_
            show Steps p.tables e below (T157.setTop (mkF m 170 #[.val (.int xw1), .val (.int xw2), .val (.int xq), .val (.int xf), .val (.int w1), .val (.int w2), .val (.int mv), .val (.int ap), .val (.int de), .val (.int v41), .val (.ref b9), .val (.long ex), .second] [(.int (1 : Int32))])) _
            refine XS.goto X157.here hx rfl (pc0 := 170) (pc' := 174) rfl (hb hby at_170) (by decide) (by decide) ?_
            show Steps p.tables e below (T157.setTop (mkF m 174 #[.val (.int xw1), .val (.int xw2), .val (.int xq), .val (.int xf), .val (.int w1), .val (.int w2), .val (.int mv), .val (.int ap), .val (.int de), .val (.int v41), .val (.ref b9), .val (.long ex), .second] [(.int (1 : Int32))])) _
            exact k
          obtain ⟨fs, hr, hrun, hended, hW, hsame⟩ := X157.leave (v := some (.int (1 : Int32))) (fun h => by rw [Bd.returns] at h; cases h)
          refine ⟨_, _, pre159 _ ?_, hrun, hended, _, _, rfl, ?_, ⟨_, rfl⟩, hW, hsame.mono (by decide) (by decide)⟩
          · exact retN X157 hx (t := .boolean) Bd.returns (by simp) (hb hby at_174) hr
          · show Q_rm0 Z xw1 xw2 xq xf h0 n0 _ T157.heap _
            rw [e157]
            exact ⟨rfl, N157⟩
        · have pre160 : ∀ t, Steps p.tables e below (T145.setTop (mkF m 120 #[.val (.int xw1), .val (.int xw2), .val (.int xq), .val (.int xf), .val (.int w1), .val (.int w2), .val (.int mv), .val (.int ap), .val (.int de), .val (.int v41), .val (.ref b9), .unset, .unset] [(.ref b9)])) t → Steps p.tables e below (s₁.setTop (entryFrame m #[(.int xw1), (.int xw2), (.int xq), (.int xf)] maxLocals)) t := by
            intro t k
            refine pre148 t ?_
            refine XS.ifNo X145.here hx rfl (hb hby at_115) rfl ((if0 _ _).trans (feq hc115).1) ?_
            show Steps p.tables e below (T145.setTop (mkF m 118 #[.val (.int xw1), .val (.int xw2), .val (.int xq), .val (.int xf), .val (.int w1), .val (.int w2), .val (.int mv), .val (.int ap), .val (.int de), .val (.int v41), .val (.ref b9), .unset, .unset] [])) _
            refine XS.aload X145.here hx rfl (hb hby at_118) rfl rfl ?_
            show Steps p.tables e below (T145.setTop (mkF m 120 #[.val (.int xw1), .val (.int xw2), .val (.int xq), .val (.int xf), .val (.int w1), .val (.int w2), .val (.int mv), .val (.int ap), .val (.int de), .val (.int v41), .val (.ref b9), .unset, .unset] [(.ref b9)])) _
            exact k
          obtain ⟨cq161, kq161, q161a, q161b, q161c⟩ := isOf hZ rfl f145_0
          obtain ⟨_, _, ⟨T161, L161, k161, n161⟩, -, X161, ⟨Lc161, hQ161, l161, y161, z161⟩, st161⟩ := X145.virtualBack hx (y := (⟨"com/example/suitor/suitor/SolverStatistics", "countPass", "()V"⟩ : MethodName)) (z := (⟨"com/example/suitor/suitor/SolverStatistics", "countPass", "()V"⟩ : MethodName)) hown (mvT hZ (hw _ (List.mem_of_getElem? (i := 38) rfl))) (mvT hZ (hw _ (List.mem_of_getElem? (i := 39) rfl))) (notFace_of_selects (args := #[]) (mvT hZ (hw _ (List.mem_of_getElem? (i := 41) rfl)))) (mvT hZ (hw _ (List.mem_of_getElem? (i := 41) rfl))) (mvT hZ (hw _ (List.mem_of_getElem? (i := 40) rfl))) (by decide) (backOf (W := 0) (rm_countPass l Z a0 hw [] b9 ((0 : Int64) + (1 : Int64)) ((0 : Int64) + (w1.toInt64)) (0 : Int64) (0 : Int64) (0 : Int64) T145.heap n0 zz145 f145_0 (g_b9) f145_1 f145_2 f145_3 f145_4 f145_5) hZ (hw _ (List.mem_of_getElem? (i := 42) rfl)) (hw _ (List.mem_of_getElem? (i := 3) rfl)) (by decide) (by decide)) q161a q161c (g := (mkF m 120 #[.val (.int xw1), .val (.int xw2), .val (.int xq), .val (.int xf), .val (.int w1), .val (.int w2), .val (.int mv), .val (.int ap), .val (.int de), .val (.int v41), .val (.ref b9), .unset, .unset] [(.ref b9)])) rfl (by rw [hml]; rfl) (Steps.refl _) (argsL := []) (rest := []) (lenOf pd0 rfl) rfl (by show 2 * 0 + _ ≤ _; exact Nat.le_of_eq rfl) (hb hby at_120) (fun _ _ => ⟨rfl, rfl, (by decide : 1 + 0 ≤ _), (by decide : 5 + 0 ≤ _)⟩)
          dsimp only [Pt.U, Pt.locs, Pt.cells, Pt.slots] at X161 l161 y161 z161 st161 hQ161
          subst l161 y161 z161
          obtain ⟨rfl, M161, kp161, f161_0, f161_1, f161_2, f161_3, f161_4, f161_5⟩ := hQ161
          have K161 : Keep h0 T161.heap ([] : List Addr) := K145.trans kp161 (allS (P := fun x => x ∈ ([] : List Addr) ∨ h0.size ≤ x) (Or.inr sz_b9) all0)
          have zz161 : n0 ≤ T161.heap.size := Nat.le_trans Z0 K161.1
          have N161 := Fr.app N145 M161
          have pre162 : ∀ t, Steps p.tables e below (T161.setTop (mkF m 123 #[.val (.int xw1), .val (.int xw2), .val (.int xq), .val (.int xf), .val (.int w1), .val (.int w2), .val (.int mv), .val (.int ap), .val (.int de), .val (.int v41), .val (.ref b9), .unset, .unset] [])) t → Steps p.tables e below (s₁.setTop (entryFrame m #[(.int xw1), (.int xw2), (.int xq), (.int xf)] maxLocals)) t := fun t k => pre160 t (st161.trans k)
          have pre163 : ∀ t, Steps p.tables e below (T161.setTop (mkF m 127 #[.val (.int xw1), .val (.int xw2), .val (.int xq), .val (.int xf), .val (.int w1), .val (.int w2), .val (.int mv), .val (.int ap), .val (.int de), .val (.int v41), .val (.ref b9), .unset, .unset] [(.int mv), (.ref b9)])) t → Steps p.tables e below (s₁.setTop (entryFrame m #[(.int xw1), (.int xw2), (.int xq), (.int xf)] maxLocals)) t := by
            intro t k
            refine pre162 t ?_
            refine XS.aload X161.here hx rfl (hb hby at_123) rfl rfl ?_
            show Steps p.tables e below (T161.setTop (mkF m 125 #[.val (.int xw1), .val (.int xw2), .val (.int xq), .val (.int xf), .val (.int w1), .val (.int w2), .val (.int mv), .val (.int ap), .val (.int de), .val (.int v41), .val (.ref b9), .unset, .unset] [(.ref b9)])) _
            refine XS.iload X161.here hx rfl (hb hby at_125) rfl ?_
            show Steps p.tables e below (T161.setTop (mkF m 127 #[.val (.int xw1), .val (.int xw2), .val (.int xq), .val (.int xf), .val (.int w1), .val (.int w2), .val (.int mv), .val (.int ap), .val (.int de), .val (.int v41), .val (.ref b9), .unset, .unset] [(.int mv), (.ref b9)])) _
            exact k
          obtain ⟨cq164, kq164, q164a, q164b, q164c⟩ := isOf hZ rfl f161_0
          obtain ⟨_, _, ⟨T164, L164, k164, n164⟩, -, X164, ⟨Lc164, hQ164, l164, y164, z164⟩, st164⟩ := X161.virtualBack hx (y := (⟨"com/example/suitor/suitor/SolverStatistics", "countQueueMoves", "(I)V"⟩ : MethodName)) (z := (⟨"com/example/suitor/suitor/SolverStatistics", "countQueueMoves", "(I)V"⟩ : MethodName)) hown (mvT hZ (hw _ (List.mem_of_getElem? (i := 33) rfl))) (mvT hZ (hw _ (List.mem_of_getElem? (i := 34) rfl))) (notFace_of_selects (args := #[]) (mvT hZ (hw _ (List.mem_of_getElem? (i := 36) rfl)))) (mvT hZ (hw _ (List.mem_of_getElem? (i := 36) rfl))) (mvT hZ (hw _ (List.mem_of_getElem? (i := 35) rfl))) (by decide) (backOf (W := 0) (rm_countQueueMoves l Z a0 hw [] b9 mv ((0 : Int64) + (1 : Int64)) ((0 : Int64) + (w1.toInt64)) (0 : Int64) (0 : Int64) ((0 : Int64) + (1 : Int64)) T161.heap n0 zz161 f161_0 (g_b9) f161_1 f161_2 f161_3 f161_4 f161_5) hZ (hw _ (List.mem_of_getElem? (i := 37) rfl)) (hw _ (List.mem_of_getElem? (i := 3) rfl)) (by decide) (by decide)) q164a q164c (g := (mkF m 127 #[.val (.int xw1), .val (.int xw2), .val (.int xq), .val (.int xf), .val (.int w1), .val (.int w2), .val (.int mv), .val (.int ap), .val (.int de), .val (.int v41), .val (.ref b9), .unset, .unset] [(.int mv), (.ref b9)])) rfl (by rw [hml]; rfl) (Steps.refl _) (argsL := [(.int mv)]) (rest := []) (lenOf pd2 rfl) rfl (by show 2 * 0 + _ ≤ _; exact Nat.le_of_eq rfl) (hb hby at_127) (fun _ _ => ⟨rfl, rfl, (by decide : 1 + 0 ≤ _), (by decide : 5 + 0 ≤ _)⟩)
          dsimp only [Pt.U, Pt.locs, Pt.cells, Pt.slots] at X164 l164 y164 z164 st164 hQ164
          subst l164 y164 z164
          obtain ⟨rfl, M164, kp164, f164_0, f164_1, f164_2, f164_3, f164_4, f164_5⟩ := hQ164
          have K164 : Keep h0 T164.heap ([] : List Addr) := K161.trans kp164 (allS (P := fun x => x ∈ ([] : List Addr) ∨ h0.size ≤ x) (Or.inr sz_b9) all0)
          have zz164 : n0 ≤ T164.heap.size := Nat.le_trans Z0 K164.1
          have N164 := Fr.app N161 M164
          have pre165 : ∀ t, Steps p.tables e below (T164.setTop (mkF m 130 #[.val (.int xw1), .val (.int xw2), .val (.int xq), .val (.int xf), .val (.int w1), .val (.int w2), .val (.int mv), .val (.int ap), .val (.int de), .val (.int v41), .val (.ref b9), .unset, .unset] [])) t → Steps p.tables e below (s₁.setTop (entryFrame m #[(.int xw1), (.int xw2), (.int xq), (.int xf)] maxLocals)) t := fun t k => pre163 t (st164.trans k)
          have pre166 : ∀ t, Steps p.tables e below (T164.setTop (mkF m 134 #[.val (.int xw1), .val (.int xw2), .val (.int xq), .val (.int xf), .val (.int w1), .val (.int w2), .val (.int mv), .val (.int ap), .val (.int de), .val (.int v41), .val (.ref b9), .unset, .unset] [(.int w2), (.ref b9)])) t → Steps p.tables e below (s₁.setTop (entryFrame m #[(.int xw1), (.int xw2), (.int xq), (.int xf)] maxLocals)) t := by
            intro t k
            refine pre165 t ?_
            refine XS.aload X164.here hx rfl (hb hby at_130) rfl rfl ?_
            show Steps p.tables e below (T164.setTop (mkF m 132 #[.val (.int xw1), .val (.int xw2), .val (.int xq), .val (.int xf), .val (.int w1), .val (.int w2), .val (.int mv), .val (.int ap), .val (.int de), .val (.int v41), .val (.ref b9), .unset, .unset] [(.ref b9)])) _
            refine XS.iload X164.here hx rfl (hb hby at_132) rfl ?_
            show Steps p.tables e below (T164.setTop (mkF m 134 #[.val (.int xw1), .val (.int xw2), .val (.int xq), .val (.int xf), .val (.int w1), .val (.int w2), .val (.int mv), .val (.int ap), .val (.int de), .val (.int v41), .val (.ref b9), .unset, .unset] [(.int w2), (.ref b9)])) _
            exact k
          obtain ⟨cq167, kq167, q167a, q167b, q167c⟩ := isOf hZ rfl f164_0
          obtain ⟨_, _, ⟨T167, L167, k167, n167⟩, -, X167, ⟨Lc167, hQ167, l167, y167, z167⟩, st167⟩ := X164.virtualBack hx (y := (⟨"com/example/suitor/suitor/SolverStatistics", "countWalkSteps", "(I)V"⟩ : MethodName)) (z := (⟨"com/example/suitor/suitor/SolverStatistics", "countWalkSteps", "(I)V"⟩ : MethodName)) hown (mvT hZ (hw _ (List.mem_of_getElem? (i := 28) rfl))) (mvT hZ (hw _ (List.mem_of_getElem? (i := 29) rfl))) (notFace_of_selects (args := #[]) (mvT hZ (hw _ (List.mem_of_getElem? (i := 31) rfl)))) (mvT hZ (hw _ (List.mem_of_getElem? (i := 31) rfl))) (mvT hZ (hw _ (List.mem_of_getElem? (i := 30) rfl))) (by decide) (backOf (W := 0) (rm_countWalkSteps l Z a0 hw [] b9 w2 ((0 : Int64) + (1 : Int64)) ((0 : Int64) + (w1.toInt64)) (0 : Int64) ((0 : Int64) + (mv.toInt64)) ((0 : Int64) + (1 : Int64)) T164.heap n0 zz164 f164_0 (g_b9) f164_1 f164_2 f164_3 f164_4 f164_5) hZ (hw _ (List.mem_of_getElem? (i := 32) rfl)) (hw _ (List.mem_of_getElem? (i := 3) rfl)) (by decide) (by decide)) q167a q167c (g := (mkF m 134 #[.val (.int xw1), .val (.int xw2), .val (.int xq), .val (.int xf), .val (.int w1), .val (.int w2), .val (.int mv), .val (.int ap), .val (.int de), .val (.int v41), .val (.ref b9), .unset, .unset] [(.int w2), (.ref b9)])) rfl (by rw [hml]; rfl) (Steps.refl _) (argsL := [(.int w2)]) (rest := []) (lenOf pd2 rfl) rfl (by show 2 * 0 + _ ≤ _; exact Nat.le_of_eq rfl) (hb hby at_134) (fun _ _ => ⟨rfl, rfl, (by decide : 1 + 0 ≤ _), (by decide : 5 + 0 ≤ _)⟩)
          dsimp only [Pt.U, Pt.locs, Pt.cells, Pt.slots] at X167 l167 y167 z167 st167 hQ167
          subst l167 y167 z167
          obtain ⟨rfl, M167, kp167, f167_0, f167_1, f167_2, f167_3, f167_4, f167_5⟩ := hQ167
          have K167 : Keep h0 T167.heap ([] : List Addr) := K164.trans kp167 (allS (P := fun x => x ∈ ([] : List Addr) ∨ h0.size ≤ x) (Or.inr sz_b9) all0)
          have zz167 : n0 ≤ T167.heap.size := Nat.le_trans Z0 K167.1
          have N167 := Fr.app N164 M167
          have pre168 : ∀ t, Steps p.tables e below (T167.setTop (mkF m 137 #[.val (.int xw1), .val (.int xw2), .val (.int xq), .val (.int xf), .val (.int w1), .val (.int w2), .val (.int mv), .val (.int ap), .val (.int de), .val (.int v41), .val (.ref b9), .unset, .unset] [])) t → Steps p.tables e below (s₁.setTop (entryFrame m #[(.int xw1), (.int xw2), (.int xq), (.int xf)] maxLocals)) t := fun t k => pre166 t (st167.trans k)
          have pre169 : ∀ t, Steps p.tables e below (T167.setTop (mkF m 158 #[.val (.int xw1), .val (.int xw2), .val (.int xq), .val (.int xf), .val (.int w1), .val (.int w2), .val (.int mv), .val (.int ap), .val (.int de), .val (.int v41), .val (.ref b9), .val (.long (((((ap.toInt64) + (w1.toInt64)) + (w2.toInt64)) + (de.toInt64)) + (mv.toInt64))), .second] [])) t → Steps p.tables e below (s₁.setTop (entryFrame m #[(.int xw1), (.int xw2), (.int xq), (.int xf)] maxLocals)) t := by
            intro t k
            refine pre168 t ?_
            refine XS.iload X167.here hx rfl (hb hby at_137) rfl ?_
            show Steps p.tables e below (T167.setTop (mkF m 139 #[.val (.int xw1), .val (.int xw2), .val (.int xq), .val (.int xf), .val (.int w1), .val (.int w2), .val (.int mv), .val (.int ap), .val (.int de), .val (.int v41), .val (.ref b9), .unset, .unset] [(.int ap)])) _
            refine XS.i2l X167.here hx rfl (hb hby at_139) rfl ?_
            show Steps p.tables e below (T167.setTop (mkF m 140 #[.val (.int xw1), .val (.int xw2), .val (.int xq), .val (.int xf), .val (.int w1), .val (.int w2), .val (.int mv), .val (.int ap), .val (.int de), .val (.int v41), .val (.ref b9), .unset, .unset] [(.long (ap.toInt64))])) _
            refine XS.iload X167.here hx rfl (hb hby at_140) rfl ?_
            show Steps p.tables e below (T167.setTop (mkF m 142 #[.val (.int xw1), .val (.int xw2), .val (.int xq), .val (.int xf), .val (.int w1), .val (.int w2), .val (.int mv), .val (.int ap), .val (.int de), .val (.int v41), .val (.ref b9), .unset, .unset] [(.int w1), (.long (ap.toInt64))])) _
            refine XS.i2l X167.here hx rfl (hb hby at_142) rfl ?_
            show Steps p.tables e below (T167.setTop (mkF m 143 #[.val (.int xw1), .val (.int xw2), .val (.int xq), .val (.int xf), .val (.int w1), .val (.int w2), .val (.int mv), .val (.int ap), .val (.int de), .val (.int v41), .val (.ref b9), .unset, .unset] [(.long (w1.toInt64)), (.long (ap.toInt64))])) _
            refine XS.ladd X167.here hx rfl (hb hby at_143) rfl ?_
            show Steps p.tables e below (T167.setTop (mkF m 144 #[.val (.int xw1), .val (.int xw2), .val (.int xq), .val (.int xf), .val (.int w1), .val (.int w2), .val (.int mv), .val (.int ap), .val (.int de), .val (.int v41), .val (.ref b9), .unset, .unset] [(.long ((ap.toInt64) + (w1.toInt64)))])) _
            refine XS.iload X167.here hx rfl (hb hby at_144) rfl ?_
            show Steps p.tables e below (T167.setTop (mkF m 146 #[.val (.int xw1), .val (.int xw2), .val (.int xq), .val (.int xf), .val (.int w1), .val (.int w2), .val (.int mv), .val (.int ap), .val (.int de), .val (.int v41), .val (.ref b9), .unset, .unset] [(.int w2), (.long ((ap.toInt64) + (w1.toInt64)))])) _
            refine XS.i2l X167.here hx rfl (hb hby at_146) rfl ?_
            show Steps p.tables e below (T167.setTop (mkF m 147 #[.val (.int xw1), .val (.int xw2), .val (.int xq), .val (.int xf), .val (.int w1), .val (.int w2), .val (.int mv), .val (.int ap), .val (.int de), .val (.int v41), .val (.ref b9), .unset, .unset] [(.long (w2.toInt64)), (.long ((ap.toInt64) + (w1.toInt64)))])) _
            refine XS.ladd X167.here hx rfl (hb hby at_147) rfl ?_
            show Steps p.tables e below (T167.setTop (mkF m 148 #[.val (.int xw1), .val (.int xw2), .val (.int xq), .val (.int xf), .val (.int w1), .val (.int w2), .val (.int mv), .val (.int ap), .val (.int de), .val (.int v41), .val (.ref b9), .unset, .unset] [(.long (((ap.toInt64) + (w1.toInt64)) + (w2.toInt64)))])) _
            refine XS.iload X167.here hx rfl (hb hby at_148) rfl ?_
            show Steps p.tables e below (T167.setTop (mkF m 150 #[.val (.int xw1), .val (.int xw2), .val (.int xq), .val (.int xf), .val (.int w1), .val (.int w2), .val (.int mv), .val (.int ap), .val (.int de), .val (.int v41), .val (.ref b9), .unset, .unset] [(.int de), (.long (((ap.toInt64) + (w1.toInt64)) + (w2.toInt64)))])) _
            refine XS.i2l X167.here hx rfl (hb hby at_150) rfl ?_
            show Steps p.tables e below (T167.setTop (mkF m 151 #[.val (.int xw1), .val (.int xw2), .val (.int xq), .val (.int xf), .val (.int w1), .val (.int w2), .val (.int mv), .val (.int ap), .val (.int de), .val (.int v41), .val (.ref b9), .unset, .unset] [(.long (de.toInt64)), (.long (((ap.toInt64) + (w1.toInt64)) + (w2.toInt64)))])) _
            refine XS.ladd X167.here hx rfl (hb hby at_151) rfl ?_
            show Steps p.tables e below (T167.setTop (mkF m 152 #[.val (.int xw1), .val (.int xw2), .val (.int xq), .val (.int xf), .val (.int w1), .val (.int w2), .val (.int mv), .val (.int ap), .val (.int de), .val (.int v41), .val (.ref b9), .unset, .unset] [(.long ((((ap.toInt64) + (w1.toInt64)) + (w2.toInt64)) + (de.toInt64)))])) _
            refine XS.iload X167.here hx rfl (hb hby at_152) rfl ?_
            show Steps p.tables e below (T167.setTop (mkF m 154 #[.val (.int xw1), .val (.int xw2), .val (.int xq), .val (.int xf), .val (.int w1), .val (.int w2), .val (.int mv), .val (.int ap), .val (.int de), .val (.int v41), .val (.ref b9), .unset, .unset] [(.int mv), (.long ((((ap.toInt64) + (w1.toInt64)) + (w2.toInt64)) + (de.toInt64)))])) _
            refine XS.i2l X167.here hx rfl (hb hby at_154) rfl ?_
            show Steps p.tables e below (T167.setTop (mkF m 155 #[.val (.int xw1), .val (.int xw2), .val (.int xq), .val (.int xf), .val (.int w1), .val (.int w2), .val (.int mv), .val (.int ap), .val (.int de), .val (.int v41), .val (.ref b9), .unset, .unset] [(.long (mv.toInt64)), (.long ((((ap.toInt64) + (w1.toInt64)) + (w2.toInt64)) + (de.toInt64)))])) _
            refine XS.ladd X167.here hx rfl (hb hby at_155) rfl ?_
            show Steps p.tables e below (T167.setTop (mkF m 156 #[.val (.int xw1), .val (.int xw2), .val (.int xq), .val (.int xf), .val (.int w1), .val (.int w2), .val (.int mv), .val (.int ap), .val (.int de), .val (.int v41), .val (.ref b9), .unset, .unset] [(.long (((((ap.toInt64) + (w1.toInt64)) + (w2.toInt64)) + (de.toInt64)) + (mv.toInt64)))])) _
            refine XS.lstore X167.here hx rfl (hb hby at_156) rfl (l' := #[.val (.int xw1), .val (.int xw2), .val (.int xq), .val (.int xf), .val (.int w1), .val (.int w2), .val (.int mv), .val (.int ap), .val (.int de), .val (.int v41), .val (.ref b9), .val (.long (((((ap.toInt64) + (w1.toInt64)) + (w2.toInt64)) + (de.toInt64)) + (mv.toInt64))), .second]) rfl ?_
            show Steps p.tables e below (T167.setTop (mkF m 158 #[.val (.int xw1), .val (.int xw2), .val (.int xq), .val (.int xf), .val (.int w1), .val (.int w2), .val (.int mv), .val (.int ap), .val (.int de), .val (.int v41), .val (.ref b9), .val (.long (((((ap.toInt64) + (w1.toInt64)) + (w2.toInt64)) + (de.toInt64)) + (mv.toInt64))), .second] [])) _
            exact k
          obtain ⟨ex, hex⟩ : ∃ z : Int64, z = (((((ap.toInt64) + (w1.toInt64)) + (w2.toInt64)) + (de.toInt64)) + (mv.toInt64)) := ⟨_, rfl⟩
          rw [← hex] at pre169
          have pre170 : ∀ t, Steps p.tables e below (T167.setTop (mkF m 160 #[.val (.int xw1), .val (.int xw2), .val (.int xq), .val (.int xf), .val (.int w1), .val (.int w2), .val (.int mv), .val (.int ap), .val (.int de), .val (.int v41), .val (.ref b9), .val (.long ex), .second] [(.ref b9)])) t → Steps p.tables e below (s₁.setTop (entryFrame m #[(.int xw1), (.int xw2), (.int xq), (.int xf)] maxLocals)) t := by
            intro t k
            refine pre169 t ?_
            refine XS.aload X167.here hx rfl (hb hby at_158) rfl rfl ?_
            show Steps p.tables e below (T167.setTop (mkF m 160 #[.val (.int xw1), .val (.int xw2), .val (.int xq), .val (.int xf), .val (.int w1), .val (.int w2), .val (.int mv), .val (.int ap), .val (.int de), .val (.int v41), .val (.ref b9), .val (.long ex), .second] [(.ref b9)])) _
            exact k
          obtain ⟨cq171, kq171, q171a, q171b, q171c⟩ := isOf hZ rfl f167_0
          obtain ⟨_, _, ⟨T171, L171, k171, n171⟩, -, X171, ⟨Lc171, hQ171, l171, y171, z171⟩, st171⟩ := X167.virtualBack hx (y := (⟨"com/example/suitor/suitor/SolverStatistics", "getSteps", "()J"⟩ : MethodName)) (z := (⟨"com/example/suitor/suitor/SolverStatistics", "getSteps", "()J"⟩ : MethodName)) hown (mvT hZ (hw _ (List.mem_of_getElem? (i := 10) rfl))) (mvT hZ (hw _ (List.mem_of_getElem? (i := 11) rfl))) (notFace_of_selects (args := #[]) (mvT hZ (hw _ (List.mem_of_getElem? (i := 13) rfl)))) (mvT hZ (hw _ (List.mem_of_getElem? (i := 13) rfl))) (mvT hZ (hw _ (List.mem_of_getElem? (i := 12) rfl))) (by decide) (backOf (W := 0) (rm_steps l Z a0 hw [] b9 ((0 : Int64) + (1 : Int64)) (((0 : Int64) + (w1.toInt64)) + (w2.toInt64)) (0 : Int64) ((0 : Int64) + (mv.toInt64)) T167.heap n0 zz167 f167_1 f167_2 f167_3 f167_4) hZ (hw _ (List.mem_of_getElem? (i := 14) rfl)) (hw _ (List.mem_of_getElem? (i := 3) rfl)) (by decide) (by decide)) q171a q171c (g := (mkF m 160 #[.val (.int xw1), .val (.int xw2), .val (.int xq), .val (.int xf), .val (.int w1), .val (.int w2), .val (.int mv), .val (.int ap), .val (.int de), .val (.int v41), .val (.ref b9), .val (.long ex), .second] [(.ref b9)])) rfl (by rw [hml]; rfl) (Steps.refl _) (argsL := []) (rest := []) (lenOf pd1 rfl) rfl (by show 2 * 0 + _ ≤ _; exact Nat.le_of_eq rfl) (hb hby at_160) (fun _ _ => ⟨rfl, rfl, (by decide : 1 + 0 ≤ _), (by decide : 5 + 0 ≤ _)⟩)
          dsimp only [Pt.U, Pt.locs, Pt.cells, Pt.slots] at X171 l171 y171 z171 st171 hQ171
          subst l171 y171 z171
          obtain ⟨rfl, M171, e171⟩ := hQ171
          have N171 := Fr.app N167 M171
          have pre172 : ∀ t, Steps p.tables e below (T171.setTop (mkF m 163 #[.val (.int xw1), .val (.int xw2), .val (.int xq), .val (.int xf), .val (.int w1), .val (.int w2), .val (.int mv), .val (.int ap), .val (.int de), .val (.int v41), .val (.ref b9), .val (.long ex), .second] [(.long (((((0 : Int64) + (1 : Int64)) + (((0 : Int64) + (w1.toInt64)) + (w2.toInt64))) + (0 : Int64)) + ((0 : Int64) + (mv.toInt64))))])) t → Steps p.tables e below (s₁.setTop (entryFrame m #[(.int xw1), (.int xw2), (.int xq), (.int xf)] maxLocals)) t := fun t k => pre170 t (st171.trans k)
          have pre173 : ∀ t, Steps p.tables e below (T171.setTop (mkF m 174 #[.val (.int xw1), .val (.int xw2), .val (.int xq), .val (.int xf), .val (.int w1), .val (.int w2), .val (.int mv), .val (.int ap), .val (.int de), .val (.int v41), .val (.ref b9), .val (.long ex), .second] [(.int (1 : Int32))])) t → Steps p.tables e below (s₁.setTop (entryFrame m #[(.int xw1), (.int xw2), (.int xq), (.int xf)] maxLocals)) t := by
            intro t k
            refine pre172 t ?_
            refine XS.lload X171.here hx rfl (hb hby at_163) rfl ?_
            show Steps p.tables e below (T171.setTop (mkF m 165 #[.val (.int xw1), .val (.int xw2), .val (.int xq), .val (.int xf), .val (.int w1), .val (.int w2), .val (.int mv), .val (.int ap), .val (.int de), .val (.int v41), .val (.ref b9), .val (.long ex), .second] [(.long ex), (.long (((((0 : Int64) + (1 : Int64)) + (((0 : Int64) + (w1.toInt64)) + (w2.toInt64))) + (0 : Int64)) + ((0 : Int64) + (mv.toInt64))))])) _
            refine XS.lcmp X171.here hx rfl (hb hby at_165) rfl ?_
            show Steps p.tables e below (T171.setTop (mkF m 166 #[.val (.int xw1), .val (.int xw2), .val (.int xq), .val (.int xf), .val (.int w1), .val (.int w2), .val (.int mv), .val (.int ap), .val (.int de), .val (.int v41), .val (.ref b9), .val (.long ex), .second] [(.int (lcmpW (((((0 : Int64) + (1 : Int64)) + (((0 : Int64) + (w1.toInt64)) + (w2.toInt64))) + (0 : Int64)) + ((0 : Int64) + (mv.toInt64))) ex))])) _
            refine XS.ifNo X171.here hx rfl (hb hby at_166) rfl ((if0 _ _).trans (teq ((lw_eq _ _).mpr (show (((((0 : Int64) + (1 : Int64)) + (((0 : Int64) + (w1.toInt64)) + (w2.toInt64))) + (0 : Int64)) + ((0 : Int64) + (mv.toInt64))) = ex from by rw [hex]; exact own_4 w1 w2 mv xf ap de hap hde hc75 hc88 hc105))).2) ?_
            show Steps p.tables e below (T171.setTop (mkF m 169 #[.val (.int xw1), .val (.int xw2), .val (.int xq), .val (.int xf), .val (.int w1), .val (.int w2), .val (.int mv), .val (.int ap), .val (.int de), .val (.int v41), .val (.ref b9), .val (.long ex), .second] [])) _
            refine XS.iconst X171.here hx rfl (hb hby at_169) ?_
            show Steps p.tables e below (T171.setTop (mkF m 170 #[.val (.int xw1), .val (.int xw2), .val (.int xq), .val (.int xf), .val (.int w1), .val (.int w2), .val (.int mv), .val (.int ap), .val (.int de), .val (.int v41), .val (.ref b9), .val (.long ex), .second] [(.int (1 : Int32))])) _
            refine XS.goto X171.here hx rfl (pc0 := 170) (pc' := 174) rfl (hb hby at_170) (by decide) (by decide) ?_
            show Steps p.tables e below (T171.setTop (mkF m 174 #[.val (.int xw1), .val (.int xw2), .val (.int xq), .val (.int xf), .val (.int w1), .val (.int w2), .val (.int mv), .val (.int ap), .val (.int de), .val (.int v41), .val (.ref b9), .val (.long ex), .second] [(.int (1 : Int32))])) _
            exact k
          obtain ⟨fs, hr, hrun, hended, hW, hsame⟩ := X171.leave (v := some (.int (1 : Int32))) (fun h => by rw [Bd.returns] at h; cases h)
          refine ⟨_, _, pre173 _ ?_, hrun, hended, _, _, rfl, ?_, ⟨_, rfl⟩, hW, hsame.mono (by decide) (by decide)⟩
          · exact retN X171 hx (t := .boolean) Bd.returns (by simp) (hb hby at_174) hr
          · show Q_rm0 Z xw1 xw2 xq xf h0 n0 _ T171.heap _
            rw [e171]
            exact ⟨rfl, N171⟩
      · have pre174 : ∀ t, Steps p.tables e below (T145.setTop (mkF m 110 #[.val (.int xw1), .val (.int xw2), .val (.int xq), .val (.int xf), .val (.int w1), .val (.int w2), .val (.int mv), .val (.int ap), .val (.int de), .val (.int v41), .val (.ref b9), .unset, .unset] [(.ref b9)])) t → Steps p.tables e below (s₁.setTop (entryFrame m #[(.int xw1), (.int xw2), (.int xq), (.int xf)] maxLocals)) t := by
          intro t k
          refine pre147 t ?_
          refine XS.ifNo X145.here hx rfl (hb hby at_105) rfl ((if0 _ _).trans (feq hc105).1) ?_
          show Steps p.tables e below (T145.setTop (mkF m 108 #[.val (.int xw1), .val (.int xw2), .val (.int xq), .val (.int xf), .val (.int w1), .val (.int w2), .val (.int mv), .val (.int ap), .val (.int de), .val (.int v41), .val (.ref b9), .unset, .unset] [])) _
          refine XS.aload X145.here hx rfl (hb hby at_108) rfl rfl ?_
          show Steps p.tables e below (T145.setTop (mkF m 110 #[.val (.int xw1), .val (.int xw2), .val (.int xq), .val (.int xf), .val (.int w1), .val (.int w2), .val (.int mv), .val (.int ap), .val (.int de), .val (.int v41), .val (.ref b9), .unset, .unset] [(.ref b9)])) _
          exact k
        obtain ⟨cq175, kq175, q175a, q175b, q175c⟩ := isOf hZ rfl f145_0
        obtain ⟨_, _, ⟨T175, L175, k175, n175⟩, -, X175, ⟨Lc175, hQ175, l175, y175, z175⟩, st175⟩ := X145.virtualBack hx (y := (⟨"com/example/suitor/suitor/SolverStatistics", "countDeletion", "()V"⟩ : MethodName)) (z := (⟨"com/example/suitor/suitor/SolverStatistics", "countDeletion", "()V"⟩ : MethodName)) hown (mvT hZ (hw _ (List.mem_of_getElem? (i := 45) rfl))) (mvT hZ (hw _ (List.mem_of_getElem? (i := 46) rfl))) (notFace_of_selects (args := #[]) (mvT hZ (hw _ (List.mem_of_getElem? (i := 48) rfl)))) (mvT hZ (hw _ (List.mem_of_getElem? (i := 48) rfl))) (mvT hZ (hw _ (List.mem_of_getElem? (i := 47) rfl))) (by decide) (backOf (W := 0) (rm_countDeletion l Z a0 hw [] b9 ((0 : Int64) + (1 : Int64)) ((0 : Int64) + (w1.toInt64)) (0 : Int64) (0 : Int64) (0 : Int64) T145.heap n0 zz145 f145_0 (g_b9) f145_1 f145_2 f145_3 f145_4 f145_5) hZ (hw _ (List.mem_of_getElem? (i := 49) rfl)) (hw _ (List.mem_of_getElem? (i := 3) rfl)) (by decide) (by decide)) q175a q175c (g := (mkF m 110 #[.val (.int xw1), .val (.int xw2), .val (.int xq), .val (.int xf), .val (.int w1), .val (.int w2), .val (.int mv), .val (.int ap), .val (.int de), .val (.int v41), .val (.ref b9), .unset, .unset] [(.ref b9)])) rfl (by rw [hml]; rfl) (Steps.refl _) (argsL := []) (rest := []) (lenOf pd0 rfl) rfl (by show 2 * 0 + _ ≤ _; exact Nat.le_of_eq rfl) (hb hby at_110) (fun _ _ => ⟨rfl, rfl, (by decide : 1 + 0 ≤ _), (by decide : 5 + 0 ≤ _)⟩)
        dsimp only [Pt.U, Pt.locs, Pt.cells, Pt.slots] at X175 l175 y175 z175 st175 hQ175
        subst l175 y175 z175
        obtain ⟨rfl, M175, kp175, f175_0, f175_1, f175_2, f175_3, f175_4, f175_5⟩ := hQ175
        have K175 : Keep h0 T175.heap ([] : List Addr) := K145.trans kp175 (allS (P := fun x => x ∈ ([] : List Addr) ∨ h0.size ≤ x) (Or.inr sz_b9) all0)
        have zz175 : n0 ≤ T175.heap.size := Nat.le_trans Z0 K175.1
        have N175 := Fr.app N145 M175
        have pre176 : ∀ t, Steps p.tables e below (T175.setTop (mkF m 113 #[.val (.int xw1), .val (.int xw2), .val (.int xq), .val (.int xf), .val (.int w1), .val (.int w2), .val (.int mv), .val (.int ap), .val (.int de), .val (.int v41), .val (.ref b9), .unset, .unset] [])) t → Steps p.tables e below (s₁.setTop (entryFrame m #[(.int xw1), (.int xw2), (.int xq), (.int xf)] maxLocals)) t := fun t k => pre174 t (st175.trans k)
        have pre177 : ∀ t, Steps p.tables e below (T175.setTop (mkF m 115 #[.val (.int xw1), .val (.int xw2), .val (.int xq), .val (.int xf), .val (.int w1), .val (.int w2), .val (.int mv), .val (.int ap), .val (.int de), .val (.int v41), .val (.ref b9), .unset, .unset] [(.int v41)])) t → Steps p.tables e below (s₁.setTop (entryFrame m #[(.int xw1), (.int xw2), (.int xq), (.int xf)] maxLocals)) t := by
          intro t k
          refine pre176 t ?_
          refine XS.iload X175.here hx rfl (hb hby at_113) rfl ?_
          show Steps p.tables e below (T175.setTop (mkF m 115 #[.val (.int xw1), .val (.int xw2), .val (.int xq), .val (.int xf), .val (.int w1), .val (.int w2), .val (.int mv), .val (.int ap), .val (.int de), .val (.int v41), .val (.ref b9), .unset, .unset] [(.int v41)])) _
          exact k
        by_cases hc115 : v41 = (0 : Int32)
        · have pre178 : ∀ t, Steps p.tables e below (T175.setTop (mkF m 127 #[.val (.int xw1), .val (.int xw2), .val (.int xq), .val (.int xf), .val (.int w1), .val (.int w2), .val (.int mv), .val (.int ap), .val (.int de), .val (.int v41), .val (.ref b9), .unset, .unset] [(.int mv), (.ref b9)])) t → Steps p.tables e below (s₁.setTop (entryFrame m #[(.int xw1), (.int xw2), (.int xq), (.int xf)] maxLocals)) t := by
            intro t k
            refine pre177 t ?_
            refine XS.ifYes X175.here hx rfl (pc0 := 115) (pc' := 123) rfl (hb hby at_115) rfl ((if0 _ _).trans (teq hc115).1) (by decide) (by decide) ?_
            show Steps p.tables e below (T175.setTop (mkF m 123 #[.val (.int xw1), .val (.int xw2), .val (.int xq), .val (.int xf), .val (.int w1), .val (.int w2), .val (.int mv), .val (.int ap), .val (.int de), .val (.int v41), .val (.ref b9), .unset, .unset] [])) _
            refine XS.aload X175.here hx rfl (hb hby at_123) rfl rfl ?_
            show Steps p.tables e below (T175.setTop (mkF m 125 #[.val (.int xw1), .val (.int xw2), .val (.int xq), .val (.int xf), .val (.int w1), .val (.int w2), .val (.int mv), .val (.int ap), .val (.int de), .val (.int v41), .val (.ref b9), .unset, .unset] [(.ref b9)])) _
            refine XS.iload X175.here hx rfl (hb hby at_125) rfl ?_
            show Steps p.tables e below (T175.setTop (mkF m 127 #[.val (.int xw1), .val (.int xw2), .val (.int xq), .val (.int xf), .val (.int w1), .val (.int w2), .val (.int mv), .val (.int ap), .val (.int de), .val (.int v41), .val (.ref b9), .unset, .unset] [(.int mv), (.ref b9)])) _
            exact k
          obtain ⟨cq179, kq179, q179a, q179b, q179c⟩ := isOf hZ rfl f175_0
          obtain ⟨_, _, ⟨T179, L179, k179, n179⟩, -, X179, ⟨Lc179, hQ179, l179, y179, z179⟩, st179⟩ := X175.virtualBack hx (y := (⟨"com/example/suitor/suitor/SolverStatistics", "countQueueMoves", "(I)V"⟩ : MethodName)) (z := (⟨"com/example/suitor/suitor/SolverStatistics", "countQueueMoves", "(I)V"⟩ : MethodName)) hown (mvT hZ (hw _ (List.mem_of_getElem? (i := 33) rfl))) (mvT hZ (hw _ (List.mem_of_getElem? (i := 34) rfl))) (notFace_of_selects (args := #[]) (mvT hZ (hw _ (List.mem_of_getElem? (i := 36) rfl)))) (mvT hZ (hw _ (List.mem_of_getElem? (i := 36) rfl))) (mvT hZ (hw _ (List.mem_of_getElem? (i := 35) rfl))) (by decide) (backOf (W := 0) (rm_countQueueMoves l Z a0 hw [] b9 mv ((0 : Int64) + (1 : Int64)) ((0 : Int64) + (w1.toInt64)) ((0 : Int64) + (1 : Int64)) (0 : Int64) (0 : Int64) T175.heap n0 zz175 f175_0 (g_b9) f175_1 f175_2 f175_3 f175_4 f175_5) hZ (hw _ (List.mem_of_getElem? (i := 37) rfl)) (hw _ (List.mem_of_getElem? (i := 3) rfl)) (by decide) (by decide)) q179a q179c (g := (mkF m 127 #[.val (.int xw1), .val (.int xw2), .val (.int xq), .val (.int xf), .val (.int w1), .val (.int w2), .val (.int mv), .val (.int ap), .val (.int de), .val (.int v41), .val (.ref b9), .unset, .unset] [(.int mv), (.ref b9)])) rfl (by rw [hml]; rfl) (Steps.refl _) (argsL := [(.int mv)]) (rest := []) (lenOf pd2 rfl) rfl (by show 2 * 0 + _ ≤ _; exact Nat.le_of_eq rfl) (hb hby at_127) (fun _ _ => ⟨rfl, rfl, (by decide : 1 + 0 ≤ _), (by decide : 5 + 0 ≤ _)⟩)
          dsimp only [Pt.U, Pt.locs, Pt.cells, Pt.slots] at X179 l179 y179 z179 st179 hQ179
          subst l179 y179 z179
          obtain ⟨rfl, M179, kp179, f179_0, f179_1, f179_2, f179_3, f179_4, f179_5⟩ := hQ179
          have K179 : Keep h0 T179.heap ([] : List Addr) := K175.trans kp179 (allS (P := fun x => x ∈ ([] : List Addr) ∨ h0.size ≤ x) (Or.inr sz_b9) all0)
          have zz179 : n0 ≤ T179.heap.size := Nat.le_trans Z0 K179.1
          have N179 := Fr.app N175 M179
          have pre180 : ∀ t, Steps p.tables e below (T179.setTop (mkF m 130 #[.val (.int xw1), .val (.int xw2), .val (.int xq), .val (.int xf), .val (.int w1), .val (.int w2), .val (.int mv), .val (.int ap), .val (.int de), .val (.int v41), .val (.ref b9), .unset, .unset] [])) t → Steps p.tables e below (s₁.setTop (entryFrame m #[(.int xw1), (.int xw2), (.int xq), (.int xf)] maxLocals)) t := fun t k => pre178 t (st179.trans k)
          have pre181 : ∀ t, Steps p.tables e below (T179.setTop (mkF m 134 #[.val (.int xw1), .val (.int xw2), .val (.int xq), .val (.int xf), .val (.int w1), .val (.int w2), .val (.int mv), .val (.int ap), .val (.int de), .val (.int v41), .val (.ref b9), .unset, .unset] [(.int w2), (.ref b9)])) t → Steps p.tables e below (s₁.setTop (entryFrame m #[(.int xw1), (.int xw2), (.int xq), (.int xf)] maxLocals)) t := by
            intro t k
            refine pre180 t ?_
            refine XS.aload X179.here hx rfl (hb hby at_130) rfl rfl ?_
            show Steps p.tables e below (T179.setTop (mkF m 132 #[.val (.int xw1), .val (.int xw2), .val (.int xq), .val (.int xf), .val (.int w1), .val (.int w2), .val (.int mv), .val (.int ap), .val (.int de), .val (.int v41), .val (.ref b9), .unset, .unset] [(.ref b9)])) _
            refine XS.iload X179.here hx rfl (hb hby at_132) rfl ?_
            show Steps p.tables e below (T179.setTop (mkF m 134 #[.val (.int xw1), .val (.int xw2), .val (.int xq), .val (.int xf), .val (.int w1), .val (.int w2), .val (.int mv), .val (.int ap), .val (.int de), .val (.int v41), .val (.ref b9), .unset, .unset] [(.int w2), (.ref b9)])) _
            exact k
          obtain ⟨cq182, kq182, q182a, q182b, q182c⟩ := isOf hZ rfl f179_0
          obtain ⟨_, _, ⟨T182, L182, k182, n182⟩, -, X182, ⟨Lc182, hQ182, l182, y182, z182⟩, st182⟩ := X179.virtualBack hx (y := (⟨"com/example/suitor/suitor/SolverStatistics", "countWalkSteps", "(I)V"⟩ : MethodName)) (z := (⟨"com/example/suitor/suitor/SolverStatistics", "countWalkSteps", "(I)V"⟩ : MethodName)) hown (mvT hZ (hw _ (List.mem_of_getElem? (i := 28) rfl))) (mvT hZ (hw _ (List.mem_of_getElem? (i := 29) rfl))) (notFace_of_selects (args := #[]) (mvT hZ (hw _ (List.mem_of_getElem? (i := 31) rfl)))) (mvT hZ (hw _ (List.mem_of_getElem? (i := 31) rfl))) (mvT hZ (hw _ (List.mem_of_getElem? (i := 30) rfl))) (by decide) (backOf (W := 0) (rm_countWalkSteps l Z a0 hw [] b9 w2 ((0 : Int64) + (1 : Int64)) ((0 : Int64) + (w1.toInt64)) ((0 : Int64) + (1 : Int64)) ((0 : Int64) + (mv.toInt64)) (0 : Int64) T179.heap n0 zz179 f179_0 (g_b9) f179_1 f179_2 f179_3 f179_4 f179_5) hZ (hw _ (List.mem_of_getElem? (i := 32) rfl)) (hw _ (List.mem_of_getElem? (i := 3) rfl)) (by decide) (by decide)) q182a q182c (g := (mkF m 134 #[.val (.int xw1), .val (.int xw2), .val (.int xq), .val (.int xf), .val (.int w1), .val (.int w2), .val (.int mv), .val (.int ap), .val (.int de), .val (.int v41), .val (.ref b9), .unset, .unset] [(.int w2), (.ref b9)])) rfl (by rw [hml]; rfl) (Steps.refl _) (argsL := [(.int w2)]) (rest := []) (lenOf pd2 rfl) rfl (by show 2 * 0 + _ ≤ _; exact Nat.le_of_eq rfl) (hb hby at_134) (fun _ _ => ⟨rfl, rfl, (by decide : 1 + 0 ≤ _), (by decide : 5 + 0 ≤ _)⟩)
          dsimp only [Pt.U, Pt.locs, Pt.cells, Pt.slots] at X182 l182 y182 z182 st182 hQ182
          subst l182 y182 z182
          obtain ⟨rfl, M182, kp182, f182_0, f182_1, f182_2, f182_3, f182_4, f182_5⟩ := hQ182
          have K182 : Keep h0 T182.heap ([] : List Addr) := K179.trans kp182 (allS (P := fun x => x ∈ ([] : List Addr) ∨ h0.size ≤ x) (Or.inr sz_b9) all0)
          have zz182 : n0 ≤ T182.heap.size := Nat.le_trans Z0 K182.1
          have N182 := Fr.app N179 M182
          have pre183 : ∀ t, Steps p.tables e below (T182.setTop (mkF m 137 #[.val (.int xw1), .val (.int xw2), .val (.int xq), .val (.int xf), .val (.int w1), .val (.int w2), .val (.int mv), .val (.int ap), .val (.int de), .val (.int v41), .val (.ref b9), .unset, .unset] [])) t → Steps p.tables e below (s₁.setTop (entryFrame m #[(.int xw1), (.int xw2), (.int xq), (.int xf)] maxLocals)) t := fun t k => pre181 t (st182.trans k)
          have pre184 : ∀ t, Steps p.tables e below (T182.setTop (mkF m 158 #[.val (.int xw1), .val (.int xw2), .val (.int xq), .val (.int xf), .val (.int w1), .val (.int w2), .val (.int mv), .val (.int ap), .val (.int de), .val (.int v41), .val (.ref b9), .val (.long (((((ap.toInt64) + (w1.toInt64)) + (w2.toInt64)) + (de.toInt64)) + (mv.toInt64))), .second] [])) t → Steps p.tables e below (s₁.setTop (entryFrame m #[(.int xw1), (.int xw2), (.int xq), (.int xf)] maxLocals)) t := by
            intro t k
            refine pre183 t ?_
            refine XS.iload X182.here hx rfl (hb hby at_137) rfl ?_
            show Steps p.tables e below (T182.setTop (mkF m 139 #[.val (.int xw1), .val (.int xw2), .val (.int xq), .val (.int xf), .val (.int w1), .val (.int w2), .val (.int mv), .val (.int ap), .val (.int de), .val (.int v41), .val (.ref b9), .unset, .unset] [(.int ap)])) _
            refine XS.i2l X182.here hx rfl (hb hby at_139) rfl ?_
            show Steps p.tables e below (T182.setTop (mkF m 140 #[.val (.int xw1), .val (.int xw2), .val (.int xq), .val (.int xf), .val (.int w1), .val (.int w2), .val (.int mv), .val (.int ap), .val (.int de), .val (.int v41), .val (.ref b9), .unset, .unset] [(.long (ap.toInt64))])) _
            refine XS.iload X182.here hx rfl (hb hby at_140) rfl ?_
            show Steps p.tables e below (T182.setTop (mkF m 142 #[.val (.int xw1), .val (.int xw2), .val (.int xq), .val (.int xf), .val (.int w1), .val (.int w2), .val (.int mv), .val (.int ap), .val (.int de), .val (.int v41), .val (.ref b9), .unset, .unset] [(.int w1), (.long (ap.toInt64))])) _
            refine XS.i2l X182.here hx rfl (hb hby at_142) rfl ?_
            show Steps p.tables e below (T182.setTop (mkF m 143 #[.val (.int xw1), .val (.int xw2), .val (.int xq), .val (.int xf), .val (.int w1), .val (.int w2), .val (.int mv), .val (.int ap), .val (.int de), .val (.int v41), .val (.ref b9), .unset, .unset] [(.long (w1.toInt64)), (.long (ap.toInt64))])) _
            refine XS.ladd X182.here hx rfl (hb hby at_143) rfl ?_
            show Steps p.tables e below (T182.setTop (mkF m 144 #[.val (.int xw1), .val (.int xw2), .val (.int xq), .val (.int xf), .val (.int w1), .val (.int w2), .val (.int mv), .val (.int ap), .val (.int de), .val (.int v41), .val (.ref b9), .unset, .unset] [(.long ((ap.toInt64) + (w1.toInt64)))])) _
            refine XS.iload X182.here hx rfl (hb hby at_144) rfl ?_
            show Steps p.tables e below (T182.setTop (mkF m 146 #[.val (.int xw1), .val (.int xw2), .val (.int xq), .val (.int xf), .val (.int w1), .val (.int w2), .val (.int mv), .val (.int ap), .val (.int de), .val (.int v41), .val (.ref b9), .unset, .unset] [(.int w2), (.long ((ap.toInt64) + (w1.toInt64)))])) _
            refine XS.i2l X182.here hx rfl (hb hby at_146) rfl ?_
            show Steps p.tables e below (T182.setTop (mkF m 147 #[.val (.int xw1), .val (.int xw2), .val (.int xq), .val (.int xf), .val (.int w1), .val (.int w2), .val (.int mv), .val (.int ap), .val (.int de), .val (.int v41), .val (.ref b9), .unset, .unset] [(.long (w2.toInt64)), (.long ((ap.toInt64) + (w1.toInt64)))])) _
            refine XS.ladd X182.here hx rfl (hb hby at_147) rfl ?_
            show Steps p.tables e below (T182.setTop (mkF m 148 #[.val (.int xw1), .val (.int xw2), .val (.int xq), .val (.int xf), .val (.int w1), .val (.int w2), .val (.int mv), .val (.int ap), .val (.int de), .val (.int v41), .val (.ref b9), .unset, .unset] [(.long (((ap.toInt64) + (w1.toInt64)) + (w2.toInt64)))])) _
            refine XS.iload X182.here hx rfl (hb hby at_148) rfl ?_
            show Steps p.tables e below (T182.setTop (mkF m 150 #[.val (.int xw1), .val (.int xw2), .val (.int xq), .val (.int xf), .val (.int w1), .val (.int w2), .val (.int mv), .val (.int ap), .val (.int de), .val (.int v41), .val (.ref b9), .unset, .unset] [(.int de), (.long (((ap.toInt64) + (w1.toInt64)) + (w2.toInt64)))])) _
            refine XS.i2l X182.here hx rfl (hb hby at_150) rfl ?_
            show Steps p.tables e below (T182.setTop (mkF m 151 #[.val (.int xw1), .val (.int xw2), .val (.int xq), .val (.int xf), .val (.int w1), .val (.int w2), .val (.int mv), .val (.int ap), .val (.int de), .val (.int v41), .val (.ref b9), .unset, .unset] [(.long (de.toInt64)), (.long (((ap.toInt64) + (w1.toInt64)) + (w2.toInt64)))])) _
            refine XS.ladd X182.here hx rfl (hb hby at_151) rfl ?_
            show Steps p.tables e below (T182.setTop (mkF m 152 #[.val (.int xw1), .val (.int xw2), .val (.int xq), .val (.int xf), .val (.int w1), .val (.int w2), .val (.int mv), .val (.int ap), .val (.int de), .val (.int v41), .val (.ref b9), .unset, .unset] [(.long ((((ap.toInt64) + (w1.toInt64)) + (w2.toInt64)) + (de.toInt64)))])) _
            refine XS.iload X182.here hx rfl (hb hby at_152) rfl ?_
            show Steps p.tables e below (T182.setTop (mkF m 154 #[.val (.int xw1), .val (.int xw2), .val (.int xq), .val (.int xf), .val (.int w1), .val (.int w2), .val (.int mv), .val (.int ap), .val (.int de), .val (.int v41), .val (.ref b9), .unset, .unset] [(.int mv), (.long ((((ap.toInt64) + (w1.toInt64)) + (w2.toInt64)) + (de.toInt64)))])) _
            refine XS.i2l X182.here hx rfl (hb hby at_154) rfl ?_
            show Steps p.tables e below (T182.setTop (mkF m 155 #[.val (.int xw1), .val (.int xw2), .val (.int xq), .val (.int xf), .val (.int w1), .val (.int w2), .val (.int mv), .val (.int ap), .val (.int de), .val (.int v41), .val (.ref b9), .unset, .unset] [(.long (mv.toInt64)), (.long ((((ap.toInt64) + (w1.toInt64)) + (w2.toInt64)) + (de.toInt64)))])) _
            refine XS.ladd X182.here hx rfl (hb hby at_155) rfl ?_
            show Steps p.tables e below (T182.setTop (mkF m 156 #[.val (.int xw1), .val (.int xw2), .val (.int xq), .val (.int xf), .val (.int w1), .val (.int w2), .val (.int mv), .val (.int ap), .val (.int de), .val (.int v41), .val (.ref b9), .unset, .unset] [(.long (((((ap.toInt64) + (w1.toInt64)) + (w2.toInt64)) + (de.toInt64)) + (mv.toInt64)))])) _
            refine XS.lstore X182.here hx rfl (hb hby at_156) rfl (l' := #[.val (.int xw1), .val (.int xw2), .val (.int xq), .val (.int xf), .val (.int w1), .val (.int w2), .val (.int mv), .val (.int ap), .val (.int de), .val (.int v41), .val (.ref b9), .val (.long (((((ap.toInt64) + (w1.toInt64)) + (w2.toInt64)) + (de.toInt64)) + (mv.toInt64))), .second]) rfl ?_
            show Steps p.tables e below (T182.setTop (mkF m 158 #[.val (.int xw1), .val (.int xw2), .val (.int xq), .val (.int xf), .val (.int w1), .val (.int w2), .val (.int mv), .val (.int ap), .val (.int de), .val (.int v41), .val (.ref b9), .val (.long (((((ap.toInt64) + (w1.toInt64)) + (w2.toInt64)) + (de.toInt64)) + (mv.toInt64))), .second] [])) _
            exact k
          obtain ⟨ex, hex⟩ : ∃ z : Int64, z = (((((ap.toInt64) + (w1.toInt64)) + (w2.toInt64)) + (de.toInt64)) + (mv.toInt64)) := ⟨_, rfl⟩
          rw [← hex] at pre184
          have pre185 : ∀ t, Steps p.tables e below (T182.setTop (mkF m 160 #[.val (.int xw1), .val (.int xw2), .val (.int xq), .val (.int xf), .val (.int w1), .val (.int w2), .val (.int mv), .val (.int ap), .val (.int de), .val (.int v41), .val (.ref b9), .val (.long ex), .second] [(.ref b9)])) t → Steps p.tables e below (s₁.setTop (entryFrame m #[(.int xw1), (.int xw2), (.int xq), (.int xf)] maxLocals)) t := by
            intro t k
            refine pre184 t ?_
            refine XS.aload X182.here hx rfl (hb hby at_158) rfl rfl ?_
            show Steps p.tables e below (T182.setTop (mkF m 160 #[.val (.int xw1), .val (.int xw2), .val (.int xq), .val (.int xf), .val (.int w1), .val (.int w2), .val (.int mv), .val (.int ap), .val (.int de), .val (.int v41), .val (.ref b9), .val (.long ex), .second] [(.ref b9)])) _
            exact k
          obtain ⟨cq186, kq186, q186a, q186b, q186c⟩ := isOf hZ rfl f182_0
          obtain ⟨_, _, ⟨T186, L186, k186, n186⟩, -, X186, ⟨Lc186, hQ186, l186, y186, z186⟩, st186⟩ := X182.virtualBack hx (y := (⟨"com/example/suitor/suitor/SolverStatistics", "getSteps", "()J"⟩ : MethodName)) (z := (⟨"com/example/suitor/suitor/SolverStatistics", "getSteps", "()J"⟩ : MethodName)) hown (mvT hZ (hw _ (List.mem_of_getElem? (i := 10) rfl))) (mvT hZ (hw _ (List.mem_of_getElem? (i := 11) rfl))) (notFace_of_selects (args := #[]) (mvT hZ (hw _ (List.mem_of_getElem? (i := 13) rfl)))) (mvT hZ (hw _ (List.mem_of_getElem? (i := 13) rfl))) (mvT hZ (hw _ (List.mem_of_getElem? (i := 12) rfl))) (by decide) (backOf (W := 0) (rm_steps l Z a0 hw [] b9 ((0 : Int64) + (1 : Int64)) (((0 : Int64) + (w1.toInt64)) + (w2.toInt64)) ((0 : Int64) + (1 : Int64)) ((0 : Int64) + (mv.toInt64)) T182.heap n0 zz182 f182_1 f182_2 f182_3 f182_4) hZ (hw _ (List.mem_of_getElem? (i := 14) rfl)) (hw _ (List.mem_of_getElem? (i := 3) rfl)) (by decide) (by decide)) q186a q186c (g := (mkF m 160 #[.val (.int xw1), .val (.int xw2), .val (.int xq), .val (.int xf), .val (.int w1), .val (.int w2), .val (.int mv), .val (.int ap), .val (.int de), .val (.int v41), .val (.ref b9), .val (.long ex), .second] [(.ref b9)])) rfl (by rw [hml]; rfl) (Steps.refl _) (argsL := []) (rest := []) (lenOf pd1 rfl) rfl (by show 2 * 0 + _ ≤ _; exact Nat.le_of_eq rfl) (hb hby at_160) (fun _ _ => ⟨rfl, rfl, (by decide : 1 + 0 ≤ _), (by decide : 5 + 0 ≤ _)⟩)
          dsimp only [Pt.U, Pt.locs, Pt.cells, Pt.slots] at X186 l186 y186 z186 st186 hQ186
          subst l186 y186 z186
          obtain ⟨rfl, M186, e186⟩ := hQ186
          have N186 := Fr.app N182 M186
          have pre187 : ∀ t, Steps p.tables e below (T186.setTop (mkF m 163 #[.val (.int xw1), .val (.int xw2), .val (.int xq), .val (.int xf), .val (.int w1), .val (.int w2), .val (.int mv), .val (.int ap), .val (.int de), .val (.int v41), .val (.ref b9), .val (.long ex), .second] [(.long (((((0 : Int64) + (1 : Int64)) + (((0 : Int64) + (w1.toInt64)) + (w2.toInt64))) + ((0 : Int64) + (1 : Int64))) + ((0 : Int64) + (mv.toInt64))))])) t → Steps p.tables e below (s₁.setTop (entryFrame m #[(.int xw1), (.int xw2), (.int xq), (.int xf)] maxLocals)) t := fun t k => pre185 t (st186.trans k)
          have pre188 : ∀ t, Steps p.tables e below (T186.setTop (mkF m 174 #[.val (.int xw1), .val (.int xw2), .val (.int xq), .val (.int xf), .val (.int w1), .val (.int w2), .val (.int mv), .val (.int ap), .val (.int de), .val (.int v41), .val (.ref b9), .val (.long ex), .second] [(.int (1 : Int32))])) t → Steps p.tables e below (s₁.setTop (entryFrame m #[(.int xw1), (.int xw2), (.int xq), (.int xf)] maxLocals)) t := by
            intro t k
            refine pre187 t ?_
            refine XS.lload X186.here hx rfl (hb hby at_163) rfl ?_
            show Steps p.tables e below (T186.setTop (mkF m 165 #[.val (.int xw1), .val (.int xw2), .val (.int xq), .val (.int xf), .val (.int w1), .val (.int w2), .val (.int mv), .val (.int ap), .val (.int de), .val (.int v41), .val (.ref b9), .val (.long ex), .second] [(.long ex), (.long (((((0 : Int64) + (1 : Int64)) + (((0 : Int64) + (w1.toInt64)) + (w2.toInt64))) + ((0 : Int64) + (1 : Int64))) + ((0 : Int64) + (mv.toInt64))))])) _
            refine XS.lcmp X186.here hx rfl (hb hby at_165) rfl ?_
            show Steps p.tables e below (T186.setTop (mkF m 166 #[.val (.int xw1), .val (.int xw2), .val (.int xq), .val (.int xf), .val (.int w1), .val (.int w2), .val (.int mv), .val (.int ap), .val (.int de), .val (.int v41), .val (.ref b9), .val (.long ex), .second] [(.int (lcmpW (((((0 : Int64) + (1 : Int64)) + (((0 : Int64) + (w1.toInt64)) + (w2.toInt64))) + ((0 : Int64) + (1 : Int64))) + ((0 : Int64) + (mv.toInt64))) ex))])) _
            refine XS.ifNo X186.here hx rfl (hb hby at_166) rfl ((if0 _ _).trans (teq ((lw_eq _ _).mpr (show (((((0 : Int64) + (1 : Int64)) + (((0 : Int64) + (w1.toInt64)) + (w2.toInt64))) + ((0 : Int64) + (1 : Int64))) + ((0 : Int64) + (mv.toInt64))) = ex from by rw [hex]; exact own_5 w1 w2 mv xf ap de hap hde hc75 hc88 hc105))).2) ?_
            show Steps p.tables e below (T186.setTop (mkF m 169 #[.val (.int xw1), .val (.int xw2), .val (.int xq), .val (.int xf), .val (.int w1), .val (.int w2), .val (.int mv), .val (.int ap), .val (.int de), .val (.int v41), .val (.ref b9), .val (.long ex), .second] [])) _
            refine XS.iconst X186.here hx rfl (hb hby at_169) ?_
            show Steps p.tables e below (T186.setTop (mkF m 170 #[.val (.int xw1), .val (.int xw2), .val (.int xq), .val (.int xf), .val (.int w1), .val (.int w2), .val (.int mv), .val (.int ap), .val (.int de), .val (.int v41), .val (.ref b9), .val (.long ex), .second] [(.int (1 : Int32))])) _
            refine XS.goto X186.here hx rfl (pc0 := 170) (pc' := 174) rfl (hb hby at_170) (by decide) (by decide) ?_
            show Steps p.tables e below (T186.setTop (mkF m 174 #[.val (.int xw1), .val (.int xw2), .val (.int xq), .val (.int xf), .val (.int w1), .val (.int w2), .val (.int mv), .val (.int ap), .val (.int de), .val (.int v41), .val (.ref b9), .val (.long ex), .second] [(.int (1 : Int32))])) _
            exact k
          obtain ⟨fs, hr, hrun, hended, hW, hsame⟩ := X186.leave (v := some (.int (1 : Int32))) (fun h => by rw [Bd.returns] at h; cases h)
          refine ⟨_, _, pre188 _ ?_, hrun, hended, _, _, rfl, ?_, ⟨_, rfl⟩, hW, hsame.mono (by decide) (by decide)⟩
          · exact retN X186 hx (t := .boolean) Bd.returns (by simp) (hb hby at_174) hr
          · show Q_rm0 Z xw1 xw2 xq xf h0 n0 _ T186.heap _
            rw [e186]
            exact ⟨rfl, N186⟩
        · have pre189 : ∀ t, Steps p.tables e below (T175.setTop (mkF m 120 #[.val (.int xw1), .val (.int xw2), .val (.int xq), .val (.int xf), .val (.int w1), .val (.int w2), .val (.int mv), .val (.int ap), .val (.int de), .val (.int v41), .val (.ref b9), .unset, .unset] [(.ref b9)])) t → Steps p.tables e below (s₁.setTop (entryFrame m #[(.int xw1), (.int xw2), (.int xq), (.int xf)] maxLocals)) t := by
            intro t k
            refine pre177 t ?_
            refine XS.ifNo X175.here hx rfl (hb hby at_115) rfl ((if0 _ _).trans (feq hc115).1) ?_
            show Steps p.tables e below (T175.setTop (mkF m 118 #[.val (.int xw1), .val (.int xw2), .val (.int xq), .val (.int xf), .val (.int w1), .val (.int w2), .val (.int mv), .val (.int ap), .val (.int de), .val (.int v41), .val (.ref b9), .unset, .unset] [])) _
            refine XS.aload X175.here hx rfl (hb hby at_118) rfl rfl ?_
            show Steps p.tables e below (T175.setTop (mkF m 120 #[.val (.int xw1), .val (.int xw2), .val (.int xq), .val (.int xf), .val (.int w1), .val (.int w2), .val (.int mv), .val (.int ap), .val (.int de), .val (.int v41), .val (.ref b9), .unset, .unset] [(.ref b9)])) _
            exact k
          obtain ⟨cq190, kq190, q190a, q190b, q190c⟩ := isOf hZ rfl f175_0
          obtain ⟨_, _, ⟨T190, L190, k190, n190⟩, -, X190, ⟨Lc190, hQ190, l190, y190, z190⟩, st190⟩ := X175.virtualBack hx (y := (⟨"com/example/suitor/suitor/SolverStatistics", "countPass", "()V"⟩ : MethodName)) (z := (⟨"com/example/suitor/suitor/SolverStatistics", "countPass", "()V"⟩ : MethodName)) hown (mvT hZ (hw _ (List.mem_of_getElem? (i := 38) rfl))) (mvT hZ (hw _ (List.mem_of_getElem? (i := 39) rfl))) (notFace_of_selects (args := #[]) (mvT hZ (hw _ (List.mem_of_getElem? (i := 41) rfl)))) (mvT hZ (hw _ (List.mem_of_getElem? (i := 41) rfl))) (mvT hZ (hw _ (List.mem_of_getElem? (i := 40) rfl))) (by decide) (backOf (W := 0) (rm_countPass l Z a0 hw [] b9 ((0 : Int64) + (1 : Int64)) ((0 : Int64) + (w1.toInt64)) ((0 : Int64) + (1 : Int64)) (0 : Int64) (0 : Int64) T175.heap n0 zz175 f175_0 (g_b9) f175_1 f175_2 f175_3 f175_4 f175_5) hZ (hw _ (List.mem_of_getElem? (i := 42) rfl)) (hw _ (List.mem_of_getElem? (i := 3) rfl)) (by decide) (by decide)) q190a q190c (g := (mkF m 120 #[.val (.int xw1), .val (.int xw2), .val (.int xq), .val (.int xf), .val (.int w1), .val (.int w2), .val (.int mv), .val (.int ap), .val (.int de), .val (.int v41), .val (.ref b9), .unset, .unset] [(.ref b9)])) rfl (by rw [hml]; rfl) (Steps.refl _) (argsL := []) (rest := []) (lenOf pd0 rfl) rfl (by show 2 * 0 + _ ≤ _; exact Nat.le_of_eq rfl) (hb hby at_120) (fun _ _ => ⟨rfl, rfl, (by decide : 1 + 0 ≤ _), (by decide : 5 + 0 ≤ _)⟩)
          dsimp only [Pt.U, Pt.locs, Pt.cells, Pt.slots] at X190 l190 y190 z190 st190 hQ190
          subst l190 y190 z190
          obtain ⟨rfl, M190, kp190, f190_0, f190_1, f190_2, f190_3, f190_4, f190_5⟩ := hQ190
          have K190 : Keep h0 T190.heap ([] : List Addr) := K175.trans kp190 (allS (P := fun x => x ∈ ([] : List Addr) ∨ h0.size ≤ x) (Or.inr sz_b9) all0)
          have zz190 : n0 ≤ T190.heap.size := Nat.le_trans Z0 K190.1
          have N190 := Fr.app N175 M190
          have pre191 : ∀ t, Steps p.tables e below (T190.setTop (mkF m 123 #[.val (.int xw1), .val (.int xw2), .val (.int xq), .val (.int xf), .val (.int w1), .val (.int w2), .val (.int mv), .val (.int ap), .val (.int de), .val (.int v41), .val (.ref b9), .unset, .unset] [])) t → Steps p.tables e below (s₁.setTop (entryFrame m #[(.int xw1), (.int xw2), (.int xq), (.int xf)] maxLocals)) t := fun t k => pre189 t (st190.trans k)
          have pre192 : ∀ t, Steps p.tables e below (T190.setTop (mkF m 127 #[.val (.int xw1), .val (.int xw2), .val (.int xq), .val (.int xf), .val (.int w1), .val (.int w2), .val (.int mv), .val (.int ap), .val (.int de), .val (.int v41), .val (.ref b9), .unset, .unset] [(.int mv), (.ref b9)])) t → Steps p.tables e below (s₁.setTop (entryFrame m #[(.int xw1), (.int xw2), (.int xq), (.int xf)] maxLocals)) t := by
            intro t k
            refine pre191 t ?_
            refine XS.aload X190.here hx rfl (hb hby at_123) rfl rfl ?_
            show Steps p.tables e below (T190.setTop (mkF m 125 #[.val (.int xw1), .val (.int xw2), .val (.int xq), .val (.int xf), .val (.int w1), .val (.int w2), .val (.int mv), .val (.int ap), .val (.int de), .val (.int v41), .val (.ref b9), .unset, .unset] [(.ref b9)])) _
            refine XS.iload X190.here hx rfl (hb hby at_125) rfl ?_
            show Steps p.tables e below (T190.setTop (mkF m 127 #[.val (.int xw1), .val (.int xw2), .val (.int xq), .val (.int xf), .val (.int w1), .val (.int w2), .val (.int mv), .val (.int ap), .val (.int de), .val (.int v41), .val (.ref b9), .unset, .unset] [(.int mv), (.ref b9)])) _
            exact k
          obtain ⟨cq193, kq193, q193a, q193b, q193c⟩ := isOf hZ rfl f190_0
          obtain ⟨_, _, ⟨T193, L193, k193, n193⟩, -, X193, ⟨Lc193, hQ193, l193, y193, z193⟩, st193⟩ := X190.virtualBack hx (y := (⟨"com/example/suitor/suitor/SolverStatistics", "countQueueMoves", "(I)V"⟩ : MethodName)) (z := (⟨"com/example/suitor/suitor/SolverStatistics", "countQueueMoves", "(I)V"⟩ : MethodName)) hown (mvT hZ (hw _ (List.mem_of_getElem? (i := 33) rfl))) (mvT hZ (hw _ (List.mem_of_getElem? (i := 34) rfl))) (notFace_of_selects (args := #[]) (mvT hZ (hw _ (List.mem_of_getElem? (i := 36) rfl)))) (mvT hZ (hw _ (List.mem_of_getElem? (i := 36) rfl))) (mvT hZ (hw _ (List.mem_of_getElem? (i := 35) rfl))) (by decide) (backOf (W := 0) (rm_countQueueMoves l Z a0 hw [] b9 mv ((0 : Int64) + (1 : Int64)) ((0 : Int64) + (w1.toInt64)) ((0 : Int64) + (1 : Int64)) (0 : Int64) ((0 : Int64) + (1 : Int64)) T190.heap n0 zz190 f190_0 (g_b9) f190_1 f190_2 f190_3 f190_4 f190_5) hZ (hw _ (List.mem_of_getElem? (i := 37) rfl)) (hw _ (List.mem_of_getElem? (i := 3) rfl)) (by decide) (by decide)) q193a q193c (g := (mkF m 127 #[.val (.int xw1), .val (.int xw2), .val (.int xq), .val (.int xf), .val (.int w1), .val (.int w2), .val (.int mv), .val (.int ap), .val (.int de), .val (.int v41), .val (.ref b9), .unset, .unset] [(.int mv), (.ref b9)])) rfl (by rw [hml]; rfl) (Steps.refl _) (argsL := [(.int mv)]) (rest := []) (lenOf pd2 rfl) rfl (by show 2 * 0 + _ ≤ _; exact Nat.le_of_eq rfl) (hb hby at_127) (fun _ _ => ⟨rfl, rfl, (by decide : 1 + 0 ≤ _), (by decide : 5 + 0 ≤ _)⟩)
          dsimp only [Pt.U, Pt.locs, Pt.cells, Pt.slots] at X193 l193 y193 z193 st193 hQ193
          subst l193 y193 z193
          obtain ⟨rfl, M193, kp193, f193_0, f193_1, f193_2, f193_3, f193_4, f193_5⟩ := hQ193
          have K193 : Keep h0 T193.heap ([] : List Addr) := K190.trans kp193 (allS (P := fun x => x ∈ ([] : List Addr) ∨ h0.size ≤ x) (Or.inr sz_b9) all0)
          have zz193 : n0 ≤ T193.heap.size := Nat.le_trans Z0 K193.1
          have N193 := Fr.app N190 M193
          have pre194 : ∀ t, Steps p.tables e below (T193.setTop (mkF m 130 #[.val (.int xw1), .val (.int xw2), .val (.int xq), .val (.int xf), .val (.int w1), .val (.int w2), .val (.int mv), .val (.int ap), .val (.int de), .val (.int v41), .val (.ref b9), .unset, .unset] [])) t → Steps p.tables e below (s₁.setTop (entryFrame m #[(.int xw1), (.int xw2), (.int xq), (.int xf)] maxLocals)) t := fun t k => pre192 t (st193.trans k)
          have pre195 : ∀ t, Steps p.tables e below (T193.setTop (mkF m 134 #[.val (.int xw1), .val (.int xw2), .val (.int xq), .val (.int xf), .val (.int w1), .val (.int w2), .val (.int mv), .val (.int ap), .val (.int de), .val (.int v41), .val (.ref b9), .unset, .unset] [(.int w2), (.ref b9)])) t → Steps p.tables e below (s₁.setTop (entryFrame m #[(.int xw1), (.int xw2), (.int xq), (.int xf)] maxLocals)) t := by
            intro t k
            refine pre194 t ?_
            refine XS.aload X193.here hx rfl (hb hby at_130) rfl rfl ?_
            show Steps p.tables e below (T193.setTop (mkF m 132 #[.val (.int xw1), .val (.int xw2), .val (.int xq), .val (.int xf), .val (.int w1), .val (.int w2), .val (.int mv), .val (.int ap), .val (.int de), .val (.int v41), .val (.ref b9), .unset, .unset] [(.ref b9)])) _
            refine XS.iload X193.here hx rfl (hb hby at_132) rfl ?_
            show Steps p.tables e below (T193.setTop (mkF m 134 #[.val (.int xw1), .val (.int xw2), .val (.int xq), .val (.int xf), .val (.int w1), .val (.int w2), .val (.int mv), .val (.int ap), .val (.int de), .val (.int v41), .val (.ref b9), .unset, .unset] [(.int w2), (.ref b9)])) _
            exact k
          obtain ⟨cq196, kq196, q196a, q196b, q196c⟩ := isOf hZ rfl f193_0
          obtain ⟨_, _, ⟨T196, L196, k196, n196⟩, -, X196, ⟨Lc196, hQ196, l196, y196, z196⟩, st196⟩ := X193.virtualBack hx (y := (⟨"com/example/suitor/suitor/SolverStatistics", "countWalkSteps", "(I)V"⟩ : MethodName)) (z := (⟨"com/example/suitor/suitor/SolverStatistics", "countWalkSteps", "(I)V"⟩ : MethodName)) hown (mvT hZ (hw _ (List.mem_of_getElem? (i := 28) rfl))) (mvT hZ (hw _ (List.mem_of_getElem? (i := 29) rfl))) (notFace_of_selects (args := #[]) (mvT hZ (hw _ (List.mem_of_getElem? (i := 31) rfl)))) (mvT hZ (hw _ (List.mem_of_getElem? (i := 31) rfl))) (mvT hZ (hw _ (List.mem_of_getElem? (i := 30) rfl))) (by decide) (backOf (W := 0) (rm_countWalkSteps l Z a0 hw [] b9 w2 ((0 : Int64) + (1 : Int64)) ((0 : Int64) + (w1.toInt64)) ((0 : Int64) + (1 : Int64)) ((0 : Int64) + (mv.toInt64)) ((0 : Int64) + (1 : Int64)) T193.heap n0 zz193 f193_0 (g_b9) f193_1 f193_2 f193_3 f193_4 f193_5) hZ (hw _ (List.mem_of_getElem? (i := 32) rfl)) (hw _ (List.mem_of_getElem? (i := 3) rfl)) (by decide) (by decide)) q196a q196c (g := (mkF m 134 #[.val (.int xw1), .val (.int xw2), .val (.int xq), .val (.int xf), .val (.int w1), .val (.int w2), .val (.int mv), .val (.int ap), .val (.int de), .val (.int v41), .val (.ref b9), .unset, .unset] [(.int w2), (.ref b9)])) rfl (by rw [hml]; rfl) (Steps.refl _) (argsL := [(.int w2)]) (rest := []) (lenOf pd2 rfl) rfl (by show 2 * 0 + _ ≤ _; exact Nat.le_of_eq rfl) (hb hby at_134) (fun _ _ => ⟨rfl, rfl, (by decide : 1 + 0 ≤ _), (by decide : 5 + 0 ≤ _)⟩)
          dsimp only [Pt.U, Pt.locs, Pt.cells, Pt.slots] at X196 l196 y196 z196 st196 hQ196
          subst l196 y196 z196
          obtain ⟨rfl, M196, kp196, f196_0, f196_1, f196_2, f196_3, f196_4, f196_5⟩ := hQ196
          have K196 : Keep h0 T196.heap ([] : List Addr) := K193.trans kp196 (allS (P := fun x => x ∈ ([] : List Addr) ∨ h0.size ≤ x) (Or.inr sz_b9) all0)
          have zz196 : n0 ≤ T196.heap.size := Nat.le_trans Z0 K196.1
          have N196 := Fr.app N193 M196
          have pre197 : ∀ t, Steps p.tables e below (T196.setTop (mkF m 137 #[.val (.int xw1), .val (.int xw2), .val (.int xq), .val (.int xf), .val (.int w1), .val (.int w2), .val (.int mv), .val (.int ap), .val (.int de), .val (.int v41), .val (.ref b9), .unset, .unset] [])) t → Steps p.tables e below (s₁.setTop (entryFrame m #[(.int xw1), (.int xw2), (.int xq), (.int xf)] maxLocals)) t := fun t k => pre195 t (st196.trans k)
          have pre198 : ∀ t, Steps p.tables e below (T196.setTop (mkF m 158 #[.val (.int xw1), .val (.int xw2), .val (.int xq), .val (.int xf), .val (.int w1), .val (.int w2), .val (.int mv), .val (.int ap), .val (.int de), .val (.int v41), .val (.ref b9), .val (.long (((((ap.toInt64) + (w1.toInt64)) + (w2.toInt64)) + (de.toInt64)) + (mv.toInt64))), .second] [])) t → Steps p.tables e below (s₁.setTop (entryFrame m #[(.int xw1), (.int xw2), (.int xq), (.int xf)] maxLocals)) t := by
            intro t k
            refine pre197 t ?_
            refine XS.iload X196.here hx rfl (hb hby at_137) rfl ?_
            show Steps p.tables e below (T196.setTop (mkF m 139 #[.val (.int xw1), .val (.int xw2), .val (.int xq), .val (.int xf), .val (.int w1), .val (.int w2), .val (.int mv), .val (.int ap), .val (.int de), .val (.int v41), .val (.ref b9), .unset, .unset] [(.int ap)])) _
            refine XS.i2l X196.here hx rfl (hb hby at_139) rfl ?_
            show Steps p.tables e below (T196.setTop (mkF m 140 #[.val (.int xw1), .val (.int xw2), .val (.int xq), .val (.int xf), .val (.int w1), .val (.int w2), .val (.int mv), .val (.int ap), .val (.int de), .val (.int v41), .val (.ref b9), .unset, .unset] [(.long (ap.toInt64))])) _
            refine XS.iload X196.here hx rfl (hb hby at_140) rfl ?_
            show Steps p.tables e below (T196.setTop (mkF m 142 #[.val (.int xw1), .val (.int xw2), .val (.int xq), .val (.int xf), .val (.int w1), .val (.int w2), .val (.int mv), .val (.int ap), .val (.int de), .val (.int v41), .val (.ref b9), .unset, .unset] [(.int w1), (.long (ap.toInt64))])) _
            refine XS.i2l X196.here hx rfl (hb hby at_142) rfl ?_
            show Steps p.tables e below (T196.setTop (mkF m 143 #[.val (.int xw1), .val (.int xw2), .val (.int xq), .val (.int xf), .val (.int w1), .val (.int w2), .val (.int mv), .val (.int ap), .val (.int de), .val (.int v41), .val (.ref b9), .unset, .unset] [(.long (w1.toInt64)), (.long (ap.toInt64))])) _
            refine XS.ladd X196.here hx rfl (hb hby at_143) rfl ?_
            show Steps p.tables e below (T196.setTop (mkF m 144 #[.val (.int xw1), .val (.int xw2), .val (.int xq), .val (.int xf), .val (.int w1), .val (.int w2), .val (.int mv), .val (.int ap), .val (.int de), .val (.int v41), .val (.ref b9), .unset, .unset] [(.long ((ap.toInt64) + (w1.toInt64)))])) _
            refine XS.iload X196.here hx rfl (hb hby at_144) rfl ?_
            show Steps p.tables e below (T196.setTop (mkF m 146 #[.val (.int xw1), .val (.int xw2), .val (.int xq), .val (.int xf), .val (.int w1), .val (.int w2), .val (.int mv), .val (.int ap), .val (.int de), .val (.int v41), .val (.ref b9), .unset, .unset] [(.int w2), (.long ((ap.toInt64) + (w1.toInt64)))])) _
            refine XS.i2l X196.here hx rfl (hb hby at_146) rfl ?_
            show Steps p.tables e below (T196.setTop (mkF m 147 #[.val (.int xw1), .val (.int xw2), .val (.int xq), .val (.int xf), .val (.int w1), .val (.int w2), .val (.int mv), .val (.int ap), .val (.int de), .val (.int v41), .val (.ref b9), .unset, .unset] [(.long (w2.toInt64)), (.long ((ap.toInt64) + (w1.toInt64)))])) _
            refine XS.ladd X196.here hx rfl (hb hby at_147) rfl ?_
            show Steps p.tables e below (T196.setTop (mkF m 148 #[.val (.int xw1), .val (.int xw2), .val (.int xq), .val (.int xf), .val (.int w1), .val (.int w2), .val (.int mv), .val (.int ap), .val (.int de), .val (.int v41), .val (.ref b9), .unset, .unset] [(.long (((ap.toInt64) + (w1.toInt64)) + (w2.toInt64)))])) _
            refine XS.iload X196.here hx rfl (hb hby at_148) rfl ?_
            show Steps p.tables e below (T196.setTop (mkF m 150 #[.val (.int xw1), .val (.int xw2), .val (.int xq), .val (.int xf), .val (.int w1), .val (.int w2), .val (.int mv), .val (.int ap), .val (.int de), .val (.int v41), .val (.ref b9), .unset, .unset] [(.int de), (.long (((ap.toInt64) + (w1.toInt64)) + (w2.toInt64)))])) _
            refine XS.i2l X196.here hx rfl (hb hby at_150) rfl ?_
            show Steps p.tables e below (T196.setTop (mkF m 151 #[.val (.int xw1), .val (.int xw2), .val (.int xq), .val (.int xf), .val (.int w1), .val (.int w2), .val (.int mv), .val (.int ap), .val (.int de), .val (.int v41), .val (.ref b9), .unset, .unset] [(.long (de.toInt64)), (.long (((ap.toInt64) + (w1.toInt64)) + (w2.toInt64)))])) _
            refine XS.ladd X196.here hx rfl (hb hby at_151) rfl ?_
            show Steps p.tables e below (T196.setTop (mkF m 152 #[.val (.int xw1), .val (.int xw2), .val (.int xq), .val (.int xf), .val (.int w1), .val (.int w2), .val (.int mv), .val (.int ap), .val (.int de), .val (.int v41), .val (.ref b9), .unset, .unset] [(.long ((((ap.toInt64) + (w1.toInt64)) + (w2.toInt64)) + (de.toInt64)))])) _
            refine XS.iload X196.here hx rfl (hb hby at_152) rfl ?_
            show Steps p.tables e below (T196.setTop (mkF m 154 #[.val (.int xw1), .val (.int xw2), .val (.int xq), .val (.int xf), .val (.int w1), .val (.int w2), .val (.int mv), .val (.int ap), .val (.int de), .val (.int v41), .val (.ref b9), .unset, .unset] [(.int mv), (.long ((((ap.toInt64) + (w1.toInt64)) + (w2.toInt64)) + (de.toInt64)))])) _
            refine XS.i2l X196.here hx rfl (hb hby at_154) rfl ?_
            show Steps p.tables e below (T196.setTop (mkF m 155 #[.val (.int xw1), .val (.int xw2), .val (.int xq), .val (.int xf), .val (.int w1), .val (.int w2), .val (.int mv), .val (.int ap), .val (.int de), .val (.int v41), .val (.ref b9), .unset, .unset] [(.long (mv.toInt64)), (.long ((((ap.toInt64) + (w1.toInt64)) + (w2.toInt64)) + (de.toInt64)))])) _
            refine XS.ladd X196.here hx rfl (hb hby at_155) rfl ?_
            show Steps p.tables e below (T196.setTop (mkF m 156 #[.val (.int xw1), .val (.int xw2), .val (.int xq), .val (.int xf), .val (.int w1), .val (.int w2), .val (.int mv), .val (.int ap), .val (.int de), .val (.int v41), .val (.ref b9), .unset, .unset] [(.long (((((ap.toInt64) + (w1.toInt64)) + (w2.toInt64)) + (de.toInt64)) + (mv.toInt64)))])) _
            refine XS.lstore X196.here hx rfl (hb hby at_156) rfl (l' := #[.val (.int xw1), .val (.int xw2), .val (.int xq), .val (.int xf), .val (.int w1), .val (.int w2), .val (.int mv), .val (.int ap), .val (.int de), .val (.int v41), .val (.ref b9), .val (.long (((((ap.toInt64) + (w1.toInt64)) + (w2.toInt64)) + (de.toInt64)) + (mv.toInt64))), .second]) rfl ?_
            show Steps p.tables e below (T196.setTop (mkF m 158 #[.val (.int xw1), .val (.int xw2), .val (.int xq), .val (.int xf), .val (.int w1), .val (.int w2), .val (.int mv), .val (.int ap), .val (.int de), .val (.int v41), .val (.ref b9), .val (.long (((((ap.toInt64) + (w1.toInt64)) + (w2.toInt64)) + (de.toInt64)) + (mv.toInt64))), .second] [])) _
            exact k
          obtain ⟨ex, hex⟩ : ∃ z : Int64, z = (((((ap.toInt64) + (w1.toInt64)) + (w2.toInt64)) + (de.toInt64)) + (mv.toInt64)) := ⟨_, rfl⟩
          rw [← hex] at pre198
          have pre199 : ∀ t, Steps p.tables e below (T196.setTop (mkF m 160 #[.val (.int xw1), .val (.int xw2), .val (.int xq), .val (.int xf), .val (.int w1), .val (.int w2), .val (.int mv), .val (.int ap), .val (.int de), .val (.int v41), .val (.ref b9), .val (.long ex), .second] [(.ref b9)])) t → Steps p.tables e below (s₁.setTop (entryFrame m #[(.int xw1), (.int xw2), (.int xq), (.int xf)] maxLocals)) t := by
            intro t k
            refine pre198 t ?_
            refine XS.aload X196.here hx rfl (hb hby at_158) rfl rfl ?_
            show Steps p.tables e below (T196.setTop (mkF m 160 #[.val (.int xw1), .val (.int xw2), .val (.int xq), .val (.int xf), .val (.int w1), .val (.int w2), .val (.int mv), .val (.int ap), .val (.int de), .val (.int v41), .val (.ref b9), .val (.long ex), .second] [(.ref b9)])) _
            exact k
          obtain ⟨cq200, kq200, q200a, q200b, q200c⟩ := isOf hZ rfl f196_0
          obtain ⟨_, _, ⟨T200, L200, k200, n200⟩, -, X200, ⟨Lc200, hQ200, l200, y200, z200⟩, st200⟩ := X196.virtualBack hx (y := (⟨"com/example/suitor/suitor/SolverStatistics", "getSteps", "()J"⟩ : MethodName)) (z := (⟨"com/example/suitor/suitor/SolverStatistics", "getSteps", "()J"⟩ : MethodName)) hown (mvT hZ (hw _ (List.mem_of_getElem? (i := 10) rfl))) (mvT hZ (hw _ (List.mem_of_getElem? (i := 11) rfl))) (notFace_of_selects (args := #[]) (mvT hZ (hw _ (List.mem_of_getElem? (i := 13) rfl)))) (mvT hZ (hw _ (List.mem_of_getElem? (i := 13) rfl))) (mvT hZ (hw _ (List.mem_of_getElem? (i := 12) rfl))) (by decide) (backOf (W := 0) (rm_steps l Z a0 hw [] b9 ((0 : Int64) + (1 : Int64)) (((0 : Int64) + (w1.toInt64)) + (w2.toInt64)) ((0 : Int64) + (1 : Int64)) ((0 : Int64) + (mv.toInt64)) T196.heap n0 zz196 f196_1 f196_2 f196_3 f196_4) hZ (hw _ (List.mem_of_getElem? (i := 14) rfl)) (hw _ (List.mem_of_getElem? (i := 3) rfl)) (by decide) (by decide)) q200a q200c (g := (mkF m 160 #[.val (.int xw1), .val (.int xw2), .val (.int xq), .val (.int xf), .val (.int w1), .val (.int w2), .val (.int mv), .val (.int ap), .val (.int de), .val (.int v41), .val (.ref b9), .val (.long ex), .second] [(.ref b9)])) rfl (by rw [hml]; rfl) (Steps.refl _) (argsL := []) (rest := []) (lenOf pd1 rfl) rfl (by show 2 * 0 + _ ≤ _; exact Nat.le_of_eq rfl) (hb hby at_160) (fun _ _ => ⟨rfl, rfl, (by decide : 1 + 0 ≤ _), (by decide : 5 + 0 ≤ _)⟩)
          dsimp only [Pt.U, Pt.locs, Pt.cells, Pt.slots] at X200 l200 y200 z200 st200 hQ200
          subst l200 y200 z200
          obtain ⟨rfl, M200, e200⟩ := hQ200
          have N200 := Fr.app N196 M200
          have pre201 : ∀ t, Steps p.tables e below (T200.setTop (mkF m 163 #[.val (.int xw1), .val (.int xw2), .val (.int xq), .val (.int xf), .val (.int w1), .val (.int w2), .val (.int mv), .val (.int ap), .val (.int de), .val (.int v41), .val (.ref b9), .val (.long ex), .second] [(.long (((((0 : Int64) + (1 : Int64)) + (((0 : Int64) + (w1.toInt64)) + (w2.toInt64))) + ((0 : Int64) + (1 : Int64))) + ((0 : Int64) + (mv.toInt64))))])) t → Steps p.tables e below (s₁.setTop (entryFrame m #[(.int xw1), (.int xw2), (.int xq), (.int xf)] maxLocals)) t := fun t k => pre199 t (st200.trans k)
          have pre202 : ∀ t, Steps p.tables e below (T200.setTop (mkF m 174 #[.val (.int xw1), .val (.int xw2), .val (.int xq), .val (.int xf), .val (.int w1), .val (.int w2), .val (.int mv), .val (.int ap), .val (.int de), .val (.int v41), .val (.ref b9), .val (.long ex), .second] [(.int (1 : Int32))])) t → Steps p.tables e below (s₁.setTop (entryFrame m #[(.int xw1), (.int xw2), (.int xq), (.int xf)] maxLocals)) t := by
            intro t k
            refine pre201 t ?_
            refine XS.lload X200.here hx rfl (hb hby at_163) rfl ?_
            show Steps p.tables e below (T200.setTop (mkF m 165 #[.val (.int xw1), .val (.int xw2), .val (.int xq), .val (.int xf), .val (.int w1), .val (.int w2), .val (.int mv), .val (.int ap), .val (.int de), .val (.int v41), .val (.ref b9), .val (.long ex), .second] [(.long ex), (.long (((((0 : Int64) + (1 : Int64)) + (((0 : Int64) + (w1.toInt64)) + (w2.toInt64))) + ((0 : Int64) + (1 : Int64))) + ((0 : Int64) + (mv.toInt64))))])) _
            refine XS.lcmp X200.here hx rfl (hb hby at_165) rfl ?_
            show Steps p.tables e below (T200.setTop (mkF m 166 #[.val (.int xw1), .val (.int xw2), .val (.int xq), .val (.int xf), .val (.int w1), .val (.int w2), .val (.int mv), .val (.int ap), .val (.int de), .val (.int v41), .val (.ref b9), .val (.long ex), .second] [(.int (lcmpW (((((0 : Int64) + (1 : Int64)) + (((0 : Int64) + (w1.toInt64)) + (w2.toInt64))) + ((0 : Int64) + (1 : Int64))) + ((0 : Int64) + (mv.toInt64))) ex))])) _
            refine XS.ifNo X200.here hx rfl (hb hby at_166) rfl ((if0 _ _).trans (teq ((lw_eq _ _).mpr (show (((((0 : Int64) + (1 : Int64)) + (((0 : Int64) + (w1.toInt64)) + (w2.toInt64))) + ((0 : Int64) + (1 : Int64))) + ((0 : Int64) + (mv.toInt64))) = ex from by rw [hex]; exact own_5 w1 w2 mv xf ap de hap hde hc75 hc88 hc105))).2) ?_
            show Steps p.tables e below (T200.setTop (mkF m 169 #[.val (.int xw1), .val (.int xw2), .val (.int xq), .val (.int xf), .val (.int w1), .val (.int w2), .val (.int mv), .val (.int ap), .val (.int de), .val (.int v41), .val (.ref b9), .val (.long ex), .second] [])) _
            refine XS.iconst X200.here hx rfl (hb hby at_169) ?_
            show Steps p.tables e below (T200.setTop (mkF m 170 #[.val (.int xw1), .val (.int xw2), .val (.int xq), .val (.int xf), .val (.int w1), .val (.int w2), .val (.int mv), .val (.int ap), .val (.int de), .val (.int v41), .val (.ref b9), .val (.long ex), .second] [(.int (1 : Int32))])) _
            refine XS.goto X200.here hx rfl (pc0 := 170) (pc' := 174) rfl (hb hby at_170) (by decide) (by decide) ?_
            show Steps p.tables e below (T200.setTop (mkF m 174 #[.val (.int xw1), .val (.int xw2), .val (.int xq), .val (.int xf), .val (.int w1), .val (.int w2), .val (.int mv), .val (.int ap), .val (.int de), .val (.int v41), .val (.ref b9), .val (.long ex), .second] [(.int (1 : Int32))])) _
            exact k
          obtain ⟨fs, hr, hrun, hended, hW, hsame⟩ := X200.leave (v := some (.int (1 : Int32))) (fun h => by rw [Bd.returns] at h; cases h)
          refine ⟨_, _, pre202 _ ?_, hrun, hended, _, _, rfl, ?_, ⟨_, rfl⟩, hW, hsame.mono (by decide) (by decide)⟩
          · exact retN X200 hx (t := .boolean) Bd.returns (by simp) (hb hby at_174) hr
          · show Q_rm0 Z xw1 xw2 xq xf h0 n0 _ T200.heap _
            rw [e200]
            exact ⟨rfl, N200⟩
    · have pre203 : ∀ t, Steps p.tables e below (T141.setTop (mkF m 93 #[.val (.int xw1), .val (.int xw2), .val (.int xq), .val (.int xf), .val (.int w1), .val (.int w2), .val (.int mv), .val (.int ap), .val (.int de), .val (.int v41), .val (.ref b9), .unset, .unset] [(.ref b9)])) t → Steps p.tables e below (s₁.setTop (entryFrame m #[(.int xw1), (.int xw2), (.int xq), (.int xf)] maxLocals)) t := by
        intro t k
        refine pre143 t ?_
        refine XS.ifNo X141.here hx rfl (hb hby at_88) rfl ((if0 _ _).trans (feq hc88).1) ?_
        show Steps p.tables e below (T141.setTop (mkF m 91 #[.val (.int xw1), .val (.int xw2), .val (.int xq), .val (.int xf), .val (.int w1), .val (.int w2), .val (.int mv), .val (.int ap), .val (.int de), .val (.int v41), .val (.ref b9), .unset, .unset] [])) _
        refine XS.aload X141.here hx rfl (hb hby at_91) rfl rfl ?_
        show Steps p.tables e below (T141.setTop (mkF m 93 #[.val (.int xw1), .val (.int xw2), .val (.int xq), .val (.int xf), .val (.int w1), .val (.int w2), .val (.int mv), .val (.int ap), .val (.int de), .val (.int v41), .val (.ref b9), .unset, .unset] [(.ref b9)])) _
        exact k
      obtain ⟨cq204, kq204, q204a, q204b, q204c⟩ := isOf hZ rfl f141_0
      obtain ⟨_, _, ⟨T204, L204, k204, n204⟩, -, X204, ⟨Lc204, hQ204, l204, y204, z204⟩, st204⟩ := X141.virtualBack hx (y := (⟨"com/example/suitor/suitor/SolverStatistics", "countApplication", "()V"⟩ : MethodName)) (z := (⟨"com/example/suitor/suitor/SolverStatistics", "countApplication", "()V"⟩ : MethodName)) hown (mvT hZ (hw _ (List.mem_of_getElem? (i := 23) rfl))) (mvT hZ (hw _ (List.mem_of_getElem? (i := 24) rfl))) (notFace_of_selects (args := #[]) (mvT hZ (hw _ (List.mem_of_getElem? (i := 26) rfl)))) (mvT hZ (hw _ (List.mem_of_getElem? (i := 26) rfl))) (mvT hZ (hw _ (List.mem_of_getElem? (i := 25) rfl))) (by decide) (backOf (W := 0) (rm_countApplication l Z a0 hw [] b9 ((0 : Int64) + (1 : Int64)) (0 : Int64) (0 : Int64) (0 : Int64) (0 : Int64) T141.heap n0 zz141 f141_0 (g_b9) f141_1 f141_2 f141_3 f141_4 f141_5) hZ (hw _ (List.mem_of_getElem? (i := 27) rfl)) (hw _ (List.mem_of_getElem? (i := 3) rfl)) (by decide) (by decide)) q204a q204c (g := (mkF m 93 #[.val (.int xw1), .val (.int xw2), .val (.int xq), .val (.int xf), .val (.int w1), .val (.int w2), .val (.int mv), .val (.int ap), .val (.int de), .val (.int v41), .val (.ref b9), .unset, .unset] [(.ref b9)])) rfl (by rw [hml]; rfl) (Steps.refl _) (argsL := []) (rest := []) (lenOf pd0 rfl) rfl (by show 2 * 0 + _ ≤ _; exact Nat.le_of_eq rfl) (hb hby at_93) (fun _ _ => ⟨rfl, rfl, (by decide : 1 + 0 ≤ _), (by decide : 5 + 0 ≤ _)⟩)
      dsimp only [Pt.U, Pt.locs, Pt.cells, Pt.slots] at X204 l204 y204 z204 st204 hQ204
      subst l204 y204 z204
      obtain ⟨rfl, M204, kp204, f204_0, f204_1, f204_2, f204_3, f204_4, f204_5⟩ := hQ204
      have K204 : Keep h0 T204.heap ([] : List Addr) := K141.trans kp204 (allS (P := fun x => x ∈ ([] : List Addr) ∨ h0.size ≤ x) (Or.inr sz_b9) all0)
      have zz204 : n0 ≤ T204.heap.size := Nat.le_trans Z0 K204.1
      have N204 := Fr.app N141 M204
      have pre205 : ∀ t, Steps p.tables e below (T204.setTop (mkF m 96 #[.val (.int xw1), .val (.int xw2), .val (.int xq), .val (.int xf), .val (.int w1), .val (.int w2), .val (.int mv), .val (.int ap), .val (.int de), .val (.int v41), .val (.ref b9), .unset, .unset] [])) t → Steps p.tables e below (s₁.setTop (entryFrame m #[(.int xw1), (.int xw2), (.int xq), (.int xf)] maxLocals)) t := fun t k => pre203 t (st204.trans k)
      have pre206 : ∀ t, Steps p.tables e below (T204.setTop (mkF m 100 #[.val (.int xw1), .val (.int xw2), .val (.int xq), .val (.int xf), .val (.int w1), .val (.int w2), .val (.int mv), .val (.int ap), .val (.int de), .val (.int v41), .val (.ref b9), .unset, .unset] [(.int w1), (.ref b9)])) t → Steps p.tables e below (s₁.setTop (entryFrame m #[(.int xw1), (.int xw2), (.int xq), (.int xf)] maxLocals)) t := by
        intro t k
        refine pre205 t ?_
        refine XS.aload X204.here hx rfl (hb hby at_96) rfl rfl ?_
        show Steps p.tables e below (T204.setTop (mkF m 98 #[.val (.int xw1), .val (.int xw2), .val (.int xq), .val (.int xf), .val (.int w1), .val (.int w2), .val (.int mv), .val (.int ap), .val (.int de), .val (.int v41), .val (.ref b9), .unset, .unset] [(.ref b9)])) _
        refine XS.iload X204.here hx rfl (hb hby at_98) rfl ?_
        show Steps p.tables e below (T204.setTop (mkF m 100 #[.val (.int xw1), .val (.int xw2), .val (.int xq), .val (.int xf), .val (.int w1), .val (.int w2), .val (.int mv), .val (.int ap), .val (.int de), .val (.int v41), .val (.ref b9), .unset, .unset] [(.int w1), (.ref b9)])) _
        exact k
      obtain ⟨cq207, kq207, q207a, q207b, q207c⟩ := isOf hZ rfl f204_0
      obtain ⟨_, _, ⟨T207, L207, k207, n207⟩, -, X207, ⟨Lc207, hQ207, l207, y207, z207⟩, st207⟩ := X204.virtualBack hx (y := (⟨"com/example/suitor/suitor/SolverStatistics", "countWalkSteps", "(I)V"⟩ : MethodName)) (z := (⟨"com/example/suitor/suitor/SolverStatistics", "countWalkSteps", "(I)V"⟩ : MethodName)) hown (mvT hZ (hw _ (List.mem_of_getElem? (i := 28) rfl))) (mvT hZ (hw _ (List.mem_of_getElem? (i := 29) rfl))) (notFace_of_selects (args := #[]) (mvT hZ (hw _ (List.mem_of_getElem? (i := 31) rfl)))) (mvT hZ (hw _ (List.mem_of_getElem? (i := 31) rfl))) (mvT hZ (hw _ (List.mem_of_getElem? (i := 30) rfl))) (by decide) (backOf (W := 0) (rm_countWalkSteps l Z a0 hw [] b9 w1 (((0 : Int64) + (1 : Int64)) + (1 : Int64)) (0 : Int64) (0 : Int64) (0 : Int64) (0 : Int64) T204.heap n0 zz204 f204_0 (g_b9) f204_1 f204_2 f204_3 f204_4 f204_5) hZ (hw _ (List.mem_of_getElem? (i := 32) rfl)) (hw _ (List.mem_of_getElem? (i := 3) rfl)) (by decide) (by decide)) q207a q207c (g := (mkF m 100 #[.val (.int xw1), .val (.int xw2), .val (.int xq), .val (.int xf), .val (.int w1), .val (.int w2), .val (.int mv), .val (.int ap), .val (.int de), .val (.int v41), .val (.ref b9), .unset, .unset] [(.int w1), (.ref b9)])) rfl (by rw [hml]; rfl) (Steps.refl _) (argsL := [(.int w1)]) (rest := []) (lenOf pd2 rfl) rfl (by show 2 * 0 + _ ≤ _; exact Nat.le_of_eq rfl) (hb hby at_100) (fun _ _ => ⟨rfl, rfl, (by decide : 1 + 0 ≤ _), (by decide : 5 + 0 ≤ _)⟩)
      dsimp only [Pt.U, Pt.locs, Pt.cells, Pt.slots] at X207 l207 y207 z207 st207 hQ207
      subst l207 y207 z207
      obtain ⟨rfl, M207, kp207, f207_0, f207_1, f207_2, f207_3, f207_4, f207_5⟩ := hQ207
      have K207 : Keep h0 T207.heap ([] : List Addr) := K204.trans kp207 (allS (P := fun x => x ∈ ([] : List Addr) ∨ h0.size ≤ x) (Or.inr sz_b9) all0)
      have zz207 : n0 ≤ T207.heap.size := Nat.le_trans Z0 K207.1
      have N207 := Fr.app N204 M207
      have pre208 : ∀ t, Steps p.tables e below (T207.setTop (mkF m 103 #[.val (.int xw1), .val (.int xw2), .val (.int xq), .val (.int xf), .val (.int w1), .val (.int w2), .val (.int mv), .val (.int ap), .val (.int de), .val (.int v41), .val (.ref b9), .unset, .unset] [])) t → Steps p.tables e below (s₁.setTop (entryFrame m #[(.int xw1), (.int xw2), (.int xq), (.int xf)] maxLocals)) t := fun t k => pre206 t (st207.trans k)
      have pre209 : ∀ t, Steps p.tables e below (T207.setTop (mkF m 105 #[.val (.int xw1), .val (.int xw2), .val (.int xq), .val (.int xf), .val (.int w1), .val (.int w2), .val (.int mv), .val (.int ap), .val (.int de), .val (.int v41), .val (.ref b9), .unset, .unset] [(.int de)])) t → Steps p.tables e below (s₁.setTop (entryFrame m #[(.int xw1), (.int xw2), (.int xq), (.int xf)] maxLocals)) t := by
        intro t k
        refine pre208 t ?_
        refine XS.iload X207.here hx rfl (hb hby at_103) rfl ?_
        show Steps p.tables e below (T207.setTop (mkF m 105 #[.val (.int xw1), .val (.int xw2), .val (.int xq), .val (.int xf), .val (.int w1), .val (.int w2), .val (.int mv), .val (.int ap), .val (.int de), .val (.int v41), .val (.ref b9), .unset, .unset] [(.int de)])) _
        exact k
      by_cases hc105 : de = (0 : Int32)
      · have pre210 : ∀ t, Steps p.tables e below (T207.setTop (mkF m 115 #[.val (.int xw1), .val (.int xw2), .val (.int xq), .val (.int xf), .val (.int w1), .val (.int w2), .val (.int mv), .val (.int ap), .val (.int de), .val (.int v41), .val (.ref b9), .unset, .unset] [(.int v41)])) t → Steps p.tables e below (s₁.setTop (entryFrame m #[(.int xw1), (.int xw2), (.int xq), (.int xf)] maxLocals)) t := by
          intro t k
          refine pre209 t ?_
          refine XS.ifYes X207.here hx rfl (pc0 := 105) (pc' := 113) rfl (hb hby at_105) rfl ((if0 _ _).trans (teq hc105).1) (by decide) (by decide) ?_
          show Steps p.tables e below (T207.setTop (mkF m 113 #[.val (.int xw1), .val (.int xw2), .val (.int xq), .val (.int xf), .val (.int w1), .val (.int w2), .val (.int mv), .val (.int ap), .val (.int de), .val (.int v41), .val (.ref b9), .unset, .unset] [])) _
          refine XS.iload X207.here hx rfl (hb hby at_113) rfl ?_
          show Steps p.tables e below (T207.setTop (mkF m 115 #[.val (.int xw1), .val (.int xw2), .val (.int xq), .val (.int xf), .val (.int w1), .val (.int w2), .val (.int mv), .val (.int ap), .val (.int de), .val (.int v41), .val (.ref b9), .unset, .unset] [(.int v41)])) _
          exact k
        by_cases hc115 : v41 = (0 : Int32)
        · have pre211 : ∀ t, Steps p.tables e below (T207.setTop (mkF m 127 #[.val (.int xw1), .val (.int xw2), .val (.int xq), .val (.int xf), .val (.int w1), .val (.int w2), .val (.int mv), .val (.int ap), .val (.int de), .val (.int v41), .val (.ref b9), .unset, .unset] [(.int mv), (.ref b9)])) t → Steps p.tables e below (s₁.setTop (entryFrame m #[(.int xw1), (.int xw2), (.int xq), (.int xf)] maxLocals)) t := by
            intro t k
            refine pre210 t ?_
            refine XS.ifYes X207.here hx rfl (pc0 := 115) (pc' := 123) rfl (hb hby at_115) rfl ((if0 _ _).trans (teq hc115).1) (by decide) (by decide) ?_
            show Steps p.tables e below (T207.setTop (mkF m 123 #[.val (.int xw1), .val (.int xw2), .val (.int xq), .val (.int xf), .val (.int w1), .val (.int w2), .val (.int mv), .val (.int ap), .val (.int de), .val (.int v41), .val (.ref b9), .unset, .unset] [])) _
            refine XS.aload X207.here hx rfl (hb hby at_123) rfl rfl ?_
            show Steps p.tables e below (T207.setTop (mkF m 125 #[.val (.int xw1), .val (.int xw2), .val (.int xq), .val (.int xf), .val (.int w1), .val (.int w2), .val (.int mv), .val (.int ap), .val (.int de), .val (.int v41), .val (.ref b9), .unset, .unset] [(.ref b9)])) _
            refine XS.iload X207.here hx rfl (hb hby at_125) rfl ?_
            show Steps p.tables e below (T207.setTop (mkF m 127 #[.val (.int xw1), .val (.int xw2), .val (.int xq), .val (.int xf), .val (.int w1), .val (.int w2), .val (.int mv), .val (.int ap), .val (.int de), .val (.int v41), .val (.ref b9), .unset, .unset] [(.int mv), (.ref b9)])) _
            exact k
          obtain ⟨cq212, kq212, q212a, q212b, q212c⟩ := isOf hZ rfl f207_0
          obtain ⟨_, _, ⟨T212, L212, k212, n212⟩, -, X212, ⟨Lc212, hQ212, l212, y212, z212⟩, st212⟩ := X207.virtualBack hx (y := (⟨"com/example/suitor/suitor/SolverStatistics", "countQueueMoves", "(I)V"⟩ : MethodName)) (z := (⟨"com/example/suitor/suitor/SolverStatistics", "countQueueMoves", "(I)V"⟩ : MethodName)) hown (mvT hZ (hw _ (List.mem_of_getElem? (i := 33) rfl))) (mvT hZ (hw _ (List.mem_of_getElem? (i := 34) rfl))) (notFace_of_selects (args := #[]) (mvT hZ (hw _ (List.mem_of_getElem? (i := 36) rfl)))) (mvT hZ (hw _ (List.mem_of_getElem? (i := 36) rfl))) (mvT hZ (hw _ (List.mem_of_getElem? (i := 35) rfl))) (by decide) (backOf (W := 0) (rm_countQueueMoves l Z a0 hw [] b9 mv (((0 : Int64) + (1 : Int64)) + (1 : Int64)) ((0 : Int64) + (w1.toInt64)) (0 : Int64) (0 : Int64) (0 : Int64) T207.heap n0 zz207 f207_0 (g_b9) f207_1 f207_2 f207_3 f207_4 f207_5) hZ (hw _ (List.mem_of_getElem? (i := 37) rfl)) (hw _ (List.mem_of_getElem? (i := 3) rfl)) (by decide) (by decide)) q212a q212c (g := (mkF m 127 #[.val (.int xw1), .val (.int xw2), .val (.int xq), .val (.int xf), .val (.int w1), .val (.int w2), .val (.int mv), .val (.int ap), .val (.int de), .val (.int v41), .val (.ref b9), .unset, .unset] [(.int mv), (.ref b9)])) rfl (by rw [hml]; rfl) (Steps.refl _) (argsL := [(.int mv)]) (rest := []) (lenOf pd2 rfl) rfl (by show 2 * 0 + _ ≤ _; exact Nat.le_of_eq rfl) (hb hby at_127) (fun _ _ => ⟨rfl, rfl, (by decide : 1 + 0 ≤ _), (by decide : 5 + 0 ≤ _)⟩)
          dsimp only [Pt.U, Pt.locs, Pt.cells, Pt.slots] at X212 l212 y212 z212 st212 hQ212
          subst l212 y212 z212
          obtain ⟨rfl, M212, kp212, f212_0, f212_1, f212_2, f212_3, f212_4, f212_5⟩ := hQ212
          have K212 : Keep h0 T212.heap ([] : List Addr) := K207.trans kp212 (allS (P := fun x => x ∈ ([] : List Addr) ∨ h0.size ≤ x) (Or.inr sz_b9) all0)
          have zz212 : n0 ≤ T212.heap.size := Nat.le_trans Z0 K212.1
          have N212 := Fr.app N207 M212
          have pre213 : ∀ t, Steps p.tables e below (T212.setTop (mkF m 130 #[.val (.int xw1), .val (.int xw2), .val (.int xq), .val (.int xf), .val (.int w1), .val (.int w2), .val (.int mv), .val (.int ap), .val (.int de), .val (.int v41), .val (.ref b9), .unset, .unset] [])) t → Steps p.tables e below (s₁.setTop (entryFrame m #[(.int xw1), (.int xw2), (.int xq), (.int xf)] maxLocals)) t := fun t k => pre211 t (st212.trans k)
          have pre214 : ∀ t, Steps p.tables e below (T212.setTop (mkF m 134 #[.val (.int xw1), .val (.int xw2), .val (.int xq), .val (.int xf), .val (.int w1), .val (.int w2), .val (.int mv), .val (.int ap), .val (.int de), .val (.int v41), .val (.ref b9), .unset, .unset] [(.int w2), (.ref b9)])) t → Steps p.tables e below (s₁.setTop (entryFrame m #[(.int xw1), (.int xw2), (.int xq), (.int xf)] maxLocals)) t := by
            intro t k
            refine pre213 t ?_
            refine XS.aload X212.here hx rfl (hb hby at_130) rfl rfl ?_
            show Steps p.tables e below (T212.setTop (mkF m 132 #[.val (.int xw1), .val (.int xw2), .val (.int xq), .val (.int xf), .val (.int w1), .val (.int w2), .val (.int mv), .val (.int ap), .val (.int de), .val (.int v41), .val (.ref b9), .unset, .unset] [(.ref b9)])) _
            refine XS.iload X212.here hx rfl (hb hby at_132) rfl ?_
            show Steps p.tables e below (T212.setTop (mkF m 134 #[.val (.int xw1), .val (.int xw2), .val (.int xq), .val (.int xf), .val (.int w1), .val (.int w2), .val (.int mv), .val (.int ap), .val (.int de), .val (.int v41), .val (.ref b9), .unset, .unset] [(.int w2), (.ref b9)])) _
            exact k
          obtain ⟨cq215, kq215, q215a, q215b, q215c⟩ := isOf hZ rfl f212_0
          obtain ⟨_, _, ⟨T215, L215, k215, n215⟩, -, X215, ⟨Lc215, hQ215, l215, y215, z215⟩, st215⟩ := X212.virtualBack hx (y := (⟨"com/example/suitor/suitor/SolverStatistics", "countWalkSteps", "(I)V"⟩ : MethodName)) (z := (⟨"com/example/suitor/suitor/SolverStatistics", "countWalkSteps", "(I)V"⟩ : MethodName)) hown (mvT hZ (hw _ (List.mem_of_getElem? (i := 28) rfl))) (mvT hZ (hw _ (List.mem_of_getElem? (i := 29) rfl))) (notFace_of_selects (args := #[]) (mvT hZ (hw _ (List.mem_of_getElem? (i := 31) rfl)))) (mvT hZ (hw _ (List.mem_of_getElem? (i := 31) rfl))) (mvT hZ (hw _ (List.mem_of_getElem? (i := 30) rfl))) (by decide) (backOf (W := 0) (rm_countWalkSteps l Z a0 hw [] b9 w2 (((0 : Int64) + (1 : Int64)) + (1 : Int64)) ((0 : Int64) + (w1.toInt64)) (0 : Int64) ((0 : Int64) + (mv.toInt64)) (0 : Int64) T212.heap n0 zz212 f212_0 (g_b9) f212_1 f212_2 f212_3 f212_4 f212_5) hZ (hw _ (List.mem_of_getElem? (i := 32) rfl)) (hw _ (List.mem_of_getElem? (i := 3) rfl)) (by decide) (by decide)) q215a q215c (g := (mkF m 134 #[.val (.int xw1), .val (.int xw2), .val (.int xq), .val (.int xf), .val (.int w1), .val (.int w2), .val (.int mv), .val (.int ap), .val (.int de), .val (.int v41), .val (.ref b9), .unset, .unset] [(.int w2), (.ref b9)])) rfl (by rw [hml]; rfl) (Steps.refl _) (argsL := [(.int w2)]) (rest := []) (lenOf pd2 rfl) rfl (by show 2 * 0 + _ ≤ _; exact Nat.le_of_eq rfl) (hb hby at_134) (fun _ _ => ⟨rfl, rfl, (by decide : 1 + 0 ≤ _), (by decide : 5 + 0 ≤ _)⟩)
          dsimp only [Pt.U, Pt.locs, Pt.cells, Pt.slots] at X215 l215 y215 z215 st215 hQ215
          subst l215 y215 z215
          obtain ⟨rfl, M215, kp215, f215_0, f215_1, f215_2, f215_3, f215_4, f215_5⟩ := hQ215
          have K215 : Keep h0 T215.heap ([] : List Addr) := K212.trans kp215 (allS (P := fun x => x ∈ ([] : List Addr) ∨ h0.size ≤ x) (Or.inr sz_b9) all0)
          have zz215 : n0 ≤ T215.heap.size := Nat.le_trans Z0 K215.1
          have N215 := Fr.app N212 M215
          have pre216 : ∀ t, Steps p.tables e below (T215.setTop (mkF m 137 #[.val (.int xw1), .val (.int xw2), .val (.int xq), .val (.int xf), .val (.int w1), .val (.int w2), .val (.int mv), .val (.int ap), .val (.int de), .val (.int v41), .val (.ref b9), .unset, .unset] [])) t → Steps p.tables e below (s₁.setTop (entryFrame m #[(.int xw1), (.int xw2), (.int xq), (.int xf)] maxLocals)) t := fun t k => pre214 t (st215.trans k)
          have pre217 : ∀ t, Steps p.tables e below (T215.setTop (mkF m 158 #[.val (.int xw1), .val (.int xw2), .val (.int xq), .val (.int xf), .val (.int w1), .val (.int w2), .val (.int mv), .val (.int ap), .val (.int de), .val (.int v41), .val (.ref b9), .val (.long (((((ap.toInt64) + (w1.toInt64)) + (w2.toInt64)) + (de.toInt64)) + (mv.toInt64))), .second] [])) t → Steps p.tables e below (s₁.setTop (entryFrame m #[(.int xw1), (.int xw2), (.int xq), (.int xf)] maxLocals)) t := by
            intro t k
            refine pre216 t ?_
            refine XS.iload X215.here hx rfl (hb hby at_137) rfl ?_
            show Steps p.tables e below (T215.setTop (mkF m 139 #[.val (.int xw1), .val (.int xw2), .val (.int xq), .val (.int xf), .val (.int w1), .val (.int w2), .val (.int mv), .val (.int ap), .val (.int de), .val (.int v41), .val (.ref b9), .unset, .unset] [(.int ap)])) _
            refine XS.i2l X215.here hx rfl (hb hby at_139) rfl ?_
            show Steps p.tables e below (T215.setTop (mkF m 140 #[.val (.int xw1), .val (.int xw2), .val (.int xq), .val (.int xf), .val (.int w1), .val (.int w2), .val (.int mv), .val (.int ap), .val (.int de), .val (.int v41), .val (.ref b9), .unset, .unset] [(.long (ap.toInt64))])) _
            refine XS.iload X215.here hx rfl (hb hby at_140) rfl ?_
            show Steps p.tables e below (T215.setTop (mkF m 142 #[.val (.int xw1), .val (.int xw2), .val (.int xq), .val (.int xf), .val (.int w1), .val (.int w2), .val (.int mv), .val (.int ap), .val (.int de), .val (.int v41), .val (.ref b9), .unset, .unset] [(.int w1), (.long (ap.toInt64))])) _
            refine XS.i2l X215.here hx rfl (hb hby at_142) rfl ?_
            show Steps p.tables e below (T215.setTop (mkF m 143 #[.val (.int xw1), .val (.int xw2), .val (.int xq), .val (.int xf), .val (.int w1), .val (.int w2), .val (.int mv), .val (.int ap), .val (.int de), .val (.int v41), .val (.ref b9), .unset, .unset] [(.long (w1.toInt64)), (.long (ap.toInt64))])) _
            refine XS.ladd X215.here hx rfl (hb hby at_143) rfl ?_
            show Steps p.tables e below (T215.setTop (mkF m 144 #[.val (.int xw1), .val (.int xw2), .val (.int xq), .val (.int xf), .val (.int w1), .val (.int w2), .val (.int mv), .val (.int ap), .val (.int de), .val (.int v41), .val (.ref b9), .unset, .unset] [(.long ((ap.toInt64) + (w1.toInt64)))])) _
            refine XS.iload X215.here hx rfl (hb hby at_144) rfl ?_
            show Steps p.tables e below (T215.setTop (mkF m 146 #[.val (.int xw1), .val (.int xw2), .val (.int xq), .val (.int xf), .val (.int w1), .val (.int w2), .val (.int mv), .val (.int ap), .val (.int de), .val (.int v41), .val (.ref b9), .unset, .unset] [(.int w2), (.long ((ap.toInt64) + (w1.toInt64)))])) _
            refine XS.i2l X215.here hx rfl (hb hby at_146) rfl ?_
            show Steps p.tables e below (T215.setTop (mkF m 147 #[.val (.int xw1), .val (.int xw2), .val (.int xq), .val (.int xf), .val (.int w1), .val (.int w2), .val (.int mv), .val (.int ap), .val (.int de), .val (.int v41), .val (.ref b9), .unset, .unset] [(.long (w2.toInt64)), (.long ((ap.toInt64) + (w1.toInt64)))])) _
            refine XS.ladd X215.here hx rfl (hb hby at_147) rfl ?_
            show Steps p.tables e below (T215.setTop (mkF m 148 #[.val (.int xw1), .val (.int xw2), .val (.int xq), .val (.int xf), .val (.int w1), .val (.int w2), .val (.int mv), .val (.int ap), .val (.int de), .val (.int v41), .val (.ref b9), .unset, .unset] [(.long (((ap.toInt64) + (w1.toInt64)) + (w2.toInt64)))])) _
            refine XS.iload X215.here hx rfl (hb hby at_148) rfl ?_
            show Steps p.tables e below (T215.setTop (mkF m 150 #[.val (.int xw1), .val (.int xw2), .val (.int xq), .val (.int xf), .val (.int w1), .val (.int w2), .val (.int mv), .val (.int ap), .val (.int de), .val (.int v41), .val (.ref b9), .unset, .unset] [(.int de), (.long (((ap.toInt64) + (w1.toInt64)) + (w2.toInt64)))])) _
            refine XS.i2l X215.here hx rfl (hb hby at_150) rfl ?_
            show Steps p.tables e below (T215.setTop (mkF m 151 #[.val (.int xw1), .val (.int xw2), .val (.int xq), .val (.int xf), .val (.int w1), .val (.int w2), .val (.int mv), .val (.int ap), .val (.int de), .val (.int v41), .val (.ref b9), .unset, .unset] [(.long (de.toInt64)), (.long (((ap.toInt64) + (w1.toInt64)) + (w2.toInt64)))])) _
            refine XS.ladd X215.here hx rfl (hb hby at_151) rfl ?_
            show Steps p.tables e below (T215.setTop (mkF m 152 #[.val (.int xw1), .val (.int xw2), .val (.int xq), .val (.int xf), .val (.int w1), .val (.int w2), .val (.int mv), .val (.int ap), .val (.int de), .val (.int v41), .val (.ref b9), .unset, .unset] [(.long ((((ap.toInt64) + (w1.toInt64)) + (w2.toInt64)) + (de.toInt64)))])) _
            refine XS.iload X215.here hx rfl (hb hby at_152) rfl ?_
            show Steps p.tables e below (T215.setTop (mkF m 154 #[.val (.int xw1), .val (.int xw2), .val (.int xq), .val (.int xf), .val (.int w1), .val (.int w2), .val (.int mv), .val (.int ap), .val (.int de), .val (.int v41), .val (.ref b9), .unset, .unset] [(.int mv), (.long ((((ap.toInt64) + (w1.toInt64)) + (w2.toInt64)) + (de.toInt64)))])) _
            refine XS.i2l X215.here hx rfl (hb hby at_154) rfl ?_
            show Steps p.tables e below (T215.setTop (mkF m 155 #[.val (.int xw1), .val (.int xw2), .val (.int xq), .val (.int xf), .val (.int w1), .val (.int w2), .val (.int mv), .val (.int ap), .val (.int de), .val (.int v41), .val (.ref b9), .unset, .unset] [(.long (mv.toInt64)), (.long ((((ap.toInt64) + (w1.toInt64)) + (w2.toInt64)) + (de.toInt64)))])) _
            refine XS.ladd X215.here hx rfl (hb hby at_155) rfl ?_
            show Steps p.tables e below (T215.setTop (mkF m 156 #[.val (.int xw1), .val (.int xw2), .val (.int xq), .val (.int xf), .val (.int w1), .val (.int w2), .val (.int mv), .val (.int ap), .val (.int de), .val (.int v41), .val (.ref b9), .unset, .unset] [(.long (((((ap.toInt64) + (w1.toInt64)) + (w2.toInt64)) + (de.toInt64)) + (mv.toInt64)))])) _
            refine XS.lstore X215.here hx rfl (hb hby at_156) rfl (l' := #[.val (.int xw1), .val (.int xw2), .val (.int xq), .val (.int xf), .val (.int w1), .val (.int w2), .val (.int mv), .val (.int ap), .val (.int de), .val (.int v41), .val (.ref b9), .val (.long (((((ap.toInt64) + (w1.toInt64)) + (w2.toInt64)) + (de.toInt64)) + (mv.toInt64))), .second]) rfl ?_
            show Steps p.tables e below (T215.setTop (mkF m 158 #[.val (.int xw1), .val (.int xw2), .val (.int xq), .val (.int xf), .val (.int w1), .val (.int w2), .val (.int mv), .val (.int ap), .val (.int de), .val (.int v41), .val (.ref b9), .val (.long (((((ap.toInt64) + (w1.toInt64)) + (w2.toInt64)) + (de.toInt64)) + (mv.toInt64))), .second] [])) _
            exact k
          obtain ⟨ex, hex⟩ : ∃ z : Int64, z = (((((ap.toInt64) + (w1.toInt64)) + (w2.toInt64)) + (de.toInt64)) + (mv.toInt64)) := ⟨_, rfl⟩
          rw [← hex] at pre217
          have pre218 : ∀ t, Steps p.tables e below (T215.setTop (mkF m 160 #[.val (.int xw1), .val (.int xw2), .val (.int xq), .val (.int xf), .val (.int w1), .val (.int w2), .val (.int mv), .val (.int ap), .val (.int de), .val (.int v41), .val (.ref b9), .val (.long ex), .second] [(.ref b9)])) t → Steps p.tables e below (s₁.setTop (entryFrame m #[(.int xw1), (.int xw2), (.int xq), (.int xf)] maxLocals)) t := by
            intro t k
            refine pre217 t ?_
            refine XS.aload X215.here hx rfl (hb hby at_158) rfl rfl ?_
            show Steps p.tables e below (T215.setTop (mkF m 160 #[.val (.int xw1), .val (.int xw2), .val (.int xq), .val (.int xf), .val (.int w1), .val (.int w2), .val (.int mv), .val (.int ap), .val (.int de), .val (.int v41), .val (.ref b9), .val (.long ex), .second] [(.ref b9)])) _
            exact k
          obtain ⟨cq219, kq219, q219a, q219b, q219c⟩ := isOf hZ rfl f215_0
          obtain ⟨_, _, ⟨T219, L219, k219, n219⟩, -, X219, ⟨Lc219, hQ219, l219, y219, z219⟩, st219⟩ := X215.virtualBack hx (y := (⟨"com/example/suitor/suitor/SolverStatistics", "getSteps", "()J"⟩ : MethodName)) (z := (⟨"com/example/suitor/suitor/SolverStatistics", "getSteps", "()J"⟩ : MethodName)) hown (mvT hZ (hw _ (List.mem_of_getElem? (i := 10) rfl))) (mvT hZ (hw _ (List.mem_of_getElem? (i := 11) rfl))) (notFace_of_selects (args := #[]) (mvT hZ (hw _ (List.mem_of_getElem? (i := 13) rfl)))) (mvT hZ (hw _ (List.mem_of_getElem? (i := 13) rfl))) (mvT hZ (hw _ (List.mem_of_getElem? (i := 12) rfl))) (by decide) (backOf (W := 0) (rm_steps l Z a0 hw [] b9 (((0 : Int64) + (1 : Int64)) + (1 : Int64)) (((0 : Int64) + (w1.toInt64)) + (w2.toInt64)) (0 : Int64) ((0 : Int64) + (mv.toInt64)) T215.heap n0 zz215 f215_1 f215_2 f215_3 f215_4) hZ (hw _ (List.mem_of_getElem? (i := 14) rfl)) (hw _ (List.mem_of_getElem? (i := 3) rfl)) (by decide) (by decide)) q219a q219c (g := (mkF m 160 #[.val (.int xw1), .val (.int xw2), .val (.int xq), .val (.int xf), .val (.int w1), .val (.int w2), .val (.int mv), .val (.int ap), .val (.int de), .val (.int v41), .val (.ref b9), .val (.long ex), .second] [(.ref b9)])) rfl (by rw [hml]; rfl) (Steps.refl _) (argsL := []) (rest := []) (lenOf pd1 rfl) rfl (by show 2 * 0 + _ ≤ _; exact Nat.le_of_eq rfl) (hb hby at_160) (fun _ _ => ⟨rfl, rfl, (by decide : 1 + 0 ≤ _), (by decide : 5 + 0 ≤ _)⟩)
          dsimp only [Pt.U, Pt.locs, Pt.cells, Pt.slots] at X219 l219 y219 z219 st219 hQ219
          subst l219 y219 z219
          obtain ⟨rfl, M219, e219⟩ := hQ219
          have N219 := Fr.app N215 M219
          have pre220 : ∀ t, Steps p.tables e below (T219.setTop (mkF m 163 #[.val (.int xw1), .val (.int xw2), .val (.int xq), .val (.int xf), .val (.int w1), .val (.int w2), .val (.int mv), .val (.int ap), .val (.int de), .val (.int v41), .val (.ref b9), .val (.long ex), .second] [(.long ((((((0 : Int64) + (1 : Int64)) + (1 : Int64)) + (((0 : Int64) + (w1.toInt64)) + (w2.toInt64))) + (0 : Int64)) + ((0 : Int64) + (mv.toInt64))))])) t → Steps p.tables e below (s₁.setTop (entryFrame m #[(.int xw1), (.int xw2), (.int xq), (.int xf)] maxLocals)) t := fun t k => pre218 t (st219.trans k)
          have pre221 : ∀ t, Steps p.tables e below (T219.setTop (mkF m 174 #[.val (.int xw1), .val (.int xw2), .val (.int xq), .val (.int xf), .val (.int w1), .val (.int w2), .val (.int mv), .val (.int ap), .val (.int de), .val (.int v41), .val (.ref b9), .val (.long ex), .second] [(.int (1 : Int32))])) t → Steps p.tables e below (s₁.setTop (entryFrame m #[(.int xw1), (.int xw2), (.int xq), (.int xf)] maxLocals)) t := by
            intro t k
            refine pre220 t ?_
            refine XS.lload X219.here hx rfl (hb hby at_163) rfl ?_
            show Steps p.tables e below (T219.setTop (mkF m 165 #[.val (.int xw1), .val (.int xw2), .val (.int xq), .val (.int xf), .val (.int w1), .val (.int w2), .val (.int mv), .val (.int ap), .val (.int de), .val (.int v41), .val (.ref b9), .val (.long ex), .second] [(.long ex), (.long ((((((0 : Int64) + (1 : Int64)) + (1 : Int64)) + (((0 : Int64) + (w1.toInt64)) + (w2.toInt64))) + (0 : Int64)) + ((0 : Int64) + (mv.toInt64))))])) _
            refine XS.lcmp X219.here hx rfl (hb hby at_165) rfl ?_
            show Steps p.tables e below (T219.setTop (mkF m 166 #[.val (.int xw1), .val (.int xw2), .val (.int xq), .val (.int xf), .val (.int w1), .val (.int w2), .val (.int mv), .val (.int ap), .val (.int de), .val (.int v41), .val (.ref b9), .val (.long ex), .second] [(.int (lcmpW ((((((0 : Int64) + (1 : Int64)) + (1 : Int64)) + (((0 : Int64) + (w1.toInt64)) + (w2.toInt64))) + (0 : Int64)) + ((0 : Int64) + (mv.toInt64))) ex))])) _
            refine XS.ifNo X219.here hx rfl (hb hby at_166) rfl ((if0 _ _).trans (teq ((lw_eq _ _).mpr (show ((((((0 : Int64) + (1 : Int64)) + (1 : Int64)) + (((0 : Int64) + (w1.toInt64)) + (w2.toInt64))) + (0 : Int64)) + ((0 : Int64) + (mv.toInt64))) = ex from by rw [hex]; exact own_6 w1 w2 mv xf ap de hap hde hc75 hc88 hc105))).2) ?_
            show Steps p.tables e below (T219.setTop (mkF m 169 #[.val (.int xw1), .val (.int xw2), .val (.int xq), .val (.int xf), .val (.int w1), .val (.int w2), .val (.int mv), .val (.int ap), .val (.int de), .val (.int v41), .val (.ref b9), .val (.long ex), .second] [])) _
            refine XS.iconst X219.here hx rfl (hb hby at_169) ?_
            show Steps p.tables e below (T219.setTop (mkF m 170 #[.val (.int xw1), .val (.int xw2), .val (.int xq), .val (.int xf), .val (.int w1), .val (.int w2), .val (.int mv), .val (.int ap), .val (.int de), .val (.int v41), .val (.ref b9), .val (.long ex), .second] [(.int (1 : Int32))])) _
            refine XS.goto X219.here hx rfl (pc0 := 170) (pc' := 174) rfl (hb hby at_170) (by decide) (by decide) ?_
            show Steps p.tables e below (T219.setTop (mkF m 174 #[.val (.int xw1), .val (.int xw2), .val (.int xq), .val (.int xf), .val (.int w1), .val (.int w2), .val (.int mv), .val (.int ap), .val (.int de), .val (.int v41), .val (.ref b9), .val (.long ex), .second] [(.int (1 : Int32))])) _
            exact k
          obtain ⟨fs, hr, hrun, hended, hW, hsame⟩ := X219.leave (v := some (.int (1 : Int32))) (fun h => by rw [Bd.returns] at h; cases h)
          refine ⟨_, _, pre221 _ ?_, hrun, hended, _, _, rfl, ?_, ⟨_, rfl⟩, hW, hsame.mono (by decide) (by decide)⟩
          · exact retN X219 hx (t := .boolean) Bd.returns (by simp) (hb hby at_174) hr
          · show Q_rm0 Z xw1 xw2 xq xf h0 n0 _ T219.heap _
            rw [e219]
            exact ⟨rfl, N219⟩
        · have pre222 : ∀ t, Steps p.tables e below (T207.setTop (mkF m 120 #[.val (.int xw1), .val (.int xw2), .val (.int xq), .val (.int xf), .val (.int w1), .val (.int w2), .val (.int mv), .val (.int ap), .val (.int de), .val (.int v41), .val (.ref b9), .unset, .unset] [(.ref b9)])) t → Steps p.tables e below (s₁.setTop (entryFrame m #[(.int xw1), (.int xw2), (.int xq), (.int xf)] maxLocals)) t := by
            intro t k
            refine pre210 t ?_
            refine XS.ifNo X207.here hx rfl (hb hby at_115) rfl ((if0 _ _).trans (feq hc115).1) ?_
            show Steps p.tables e below (T207.setTop (mkF m 118 #[.val (.int xw1), .val (.int xw2), .val (.int xq), .val (.int xf), .val (.int w1), .val (.int w2), .val (.int mv), .val (.int ap), .val (.int de), .val (.int v41), .val (.ref b9), .unset, .unset] [])) _
            refine XS.aload X207.here hx rfl (hb hby at_118) rfl rfl ?_
            show Steps p.tables e below (T207.setTop (mkF m 120 #[.val (.int xw1), .val (.int xw2), .val (.int xq), .val (.int xf), .val (.int w1), .val (.int w2), .val (.int mv), .val (.int ap), .val (.int de), .val (.int v41), .val (.ref b9), .unset, .unset] [(.ref b9)])) _
            exact k
          obtain ⟨cq223, kq223, q223a, q223b, q223c⟩ := isOf hZ rfl f207_0
          obtain ⟨_, _, ⟨T223, L223, k223, n223⟩, -, X223, ⟨Lc223, hQ223, l223, y223, z223⟩, st223⟩ := X207.virtualBack hx (y := (⟨"com/example/suitor/suitor/SolverStatistics", "countPass", "()V"⟩ : MethodName)) (z := (⟨"com/example/suitor/suitor/SolverStatistics", "countPass", "()V"⟩ : MethodName)) hown (mvT hZ (hw _ (List.mem_of_getElem? (i := 38) rfl))) (mvT hZ (hw _ (List.mem_of_getElem? (i := 39) rfl))) (notFace_of_selects (args := #[]) (mvT hZ (hw _ (List.mem_of_getElem? (i := 41) rfl)))) (mvT hZ (hw _ (List.mem_of_getElem? (i := 41) rfl))) (mvT hZ (hw _ (List.mem_of_getElem? (i := 40) rfl))) (by decide) (backOf (W := 0) (rm_countPass l Z a0 hw [] b9 (((0 : Int64) + (1 : Int64)) + (1 : Int64)) ((0 : Int64) + (w1.toInt64)) (0 : Int64) (0 : Int64) (0 : Int64) T207.heap n0 zz207 f207_0 (g_b9) f207_1 f207_2 f207_3 f207_4 f207_5) hZ (hw _ (List.mem_of_getElem? (i := 42) rfl)) (hw _ (List.mem_of_getElem? (i := 3) rfl)) (by decide) (by decide)) q223a q223c (g := (mkF m 120 #[.val (.int xw1), .val (.int xw2), .val (.int xq), .val (.int xf), .val (.int w1), .val (.int w2), .val (.int mv), .val (.int ap), .val (.int de), .val (.int v41), .val (.ref b9), .unset, .unset] [(.ref b9)])) rfl (by rw [hml]; rfl) (Steps.refl _) (argsL := []) (rest := []) (lenOf pd0 rfl) rfl (by show 2 * 0 + _ ≤ _; exact Nat.le_of_eq rfl) (hb hby at_120) (fun _ _ => ⟨rfl, rfl, (by decide : 1 + 0 ≤ _), (by decide : 5 + 0 ≤ _)⟩)
          dsimp only [Pt.U, Pt.locs, Pt.cells, Pt.slots] at X223 l223 y223 z223 st223 hQ223
          subst l223 y223 z223
          obtain ⟨rfl, M223, kp223, f223_0, f223_1, f223_2, f223_3, f223_4, f223_5⟩ := hQ223
          have K223 : Keep h0 T223.heap ([] : List Addr) := K207.trans kp223 (allS (P := fun x => x ∈ ([] : List Addr) ∨ h0.size ≤ x) (Or.inr sz_b9) all0)
          have zz223 : n0 ≤ T223.heap.size := Nat.le_trans Z0 K223.1
          have N223 := Fr.app N207 M223
          have pre224 : ∀ t, Steps p.tables e below (T223.setTop (mkF m 123 #[.val (.int xw1), .val (.int xw2), .val (.int xq), .val (.int xf), .val (.int w1), .val (.int w2), .val (.int mv), .val (.int ap), .val (.int de), .val (.int v41), .val (.ref b9), .unset, .unset] [])) t → Steps p.tables e below (s₁.setTop (entryFrame m #[(.int xw1), (.int xw2), (.int xq), (.int xf)] maxLocals)) t := fun t k => pre222 t (st223.trans k)
          have pre225 : ∀ t, Steps p.tables e below (T223.setTop (mkF m 127 #[.val (.int xw1), .val (.int xw2), .val (.int xq), .val (.int xf), .val (.int w1), .val (.int w2), .val (.int mv), .val (.int ap), .val (.int de), .val (.int v41), .val (.ref b9), .unset, .unset] [(.int mv), (.ref b9)])) t → Steps p.tables e below (s₁.setTop (entryFrame m #[(.int xw1), (.int xw2), (.int xq), (.int xf)] maxLocals)) t := by
            intro t k
            refine pre224 t ?_
            refine XS.aload X223.here hx rfl (hb hby at_123) rfl rfl ?_
            show Steps p.tables e below (T223.setTop (mkF m 125 #[.val (.int xw1), .val (.int xw2), .val (.int xq), .val (.int xf), .val (.int w1), .val (.int w2), .val (.int mv), .val (.int ap), .val (.int de), .val (.int v41), .val (.ref b9), .unset, .unset] [(.ref b9)])) _
            refine XS.iload X223.here hx rfl (hb hby at_125) rfl ?_
            show Steps p.tables e below (T223.setTop (mkF m 127 #[.val (.int xw1), .val (.int xw2), .val (.int xq), .val (.int xf), .val (.int w1), .val (.int w2), .val (.int mv), .val (.int ap), .val (.int de), .val (.int v41), .val (.ref b9), .unset, .unset] [(.int mv), (.ref b9)])) _
            exact k
          obtain ⟨cq226, kq226, q226a, q226b, q226c⟩ := isOf hZ rfl f223_0
          obtain ⟨_, _, ⟨T226, L226, k226, n226⟩, -, X226, ⟨Lc226, hQ226, l226, y226, z226⟩, st226⟩ := X223.virtualBack hx (y := (⟨"com/example/suitor/suitor/SolverStatistics", "countQueueMoves", "(I)V"⟩ : MethodName)) (z := (⟨"com/example/suitor/suitor/SolverStatistics", "countQueueMoves", "(I)V"⟩ : MethodName)) hown (mvT hZ (hw _ (List.mem_of_getElem? (i := 33) rfl))) (mvT hZ (hw _ (List.mem_of_getElem? (i := 34) rfl))) (notFace_of_selects (args := #[]) (mvT hZ (hw _ (List.mem_of_getElem? (i := 36) rfl)))) (mvT hZ (hw _ (List.mem_of_getElem? (i := 36) rfl))) (mvT hZ (hw _ (List.mem_of_getElem? (i := 35) rfl))) (by decide) (backOf (W := 0) (rm_countQueueMoves l Z a0 hw [] b9 mv (((0 : Int64) + (1 : Int64)) + (1 : Int64)) ((0 : Int64) + (w1.toInt64)) (0 : Int64) (0 : Int64) ((0 : Int64) + (1 : Int64)) T223.heap n0 zz223 f223_0 (g_b9) f223_1 f223_2 f223_3 f223_4 f223_5) hZ (hw _ (List.mem_of_getElem? (i := 37) rfl)) (hw _ (List.mem_of_getElem? (i := 3) rfl)) (by decide) (by decide)) q226a q226c (g := (mkF m 127 #[.val (.int xw1), .val (.int xw2), .val (.int xq), .val (.int xf), .val (.int w1), .val (.int w2), .val (.int mv), .val (.int ap), .val (.int de), .val (.int v41), .val (.ref b9), .unset, .unset] [(.int mv), (.ref b9)])) rfl (by rw [hml]; rfl) (Steps.refl _) (argsL := [(.int mv)]) (rest := []) (lenOf pd2 rfl) rfl (by show 2 * 0 + _ ≤ _; exact Nat.le_of_eq rfl) (hb hby at_127) (fun _ _ => ⟨rfl, rfl, (by decide : 1 + 0 ≤ _), (by decide : 5 + 0 ≤ _)⟩)
          dsimp only [Pt.U, Pt.locs, Pt.cells, Pt.slots] at X226 l226 y226 z226 st226 hQ226
          subst l226 y226 z226
          obtain ⟨rfl, M226, kp226, f226_0, f226_1, f226_2, f226_3, f226_4, f226_5⟩ := hQ226
          have K226 : Keep h0 T226.heap ([] : List Addr) := K223.trans kp226 (allS (P := fun x => x ∈ ([] : List Addr) ∨ h0.size ≤ x) (Or.inr sz_b9) all0)
          have zz226 : n0 ≤ T226.heap.size := Nat.le_trans Z0 K226.1
          have N226 := Fr.app N223 M226
          have pre227 : ∀ t, Steps p.tables e below (T226.setTop (mkF m 130 #[.val (.int xw1), .val (.int xw2), .val (.int xq), .val (.int xf), .val (.int w1), .val (.int w2), .val (.int mv), .val (.int ap), .val (.int de), .val (.int v41), .val (.ref b9), .unset, .unset] [])) t → Steps p.tables e below (s₁.setTop (entryFrame m #[(.int xw1), (.int xw2), (.int xq), (.int xf)] maxLocals)) t := fun t k => pre225 t (st226.trans k)
          have pre228 : ∀ t, Steps p.tables e below (T226.setTop (mkF m 134 #[.val (.int xw1), .val (.int xw2), .val (.int xq), .val (.int xf), .val (.int w1), .val (.int w2), .val (.int mv), .val (.int ap), .val (.int de), .val (.int v41), .val (.ref b9), .unset, .unset] [(.int w2), (.ref b9)])) t → Steps p.tables e below (s₁.setTop (entryFrame m #[(.int xw1), (.int xw2), (.int xq), (.int xf)] maxLocals)) t := by
            intro t k
            refine pre227 t ?_
            refine XS.aload X226.here hx rfl (hb hby at_130) rfl rfl ?_
            show Steps p.tables e below (T226.setTop (mkF m 132 #[.val (.int xw1), .val (.int xw2), .val (.int xq), .val (.int xf), .val (.int w1), .val (.int w2), .val (.int mv), .val (.int ap), .val (.int de), .val (.int v41), .val (.ref b9), .unset, .unset] [(.ref b9)])) _
            refine XS.iload X226.here hx rfl (hb hby at_132) rfl ?_
            show Steps p.tables e below (T226.setTop (mkF m 134 #[.val (.int xw1), .val (.int xw2), .val (.int xq), .val (.int xf), .val (.int w1), .val (.int w2), .val (.int mv), .val (.int ap), .val (.int de), .val (.int v41), .val (.ref b9), .unset, .unset] [(.int w2), (.ref b9)])) _
            exact k
          obtain ⟨cq229, kq229, q229a, q229b, q229c⟩ := isOf hZ rfl f226_0
          obtain ⟨_, _, ⟨T229, L229, k229, n229⟩, -, X229, ⟨Lc229, hQ229, l229, y229, z229⟩, st229⟩ := X226.virtualBack hx (y := (⟨"com/example/suitor/suitor/SolverStatistics", "countWalkSteps", "(I)V"⟩ : MethodName)) (z := (⟨"com/example/suitor/suitor/SolverStatistics", "countWalkSteps", "(I)V"⟩ : MethodName)) hown (mvT hZ (hw _ (List.mem_of_getElem? (i := 28) rfl))) (mvT hZ (hw _ (List.mem_of_getElem? (i := 29) rfl))) (notFace_of_selects (args := #[]) (mvT hZ (hw _ (List.mem_of_getElem? (i := 31) rfl)))) (mvT hZ (hw _ (List.mem_of_getElem? (i := 31) rfl))) (mvT hZ (hw _ (List.mem_of_getElem? (i := 30) rfl))) (by decide) (backOf (W := 0) (rm_countWalkSteps l Z a0 hw [] b9 w2 (((0 : Int64) + (1 : Int64)) + (1 : Int64)) ((0 : Int64) + (w1.toInt64)) (0 : Int64) ((0 : Int64) + (mv.toInt64)) ((0 : Int64) + (1 : Int64)) T226.heap n0 zz226 f226_0 (g_b9) f226_1 f226_2 f226_3 f226_4 f226_5) hZ (hw _ (List.mem_of_getElem? (i := 32) rfl)) (hw _ (List.mem_of_getElem? (i := 3) rfl)) (by decide) (by decide)) q229a q229c (g := (mkF m 134 #[.val (.int xw1), .val (.int xw2), .val (.int xq), .val (.int xf), .val (.int w1), .val (.int w2), .val (.int mv), .val (.int ap), .val (.int de), .val (.int v41), .val (.ref b9), .unset, .unset] [(.int w2), (.ref b9)])) rfl (by rw [hml]; rfl) (Steps.refl _) (argsL := [(.int w2)]) (rest := []) (lenOf pd2 rfl) rfl (by show 2 * 0 + _ ≤ _; exact Nat.le_of_eq rfl) (hb hby at_134) (fun _ _ => ⟨rfl, rfl, (by decide : 1 + 0 ≤ _), (by decide : 5 + 0 ≤ _)⟩)
          dsimp only [Pt.U, Pt.locs, Pt.cells, Pt.slots] at X229 l229 y229 z229 st229 hQ229
          subst l229 y229 z229
          obtain ⟨rfl, M229, kp229, f229_0, f229_1, f229_2, f229_3, f229_4, f229_5⟩ := hQ229
          have K229 : Keep h0 T229.heap ([] : List Addr) := K226.trans kp229 (allS (P := fun x => x ∈ ([] : List Addr) ∨ h0.size ≤ x) (Or.inr sz_b9) all0)
          have zz229 : n0 ≤ T229.heap.size := Nat.le_trans Z0 K229.1
          have N229 := Fr.app N226 M229
          have pre230 : ∀ t, Steps p.tables e below (T229.setTop (mkF m 137 #[.val (.int xw1), .val (.int xw2), .val (.int xq), .val (.int xf), .val (.int w1), .val (.int w2), .val (.int mv), .val (.int ap), .val (.int de), .val (.int v41), .val (.ref b9), .unset, .unset] [])) t → Steps p.tables e below (s₁.setTop (entryFrame m #[(.int xw1), (.int xw2), (.int xq), (.int xf)] maxLocals)) t := fun t k => pre228 t (st229.trans k)
          have pre231 : ∀ t, Steps p.tables e below (T229.setTop (mkF m 158 #[.val (.int xw1), .val (.int xw2), .val (.int xq), .val (.int xf), .val (.int w1), .val (.int w2), .val (.int mv), .val (.int ap), .val (.int de), .val (.int v41), .val (.ref b9), .val (.long (((((ap.toInt64) + (w1.toInt64)) + (w2.toInt64)) + (de.toInt64)) + (mv.toInt64))), .second] [])) t → Steps p.tables e below (s₁.setTop (entryFrame m #[(.int xw1), (.int xw2), (.int xq), (.int xf)] maxLocals)) t := by
            intro t k
            refine pre230 t ?_
            refine XS.iload X229.here hx rfl (hb hby at_137) rfl ?_
            show Steps p.tables e below (T229.setTop (mkF m 139 #[.val (.int xw1), .val (.int xw2), .val (.int xq), .val (.int xf), .val (.int w1), .val (.int w2), .val (.int mv), .val (.int ap), .val (.int de), .val (.int v41), .val (.ref b9), .unset, .unset] [(.int ap)])) _
            refine XS.i2l X229.here hx rfl (hb hby at_139) rfl ?_
            show Steps p.tables e below (T229.setTop (mkF m 140 #[.val (.int xw1), .val (.int xw2), .val (.int xq), .val (.int xf), .val (.int w1), .val (.int w2), .val (.int mv), .val (.int ap), .val (.int de), .val (.int v41), .val (.ref b9), .unset, .unset] [(.long (ap.toInt64))])) _
            refine XS.iload X229.here hx rfl (hb hby at_140) rfl ?_
            show Steps p.tables e below (T229.setTop (mkF m 142 #[.val (.int xw1), .val (.int xw2), .val (.int xq), .val (.int xf), .val (.int w1), .val (.int w2), .val (.int mv), .val (.int ap), .val (.int de), .val (.int v41), .val (.ref b9), .unset, .unset] [(.int w1), (.long (ap.toInt64))])) _
            refine XS.i2l X229.here hx rfl (hb hby at_142) rfl ?_
            show Steps p.tables e below (T229.setTop (mkF m 143 #[.val (.int xw1), .val (.int xw2), .val (.int xq), .val (.int xf), .val (.int w1), .val (.int w2), .val (.int mv), .val (.int ap), .val (.int de), .val (.int v41), .val (.ref b9), .unset, .unset] [(.long (w1.toInt64)), (.long (ap.toInt64))])) _
            refine XS.ladd X229.here hx rfl (hb hby at_143) rfl ?_
            show Steps p.tables e below (T229.setTop (mkF m 144 #[.val (.int xw1), .val (.int xw2), .val (.int xq), .val (.int xf), .val (.int w1), .val (.int w2), .val (.int mv), .val (.int ap), .val (.int de), .val (.int v41), .val (.ref b9), .unset, .unset] [(.long ((ap.toInt64) + (w1.toInt64)))])) _
            refine XS.iload X229.here hx rfl (hb hby at_144) rfl ?_
            show Steps p.tables e below (T229.setTop (mkF m 146 #[.val (.int xw1), .val (.int xw2), .val (.int xq), .val (.int xf), .val (.int w1), .val (.int w2), .val (.int mv), .val (.int ap), .val (.int de), .val (.int v41), .val (.ref b9), .unset, .unset] [(.int w2), (.long ((ap.toInt64) + (w1.toInt64)))])) _
            refine XS.i2l X229.here hx rfl (hb hby at_146) rfl ?_
            show Steps p.tables e below (T229.setTop (mkF m 147 #[.val (.int xw1), .val (.int xw2), .val (.int xq), .val (.int xf), .val (.int w1), .val (.int w2), .val (.int mv), .val (.int ap), .val (.int de), .val (.int v41), .val (.ref b9), .unset, .unset] [(.long (w2.toInt64)), (.long ((ap.toInt64) + (w1.toInt64)))])) _
            refine XS.ladd X229.here hx rfl (hb hby at_147) rfl ?_
            show Steps p.tables e below (T229.setTop (mkF m 148 #[.val (.int xw1), .val (.int xw2), .val (.int xq), .val (.int xf), .val (.int w1), .val (.int w2), .val (.int mv), .val (.int ap), .val (.int de), .val (.int v41), .val (.ref b9), .unset, .unset] [(.long (((ap.toInt64) + (w1.toInt64)) + (w2.toInt64)))])) _
            refine XS.iload X229.here hx rfl (hb hby at_148) rfl ?_
            show Steps p.tables e below (T229.setTop (mkF m 150 #[.val (.int xw1), .val (.int xw2), .val (.int xq), .val (.int xf), .val (.int w1), .val (.int w2), .val (.int mv), .val (.int ap), .val (.int de), .val (.int v41), .val (.ref b9), .unset, .unset] [(.int de), (.long (((ap.toInt64) + (w1.toInt64)) + (w2.toInt64)))])) _
            refine XS.i2l X229.here hx rfl (hb hby at_150) rfl ?_
            show Steps p.tables e below (T229.setTop (mkF m 151 #[.val (.int xw1), .val (.int xw2), .val (.int xq), .val (.int xf), .val (.int w1), .val (.int w2), .val (.int mv), .val (.int ap), .val (.int de), .val (.int v41), .val (.ref b9), .unset, .unset] [(.long (de.toInt64)), (.long (((ap.toInt64) + (w1.toInt64)) + (w2.toInt64)))])) _
            refine XS.ladd X229.here hx rfl (hb hby at_151) rfl ?_
            show Steps p.tables e below (T229.setTop (mkF m 152 #[.val (.int xw1), .val (.int xw2), .val (.int xq), .val (.int xf), .val (.int w1), .val (.int w2), .val (.int mv), .val (.int ap), .val (.int de), .val (.int v41), .val (.ref b9), .unset, .unset] [(.long ((((ap.toInt64) + (w1.toInt64)) + (w2.toInt64)) + (de.toInt64)))])) _
            refine XS.iload X229.here hx rfl (hb hby at_152) rfl ?_
            show Steps p.tables e below (T229.setTop (mkF m 154 #[.val (.int xw1), .val (.int xw2), .val (.int xq), .val (.int xf), .val (.int w1), .val (.int w2), .val (.int mv), .val (.int ap), .val (.int de), .val (.int v41), .val (.ref b9), .unset, .unset] [(.int mv), (.long ((((ap.toInt64) + (w1.toInt64)) + (w2.toInt64)) + (de.toInt64)))])) _
            refine XS.i2l X229.here hx rfl (hb hby at_154) rfl ?_
            show Steps p.tables e below (T229.setTop (mkF m 155 #[.val (.int xw1), .val (.int xw2), .val (.int xq), .val (.int xf), .val (.int w1), .val (.int w2), .val (.int mv), .val (.int ap), .val (.int de), .val (.int v41), .val (.ref b9), .unset, .unset] [(.long (mv.toInt64)), (.long ((((ap.toInt64) + (w1.toInt64)) + (w2.toInt64)) + (de.toInt64)))])) _
            refine XS.ladd X229.here hx rfl (hb hby at_155) rfl ?_
            show Steps p.tables e below (T229.setTop (mkF m 156 #[.val (.int xw1), .val (.int xw2), .val (.int xq), .val (.int xf), .val (.int w1), .val (.int w2), .val (.int mv), .val (.int ap), .val (.int de), .val (.int v41), .val (.ref b9), .unset, .unset] [(.long (((((ap.toInt64) + (w1.toInt64)) + (w2.toInt64)) + (de.toInt64)) + (mv.toInt64)))])) _
            refine XS.lstore X229.here hx rfl (hb hby at_156) rfl (l' := #[.val (.int xw1), .val (.int xw2), .val (.int xq), .val (.int xf), .val (.int w1), .val (.int w2), .val (.int mv), .val (.int ap), .val (.int de), .val (.int v41), .val (.ref b9), .val (.long (((((ap.toInt64) + (w1.toInt64)) + (w2.toInt64)) + (de.toInt64)) + (mv.toInt64))), .second]) rfl ?_
            show Steps p.tables e below (T229.setTop (mkF m 158 #[.val (.int xw1), .val (.int xw2), .val (.int xq), .val (.int xf), .val (.int w1), .val (.int w2), .val (.int mv), .val (.int ap), .val (.int de), .val (.int v41), .val (.ref b9), .val (.long (((((ap.toInt64) + (w1.toInt64)) + (w2.toInt64)) + (de.toInt64)) + (mv.toInt64))), .second] [])) _
            exact k
          obtain ⟨ex, hex⟩ : ∃ z : Int64, z = (((((ap.toInt64) + (w1.toInt64)) + (w2.toInt64)) + (de.toInt64)) + (mv.toInt64)) := ⟨_, rfl⟩
          rw [← hex] at pre231
          have pre232 : ∀ t, Steps p.tables e below (T229.setTop (mkF m 160 #[.val (.int xw1), .val (.int xw2), .val (.int xq), .val (.int xf), .val (.int w1), .val (.int w2), .val (.int mv), .val (.int ap), .val (.int de), .val (.int v41), .val (.ref b9), .val (.long ex), .second] [(.ref b9)])) t → Steps p.tables e below (s₁.setTop (entryFrame m #[(.int xw1), (.int xw2), (.int xq), (.int xf)] maxLocals)) t := by
            intro t k
            refine pre231 t ?_
            refine XS.aload X229.here hx rfl (hb hby at_158) rfl rfl ?_
            show Steps p.tables e below (T229.setTop (mkF m 160 #[.val (.int xw1), .val (.int xw2), .val (.int xq), .val (.int xf), .val (.int w1), .val (.int w2), .val (.int mv), .val (.int ap), .val (.int de), .val (.int v41), .val (.ref b9), .val (.long ex), .second] [(.ref b9)])) _
            exact k
          obtain ⟨cq233, kq233, q233a, q233b, q233c⟩ := isOf hZ rfl f229_0
          obtain ⟨_, _, ⟨T233, L233, k233, n233⟩, -, X233, ⟨Lc233, hQ233, l233, y233, z233⟩, st233⟩ := X229.virtualBack hx (y := (⟨"com/example/suitor/suitor/SolverStatistics", "getSteps", "()J"⟩ : MethodName)) (z := (⟨"com/example/suitor/suitor/SolverStatistics", "getSteps", "()J"⟩ : MethodName)) hown (mvT hZ (hw _ (List.mem_of_getElem? (i := 10) rfl))) (mvT hZ (hw _ (List.mem_of_getElem? (i := 11) rfl))) (notFace_of_selects (args := #[]) (mvT hZ (hw _ (List.mem_of_getElem? (i := 13) rfl)))) (mvT hZ (hw _ (List.mem_of_getElem? (i := 13) rfl))) (mvT hZ (hw _ (List.mem_of_getElem? (i := 12) rfl))) (by decide) (backOf (W := 0) (rm_steps l Z a0 hw [] b9 (((0 : Int64) + (1 : Int64)) + (1 : Int64)) (((0 : Int64) + (w1.toInt64)) + (w2.toInt64)) (0 : Int64) ((0 : Int64) + (mv.toInt64)) T229.heap n0 zz229 f229_1 f229_2 f229_3 f229_4) hZ (hw _ (List.mem_of_getElem? (i := 14) rfl)) (hw _ (List.mem_of_getElem? (i := 3) rfl)) (by decide) (by decide)) q233a q233c (g := (mkF m 160 #[.val (.int xw1), .val (.int xw2), .val (.int xq), .val (.int xf), .val (.int w1), .val (.int w2), .val (.int mv), .val (.int ap), .val (.int de), .val (.int v41), .val (.ref b9), .val (.long ex), .second] [(.ref b9)])) rfl (by rw [hml]; rfl) (Steps.refl _) (argsL := []) (rest := []) (lenOf pd1 rfl) rfl (by show 2 * 0 + _ ≤ _; exact Nat.le_of_eq rfl) (hb hby at_160) (fun _ _ => ⟨rfl, rfl, (by decide : 1 + 0 ≤ _), (by decide : 5 + 0 ≤ _)⟩)
          dsimp only [Pt.U, Pt.locs, Pt.cells, Pt.slots] at X233 l233 y233 z233 st233 hQ233
          subst l233 y233 z233
          obtain ⟨rfl, M233, e233⟩ := hQ233
          have N233 := Fr.app N229 M233
          have pre234 : ∀ t, Steps p.tables e below (T233.setTop (mkF m 163 #[.val (.int xw1), .val (.int xw2), .val (.int xq), .val (.int xf), .val (.int w1), .val (.int w2), .val (.int mv), .val (.int ap), .val (.int de), .val (.int v41), .val (.ref b9), .val (.long ex), .second] [(.long ((((((0 : Int64) + (1 : Int64)) + (1 : Int64)) + (((0 : Int64) + (w1.toInt64)) + (w2.toInt64))) + (0 : Int64)) + ((0 : Int64) + (mv.toInt64))))])) t → Steps p.tables e below (s₁.setTop (entryFrame m #[(.int xw1), (.int xw2), (.int xq), (.int xf)] maxLocals)) t := fun t k => pre232 t (st233.trans k)
          have pre235 : ∀ t, Steps p.tables e below (T233.setTop (mkF m 174 #[.val (.int xw1), .val (.int xw2), .val (.int xq), .val (.int xf), .val (.int w1), .val (.int w2), .val (.int mv), .val (.int ap), .val (.int de), .val (.int v41), .val (.ref b9), .val (.long ex), .second] [(.int (1 : Int32))])) t → Steps p.tables e below (s₁.setTop (entryFrame m #[(.int xw1), (.int xw2), (.int xq), (.int xf)] maxLocals)) t := by
            intro t k
            refine pre234 t ?_
            refine XS.lload X233.here hx rfl (hb hby at_163) rfl ?_
            show Steps p.tables e below (T233.setTop (mkF m 165 #[.val (.int xw1), .val (.int xw2), .val (.int xq), .val (.int xf), .val (.int w1), .val (.int w2), .val (.int mv), .val (.int ap), .val (.int de), .val (.int v41), .val (.ref b9), .val (.long ex), .second] [(.long ex), (.long ((((((0 : Int64) + (1 : Int64)) + (1 : Int64)) + (((0 : Int64) + (w1.toInt64)) + (w2.toInt64))) + (0 : Int64)) + ((0 : Int64) + (mv.toInt64))))])) _
            refine XS.lcmp X233.here hx rfl (hb hby at_165) rfl ?_
            show Steps p.tables e below (T233.setTop (mkF m 166 #[.val (.int xw1), .val (.int xw2), .val (.int xq), .val (.int xf), .val (.int w1), .val (.int w2), .val (.int mv), .val (.int ap), .val (.int de), .val (.int v41), .val (.ref b9), .val (.long ex), .second] [(.int (lcmpW ((((((0 : Int64) + (1 : Int64)) + (1 : Int64)) + (((0 : Int64) + (w1.toInt64)) + (w2.toInt64))) + (0 : Int64)) + ((0 : Int64) + (mv.toInt64))) ex))])) _
            refine XS.ifNo X233.here hx rfl (hb hby at_166) rfl ((if0 _ _).trans (teq ((lw_eq _ _).mpr (show ((((((0 : Int64) + (1 : Int64)) + (1 : Int64)) + (((0 : Int64) + (w1.toInt64)) + (w2.toInt64))) + (0 : Int64)) + ((0 : Int64) + (mv.toInt64))) = ex from by rw [hex]; exact own_6 w1 w2 mv xf ap de hap hde hc75 hc88 hc105))).2) ?_
            show Steps p.tables e below (T233.setTop (mkF m 169 #[.val (.int xw1), .val (.int xw2), .val (.int xq), .val (.int xf), .val (.int w1), .val (.int w2), .val (.int mv), .val (.int ap), .val (.int de), .val (.int v41), .val (.ref b9), .val (.long ex), .second] [])) _
            refine XS.iconst X233.here hx rfl (hb hby at_169) ?_
            show Steps p.tables e below (T233.setTop (mkF m 170 #[.val (.int xw1), .val (.int xw2), .val (.int xq), .val (.int xf), .val (.int w1), .val (.int w2), .val (.int mv), .val (.int ap), .val (.int de), .val (.int v41), .val (.ref b9), .val (.long ex), .second] [(.int (1 : Int32))])) _
            refine XS.goto X233.here hx rfl (pc0 := 170) (pc' := 174) rfl (hb hby at_170) (by decide) (by decide) ?_
            show Steps p.tables e below (T233.setTop (mkF m 174 #[.val (.int xw1), .val (.int xw2), .val (.int xq), .val (.int xf), .val (.int w1), .val (.int w2), .val (.int mv), .val (.int ap), .val (.int de), .val (.int v41), .val (.ref b9), .val (.long ex), .second] [(.int (1 : Int32))])) _
            exact k
          obtain ⟨fs, hr, hrun, hended, hW, hsame⟩ := X233.leave (v := some (.int (1 : Int32))) (fun h => by rw [Bd.returns] at h; cases h)
          refine ⟨_, _, pre235 _ ?_, hrun, hended, _, _, rfl, ?_, ⟨_, rfl⟩, hW, hsame.mono (by decide) (by decide)⟩
          · exact retN X233 hx (t := .boolean) Bd.returns (by simp) (hb hby at_174) hr
          · show Q_rm0 Z xw1 xw2 xq xf h0 n0 _ T233.heap _
            rw [e233]
            exact ⟨rfl, N233⟩
      · have pre236 : ∀ t, Steps p.tables e below (T207.setTop (mkF m 110 #[.val (.int xw1), .val (.int xw2), .val (.int xq), .val (.int xf), .val (.int w1), .val (.int w2), .val (.int mv), .val (.int ap), .val (.int de), .val (.int v41), .val (.ref b9), .unset, .unset] [(.ref b9)])) t → Steps p.tables e below (s₁.setTop (entryFrame m #[(.int xw1), (.int xw2), (.int xq), (.int xf)] maxLocals)) t := by
          intro t k
          refine pre209 t ?_
          refine XS.ifNo X207.here hx rfl (hb hby at_105) rfl ((if0 _ _).trans (feq hc105).1) ?_
          show Steps p.tables e below (T207.setTop (mkF m 108 #[.val (.int xw1), .val (.int xw2), .val (.int xq), .val (.int xf), .val (.int w1), .val (.int w2), .val (.int mv), .val (.int ap), .val (.int de), .val (.int v41), .val (.ref b9), .unset, .unset] [])) _
          refine XS.aload X207.here hx rfl (hb hby at_108) rfl rfl ?_
          show Steps p.tables e below (T207.setTop (mkF m 110 #[.val (.int xw1), .val (.int xw2), .val (.int xq), .val (.int xf), .val (.int w1), .val (.int w2), .val (.int mv), .val (.int ap), .val (.int de), .val (.int v41), .val (.ref b9), .unset, .unset] [(.ref b9)])) _
          exact k
        obtain ⟨cq237, kq237, q237a, q237b, q237c⟩ := isOf hZ rfl f207_0
        obtain ⟨_, _, ⟨T237, L237, k237, n237⟩, -, X237, ⟨Lc237, hQ237, l237, y237, z237⟩, st237⟩ := X207.virtualBack hx (y := (⟨"com/example/suitor/suitor/SolverStatistics", "countDeletion", "()V"⟩ : MethodName)) (z := (⟨"com/example/suitor/suitor/SolverStatistics", "countDeletion", "()V"⟩ : MethodName)) hown (mvT hZ (hw _ (List.mem_of_getElem? (i := 45) rfl))) (mvT hZ (hw _ (List.mem_of_getElem? (i := 46) rfl))) (notFace_of_selects (args := #[]) (mvT hZ (hw _ (List.mem_of_getElem? (i := 48) rfl)))) (mvT hZ (hw _ (List.mem_of_getElem? (i := 48) rfl))) (mvT hZ (hw _ (List.mem_of_getElem? (i := 47) rfl))) (by decide) (backOf (W := 0) (rm_countDeletion l Z a0 hw [] b9 (((0 : Int64) + (1 : Int64)) + (1 : Int64)) ((0 : Int64) + (w1.toInt64)) (0 : Int64) (0 : Int64) (0 : Int64) T207.heap n0 zz207 f207_0 (g_b9) f207_1 f207_2 f207_3 f207_4 f207_5) hZ (hw _ (List.mem_of_getElem? (i := 49) rfl)) (hw _ (List.mem_of_getElem? (i := 3) rfl)) (by decide) (by decide)) q237a q237c (g := (mkF m 110 #[.val (.int xw1), .val (.int xw2), .val (.int xq), .val (.int xf), .val (.int w1), .val (.int w2), .val (.int mv), .val (.int ap), .val (.int de), .val (.int v41), .val (.ref b9), .unset, .unset] [(.ref b9)])) rfl (by rw [hml]; rfl) (Steps.refl _) (argsL := []) (rest := []) (lenOf pd0 rfl) rfl (by show 2 * 0 + _ ≤ _; exact Nat.le_of_eq rfl) (hb hby at_110) (fun _ _ => ⟨rfl, rfl, (by decide : 1 + 0 ≤ _), (by decide : 5 + 0 ≤ _)⟩)
        dsimp only [Pt.U, Pt.locs, Pt.cells, Pt.slots] at X237 l237 y237 z237 st237 hQ237
        subst l237 y237 z237
        obtain ⟨rfl, M237, kp237, f237_0, f237_1, f237_2, f237_3, f237_4, f237_5⟩ := hQ237
        have K237 : Keep h0 T237.heap ([] : List Addr) := K207.trans kp237 (allS (P := fun x => x ∈ ([] : List Addr) ∨ h0.size ≤ x) (Or.inr sz_b9) all0)
        have zz237 : n0 ≤ T237.heap.size := Nat.le_trans Z0 K237.1
        have N237 := Fr.app N207 M237
        have pre238 : ∀ t, Steps p.tables e below (T237.setTop (mkF m 113 #[.val (.int xw1), .val (.int xw2), .val (.int xq), .val (.int xf), .val (.int w1), .val (.int w2), .val (.int mv), .val (.int ap), .val (.int de), .val (.int v41), .val (.ref b9), .unset, .unset] [])) t → Steps p.tables e below (s₁.setTop (entryFrame m #[(.int xw1), (.int xw2), (.int xq), (.int xf)] maxLocals)) t := fun t k => pre236 t (st237.trans k)
        have pre239 : ∀ t, Steps p.tables e below (T237.setTop (mkF m 115 #[.val (.int xw1), .val (.int xw2), .val (.int xq), .val (.int xf), .val (.int w1), .val (.int w2), .val (.int mv), .val (.int ap), .val (.int de), .val (.int v41), .val (.ref b9), .unset, .unset] [(.int v41)])) t → Steps p.tables e below (s₁.setTop (entryFrame m #[(.int xw1), (.int xw2), (.int xq), (.int xf)] maxLocals)) t := by
          intro t k
          refine pre238 t ?_
          refine XS.iload X237.here hx rfl (hb hby at_113) rfl ?_
          show Steps p.tables e below (T237.setTop (mkF m 115 #[.val (.int xw1), .val (.int xw2), .val (.int xq), .val (.int xf), .val (.int w1), .val (.int w2), .val (.int mv), .val (.int ap), .val (.int de), .val (.int v41), .val (.ref b9), .unset, .unset] [(.int v41)])) _
          exact k
        by_cases hc115 : v41 = (0 : Int32)
        · have pre240 : ∀ t, Steps p.tables e below (T237.setTop (mkF m 127 #[.val (.int xw1), .val (.int xw2), .val (.int xq), .val (.int xf), .val (.int w1), .val (.int w2), .val (.int mv), .val (.int ap), .val (.int de), .val (.int v41), .val (.ref b9), .unset, .unset] [(.int mv), (.ref b9)])) t → Steps p.tables e below (s₁.setTop (entryFrame m #[(.int xw1), (.int xw2), (.int xq), (.int xf)] maxLocals)) t := by
            intro t k
            refine pre239 t ?_
            refine XS.ifYes X237.here hx rfl (pc0 := 115) (pc' := 123) rfl (hb hby at_115) rfl ((if0 _ _).trans (teq hc115).1) (by decide) (by decide) ?_
            show Steps p.tables e below (T237.setTop (mkF m 123 #[.val (.int xw1), .val (.int xw2), .val (.int xq), .val (.int xf), .val (.int w1), .val (.int w2), .val (.int mv), .val (.int ap), .val (.int de), .val (.int v41), .val (.ref b9), .unset, .unset] [])) _
            refine XS.aload X237.here hx rfl (hb hby at_123) rfl rfl ?_
            show Steps p.tables e below (T237.setTop (mkF m 125 #[.val (.int xw1), .val (.int xw2), .val (.int xq), .val (.int xf), .val (.int w1), .val (.int w2), .val (.int mv), .val (.int ap), .val (.int de), .val (.int v41), .val (.ref b9), .unset, .unset] [(.ref b9)])) _
            refine XS.iload X237.here hx rfl (hb hby at_125) rfl ?_
            show Steps p.tables e below (T237.setTop (mkF m 127 #[.val (.int xw1), .val (.int xw2), .val (.int xq), .val (.int xf), .val (.int w1), .val (.int w2), .val (.int mv), .val (.int ap), .val (.int de), .val (.int v41), .val (.ref b9), .unset, .unset] [(.int mv), (.ref b9)])) _
            exact k
          obtain ⟨cq241, kq241, q241a, q241b, q241c⟩ := isOf hZ rfl f237_0
          obtain ⟨_, _, ⟨T241, L241, k241, n241⟩, -, X241, ⟨Lc241, hQ241, l241, y241, z241⟩, st241⟩ := X237.virtualBack hx (y := (⟨"com/example/suitor/suitor/SolverStatistics", "countQueueMoves", "(I)V"⟩ : MethodName)) (z := (⟨"com/example/suitor/suitor/SolverStatistics", "countQueueMoves", "(I)V"⟩ : MethodName)) hown (mvT hZ (hw _ (List.mem_of_getElem? (i := 33) rfl))) (mvT hZ (hw _ (List.mem_of_getElem? (i := 34) rfl))) (notFace_of_selects (args := #[]) (mvT hZ (hw _ (List.mem_of_getElem? (i := 36) rfl)))) (mvT hZ (hw _ (List.mem_of_getElem? (i := 36) rfl))) (mvT hZ (hw _ (List.mem_of_getElem? (i := 35) rfl))) (by decide) (backOf (W := 0) (rm_countQueueMoves l Z a0 hw [] b9 mv (((0 : Int64) + (1 : Int64)) + (1 : Int64)) ((0 : Int64) + (w1.toInt64)) ((0 : Int64) + (1 : Int64)) (0 : Int64) (0 : Int64) T237.heap n0 zz237 f237_0 (g_b9) f237_1 f237_2 f237_3 f237_4 f237_5) hZ (hw _ (List.mem_of_getElem? (i := 37) rfl)) (hw _ (List.mem_of_getElem? (i := 3) rfl)) (by decide) (by decide)) q241a q241c (g := (mkF m 127 #[.val (.int xw1), .val (.int xw2), .val (.int xq), .val (.int xf), .val (.int w1), .val (.int w2), .val (.int mv), .val (.int ap), .val (.int de), .val (.int v41), .val (.ref b9), .unset, .unset] [(.int mv), (.ref b9)])) rfl (by rw [hml]; rfl) (Steps.refl _) (argsL := [(.int mv)]) (rest := []) (lenOf pd2 rfl) rfl (by show 2 * 0 + _ ≤ _; exact Nat.le_of_eq rfl) (hb hby at_127) (fun _ _ => ⟨rfl, rfl, (by decide : 1 + 0 ≤ _), (by decide : 5 + 0 ≤ _)⟩)
          dsimp only [Pt.U, Pt.locs, Pt.cells, Pt.slots] at X241 l241 y241 z241 st241 hQ241
          subst l241 y241 z241
          obtain ⟨rfl, M241, kp241, f241_0, f241_1, f241_2, f241_3, f241_4, f241_5⟩ := hQ241
          have K241 : Keep h0 T241.heap ([] : List Addr) := K237.trans kp241 (allS (P := fun x => x ∈ ([] : List Addr) ∨ h0.size ≤ x) (Or.inr sz_b9) all0)
          have zz241 : n0 ≤ T241.heap.size := Nat.le_trans Z0 K241.1
          have N241 := Fr.app N237 M241
          have pre242 : ∀ t, Steps p.tables e below (T241.setTop (mkF m 130 #[.val (.int xw1), .val (.int xw2), .val (.int xq), .val (.int xf), .val (.int w1), .val (.int w2), .val (.int mv), .val (.int ap), .val (.int de), .val (.int v41), .val (.ref b9), .unset, .unset] [])) t → Steps p.tables e below (s₁.setTop (entryFrame m #[(.int xw1), (.int xw2), (.int xq), (.int xf)] maxLocals)) t := fun t k => pre240 t (st241.trans k)
          have pre243 : ∀ t, Steps p.tables e below (T241.setTop (mkF m 134 #[.val (.int xw1), .val (.int xw2), .val (.int xq), .val (.int xf), .val (.int w1), .val (.int w2), .val (.int mv), .val (.int ap), .val (.int de), .val (.int v41), .val (.ref b9), .unset, .unset] [(.int w2), (.ref b9)])) t → Steps p.tables e below (s₁.setTop (entryFrame m #[(.int xw1), (.int xw2), (.int xq), (.int xf)] maxLocals)) t := by
            intro t k
            refine pre242 t ?_
            refine XS.aload X241.here hx rfl (hb hby at_130) rfl rfl ?_
            show Steps p.tables e below (T241.setTop (mkF m 132 #[.val (.int xw1), .val (.int xw2), .val (.int xq), .val (.int xf), .val (.int w1), .val (.int w2), .val (.int mv), .val (.int ap), .val (.int de), .val (.int v41), .val (.ref b9), .unset, .unset] [(.ref b9)])) _
            refine XS.iload X241.here hx rfl (hb hby at_132) rfl ?_
            show Steps p.tables e below (T241.setTop (mkF m 134 #[.val (.int xw1), .val (.int xw2), .val (.int xq), .val (.int xf), .val (.int w1), .val (.int w2), .val (.int mv), .val (.int ap), .val (.int de), .val (.int v41), .val (.ref b9), .unset, .unset] [(.int w2), (.ref b9)])) _
            exact k
          obtain ⟨cq244, kq244, q244a, q244b, q244c⟩ := isOf hZ rfl f241_0
          obtain ⟨_, _, ⟨T244, L244, k244, n244⟩, -, X244, ⟨Lc244, hQ244, l244, y244, z244⟩, st244⟩ := X241.virtualBack hx (y := (⟨"com/example/suitor/suitor/SolverStatistics", "countWalkSteps", "(I)V"⟩ : MethodName)) (z := (⟨"com/example/suitor/suitor/SolverStatistics", "countWalkSteps", "(I)V"⟩ : MethodName)) hown (mvT hZ (hw _ (List.mem_of_getElem? (i := 28) rfl))) (mvT hZ (hw _ (List.mem_of_getElem? (i := 29) rfl))) (notFace_of_selects (args := #[]) (mvT hZ (hw _ (List.mem_of_getElem? (i := 31) rfl)))) (mvT hZ (hw _ (List.mem_of_getElem? (i := 31) rfl))) (mvT hZ (hw _ (List.mem_of_getElem? (i := 30) rfl))) (by decide) (backOf (W := 0) (rm_countWalkSteps l Z a0 hw [] b9 w2 (((0 : Int64) + (1 : Int64)) + (1 : Int64)) ((0 : Int64) + (w1.toInt64)) ((0 : Int64) + (1 : Int64)) ((0 : Int64) + (mv.toInt64)) (0 : Int64) T241.heap n0 zz241 f241_0 (g_b9) f241_1 f241_2 f241_3 f241_4 f241_5) hZ (hw _ (List.mem_of_getElem? (i := 32) rfl)) (hw _ (List.mem_of_getElem? (i := 3) rfl)) (by decide) (by decide)) q244a q244c (g := (mkF m 134 #[.val (.int xw1), .val (.int xw2), .val (.int xq), .val (.int xf), .val (.int w1), .val (.int w2), .val (.int mv), .val (.int ap), .val (.int de), .val (.int v41), .val (.ref b9), .unset, .unset] [(.int w2), (.ref b9)])) rfl (by rw [hml]; rfl) (Steps.refl _) (argsL := [(.int w2)]) (rest := []) (lenOf pd2 rfl) rfl (by show 2 * 0 + _ ≤ _; exact Nat.le_of_eq rfl) (hb hby at_134) (fun _ _ => ⟨rfl, rfl, (by decide : 1 + 0 ≤ _), (by decide : 5 + 0 ≤ _)⟩)
          dsimp only [Pt.U, Pt.locs, Pt.cells, Pt.slots] at X244 l244 y244 z244 st244 hQ244
          subst l244 y244 z244
          obtain ⟨rfl, M244, kp244, f244_0, f244_1, f244_2, f244_3, f244_4, f244_5⟩ := hQ244
          have K244 : Keep h0 T244.heap ([] : List Addr) := K241.trans kp244 (allS (P := fun x => x ∈ ([] : List Addr) ∨ h0.size ≤ x) (Or.inr sz_b9) all0)
          have zz244 : n0 ≤ T244.heap.size := Nat.le_trans Z0 K244.1
          have N244 := Fr.app N241 M244
          have pre245 : ∀ t, Steps p.tables e below (T244.setTop (mkF m 137 #[.val (.int xw1), .val (.int xw2), .val (.int xq), .val (.int xf), .val (.int w1), .val (.int w2), .val (.int mv), .val (.int ap), .val (.int de), .val (.int v41), .val (.ref b9), .unset, .unset] [])) t → Steps p.tables e below (s₁.setTop (entryFrame m #[(.int xw1), (.int xw2), (.int xq), (.int xf)] maxLocals)) t := fun t k => pre243 t (st244.trans k)
          have pre246 : ∀ t, Steps p.tables e below (T244.setTop (mkF m 158 #[.val (.int xw1), .val (.int xw2), .val (.int xq), .val (.int xf), .val (.int w1), .val (.int w2), .val (.int mv), .val (.int ap), .val (.int de), .val (.int v41), .val (.ref b9), .val (.long (((((ap.toInt64) + (w1.toInt64)) + (w2.toInt64)) + (de.toInt64)) + (mv.toInt64))), .second] [])) t → Steps p.tables e below (s₁.setTop (entryFrame m #[(.int xw1), (.int xw2), (.int xq), (.int xf)] maxLocals)) t := by
            intro t k
            refine pre245 t ?_
            refine XS.iload X244.here hx rfl (hb hby at_137) rfl ?_
            show Steps p.tables e below (T244.setTop (mkF m 139 #[.val (.int xw1), .val (.int xw2), .val (.int xq), .val (.int xf), .val (.int w1), .val (.int w2), .val (.int mv), .val (.int ap), .val (.int de), .val (.int v41), .val (.ref b9), .unset, .unset] [(.int ap)])) _
            refine XS.i2l X244.here hx rfl (hb hby at_139) rfl ?_
            show Steps p.tables e below (T244.setTop (mkF m 140 #[.val (.int xw1), .val (.int xw2), .val (.int xq), .val (.int xf), .val (.int w1), .val (.int w2), .val (.int mv), .val (.int ap), .val (.int de), .val (.int v41), .val (.ref b9), .unset, .unset] [(.long (ap.toInt64))])) _
            refine XS.iload X244.here hx rfl (hb hby at_140) rfl ?_
            show Steps p.tables e below (T244.setTop (mkF m 142 #[.val (.int xw1), .val (.int xw2), .val (.int xq), .val (.int xf), .val (.int w1), .val (.int w2), .val (.int mv), .val (.int ap), .val (.int de), .val (.int v41), .val (.ref b9), .unset, .unset] [(.int w1), (.long (ap.toInt64))])) _
            refine XS.i2l X244.here hx rfl (hb hby at_142) rfl ?_
            show Steps p.tables e below (T244.setTop (mkF m 143 #[.val (.int xw1), .val (.int xw2), .val (.int xq), .val (.int xf), .val (.int w1), .val (.int w2), .val (.int mv), .val (.int ap), .val (.int de), .val (.int v41), .val (.ref b9), .unset, .unset] [(.long (w1.toInt64)), (.long (ap.toInt64))])) _
            refine XS.ladd X244.here hx rfl (hb hby at_143) rfl ?_
            show Steps p.tables e below (T244.setTop (mkF m 144 #[.val (.int xw1), .val (.int xw2), .val (.int xq), .val (.int xf), .val (.int w1), .val (.int w2), .val (.int mv), .val (.int ap), .val (.int de), .val (.int v41), .val (.ref b9), .unset, .unset] [(.long ((ap.toInt64) + (w1.toInt64)))])) _
            refine XS.iload X244.here hx rfl (hb hby at_144) rfl ?_
            show Steps p.tables e below (T244.setTop (mkF m 146 #[.val (.int xw1), .val (.int xw2), .val (.int xq), .val (.int xf), .val (.int w1), .val (.int w2), .val (.int mv), .val (.int ap), .val (.int de), .val (.int v41), .val (.ref b9), .unset, .unset] [(.int w2), (.long ((ap.toInt64) + (w1.toInt64)))])) _
            refine XS.i2l X244.here hx rfl (hb hby at_146) rfl ?_
            show Steps p.tables e below (T244.setTop (mkF m 147 #[.val (.int xw1), .val (.int xw2), .val (.int xq), .val (.int xf), .val (.int w1), .val (.int w2), .val (.int mv), .val (.int ap), .val (.int de), .val (.int v41), .val (.ref b9), .unset, .unset] [(.long (w2.toInt64)), (.long ((ap.toInt64) + (w1.toInt64)))])) _
            refine XS.ladd X244.here hx rfl (hb hby at_147) rfl ?_
            show Steps p.tables e below (T244.setTop (mkF m 148 #[.val (.int xw1), .val (.int xw2), .val (.int xq), .val (.int xf), .val (.int w1), .val (.int w2), .val (.int mv), .val (.int ap), .val (.int de), .val (.int v41), .val (.ref b9), .unset, .unset] [(.long (((ap.toInt64) + (w1.toInt64)) + (w2.toInt64)))])) _
            refine XS.iload X244.here hx rfl (hb hby at_148) rfl ?_
            show Steps p.tables e below (T244.setTop (mkF m 150 #[.val (.int xw1), .val (.int xw2), .val (.int xq), .val (.int xf), .val (.int w1), .val (.int w2), .val (.int mv), .val (.int ap), .val (.int de), .val (.int v41), .val (.ref b9), .unset, .unset] [(.int de), (.long (((ap.toInt64) + (w1.toInt64)) + (w2.toInt64)))])) _
            refine XS.i2l X244.here hx rfl (hb hby at_150) rfl ?_
            show Steps p.tables e below (T244.setTop (mkF m 151 #[.val (.int xw1), .val (.int xw2), .val (.int xq), .val (.int xf), .val (.int w1), .val (.int w2), .val (.int mv), .val (.int ap), .val (.int de), .val (.int v41), .val (.ref b9), .unset, .unset] [(.long (de.toInt64)), (.long (((ap.toInt64) + (w1.toInt64)) + (w2.toInt64)))])) _
            refine XS.ladd X244.here hx rfl (hb hby at_151) rfl ?_
            show Steps p.tables e below (T244.setTop (mkF m 152 #[.val (.int xw1), .val (.int xw2), .val (.int xq), .val (.int xf), .val (.int w1), .val (.int w2), .val (.int mv), .val (.int ap), .val (.int de), .val (.int v41), .val (.ref b9), .unset, .unset] [(.long ((((ap.toInt64) + (w1.toInt64)) + (w2.toInt64)) + (de.toInt64)))])) _
            refine XS.iload X244.here hx rfl (hb hby at_152) rfl ?_
            show Steps p.tables e below (T244.setTop (mkF m 154 #[.val (.int xw1), .val (.int xw2), .val (.int xq), .val (.int xf), .val (.int w1), .val (.int w2), .val (.int mv), .val (.int ap), .val (.int de), .val (.int v41), .val (.ref b9), .unset, .unset] [(.int mv), (.long ((((ap.toInt64) + (w1.toInt64)) + (w2.toInt64)) + (de.toInt64)))])) _
            refine XS.i2l X244.here hx rfl (hb hby at_154) rfl ?_
            show Steps p.tables e below (T244.setTop (mkF m 155 #[.val (.int xw1), .val (.int xw2), .val (.int xq), .val (.int xf), .val (.int w1), .val (.int w2), .val (.int mv), .val (.int ap), .val (.int de), .val (.int v41), .val (.ref b9), .unset, .unset] [(.long (mv.toInt64)), (.long ((((ap.toInt64) + (w1.toInt64)) + (w2.toInt64)) + (de.toInt64)))])) _
            refine XS.ladd X244.here hx rfl (hb hby at_155) rfl ?_
            show Steps p.tables e below (T244.setTop (mkF m 156 #[.val (.int xw1), .val (.int xw2), .val (.int xq), .val (.int xf), .val (.int w1), .val (.int w2), .val (.int mv), .val (.int ap), .val (.int de), .val (.int v41), .val (.ref b9), .unset, .unset] [(.long (((((ap.toInt64) + (w1.toInt64)) + (w2.toInt64)) + (de.toInt64)) + (mv.toInt64)))])) _
            refine XS.lstore X244.here hx rfl (hb hby at_156) rfl (l' := #[.val (.int xw1), .val (.int xw2), .val (.int xq), .val (.int xf), .val (.int w1), .val (.int w2), .val (.int mv), .val (.int ap), .val (.int de), .val (.int v41), .val (.ref b9), .val (.long (((((ap.toInt64) + (w1.toInt64)) + (w2.toInt64)) + (de.toInt64)) + (mv.toInt64))), .second]) rfl ?_
            show Steps p.tables e below (T244.setTop (mkF m 158 #[.val (.int xw1), .val (.int xw2), .val (.int xq), .val (.int xf), .val (.int w1), .val (.int w2), .val (.int mv), .val (.int ap), .val (.int de), .val (.int v41), .val (.ref b9), .val (.long (((((ap.toInt64) + (w1.toInt64)) + (w2.toInt64)) + (de.toInt64)) + (mv.toInt64))), .second] [])) _
            exact k
          obtain ⟨ex, hex⟩ : ∃ z : Int64, z = (((((ap.toInt64) + (w1.toInt64)) + (w2.toInt64)) + (de.toInt64)) + (mv.toInt64)) := ⟨_, rfl⟩
          rw [← hex] at pre246
          have pre247 : ∀ t, Steps p.tables e below (T244.setTop (mkF m 160 #[.val (.int xw1), .val (.int xw2), .val (.int xq), .val (.int xf), .val (.int w1), .val (.int w2), .val (.int mv), .val (.int ap), .val (.int de), .val (.int v41), .val (.ref b9), .val (.long ex), .second] [(.ref b9)])) t → Steps p.tables e below (s₁.setTop (entryFrame m #[(.int xw1), (.int xw2), (.int xq), (.int xf)] maxLocals)) t := by
            intro t k
            refine pre246 t ?_
            refine XS.aload X244.here hx rfl (hb hby at_158) rfl rfl ?_
            show Steps p.tables e below (T244.setTop (mkF m 160 #[.val (.int xw1), .val (.int xw2), .val (.int xq), .val (.int xf), .val (.int w1), .val (.int w2), .val (.int mv), .val (.int ap), .val (.int de), .val (.int v41), .val (.ref b9), .val (.long ex), .second] [(.ref b9)])) _
            exact k
          obtain ⟨cq248, kq248, q248a, q248b, q248c⟩ := isOf hZ rfl f244_0
          obtain ⟨_, _, ⟨T248, L248, k248, n248⟩, -, X248, ⟨Lc248, hQ248, l248, y248, z248⟩, st248⟩ := X244.virtualBack hx (y := (⟨"com/example/suitor/suitor/SolverStatistics", "getSteps", "()J"⟩ : MethodName)) (z := (⟨"com/example/suitor/suitor/SolverStatistics", "getSteps", "()J"⟩ : MethodName)) hown (mvT hZ (hw _ (List.mem_of_getElem? (i := 10) rfl))) (mvT hZ (hw _ (List.mem_of_getElem? (i := 11) rfl))) (notFace_of_selects (args := #[]) (mvT hZ (hw _ (List.mem_of_getElem? (i := 13) rfl)))) (mvT hZ (hw _ (List.mem_of_getElem? (i := 13) rfl))) (mvT hZ (hw _ (List.mem_of_getElem? (i := 12) rfl))) (by decide) (backOf (W := 0) (rm_steps l Z a0 hw [] b9 (((0 : Int64) + (1 : Int64)) + (1 : Int64)) (((0 : Int64) + (w1.toInt64)) + (w2.toInt64)) ((0 : Int64) + (1 : Int64)) ((0 : Int64) + (mv.toInt64)) T244.heap n0 zz244 f244_1 f244_2 f244_3 f244_4) hZ (hw _ (List.mem_of_getElem? (i := 14) rfl)) (hw _ (List.mem_of_getElem? (i := 3) rfl)) (by decide) (by decide)) q248a q248c (g := (mkF m 160 #[.val (.int xw1), .val (.int xw2), .val (.int xq), .val (.int xf), .val (.int w1), .val (.int w2), .val (.int mv), .val (.int ap), .val (.int de), .val (.int v41), .val (.ref b9), .val (.long ex), .second] [(.ref b9)])) rfl (by rw [hml]; rfl) (Steps.refl _) (argsL := []) (rest := []) (lenOf pd1 rfl) rfl (by show 2 * 0 + _ ≤ _; exact Nat.le_of_eq rfl) (hb hby at_160) (fun _ _ => ⟨rfl, rfl, (by decide : 1 + 0 ≤ _), (by decide : 5 + 0 ≤ _)⟩)
          dsimp only [Pt.U, Pt.locs, Pt.cells, Pt.slots] at X248 l248 y248 z248 st248 hQ248
          subst l248 y248 z248
          obtain ⟨rfl, M248, e248⟩ := hQ248
          have N248 := Fr.app N244 M248
          have pre249 : ∀ t, Steps p.tables e below (T248.setTop (mkF m 163 #[.val (.int xw1), .val (.int xw2), .val (.int xq), .val (.int xf), .val (.int w1), .val (.int w2), .val (.int mv), .val (.int ap), .val (.int de), .val (.int v41), .val (.ref b9), .val (.long ex), .second] [(.long ((((((0 : Int64) + (1 : Int64)) + (1 : Int64)) + (((0 : Int64) + (w1.toInt64)) + (w2.toInt64))) + ((0 : Int64) + (1 : Int64))) + ((0 : Int64) + (mv.toInt64))))])) t → Steps p.tables e below (s₁.setTop (entryFrame m #[(.int xw1), (.int xw2), (.int xq), (.int xf)] maxLocals)) t := fun t k => pre247 t (st248.trans k)
          have pre250 : ∀ t, Steps p.tables e below (T248.setTop (mkF m 174 #[.val (.int xw1), .val (.int xw2), .val (.int xq), .val (.int xf), .val (.int w1), .val (.int w2), .val (.int mv), .val (.int ap), .val (.int de), .val (.int v41), .val (.ref b9), .val (.long ex), .second] [(.int (1 : Int32))])) t → Steps p.tables e below (s₁.setTop (entryFrame m #[(.int xw1), (.int xw2), (.int xq), (.int xf)] maxLocals)) t := by
            intro t k
            refine pre249 t ?_
            refine XS.lload X248.here hx rfl (hb hby at_163) rfl ?_
            show Steps p.tables e below (T248.setTop (mkF m 165 #[.val (.int xw1), .val (.int xw2), .val (.int xq), .val (.int xf), .val (.int w1), .val (.int w2), .val (.int mv), .val (.int ap), .val (.int de), .val (.int v41), .val (.ref b9), .val (.long ex), .second] [(.long ex), (.long ((((((0 : Int64) + (1 : Int64)) + (1 : Int64)) + (((0 : Int64) + (w1.toInt64)) + (w2.toInt64))) + ((0 : Int64) + (1 : Int64))) + ((0 : Int64) + (mv.toInt64))))])) _
            refine XS.lcmp X248.here hx rfl (hb hby at_165) rfl ?_
            show Steps p.tables e below (T248.setTop (mkF m 166 #[.val (.int xw1), .val (.int xw2), .val (.int xq), .val (.int xf), .val (.int w1), .val (.int w2), .val (.int mv), .val (.int ap), .val (.int de), .val (.int v41), .val (.ref b9), .val (.long ex), .second] [(.int (lcmpW ((((((0 : Int64) + (1 : Int64)) + (1 : Int64)) + (((0 : Int64) + (w1.toInt64)) + (w2.toInt64))) + ((0 : Int64) + (1 : Int64))) + ((0 : Int64) + (mv.toInt64))) ex))])) _
            refine XS.ifNo X248.here hx rfl (hb hby at_166) rfl ((if0 _ _).trans (teq ((lw_eq _ _).mpr (show ((((((0 : Int64) + (1 : Int64)) + (1 : Int64)) + (((0 : Int64) + (w1.toInt64)) + (w2.toInt64))) + ((0 : Int64) + (1 : Int64))) + ((0 : Int64) + (mv.toInt64))) = ex from by rw [hex]; exact own_7 w1 w2 mv xf ap de hap hde hc75 hc88 hc105))).2) ?_
            show Steps p.tables e below (T248.setTop (mkF m 169 #[.val (.int xw1), .val (.int xw2), .val (.int xq), .val (.int xf), .val (.int w1), .val (.int w2), .val (.int mv), .val (.int ap), .val (.int de), .val (.int v41), .val (.ref b9), .val (.long ex), .second] [])) _
            refine XS.iconst X248.here hx rfl (hb hby at_169) ?_
            show Steps p.tables e below (T248.setTop (mkF m 170 #[.val (.int xw1), .val (.int xw2), .val (.int xq), .val (.int xf), .val (.int w1), .val (.int w2), .val (.int mv), .val (.int ap), .val (.int de), .val (.int v41), .val (.ref b9), .val (.long ex), .second] [(.int (1 : Int32))])) _
            refine XS.goto X248.here hx rfl (pc0 := 170) (pc' := 174) rfl (hb hby at_170) (by decide) (by decide) ?_
            show Steps p.tables e below (T248.setTop (mkF m 174 #[.val (.int xw1), .val (.int xw2), .val (.int xq), .val (.int xf), .val (.int w1), .val (.int w2), .val (.int mv), .val (.int ap), .val (.int de), .val (.int v41), .val (.ref b9), .val (.long ex), .second] [(.int (1 : Int32))])) _
            exact k
          obtain ⟨fs, hr, hrun, hended, hW, hsame⟩ := X248.leave (v := some (.int (1 : Int32))) (fun h => by rw [Bd.returns] at h; cases h)
          refine ⟨_, _, pre250 _ ?_, hrun, hended, _, _, rfl, ?_, ⟨_, rfl⟩, hW, hsame.mono (by decide) (by decide)⟩
          · exact retN X248 hx (t := .boolean) Bd.returns (by simp) (hb hby at_174) hr
          · show Q_rm0 Z xw1 xw2 xq xf h0 n0 _ T248.heap _
            rw [e248]
            exact ⟨rfl, N248⟩
        · have pre251 : ∀ t, Steps p.tables e below (T237.setTop (mkF m 120 #[.val (.int xw1), .val (.int xw2), .val (.int xq), .val (.int xf), .val (.int w1), .val (.int w2), .val (.int mv), .val (.int ap), .val (.int de), .val (.int v41), .val (.ref b9), .unset, .unset] [(.ref b9)])) t → Steps p.tables e below (s₁.setTop (entryFrame m #[(.int xw1), (.int xw2), (.int xq), (.int xf)] maxLocals)) t := by
            intro t k
            refine pre239 t ?_
            refine XS.ifNo X237.here hx rfl (hb hby at_115) rfl ((if0 _ _).trans (feq hc115).1) ?_
            show Steps p.tables e below (T237.setTop (mkF m 118 #[.val (.int xw1), .val (.int xw2), .val (.int xq), .val (.int xf), .val (.int w1), .val (.int w2), .val (.int mv), .val (.int ap), .val (.int de), .val (.int v41), .val (.ref b9), .unset, .unset] [])) _
            refine XS.aload X237.here hx rfl (hb hby at_118) rfl rfl ?_
            show Steps p.tables e below (T237.setTop (mkF m 120 #[.val (.int xw1), .val (.int xw2), .val (.int xq), .val (.int xf), .val (.int w1), .val (.int w2), .val (.int mv), .val (.int ap), .val (.int de), .val (.int v41), .val (.ref b9), .unset, .unset] [(.ref b9)])) _
            exact k
          obtain ⟨cq252, kq252, q252a, q252b, q252c⟩ := isOf hZ rfl f237_0
          obtain ⟨_, _, ⟨T252, L252, k252, n252⟩, -, X252, ⟨Lc252, hQ252, l252, y252, z252⟩, st252⟩ := X237.virtualBack hx (y := (⟨"com/example/suitor/suitor/SolverStatistics", "countPass", "()V"⟩ : MethodName)) (z := (⟨"com/example/suitor/suitor/SolverStatistics", "countPass", "()V"⟩ : MethodName)) hown (mvT hZ (hw _ (List.mem_of_getElem? (i := 38) rfl))) (mvT hZ (hw _ (List.mem_of_getElem? (i := 39) rfl))) (notFace_of_selects (args := #[]) (mvT hZ (hw _ (List.mem_of_getElem? (i := 41) rfl)))) (mvT hZ (hw _ (List.mem_of_getElem? (i := 41) rfl))) (mvT hZ (hw _ (List.mem_of_getElem? (i := 40) rfl))) (by decide) (backOf (W := 0) (rm_countPass l Z a0 hw [] b9 (((0 : Int64) + (1 : Int64)) + (1 : Int64)) ((0 : Int64) + (w1.toInt64)) ((0 : Int64) + (1 : Int64)) (0 : Int64) (0 : Int64) T237.heap n0 zz237 f237_0 (g_b9) f237_1 f237_2 f237_3 f237_4 f237_5) hZ (hw _ (List.mem_of_getElem? (i := 42) rfl)) (hw _ (List.mem_of_getElem? (i := 3) rfl)) (by decide) (by decide)) q252a q252c (g := (mkF m 120 #[.val (.int xw1), .val (.int xw2), .val (.int xq), .val (.int xf), .val (.int w1), .val (.int w2), .val (.int mv), .val (.int ap), .val (.int de), .val (.int v41), .val (.ref b9), .unset, .unset] [(.ref b9)])) rfl (by rw [hml]; rfl) (Steps.refl _) (argsL := []) (rest := []) (lenOf pd0 rfl) rfl (by show 2 * 0 + _ ≤ _; exact Nat.le_of_eq rfl) (hb hby at_120) (fun _ _ => ⟨rfl, rfl, (by decide : 1 + 0 ≤ _), (by decide : 5 + 0 ≤ _)⟩)
          dsimp only [Pt.U, Pt.locs, Pt.cells, Pt.slots] at X252 l252 y252 z252 st252 hQ252
          subst l252 y252 z252
          obtain ⟨rfl, M252, kp252, f252_0, f252_1, f252_2, f252_3, f252_4, f252_5⟩ := hQ252
          have K252 : Keep h0 T252.heap ([] : List Addr) := K237.trans kp252 (allS (P := fun x => x ∈ ([] : List Addr) ∨ h0.size ≤ x) (Or.inr sz_b9) all0)
          have zz252 : n0 ≤ T252.heap.size := Nat.le_trans Z0 K252.1
          have N252 := Fr.app N237 M252
          have pre253 : ∀ t, Steps p.tables e below (T252.setTop (mkF m 123 #[.val (.int xw1), .val (.int xw2), .val (.int xq), .val (.int xf), .val (.int w1), .val (.int w2), .val (.int mv), .val (.int ap), .val (.int de), .val (.int v41), .val (.ref b9), .unset, .unset] [])) t → Steps p.tables e below (s₁.setTop (entryFrame m #[(.int xw1), (.int xw2), (.int xq), (.int xf)] maxLocals)) t := fun t k => pre251 t (st252.trans k)
          have pre254 : ∀ t, Steps p.tables e below (T252.setTop (mkF m 127 #[.val (.int xw1), .val (.int xw2), .val (.int xq), .val (.int xf), .val (.int w1), .val (.int w2), .val (.int mv), .val (.int ap), .val (.int de), .val (.int v41), .val (.ref b9), .unset, .unset] [(.int mv), (.ref b9)])) t → Steps p.tables e below (s₁.setTop (entryFrame m #[(.int xw1), (.int xw2), (.int xq), (.int xf)] maxLocals)) t := by
            intro t k
            refine pre253 t ?_
            refine XS.aload X252.here hx rfl (hb hby at_123) rfl rfl ?_
            show Steps p.tables e below (T252.setTop (mkF m 125 #[.val (.int xw1), .val (.int xw2), .val (.int xq), .val (.int xf), .val (.int w1), .val (.int w2), .val (.int mv), .val (.int ap), .val (.int de), .val (.int v41), .val (.ref b9), .unset, .unset] [(.ref b9)])) _
            refine XS.iload X252.here hx rfl (hb hby at_125) rfl ?_
            show Steps p.tables e below (T252.setTop (mkF m 127 #[.val (.int xw1), .val (.int xw2), .val (.int xq), .val (.int xf), .val (.int w1), .val (.int w2), .val (.int mv), .val (.int ap), .val (.int de), .val (.int v41), .val (.ref b9), .unset, .unset] [(.int mv), (.ref b9)])) _
            exact k
          obtain ⟨cq255, kq255, q255a, q255b, q255c⟩ := isOf hZ rfl f252_0
          obtain ⟨_, _, ⟨T255, L255, k255, n255⟩, -, X255, ⟨Lc255, hQ255, l255, y255, z255⟩, st255⟩ := X252.virtualBack hx (y := (⟨"com/example/suitor/suitor/SolverStatistics", "countQueueMoves", "(I)V"⟩ : MethodName)) (z := (⟨"com/example/suitor/suitor/SolverStatistics", "countQueueMoves", "(I)V"⟩ : MethodName)) hown (mvT hZ (hw _ (List.mem_of_getElem? (i := 33) rfl))) (mvT hZ (hw _ (List.mem_of_getElem? (i := 34) rfl))) (notFace_of_selects (args := #[]) (mvT hZ (hw _ (List.mem_of_getElem? (i := 36) rfl)))) (mvT hZ (hw _ (List.mem_of_getElem? (i := 36) rfl))) (mvT hZ (hw _ (List.mem_of_getElem? (i := 35) rfl))) (by decide) (backOf (W := 0) (rm_countQueueMoves l Z a0 hw [] b9 mv (((0 : Int64) + (1 : Int64)) + (1 : Int64)) ((0 : Int64) + (w1.toInt64)) ((0 : Int64) + (1 : Int64)) (0 : Int64) ((0 : Int64) + (1 : Int64)) T252.heap n0 zz252 f252_0 (g_b9) f252_1 f252_2 f252_3 f252_4 f252_5) hZ (hw _ (List.mem_of_getElem? (i := 37) rfl)) (hw _ (List.mem_of_getElem? (i := 3) rfl)) (by decide) (by decide)) q255a q255c (g := (mkF m 127 #[.val (.int xw1), .val (.int xw2), .val (.int xq), .val (.int xf), .val (.int w1), .val (.int w2), .val (.int mv), .val (.int ap), .val (.int de), .val (.int v41), .val (.ref b9), .unset, .unset] [(.int mv), (.ref b9)])) rfl (by rw [hml]; rfl) (Steps.refl _) (argsL := [(.int mv)]) (rest := []) (lenOf pd2 rfl) rfl (by show 2 * 0 + _ ≤ _; exact Nat.le_of_eq rfl) (hb hby at_127) (fun _ _ => ⟨rfl, rfl, (by decide : 1 + 0 ≤ _), (by decide : 5 + 0 ≤ _)⟩)
          dsimp only [Pt.U, Pt.locs, Pt.cells, Pt.slots] at X255 l255 y255 z255 st255 hQ255
          subst l255 y255 z255
          obtain ⟨rfl, M255, kp255, f255_0, f255_1, f255_2, f255_3, f255_4, f255_5⟩ := hQ255
          have K255 : Keep h0 T255.heap ([] : List Addr) := K252.trans kp255 (allS (P := fun x => x ∈ ([] : List Addr) ∨ h0.size ≤ x) (Or.inr sz_b9) all0)
          have zz255 : n0 ≤ T255.heap.size := Nat.le_trans Z0 K255.1
          have N255 := Fr.app N252 M255
          have pre256 : ∀ t, Steps p.tables e below (T255.setTop (mkF m 130 #[.val (.int xw1), .val (.int xw2), .val (.int xq), .val (.int xf), .val (.int w1), .val (.int w2), .val (.int mv), .val (.int ap), .val (.int de), .val (.int v41), .val (.ref b9), .unset, .unset] [])) t → Steps p.tables e below (s₁.setTop (entryFrame m #[(.int xw1), (.int xw2), (.int xq), (.int xf)] maxLocals)) t := fun t k => pre254 t (st255.trans k)
          have pre257 : ∀ t, Steps p.tables e below (T255.setTop (mkF m 134 #[.val (.int xw1), .val (.int xw2), .val (.int xq), .val (.int xf), .val (.int w1), .val (.int w2), .val (.int mv), .val (.int ap), .val (.int de), .val (.int v41), .val (.ref b9), .unset, .unset] [(.int w2), (.ref b9)])) t → Steps p.tables e below (s₁.setTop (entryFrame m #[(.int xw1), (.int xw2), (.int xq), (.int xf)] maxLocals)) t := by
            intro t k
            refine pre256 t ?_
            refine XS.aload X255.here hx rfl (hb hby at_130) rfl rfl ?_
            show Steps p.tables e below (T255.setTop (mkF m 132 #[.val (.int xw1), .val (.int xw2), .val (.int xq), .val (.int xf), .val (.int w1), .val (.int w2), .val (.int mv), .val (.int ap), .val (.int de), .val (.int v41), .val (.ref b9), .unset, .unset] [(.ref b9)])) _
            refine XS.iload X255.here hx rfl (hb hby at_132) rfl ?_
            show Steps p.tables e below (T255.setTop (mkF m 134 #[.val (.int xw1), .val (.int xw2), .val (.int xq), .val (.int xf), .val (.int w1), .val (.int w2), .val (.int mv), .val (.int ap), .val (.int de), .val (.int v41), .val (.ref b9), .unset, .unset] [(.int w2), (.ref b9)])) _
            exact k
          obtain ⟨cq258, kq258, q258a, q258b, q258c⟩ := isOf hZ rfl f255_0
          obtain ⟨_, _, ⟨T258, L258, k258, n258⟩, -, X258, ⟨Lc258, hQ258, l258, y258, z258⟩, st258⟩ := X255.virtualBack hx (y := (⟨"com/example/suitor/suitor/SolverStatistics", "countWalkSteps", "(I)V"⟩ : MethodName)) (z := (⟨"com/example/suitor/suitor/SolverStatistics", "countWalkSteps", "(I)V"⟩ : MethodName)) hown (mvT hZ (hw _ (List.mem_of_getElem? (i := 28) rfl))) (mvT hZ (hw _ (List.mem_of_getElem? (i := 29) rfl))) (notFace_of_selects (args := #[]) (mvT hZ (hw _ (List.mem_of_getElem? (i := 31) rfl)))) (mvT hZ (hw _ (List.mem_of_getElem? (i := 31) rfl))) (mvT hZ (hw _ (List.mem_of_getElem? (i := 30) rfl))) (by decide) (backOf (W := 0) (rm_countWalkSteps l Z a0 hw [] b9 w2 (((0 : Int64) + (1 : Int64)) + (1 : Int64)) ((0 : Int64) + (w1.toInt64)) ((0 : Int64) + (1 : Int64)) ((0 : Int64) + (mv.toInt64)) ((0 : Int64) + (1 : Int64)) T255.heap n0 zz255 f255_0 (g_b9) f255_1 f255_2 f255_3 f255_4 f255_5) hZ (hw _ (List.mem_of_getElem? (i := 32) rfl)) (hw _ (List.mem_of_getElem? (i := 3) rfl)) (by decide) (by decide)) q258a q258c (g := (mkF m 134 #[.val (.int xw1), .val (.int xw2), .val (.int xq), .val (.int xf), .val (.int w1), .val (.int w2), .val (.int mv), .val (.int ap), .val (.int de), .val (.int v41), .val (.ref b9), .unset, .unset] [(.int w2), (.ref b9)])) rfl (by rw [hml]; rfl) (Steps.refl _) (argsL := [(.int w2)]) (rest := []) (lenOf pd2 rfl) rfl (by show 2 * 0 + _ ≤ _; exact Nat.le_of_eq rfl) (hb hby at_134) (fun _ _ => ⟨rfl, rfl, (by decide : 1 + 0 ≤ _), (by decide : 5 + 0 ≤ _)⟩)
          dsimp only [Pt.U, Pt.locs, Pt.cells, Pt.slots] at X258 l258 y258 z258 st258 hQ258
          subst l258 y258 z258
          obtain ⟨rfl, M258, kp258, f258_0, f258_1, f258_2, f258_3, f258_4, f258_5⟩ := hQ258
          have K258 : Keep h0 T258.heap ([] : List Addr) := K255.trans kp258 (allS (P := fun x => x ∈ ([] : List Addr) ∨ h0.size ≤ x) (Or.inr sz_b9) all0)
          have zz258 : n0 ≤ T258.heap.size := Nat.le_trans Z0 K258.1
          have N258 := Fr.app N255 M258
          have pre259 : ∀ t, Steps p.tables e below (T258.setTop (mkF m 137 #[.val (.int xw1), .val (.int xw2), .val (.int xq), .val (.int xf), .val (.int w1), .val (.int w2), .val (.int mv), .val (.int ap), .val (.int de), .val (.int v41), .val (.ref b9), .unset, .unset] [])) t → Steps p.tables e below (s₁.setTop (entryFrame m #[(.int xw1), (.int xw2), (.int xq), (.int xf)] maxLocals)) t := fun t k => pre257 t (st258.trans k)
          have pre260 : ∀ t, Steps p.tables e below (T258.setTop (mkF m 158 #[.val (.int xw1), .val (.int xw2), .val (.int xq), .val (.int xf), .val (.int w1), .val (.int w2), .val (.int mv), .val (.int ap), .val (.int de), .val (.int v41), .val (.ref b9), .val (.long (((((ap.toInt64) + (w1.toInt64)) + (w2.toInt64)) + (de.toInt64)) + (mv.toInt64))), .second] [])) t → Steps p.tables e below (s₁.setTop (entryFrame m #[(.int xw1), (.int xw2), (.int xq), (.int xf)] maxLocals)) t := by
            intro t k
            refine pre259 t ?_
            refine XS.iload X258.here hx rfl (hb hby at_137) rfl ?_
            show Steps p.tables e below (T258.setTop (mkF m 139 #[.val (.int xw1), .val (.int xw2), .val (.int xq), .val (.int xf), .val (.int w1), .val (.int w2), .val (.int mv), .val (.int ap), .val (.int de), .val (.int v41), .val (.ref b9), .unset, .unset] [(.int ap)])) _
            refine XS.i2l X258.here hx rfl (hb hby at_139) rfl ?_
            show Steps p.tables e below (T258.setTop (mkF m 140 #[.val (.int xw1), .val (.int xw2), .val (.int xq), .val (.int xf), .val (.int w1), .val (.int w2), .val (.int mv), .val (.int ap), .val (.int de), .val (.int v41), .val (.ref b9), .unset, .unset] [(.long (ap.toInt64))])) _
            refine XS.iload X258.here hx rfl (hb hby at_140) rfl ?_
            show Steps p.tables e below (T258.setTop (mkF m 142 #[.val (.int xw1), .val (.int xw2), .val (.int xq), .val (.int xf), .val (.int w1), .val (.int w2), .val (.int mv), .val (.int ap), .val (.int de), .val (.int v41), .val (.ref b9), .unset, .unset] [(.int w1), (.long (ap.toInt64))])) _
            refine XS.i2l X258.here hx rfl (hb hby at_142) rfl ?_
            show Steps p.tables e below (T258.setTop (mkF m 143 #[.val (.int xw1), .val (.int xw2), .val (.int xq), .val (.int xf), .val (.int w1), .val (.int w2), .val (.int mv), .val (.int ap), .val (.int de), .val (.int v41), .val (.ref b9), .unset, .unset] [(.long (w1.toInt64)), (.long (ap.toInt64))])) _
            refine XS.ladd X258.here hx rfl (hb hby at_143) rfl ?_
            show Steps p.tables e below (T258.setTop (mkF m 144 #[.val (.int xw1), .val (.int xw2), .val (.int xq), .val (.int xf), .val (.int w1), .val (.int w2), .val (.int mv), .val (.int ap), .val (.int de), .val (.int v41), .val (.ref b9), .unset, .unset] [(.long ((ap.toInt64) + (w1.toInt64)))])) _
            refine XS.iload X258.here hx rfl (hb hby at_144) rfl ?_
            show Steps p.tables e below (T258.setTop (mkF m 146 #[.val (.int xw1), .val (.int xw2), .val (.int xq), .val (.int xf), .val (.int w1), .val (.int w2), .val (.int mv), .val (.int ap), .val (.int de), .val (.int v41), .val (.ref b9), .unset, .unset] [(.int w2), (.long ((ap.toInt64) + (w1.toInt64)))])) _
            refine XS.i2l X258.here hx rfl (hb hby at_146) rfl ?_
            show Steps p.tables e below (T258.setTop (mkF m 147 #[.val (.int xw1), .val (.int xw2), .val (.int xq), .val (.int xf), .val (.int w1), .val (.int w2), .val (.int mv), .val (.int ap), .val (.int de), .val (.int v41), .val (.ref b9), .unset, .unset] [(.long (w2.toInt64)), (.long ((ap.toInt64) + (w1.toInt64)))])) _
            refine XS.ladd X258.here hx rfl (hb hby at_147) rfl ?_
            show Steps p.tables e below (T258.setTop (mkF m 148 #[.val (.int xw1), .val (.int xw2), .val (.int xq), .val (.int xf), .val (.int w1), .val (.int w2), .val (.int mv), .val (.int ap), .val (.int de), .val (.int v41), .val (.ref b9), .unset, .unset] [(.long (((ap.toInt64) + (w1.toInt64)) + (w2.toInt64)))])) _
            refine XS.iload X258.here hx rfl (hb hby at_148) rfl ?_
            show Steps p.tables e below (T258.setTop (mkF m 150 #[.val (.int xw1), .val (.int xw2), .val (.int xq), .val (.int xf), .val (.int w1), .val (.int w2), .val (.int mv), .val (.int ap), .val (.int de), .val (.int v41), .val (.ref b9), .unset, .unset] [(.int de), (.long (((ap.toInt64) + (w1.toInt64)) + (w2.toInt64)))])) _
            refine XS.i2l X258.here hx rfl (hb hby at_150) rfl ?_
            show Steps p.tables e below (T258.setTop (mkF m 151 #[.val (.int xw1), .val (.int xw2), .val (.int xq), .val (.int xf), .val (.int w1), .val (.int w2), .val (.int mv), .val (.int ap), .val (.int de), .val (.int v41), .val (.ref b9), .unset, .unset] [(.long (de.toInt64)), (.long (((ap.toInt64) + (w1.toInt64)) + (w2.toInt64)))])) _
            refine XS.ladd X258.here hx rfl (hb hby at_151) rfl ?_
            show Steps p.tables e below (T258.setTop (mkF m 152 #[.val (.int xw1), .val (.int xw2), .val (.int xq), .val (.int xf), .val (.int w1), .val (.int w2), .val (.int mv), .val (.int ap), .val (.int de), .val (.int v41), .val (.ref b9), .unset, .unset] [(.long ((((ap.toInt64) + (w1.toInt64)) + (w2.toInt64)) + (de.toInt64)))])) _
            refine XS.iload X258.here hx rfl (hb hby at_152) rfl ?_
            show Steps p.tables e below (T258.setTop (mkF m 154 #[.val (.int xw1), .val (.int xw2), .val (.int xq), .val (.int xf), .val (.int w1), .val (.int w2), .val (.int mv), .val (.int ap), .val (.int de), .val (.int v41), .val (.ref b9), .unset, .unset] [(.int mv), (.long ((((ap.toInt64) + (w1.toInt64)) + (w2.toInt64)) + (de.toInt64)))])) _
            refine XS.i2l X258.here hx rfl (hb hby at_154) rfl ?_
            show Steps p.tables e below (T258.setTop (mkF m 155 #[.val (.int xw1), .val (.int xw2), .val (.int xq), .val (.int xf), .val (.int w1), .val (.int w2), .val (.int mv), .val (.int ap), .val (.int de), .val (.int v41), .val (.ref b9), .unset, .unset] [(.long (mv.toInt64)), (.long ((((ap.toInt64) + (w1.toInt64)) + (w2.toInt64)) + (de.toInt64)))])) _
            refine XS.ladd X258.here hx rfl (hb hby at_155) rfl ?_
            show Steps p.tables e below (T258.setTop (mkF m 156 #[.val (.int xw1), .val (.int xw2), .val (.int xq), .val (.int xf), .val (.int w1), .val (.int w2), .val (.int mv), .val (.int ap), .val (.int de), .val (.int v41), .val (.ref b9), .unset, .unset] [(.long (((((ap.toInt64) + (w1.toInt64)) + (w2.toInt64)) + (de.toInt64)) + (mv.toInt64)))])) _
            refine XS.lstore X258.here hx rfl (hb hby at_156) rfl (l' := #[.val (.int xw1), .val (.int xw2), .val (.int xq), .val (.int xf), .val (.int w1), .val (.int w2), .val (.int mv), .val (.int ap), .val (.int de), .val (.int v41), .val (.ref b9), .val (.long (((((ap.toInt64) + (w1.toInt64)) + (w2.toInt64)) + (de.toInt64)) + (mv.toInt64))), .second]) rfl ?_
            show Steps p.tables e below (T258.setTop (mkF m 158 #[.val (.int xw1), .val (.int xw2), .val (.int xq), .val (.int xf), .val (.int w1), .val (.int w2), .val (.int mv), .val (.int ap), .val (.int de), .val (.int v41), .val (.ref b9), .val (.long (((((ap.toInt64) + (w1.toInt64)) + (w2.toInt64)) + (de.toInt64)) + (mv.toInt64))), .second] [])) _
            exact k
          obtain ⟨ex, hex⟩ : ∃ z : Int64, z = (((((ap.toInt64) + (w1.toInt64)) + (w2.toInt64)) + (de.toInt64)) + (mv.toInt64)) := ⟨_, rfl⟩
          rw [← hex] at pre260
          have pre261 : ∀ t, Steps p.tables e below (T258.setTop (mkF m 160 #[.val (.int xw1), .val (.int xw2), .val (.int xq), .val (.int xf), .val (.int w1), .val (.int w2), .val (.int mv), .val (.int ap), .val (.int de), .val (.int v41), .val (.ref b9), .val (.long ex), .second] [(.ref b9)])) t → Steps p.tables e below (s₁.setTop (entryFrame m #[(.int xw1), (.int xw2), (.int xq), (.int xf)] maxLocals)) t := by
            intro t k
            refine pre260 t ?_
            refine XS.aload X258.here hx rfl (hb hby at_158) rfl rfl ?_
            show Steps p.tables e below (T258.setTop (mkF m 160 #[.val (.int xw1), .val (.int xw2), .val (.int xq), .val (.int xf), .val (.int w1), .val (.int w2), .val (.int mv), .val (.int ap), .val (.int de), .val (.int v41), .val (.ref b9), .val (.long ex), .second] [(.ref b9)])) _
            exact k
          obtain ⟨cq262, kq262, q262a, q262b, q262c⟩ := isOf hZ rfl f258_0
          obtain ⟨_, _, ⟨T262, L262, k262, n262⟩, -, X262, ⟨Lc262, hQ262, l262, y262, z262⟩, st262⟩ := X258.virtualBack hx (y := (⟨"com/example/suitor/suitor/SolverStatistics", "getSteps", "()J"⟩ : MethodName)) (z := (⟨"com/example/suitor/suitor/SolverStatistics", "getSteps", "()J"⟩ : MethodName)) hown (mvT hZ (hw _ (List.mem_of_getElem? (i := 10) rfl))) (mvT hZ (hw _ (List.mem_of_getElem? (i := 11) rfl))) (notFace_of_selects (args := #[]) (mvT hZ (hw _ (List.mem_of_getElem? (i := 13) rfl)))) (mvT hZ (hw _ (List.mem_of_getElem? (i := 13) rfl))) (mvT hZ (hw _ (List.mem_of_getElem? (i := 12) rfl))) (by decide) (backOf (W := 0) (rm_steps l Z a0 hw [] b9 (((0 : Int64) + (1 : Int64)) + (1 : Int64)) (((0 : Int64) + (w1.toInt64)) + (w2.toInt64)) ((0 : Int64) + (1 : Int64)) ((0 : Int64) + (mv.toInt64)) T258.heap n0 zz258 f258_1 f258_2 f258_3 f258_4) hZ (hw _ (List.mem_of_getElem? (i := 14) rfl)) (hw _ (List.mem_of_getElem? (i := 3) rfl)) (by decide) (by decide)) q262a q262c (g := (mkF m 160 #[.val (.int xw1), .val (.int xw2), .val (.int xq), .val (.int xf), .val (.int w1), .val (.int w2), .val (.int mv), .val (.int ap), .val (.int de), .val (.int v41), .val (.ref b9), .val (.long ex), .second] [(.ref b9)])) rfl (by rw [hml]; rfl) (Steps.refl _) (argsL := []) (rest := []) (lenOf pd1 rfl) rfl (by show 2 * 0 + _ ≤ _; exact Nat.le_of_eq rfl) (hb hby at_160) (fun _ _ => ⟨rfl, rfl, (by decide : 1 + 0 ≤ _), (by decide : 5 + 0 ≤ _)⟩)
          dsimp only [Pt.U, Pt.locs, Pt.cells, Pt.slots] at X262 l262 y262 z262 st262 hQ262
          subst l262 y262 z262
          obtain ⟨rfl, M262, e262⟩ := hQ262
          have N262 := Fr.app N258 M262
          have pre263 : ∀ t, Steps p.tables e below (T262.setTop (mkF m 163 #[.val (.int xw1), .val (.int xw2), .val (.int xq), .val (.int xf), .val (.int w1), .val (.int w2), .val (.int mv), .val (.int ap), .val (.int de), .val (.int v41), .val (.ref b9), .val (.long ex), .second] [(.long ((((((0 : Int64) + (1 : Int64)) + (1 : Int64)) + (((0 : Int64) + (w1.toInt64)) + (w2.toInt64))) + ((0 : Int64) + (1 : Int64))) + ((0 : Int64) + (mv.toInt64))))])) t → Steps p.tables e below (s₁.setTop (entryFrame m #[(.int xw1), (.int xw2), (.int xq), (.int xf)] maxLocals)) t := fun t k => pre261 t (st262.trans k)
          have pre264 : ∀ t, Steps p.tables e below (T262.setTop (mkF m 174 #[.val (.int xw1), .val (.int xw2), .val (.int xq), .val (.int xf), .val (.int w1), .val (.int w2), .val (.int mv), .val (.int ap), .val (.int de), .val (.int v41), .val (.ref b9), .val (.long ex), .second] [(.int (1 : Int32))])) t → Steps p.tables e below (s₁.setTop (entryFrame m #[(.int xw1), (.int xw2), (.int xq), (.int xf)] maxLocals)) t := by
            intro t k
            refine pre263 t ?_
            refine XS.lload X262.here hx rfl (hb hby at_163) rfl ?_
            show Steps p.tables e below (T262.setTop (mkF m 165 #[.val (.int xw1), .val (.int xw2), .val (.int xq), .val (.int xf), .val (.int w1), .val (.int w2), .val (.int mv), .val (.int ap), .val (.int de), .val (.int v41), .val (.ref b9), .val (.long ex), .second] [(.long ex), (.long ((((((0 : Int64) + (1 : Int64)) + (1 : Int64)) + (((0 : Int64) + (w1.toInt64)) + (w2.toInt64))) + ((0 : Int64) + (1 : Int64))) + ((0 : Int64) + (mv.toInt64))))])) _
            refine XS.lcmp X262.here hx rfl (hb hby at_165) rfl ?_
            show Steps p.tables e below (T262.setTop (mkF m 166 #[.val (.int xw1), .val (.int xw2), .val (.int xq), .val (.int xf), .val (.int w1), .val (.int w2), .val (.int mv), .val (.int ap), .val (.int de), .val (.int v41), .val (.ref b9), .val (.long ex), .second] [(.int (lcmpW ((((((0 : Int64) + (1 : Int64)) + (1 : Int64)) + (((0 : Int64) + (w1.toInt64)) + (w2.toInt64))) + ((0 : Int64) + (1 : Int64))) + ((0 : Int64) + (mv.toInt64))) ex))])) _
            refine XS.ifNo X262.here hx rfl (hb hby at_166) rfl ((if0 _ _).trans (teq ((lw_eq _ _).mpr (show ((((((0 : Int64) + (1 : Int64)) + (1 : Int64)) + (((0 : Int64) + (w1.toInt64)) + (w2.toInt64))) + ((0 : Int64) + (1 : Int64))) + ((0 : Int64) + (mv.toInt64))) = ex from by rw [hex]; exact own_7 w1 w2 mv xf ap de hap hde hc75 hc88 hc105))).2) ?_
            show Steps p.tables e below (T262.setTop (mkF m 169 #[.val (.int xw1), .val (.int xw2), .val (.int xq), .val (.int xf), .val (.int w1), .val (.int w2), .val (.int mv), .val (.int ap), .val (.int de), .val (.int v41), .val (.ref b9), .val (.long ex), .second] [])) _
            refine XS.iconst X262.here hx rfl (hb hby at_169) ?_
            show Steps p.tables e below (T262.setTop (mkF m 170 #[.val (.int xw1), .val (.int xw2), .val (.int xq), .val (.int xf), .val (.int w1), .val (.int w2), .val (.int mv), .val (.int ap), .val (.int de), .val (.int v41), .val (.ref b9), .val (.long ex), .second] [(.int (1 : Int32))])) _
            refine XS.goto X262.here hx rfl (pc0 := 170) (pc' := 174) rfl (hb hby at_170) (by decide) (by decide) ?_
            show Steps p.tables e below (T262.setTop (mkF m 174 #[.val (.int xw1), .val (.int xw2), .val (.int xq), .val (.int xf), .val (.int w1), .val (.int w2), .val (.int mv), .val (.int ap), .val (.int de), .val (.int v41), .val (.ref b9), .val (.long ex), .second] [(.int (1 : Int32))])) _
            exact k
          obtain ⟨fs, hr, hrun, hended, hW, hsame⟩ := X262.leave (v := some (.int (1 : Int32))) (fun h => by rw [Bd.returns] at h; cases h)
          refine ⟨_, _, pre264 _ ?_, hrun, hended, _, _, rfl, ?_, ⟨_, rfl⟩, hW, hsame.mono (by decide) (by decide)⟩
          · exact retN X262 hx (t := .boolean) Bd.returns (by simp) (hb hby at_174) hr
          · show Q_rm0 Z xw1 xw2 xq xf h0 n0 _ T262.heap _
            rw [e262]
            exact ⟨rfl, N262⟩
set_option maxRecDepth 65536 in
set_option maxHeartbeats 40000000 in
theorem comes_1 {Post : Tables → Env → Array Value → State → Outcome → State → Prop} (hpost : ∀ tb e args s v u, (limb_1_1.after args s (.returned v) u = true ∧ limb_1_2.after args s (.returned v) u = true ∧ True) → FrameEnd s (.returned v) u (Jvm.fieldLocs frame_1_writes args s ++ Jvm.arrayLocs frame_1_arrays args s ++ Jvm.staticLocs frame_1_statics s) 16 128 → Post tb e args s (.returned v) u) :
    ArmFor flags0 classFile x code maxLocals ret World_1 tables_1 room_1 Calls_1 rest_1 Pre_1 Post := by
  intro l hfl _ _ p e ha hc hk s m args below hf hA hF happ hP
  obtain ⟨hcalls, hrest, hpre⟩ := hP
  obtain ⟨-, -, -, hnamed, -, -, -, hat⟩ := (Spec.applies_iff hf).mp happ
  obtain ⟨hg, hn⟩ := and_e (Cond.before_iff.mp (show (Jvm.Cond.and given_1 narrow_1).before args s = true from hpre))
  obtain ⟨ga1, gb1⟩ := and_e hg
  obtain ⟨ga2, gb2⟩ := and_e gb1
  obtain ⟨ga3, gb3⟩ := and_e gb2
  obtain ⟨ga4, gb4⟩ := and_e gb3
  obtain ⟨w0, w1, w2, w3, rfl⟩ : ∃ w0 w1 w2 w3 : Value, args = #[w0, w1, w2, w3] := by
    have hs : args.size = 4 := by simpa [Cond.value, given_1] using ga1
    obtain ⟨L⟩ := args
    match L, hs with
    | [w0, w1, w2, w3], _ => exact ⟨w0, w1, w2, w3, rfl⟩
  have hw := fun d (hd : d ∈ tables_1) => atoms_spec (ws := Jvm.Cond.code x code maxLocals ret :: tables_1) hat d (List.mem_cons_of_mem _ hd)
  have hfit : Fit s := fun {y c} hc i hi => by
    obtain ⟨ha, rfl⟩ := Array.getElem?_eq_some_iff.mp hc
    have q := List.all_eq_true.mp ((Array.all_eq_true_iff_forall_mem.mp hF) _ (Array.getElem_mem ha)) i (List.mem_range.mpr hi)
    simpa [Array.getElem?_eq_getElem hi] using q
  obtain ⟨i0, ei0⟩ := is_v ga2
  obtain rfl : w0 = (.int i0) := Option.some.inj ei0
  obtain ⟨i1, ei1⟩ := is_v ga3
  obtain rfl : w1 = (.int i1) := Option.some.inj ei1
  obtain ⟨i2, ei2⟩ := is_v ga4
  obtain rfl : w2 = (.int i2) := Option.some.inj ei2
  obtain ⟨i3, ei3⟩ := is_v gb4
  obtain rfl : w3 = (.int i3) := Option.some.inj ei3
  obtain ⟨n, o, h1, h2, h3, _, L, rfl, ⟨rfl, N⟩, hq⟩ := rm0 l s _ hw tables_1 i0 i1 i2 i3 s.heap s.heap.size (Nat.le_refl _)  p e ha hc hk s m _ below hf ((Spec.applies_iff_loose hf).mp happ).1 ⟨rfl, State.Warmed39.refl s, rfl⟩ trivial
  refine ⟨n, _, h1, h2, h3, hpost _ _ _ _ _ _ ⟨Cond.after_iff.mpr rfl, Cond.after_iff.mpr (eq_i res_at (Term.int_eval (1)) rfl), trivial⟩ ⟨hq.1, hq.2.1, (hq.2.2.sift fun y hy => Or.inr (N y hy)).mono (by decide) (by decide)⟩⟩
theorem main_1_1 : Claimed_1_1 := comes_1 fun _ _ _ _ _ _ h hF => ⟨h.1, hF⟩
theorem main_1_2 : Claimed_1_2 := comes_1 fun _ _ _ _ _ _ h hF => ⟨h.2.1, hF⟩
end Jvm.Pilot.@@N@@
namespace Jvm.Pilot.@@N@@
open Jvm Jvm.ClassFile Sem Op Lib Jvm.Free Jvm.Stand Jvm.Pilot.@@N@@.Jvm.D
/-! MADE BY PROGRAM (witnessworld.py) out of the Statement's table words and the real class files: 9 classes; the members and pool entries that the words name. The judged class is class 1, her method 1. -/
namespace start1
open Jvm.ClassFile
def u (s : String) : CpInfo := .utf8 (stringToUtf16 s)
/-- a pool by its gaps: so many unusable entries, then the entry; so many at the end -/
def gap : Nat → List CpInfo → List CpInfo
  | 0, r => r
  | n + 1, r => .unusable :: gap n r
def poolList (es : List (Nat × CpInfo)) (last : Nat) : List CpInfo := es.foldr (fun e r => gap e.1 (e.2 :: r)) (gap last [])
def pool (es : List (Nat × CpInfo)) (last : Nat) : Array CpInfo := ⟨poolList es last⟩
def fileOf (pool : Array CpInfo) (this : Nat) (attrs : Array Attribute := #[]) (ms : Array MethodInfo := #[]) (fl : Nat := 33) (sup : Nat := 0) (ifs : Array Nat := #[]) (fds : Array FieldInfo := #[]) : ClassFile where
  minorVersion := 0
  majorVersion := 65
  constantPool := pool
  accessFlags := fl
  thisClass := this
  superClass := sup
  interfaces := ifs
  fields := fds
  methods := ms
  attributes := attrs
def plain (name : String) (sup : Option ClassId) : Class where
  name := name
  kind := .ordinary
  loader := none
  accessFlags := 33
  super := sup
  interfaces := #[]
  cf := none
  fields := #[]
  methods := #[]
  instanceTypes := #[]
  staticTypes := #[]
  resolved := #[]
  callSites := []
  init := .initialized
  statics := none
  mirror := none

def pool0 : Array CpInfo := pool [(5, u "<init>"), (0, u "()V"), (1, .class_ 10), (1, u "java/lang/Object")] 113

def k0c0 : Code := { maxStack := 0, maxLocals := 1, code := object_method_1_code, exceptionTable := #[], attributes := #[] }
def k0m0 : Method := { name := "<init>", desc := "()V", sig := { parameters := [], returnType := none }, accessFlags := 1, code := some k0c0 }
/-- java/lang/Object -/
def k0 : Class := { plain "java/lang/Object" none with
  accessFlags := 33
  interfaces := #[]
  cf := some (fileOf pool0 8 #[] #[{ accessFlags := 1, nameIndex := 5, descriptorIndex := 6, attributes := #[] }] 33 0 #[] #[])
  fields := #[]
  methods := #[k0m0]
  instanceTypes := #[]
  staticTypes := #[]
  resolved := Array.replicate 124 none
  statics := none }

def pool1 : Array CpInfo := pool [(2, .class_ 4), (0, .nameAndType 5 6), (0, u "java/lang/Object"), (0, u "<init>"), (0, u "()V"), (0, .integer 2147483647), (0, .class_ 9), (0, u "com/example/suitor/suitor/SolverStatistics"), (0, .methodref 8 3), (0, .methodref 8 12), (0, .nameAndType 13 14), (0, u "getSteps"), (0, u "()J"), (0, .methodref 8 16), (0, .nameAndType 17 6), (0, u "countApplication"), (0, .methodref 8 19), (0, .nameAndType 20 21), (0, u "countWalkSteps"), (0, u "(I)V"), (0, .methodref 8 23), (0, .nameAndType 24 6), (0, u "countDeletion"), (0, .methodref 8 26), (0, .nameAndType 27 6), (0, u "countPass"), (0, .methodref 8 29), (0, .nameAndType 30 21), (0, u "countQueueMoves"), (0, .class_ 32), (0, u "com/example/suitor/suitor/SolverStatisticsGetStepsPinLaw"), (2, u "law"), (0, u "(IIII)Z")] 3

def k1m0 : Method := { name := "<init>", desc := "()V", sig := { parameters := [], returnType := none }, accessFlags := 1, code := none }
def k1c1 : Code := { maxStack := 4, maxLocals := 13, code := code, exceptionTable := #[], attributes := #[] }
def k1m1 : Method := { name := "law", desc := "(IIII)Z", sig := { parameters := [.int, .int, .int, .int], returnType := some .boolean }, accessFlags := 9, code := some k1c1 }
/-- com/example/suitor/suitor/SolverStatisticsGetStepsPinLaw -/
def k1 : Class := { plain "com/example/suitor/suitor/SolverStatisticsGetStepsPinLaw" (some 0) with
  accessFlags := 49
  interfaces := #[]
  cf := some (fileOf pool1 31 #[] #[{ accessFlags := 1, nameIndex := 5, descriptorIndex := 6, attributes := #[] }, { accessFlags := 9, nameIndex := 35, descriptorIndex := 36, attributes := #[] }] 49 2 #[] #[])
  fields := #[]
  methods := #[k1m0, k1m1]
  instanceTypes := #[]
  staticTypes := #[]
  resolved := Array.replicate 40 none
  statics := none }

def pool2 : Array CpInfo := pool [(1, .methodref 2 3), (0, .class_ 4), (0, .nameAndType 5 6), (0, u "java/lang/Object"), (0, u "<init>"), (0, u "()V"), (0, .fieldref 8 9), (0, .class_ 10), (0, .nameAndType 11 12), (0, u "com/example/suitor/suitor/SolverStatistics"), (0, u "applications"), (0, u "J"), (0, .fieldref 8 14), (0, .nameAndType 15 12), (0, u "walkSteps"), (0, .fieldref 8 17), (0, .nameAndType 18 12), (0, u "deletions"), (0, .fieldref 8 20), (0, .nameAndType 21 12), (0, u "queueMoves"), (0, .fieldref 8 23), (0, .nameAndType 24 12), (0, u "passes"), (3, u "()J"), (4, u "getSteps"), (0, u "countApplication"), (0, u "countWalkSteps"), (0, u "(I)V"), (0, u "countDeletion"), (0, u "countQueueMoves"), (0, u "countPass")] 2

def k2c0 : Code := { maxStack := 1, maxLocals := 1, code := prog_35_method_1_code, exceptionTable := #[], attributes := #[] }
def k2m0 : Method := { name := "<init>", desc := "()V", sig := { parameters := [], returnType := none }, accessFlags := 1, code := some k2c0 }
def k2c1 : Code := { maxStack := 4, maxLocals := 1, code := prog_35_method_7_code, exceptionTable := #[], attributes := #[] }
def k2m1 : Method := { name := "getSteps", desc := "()J", sig := { parameters := [], returnType := some .long }, accessFlags := 1, code := some k2c1 }
def k2c2 : Code := { maxStack := 5, maxLocals := 1, code := prog_35_method_8_code, exceptionTable := #[], attributes := #[] }
def k2m2 : Method := { name := "countApplication", desc := "()V", sig := { parameters := [], returnType := none }, accessFlags := 0, code := some k2c2 }
def k2c3 : Code := { maxStack := 5, maxLocals := 2, code := prog_35_method_9_code, exceptionTable := #[], attributes := #[] }
def k2m3 : Method := { name := "countWalkSteps", desc := "(I)V", sig := { parameters := [.int], returnType := none }, accessFlags := 0, code := some k2c3 }
def k2c4 : Code := { maxStack := 5, maxLocals := 1, code := prog_35_method_10_code, exceptionTable := #[], attributes := #[] }
def k2m4 : Method := { name := "countDeletion", desc := "()V", sig := { parameters := [], returnType := none }, accessFlags := 0, code := some k2c4 }
def k2c5 : Code := { maxStack := 5, maxLocals := 2, code := prog_35_method_11_code, exceptionTable := #[], attributes := #[] }
def k2m5 : Method := { name := "countQueueMoves", desc := "(I)V", sig := { parameters := [.int], returnType := none }, accessFlags := 0, code := some k2c5 }
def k2c6 : Code := { maxStack := 5, maxLocals := 1, code := prog_35_method_12_code, exceptionTable := #[], attributes := #[] }
def k2m6 : Method := { name := "countPass", desc := "()V", sig := { parameters := [], returnType := none }, accessFlags := 0, code := some k2c6 }
/-- com/example/suitor/suitor/SolverStatistics -/
def k2 : Class := { plain "com/example/suitor/suitor/SolverStatistics" (some 0) with
  accessFlags := 33
  interfaces := #[]
  cf := some (fileOf pool2 8 #[] #[{ accessFlags := 1, nameIndex := 5, descriptorIndex := 6, attributes := #[] }, { accessFlags := 1, nameIndex := 33, descriptorIndex := 28, attributes := #[] }, { accessFlags := 0, nameIndex := 34, descriptorIndex := 6, attributes := #[] }, { accessFlags := 0, nameIndex := 35, descriptorIndex := 36, attributes := #[] }, { accessFlags := 0, nameIndex := 37, descriptorIndex := 6, attributes := #[] }, { accessFlags := 0, nameIndex := 38, descriptorIndex := 36, attributes := #[] }, { accessFlags := 0, nameIndex := 39, descriptorIndex := 6, attributes := #[] }] 33 2 #[] #[{ accessFlags := 2, nameIndex := 11, descriptorIndex := 12, attributes := #[] }, { accessFlags := 2, nameIndex := 15, descriptorIndex := 12, attributes := #[] }, { accessFlags := 2, nameIndex := 18, descriptorIndex := 12, attributes := #[] }, { accessFlags := 2, nameIndex := 21, descriptorIndex := 12, attributes := #[] }, { accessFlags := 2, nameIndex := 24, descriptorIndex := 12, attributes := #[] }])
  fields := #[{ name := "applications", type := .long, accessFlags := 2, slot := 0, constantValue := 0 }, { name := "walkSteps", type := .long, accessFlags := 2, slot := 1, constantValue := 0 }, { name := "deletions", type := .long, accessFlags := 2, slot := 2, constantValue := 0 }, { name := "queueMoves", type := .long, accessFlags := 2, slot := 3, constantValue := 0 }, { name := "passes", type := .long, accessFlags := 2, slot := 4, constantValue := 0 }]
  methods := #[k2m0, k2m1, k2m2, k2m3, k2m4, k2m5, k2m6]
  instanceTypes := #[.long, .long, .long, .long, .long]
  staticTypes := #[]
  resolved := Array.replicate 42 none
  statics := none }

def pool3 : Array CpInfo := pool [(1, u "java/lang/Cloneable"), (0, .class_ 1), (0, u "java/lang/Object"), (0, .class_ 3)] 3

/-- java/lang/Cloneable -/
def k3 : Class := { plain "java/lang/Cloneable" (some 0) with
  accessFlags := 1537
  interfaces := #[]
  cf := some (fileOf pool3 2 #[] #[] 1537 4 #[] #[])
  fields := #[]
  methods := #[]
  instanceTypes := #[]
  staticTypes := #[]
  resolved := Array.replicate 8 none
  statics := none }

def pool4 : Array CpInfo := pool [(1, u "java/io/Serializable"), (0, .class_ 1), (0, u "java/lang/Object"), (0, .class_ 3)] 3

/-- java/io/Serializable -/
def k4 : Class := { plain "java/io/Serializable" (some 0) with
  accessFlags := 1537
  interfaces := #[]
  cf := some (fileOf pool4 2 #[] #[] 1537 4 #[] #[])
  fields := #[]
  methods := #[]
  instanceTypes := #[]
  staticTypes := #[]
  resolved := Array.replicate 8 none
  statics := none }

/-- the primitive byte -/
def k5 : Class := { plain "byte" none with kind := .primitive 'B', accessFlags := 0x411 }
/-- [B -/
def k6 : Class := { plain "[B" (some 0) with kind := .array 5 .byte, interfaces := #[3, 4], accessFlags := 1041 }

/-- the primitive int -/
def k7 : Class := { plain "int" none with kind := .primitive 'I', accessFlags := 0x411 }
/-- [I -/
def k8 : Class := { plain "[I" (some 0) with kind := .array 7 .int, interfaces := #[3, 4], accessFlags := 1041 }

def heap : Heap := #[]
def classes : Array Class := #[k0, k1, k2, k3, k4, k5, k6, k7, k8]
def interned : List (Array UInt16 × Addr) := []
def slotsUsed : Nat := 0
def theMethod : MethodId := ⟨1, 1⟩
def args0 : Array Value := #[.int 5, .int 5, .int 5, .int 5]
def aboutOver (below : List Frame) : State where
  vm := { classes := classes, interned := interned.toArray }
  heap := heap
  slotsUsed := slotsUsed
  threads := #[{ frames := .invoking theMethod args0 :: below }]
def below0 : List Frame := [.native { method := ⟨0, 0⟩, args := #[] }]
def about1 : State := aboutOver below0
def p0 : Program := .bare "" "" ""
def e0 : Env := launch0.env 0 0 0
theorem w_frames : about1.frames = Frame.invoking theMethod args0 :: below0 := rfl
set_option maxRecDepth 65536 in
theorem w_args : argsFit about1.vm theMethod args0 = true := by decide +kernel
set_option maxRecDepth 65536 in
theorem w_heap : heapFits about1 = true := by decide +kernel
set_option maxRecDepth 65536 in
theorem w_runnable : about1.curStatus? = some .runnable := by decide +kernel
set_option maxRecDepth 65536 in
theorem w_alone : about1.alone = true := by decide +kernel
set_option maxRecDepth 65536 in
theorem w_named : about1.methodNamed? x = some theMethod := by decide +kernel
set_option maxRecDepth 65536 in
theorem w_hears : about1.hears theMethod below0 = true := by decide +kernel
set_option maxRecDepth 65536 in
theorem w_ripe : about1.ripe theMethod args0 below0 = true := by decide +kernel
theorem w_running : about1.status = .running := rfl
set_option maxRecDepth 65536 in
theorem w_room : about1.hasRoom e0.platform room_1 = true :=
  launch0.hasRoom_least _ room_1 (by decide +kernel) (by decide +kernel) (by decide +kernel) (by decide +kernel) (by decide +kernel) (by decide +kernel)
theorem allAtoms_all (ts : List Jvm.Cond) (a : Array Jvm.Value) (st : Jvm.State) : (allAtoms ts).before a st = ts.all (fun c => c.before a st) := by
  induction ts with
  | nil => rfl
  | cons c t ih =>
    show (Jvm.Cond.and c (allAtoms t)).before a st = _
    rw [Jvm.Cond.before_and, ih, List.all_cons]
def words1 : List Jvm.Cond := Jvm.Cond.code x code maxLocals ret :: tables_1
/-- a 'code' word, met by the world's own term for the bytes: nothing is compared byte by byte -/
theorem code_word {y : MethodName} {bytes : ByteArray} {mx : Nat} {rt : Option FieldType} {a : Array Value} {s : State} {m : MethodId} {meth : Method} {c : Code} (h1 : s.methodNamed? y = some m) (h2 : s.vm.method? m = some meth) (h3 : meth.code = some c) (h4 : c.code = bytes)
    (h5 : (c.maxLocals == mx && c.exceptionTable.isEmpty && decide (c.maxStack ≤ mostOperands) && decide (meth.sig.returnType = rt) && !meth.locks && decide (parseMethodDescriptor y.desc = some meth.sig)) = true) : (Jvm.Cond.code y bytes mx rt).before a s = true := by
  simp only [Bool.and_eq_true, beq_iff_eq, Bool.not_eq_true', decide_eq_true_eq] at h5
  obtain ⟨⟨⟨⟨⟨g1, g2⟩, g3⟩, g4⟩, g5⟩, g6⟩ := h5
  simp [Cond.before, Cond.holds, Cond.value, h1, h2, h3, h4, g1, g2, g3, g4, g5, g6]
def isCode : Jvm.Cond → Bool
  | .code _ _ _ _ => true
  | _ => false
theorem all_split {L : List Jvm.Cond} {P : Jvm.Cond → Bool} (h1 : L.all (fun c => isCode c || P c) = true) (h2 : ∀ c ∈ L.filter isCode, P c = true) : L.all P = true := by
  refine List.all_eq_true.mpr fun c hc => ?_
  have h := List.all_eq_true.mp h1 c hc
  rcases Bool.eq_false_or_eq_true (isCode c) with hi | hi
  · exact h2 c (List.mem_filter.mpr ⟨hc, hi⟩)
  · simpa [hi] using h
set_option maxRecDepth 65536 in
theorem w_c0 : (Jvm.Cond.code x code maxLocals ret).before args0 about1 = true := code_word (m := ⟨1, 1⟩) (meth := k1m1) (c := k1c1) (by decide +kernel) rfl rfl rfl (by decide +kernel)
set_option maxRecDepth 65536 in
theorem w_c1 : (Jvm.Cond.code ({ cls := "com/example/suitor/suitor/SolverStatistics", name := "<init>", desc := "()V" } : Jvm.MethodName) prog_35_method_1_code (1 : Nat) (Option.none : Option Jvm.ClassFile.FieldType)).before args0 about1 = true := code_word (m := ⟨2, 0⟩) (meth := k2m0) (c := k2c0) (by decide +kernel) rfl rfl rfl (by decide +kernel)
set_option maxRecDepth 65536 in
theorem w_c2 : (Jvm.Cond.code ({ cls := "java/lang/Object", name := "<init>", desc := "()V" } : Jvm.MethodName) object_method_1_code (1 : Nat) (Option.none : Option Jvm.ClassFile.FieldType)).before args0 about1 = true := code_word (m := ⟨0, 0⟩) (meth := k0m0) (c := k0c0) (by decide +kernel) rfl rfl rfl (by decide +kernel)
set_option maxRecDepth 65536 in
theorem w_c3 : (Jvm.Cond.code ({ cls := "com/example/suitor/suitor/SolverStatistics", name := "getSteps", desc := "()J" } : Jvm.MethodName) prog_35_method_7_code (1 : Nat) (Option.some Jvm.ClassFile.FieldType.long)).before args0 about1 = true := code_word (m := ⟨2, 1⟩) (meth := k2m1) (c := k2c1) (by decide +kernel) rfl rfl rfl (by decide +kernel)
set_option maxRecDepth 65536 in
theorem w_c4 : (Jvm.Cond.code ({ cls := "com/example/suitor/suitor/SolverStatistics", name := "countApplication", desc := "()V" } : Jvm.MethodName) prog_35_method_8_code (1 : Nat) (Option.none : Option Jvm.ClassFile.FieldType)).before args0 about1 = true := code_word (m := ⟨2, 2⟩) (meth := k2m2) (c := k2c2) (by decide +kernel) rfl rfl rfl (by decide +kernel)
set_option maxRecDepth 65536 in
theorem w_c5 : (Jvm.Cond.code ({ cls := "com/example/suitor/suitor/SolverStatistics", name := "countWalkSteps", desc := "(I)V" } : Jvm.MethodName) prog_35_method_9_code (2 : Nat) (Option.none : Option Jvm.ClassFile.FieldType)).before args0 about1 = true := code_word (m := ⟨2, 3⟩) (meth := k2m3) (c := k2c3) (by decide +kernel) rfl rfl rfl (by decide +kernel)
set_option maxRecDepth 65536 in
theorem w_c6 : (Jvm.Cond.code ({ cls := "com/example/suitor/suitor/SolverStatistics", name := "countQueueMoves", desc := "(I)V" } : Jvm.MethodName) prog_35_method_11_code (2 : Nat) (Option.none : Option Jvm.ClassFile.FieldType)).before args0 about1 = true := code_word (m := ⟨2, 5⟩) (meth := k2m5) (c := k2c5) (by decide +kernel) rfl rfl rfl (by decide +kernel)
set_option maxRecDepth 65536 in
theorem w_c7 : (Jvm.Cond.code ({ cls := "com/example/suitor/suitor/SolverStatistics", name := "countPass", desc := "()V" } : Jvm.MethodName) prog_35_method_12_code (1 : Nat) (Option.none : Option Jvm.ClassFile.FieldType)).before args0 about1 = true := code_word (m := ⟨2, 6⟩) (meth := k2m6) (c := k2c6) (by decide +kernel) rfl rfl rfl (by decide +kernel)
set_option maxRecDepth 65536 in
theorem w_c8 : (Jvm.Cond.code ({ cls := "com/example/suitor/suitor/SolverStatistics", name := "countDeletion", desc := "()V" } : Jvm.MethodName) prog_35_method_10_code (1 : Nat) (Option.none : Option Jvm.ClassFile.FieldType)).before args0 about1 = true := code_word (m := ⟨2, 4⟩) (meth := k2m4) (c := k2c4) (by decide +kernel) rfl rfl rfl (by decide +kernel)
def codes1 : List Jvm.Cond := [Jvm.Cond.code x code maxLocals ret, Jvm.Cond.code ({ cls := "com/example/suitor/suitor/SolverStatistics", name := "<init>", desc := "()V" } : Jvm.MethodName) prog_35_method_1_code (1 : Nat) (Option.none : Option Jvm.ClassFile.FieldType), Jvm.Cond.code ({ cls := "java/lang/Object", name := "<init>", desc := "()V" } : Jvm.MethodName) object_method_1_code (1 : Nat) (Option.none : Option Jvm.ClassFile.FieldType), Jvm.Cond.code ({ cls := "com/example/suitor/suitor/SolverStatistics", name := "getSteps", desc := "()J" } : Jvm.MethodName) prog_35_method_7_code (1 : Nat) (Option.some Jvm.ClassFile.FieldType.long), Jvm.Cond.code ({ cls := "com/example/suitor/suitor/SolverStatistics", name := "countApplication", desc := "()V" } : Jvm.MethodName) prog_35_method_8_code (1 : Nat) (Option.none : Option Jvm.ClassFile.FieldType), Jvm.Cond.code ({ cls := "com/example/suitor/suitor/SolverStatistics", name := "countWalkSteps", desc := "(I)V" } : Jvm.MethodName) prog_35_method_9_code (2 : Nat) (Option.none : Option Jvm.ClassFile.FieldType), Jvm.Cond.code ({ cls := "com/example/suitor/suitor/SolverStatistics", name := "countQueueMoves", desc := "(I)V" } : Jvm.MethodName) prog_35_method_11_code (2 : Nat) (Option.none : Option Jvm.ClassFile.FieldType), Jvm.Cond.code ({ cls := "com/example/suitor/suitor/SolverStatistics", name := "countPass", desc := "()V" } : Jvm.MethodName) prog_35_method_12_code (1 : Nat) (Option.none : Option Jvm.ClassFile.FieldType), Jvm.Cond.code ({ cls := "com/example/suitor/suitor/SolverStatistics", name := "countDeletion", desc := "()V" } : Jvm.MethodName) prog_35_method_10_code (1 : Nat) (Option.none : Option Jvm.ClassFile.FieldType)]
set_option maxRecDepth 65536 in
theorem codes_eq : words1.filter isCode = codes1 := rfl
theorem w_codes : ∀ c ∈ words1.filter isCode, c.before args0 about1 = true := by
  rw [codes_eq]
  intro c hc
  simp only [codes1, List.mem_cons, List.not_mem_nil, or_false] at hc
  rcases hc with rfl | rfl | rfl | rfl | rfl | rfl | rfl | rfl | rfl
  · exact w_c0
  · exact w_c1
  · exact w_c2
  · exact w_c3
  · exact w_c4
  · exact w_c5
  · exact w_c6
  · exact w_c7
  · exact w_c8
set_option maxRecDepth 65536 in
theorem w_t1 : (words1.take 24).all (fun c => isCode c || c.before args0 about1) = true := by decide +kernel
set_option maxRecDepth 65536 in
theorem w_t2 : ((words1.drop 24).take 24).all (fun c => isCode c || c.before args0 about1) = true := by decide +kernel
set_option maxRecDepth 65536 in
theorem w_t3 : ((words1.drop 24).drop 24).all (fun c => isCode c || c.before args0 about1) = true := by decide +kernel
theorem w_tables : (allAtoms (Jvm.Cond.code x code maxLocals ret :: tables_1)).before args0 about1 = true := by
  rw [allAtoms_all]
  show words1.all (fun c => c.before args0 about1) = true
  refine all_split ?_ w_codes
  rw [← List.take_append_drop 24 words1, List.all_append, w_t1, ← List.take_append_drop 24 (words1.drop 24), List.all_append, w_t2, w_t3]
  rfl
set_option maxRecDepth 65536 in
theorem w_case : (Jvm.Cond.and given_1 narrow_1).before args0 about1 = true := by decide +kernel
theorem w_applies : (headSpec (Jvm.Cond.code x code maxLocals ret :: tables_1) room_1).applies x e0.platform about1 = true :=
  (Spec.applies_iff w_frames).mpr ⟨w_running, w_runnable, w_alone, w_named, w_hears, w_ripe, w_room, w_tables⟩
theorem atStart : AtStart classFile x code maxLocals ret World_1 tables_1 room_1 Calls_1 rest_1 Pre_1 launch0 p0 e0 about1 theMethod args0 below0 :=
  ⟨lists_1, trivial, launch0.admits_env _ _ _, launch0.least_env, fairChoices_fair.cas, fairChoices_fair.clock, w_frames, w_args, w_heap, w_applies, trivial, trivial, w_case⟩
end start1
theorem witness_1 : WitnessClaimed_1 := ⟨start1.p0, start1.e0, start1.about1, start1.theMethod, start1.args0, start1.below0, start1.atStart⟩
end Jvm.Pilot.@@N@@
