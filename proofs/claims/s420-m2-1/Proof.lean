import JvmDerived
import JvmDerived.Pilot.@@N@@Statement
import JvmDerived.Pilot.@@N@@Code
set_option linter.unusedVariables false
set_option linter.unusedSimpArgs false
namespace Jvm.RoadKit
open Sem ClassFile Op Lib Jvm.Stand Jvm.Free Jvm.LawKit
section New
variable {p : Program} {l : Launch} {e : Env} {R : Room} {s : State} {m : MethodId} {args : Array Value} {below : List Frame} {meth : Method} {c : Code} {T : State} {locs : List Loc} {cells slots : Nat}
theorem retI (X : Stand p l e R s m args below meth c T locs cells slots) (hx : p.tables.exec = Jvm.exec) {pc : Nat} {Ls : Array Slot} {z : Int32} {rest : List Value} (hret : meth.sig.returnType = some .int) (hd : decode c.code pc = .ok (.ireturn, 1)) {fs : List Frame}
    (hl : ∀ (f : JFrame) (acts : List Action), f.method = m → f.locked = none → f.entered = [] → (doReturn e (T.setTop f) acts (some (.int z))).1 = T.setFrames fs) : Steps p.tables e below (T.setTop (mkF m pc Ls (.int z :: rest))) (T.setFrames fs) := by
  have hm' : T.vm.method? m = some meth := X.method'
  have hn : narrow .int (.int z) = .int z := rfl
  show Steps p.tables e below (T.setTop { method := m, pc := pc, locals := Ls, stack := _ :: rest, locked := none }) _
  jvm_step X.here [X.here.top, hx, hd, hm', hret, hn]
  first | (intro acts; rw [hl _ acts rfl rfl rfl]) | rw [hl _ _ rfl rfl rfl]
  exact Steps.refl _
end New
end Jvm.RoadKit
namespace Jvm.Pilot.@@N@@
open Jvm Jvm.ClassFile Sem Op Lib Jvm.Free Jvm.Stand Jvm.LawKit Jvm.RoadKit Bundle Jvm.Pilot.@@N@@.Jvm.D
theorem own_keep_ext {h h' : Heap} (K : Keep h h' []) : Ext h h' := ⟨K.1, fun a c q => K.2.1 a c q nin0⟩
theorem own_sta_keep {Z : State} {h h' : Heap} {C n d K : String} {a : Addr} {v : Value} (F : Sta Z h C n d v) (Kp : Keep h h' [a]) (E : Exa Z h a K) : Sta Z h' C n d v := by
  obtain ⟨cf, i, k, f, st, cell, h1, h2, h3, h4, h5, h6, h7⟩ := F
  obtain ⟨cell', k', g1, -, -, g4, -⟩ := E
  have ne : st ≠ a := by
    intro q
    subst q
    rw [h5] at g1
    cases g1
    rw [h6] at g4
    cases g4
  exact ⟨cf, i, k, f, st, cell, h1, h2, h3, h4, Kp.2.1 st cell h5 (ninS ne nin0), h6, h7⟩
theorem own_root {Z : State} {a0 : Array Value} {O K : String} {n : Nat} (w : (Cond.noSuperclass O).before a0 Z = true) (wk : (Cond.instantiable K n).before a0 Z = true) (hn : O ≠ K) : NS Z O K := by
  obtain ⟨c, k, h1, h2, h3, -, -⟩ := Cond.noSuperclass_spec w
  obtain ⟨t, k', g1, -⟩ := Cond.instantiable_spec wk
  have ne := ids_ne h1 g1 hn
  refine ⟨c, t, h1, g1, fun fuel => ?_⟩
  cases fuel with
  | zero => rfl
  | succ f => simp [Vm.isSubclassAux, ne, h2, h3]
theorem own_no {Z : State} {a0 : Array Value} {C S K : String} {n : Nat} (w : (Cond.superclass C S).before a0 Z = true) (wk : (Cond.instantiable K n).before a0 Z = true) (nn : NS Z C K) (hn : C ≠ K) : ∃ c t, Z.vm.findClass C = some c ∧ Z.vm.findClass K = some t ∧ Z.vm.assignable c t = false := by
  obtain ⟨c, t, h0, g0, n3⟩ := nn
  obtain ⟨p, k, kp, h1, h2, h3, h4, h5, -, h7⟩ := Cond.superclass_spec h0 w
  obtain ⟨t', k', g1, g2, g3, g4, -⟩ := Cond.instantiable_spec wk
  cases g0.symm.trans g1
  have ne := ids_ne h0 g0 hn
  have g5 : k'.isInterface = false := by
    cases hq : k'.isInterface with
    | false => rfl
    | true => rw [hq] at g4; simp at g4
  refine ⟨c, t, h0, g0, ?_⟩
  show Z.vm.assignableAux (255 + 1) c t = false
  simp [Vm.assignableAux, ne, h2, g2, h5, g3, g5, Vm.isSubclass, n3]
theorem own_ext_trans {h h' h'' : Heap} (E : Ext h h') (E' : Ext h' h'') : Ext h h'' := ⟨Nat.le_trans E.1 E'.1, fun a c q => E'.2 a c (E.2 a c q)⟩
theorem d1_0 : decode prog_32_method_1_code 0 = .ok (.aload_n 0, 1) := by decide +kernel
theorem d1_1 : decode prog_32_method_1_code 1 = .ok (.invokespecial 1, 3) := by decide +kernel
theorem d1_4 : decode prog_32_method_1_code 4 = .ok (.aload_n 0, 1) := by decide +kernel
theorem d1_5 : decode prog_32_method_1_code 5 = .ok (.iload_n 1, 1) := by decide +kernel
theorem d1_6 : decode prog_32_method_1_code 6 = .ok (.putfield 7, 3) := by decide +kernel
theorem d1_9 : decode prog_32_method_1_code 9 = .ok (.aload_n 0, 1) := by decide +kernel
theorem d1_10 : decode prog_32_method_1_code 10 = .ok (.iload_n 2, 1) := by decide +kernel
theorem d1_11 : decode prog_32_method_1_code 11 = .ok (.putfield 13, 3) := by decide +kernel
theorem d1_14 : decode prog_32_method_1_code 14 = .ok (.return_, 1) := by decide +kernel
theorem pn0 : plainName "com/example/suitor/suitor/Pair" = true := by first | (simp [plainName, overriddenIn]; done) | decide +kernel
theorem ef_rm_init (m : MethodId) (ra : Addr) (xa : Int32) (xb : Int32) : entryFrame m #[(.ref ra), (.int xa), (.int xb)] 3 = mkF m 0 #[.val (.ref ra), .val (.int xa), .val (.int xb)] [] := by first | (simp [entryFrame, mkF, argsToLocals, Value.category]; done) | rfl
def Q_rm_init (Z : State) (ra : Addr) (xa : Int32) (xb : Int32) (h0 : Heap) (n0 : Nat) (v : Option Value) (h : Heap) (L : List Loc) : Prop := v = none ∧ Fr n0 L ∧ Keep h0 h [ra] ∧ Exa Z h ra "com/example/suitor/suitor/Pair" ∧ Fld Z h ra "com/example/suitor/suitor/Pair" "agent" "I" (.int xa) ∧ Fld Z h ra "com/example/suitor/suitor/Pair" "partner" "I" (.int xb)
set_option maxRecDepth 65536 in
set_option maxHeartbeats 40000000 in
theorem rm_init (l : Launch) (Z : State) (a0 : Array Value) (hw : ∀ d ∈ tables_1, d.before a0 Z = true) (ws : List Jvm.Cond) (ra : Addr) (xa : Int32) (xb : Int32) (h0 : Heap) (n0 : Nat) (Z0 : n0 ≤ h0.size) (E_ra : Exa Z h0 ra "com/example/suitor/suitor/Pair") (g_ra : n0 ≤ ra) (F_agent_ra : Fld Z h0 ra "com/example/suitor/suitor/Pair" "agent" "I" (.int (0 : Int32))) (F_partner_ra : Fld Z h0 ra "com/example/suitor/suitor/Pair" "partner" "I" (.int (0 : Int32))) :
    MetFree l (⟨"com/example/suitor/suitor/Pair", "<init>", "(II)V"⟩ : MethodName) (head1 (Jvm.Cond.code (⟨"com/example/suitor/suitor/Pair", "<init>", "(II)V"⟩ : MethodName) prog_32_method_1_code 3 none :: ws) ({ frames := 1, cells := 0, slots := 0, locals := 12 } : Room)) (fun a U => a = #[(.ref ra), (.int xa), (.int xb)] ∧ Z.Warmed39 U.vm ∧ U.heap = h0) (fun _ _ _ _ _ => True) (fun _ U o U' => ∃ v L, o = .returned v ∧ Q_rm_init Z ra xa xb h0 n0 v U'.heap L ∧ FrameEnd U o U' L ({ frames := 1, cells := 0, slots := 0, locals := 12 } : Room).cells ({ frames := 1, cells := 0, slots := 0, locals := 12 } : Room).slots) := by
  refine MetFree.of_bodySF (plainFor_of_name pn0) hisR ?_
  intro p e s m args below meth c s₁ Bd hml0 hP hK
  obtain ⟨rfl, hZ, hh⟩ := hP
  have hx := Bd.exec
  have hby := Bd.bytes
  have hml : c.maxLocals = 3 := hml0
  have hown : s.vm.findClass "com/example/suitor/suitor/Pair" = some m.cls := findClass_of_methodNamed Bd.named
  have hnm := (name_of_methodNamed Bd.named Bd.method).1
  have X0 : Stand p l e ({ frames := 1, cells := 0, slots := 0, locals := 12 } : Room) s m #[(.ref ra), (.int xa), (.int xb)] below meth c s₁ [] 0 0 := Stand.of_body Bd
  have e0 : s₁.heap = h0 := by rw [← hh, Bd.state]; rfl
  have N0 := Fr.nil n0
  have pre0 : ∀ t, Steps p.tables e below (s₁.setTop (mkF m 0 #[.val (.ref ra), .val (.int xa), .val (.int xb)] [])) t → Steps p.tables e below (s₁.setTop (entryFrame m #[(.ref ra), (.int xa), (.int xb)] 3)) t := fun t k => castTop (ef_rm_init m ra xa xb) k
  have pre1 : ∀ t, Steps p.tables e below (s₁.setTop (mkF m 1 #[.val (.ref ra), .val (.int xa), .val (.int xb)] [(.ref ra)])) t → Steps p.tables e below (s₁.setTop (entryFrame m #[(.ref ra), (.int xa), (.int xb)] 3)) t := by
    intro t k
    refine pre0 t ?_
    refine XS.aloadN X0.here hx rfl (hb hby d1_0) rfl rfl ?_
    show Steps p.tables e below (s₁.setTop (mkF m 1 #[.val (.ref ra), .val (.int xa), .val (.int xb)] [(.ref ra)])) _
    exact k
  obtain ⟨T2, X2, e2, st2⟩ := initO X0 hx hZ hown (hw _ (List.mem_of_getElem? (i := 6) rfl)) (hw _ (List.mem_of_getElem? (i := 7) rfl)) (hw _ (List.mem_of_getElem? (i := 8) rfl)) e0 (g := (mkF m 1 #[.val (.ref ra), .val (.int xa), .val (.int xb)] [(.ref ra)])) rfl (by rw [hml]; rfl) rfl (hb hby d1_1) (by decide) (W := 0) (by show 2 * 0 + _ ≤ _; exact Nat.le_of_eq rfl) (by decide)
  have pre3 : ∀ t, Steps p.tables e below (T2.setTop (mkF m 4 #[.val (.ref ra), .val (.int xa), .val (.int xb)] [])) t → Steps p.tables e below (s₁.setTop (entryFrame m #[(.ref ra), (.int xa), (.int xb)] 3)) t := fun t k => pre1 t (st2 t k)
  have pre4 : ∀ t, Steps p.tables e below (T2.setTop (mkF m 6 #[.val (.ref ra), .val (.int xa), .val (.int xb)] [(.int xa), (.ref ra)])) t → Steps p.tables e below (s₁.setTop (entryFrame m #[(.ref ra), (.int xa), (.int xb)] 3)) t := by
    intro t k
    refine pre3 t ?_
    refine XS.aloadN X2.here hx rfl (hb hby d1_4) rfl rfl ?_
    show Steps p.tables e below (T2.setTop (mkF m 5 #[.val (.ref ra), .val (.int xa), .val (.int xb)] [(.ref ra)])) _
    refine XS.iloadN X2.here hx rfl (hb hby d1_5) rfl ?_
    show Steps p.tables e below (T2.setTop (mkF m 6 #[.val (.ref ra), .val (.int xa), .val (.int xb)] [(.int xa), (.ref ra)])) _
    exact k
  obtain ⟨T5, h5, X5, e5, W5, st5⟩ := putF X2 hx hZ hown (host := "") (Or.inl (hw _ (List.mem_of_getElem? (i := 9) rfl))) Via.refl e2 F_agent_ra E_ra (Or.inr ⟨(hw _ (List.mem_of_getElem? (i := 10) rfl)), rfl, hnm⟩) (hw _ (List.mem_of_getElem? (i := 1) rfl)) (ty := .int) (by decide) rfl rfl (g := (mkF m 6 #[.val (.ref ra), .val (.int xa), .val (.int xb)] [(.int xa), (.ref ra)])) rfl rfl (hb hby d1_6)
  have K5 : Keep h0 h5 [ra] := (Keep.refl h0 [ra]).wr W5 (Or.inl (by simp))
  have z5 : n0 ≤ h5.size := Nat.le_trans Z0 K5.1
  have N5 := Fr.snoc X5 N0 g_ra
  have Fw5 := F_agent_ra.same W5
  have pre6 : ∀ t, Steps p.tables e below (T5.setTop (mkF m 9 #[.val (.ref ra), .val (.int xa), .val (.int xb)] [])) t → Steps p.tables e below (s₁.setTop (entryFrame m #[(.ref ra), (.int xa), (.int xb)] 3)) t := fun t k => pre4 t (st5 t k)
  have pre7 : ∀ t, Steps p.tables e below (T5.setTop (mkF m 11 #[.val (.ref ra), .val (.int xa), .val (.int xb)] [(.int xb), (.ref ra)])) t → Steps p.tables e below (s₁.setTop (entryFrame m #[(.ref ra), (.int xa), (.int xb)] 3)) t := by
    intro t k
    refine pre6 t ?_
    refine XS.aloadN X5.here hx rfl (hb hby d1_9) rfl rfl ?_
    show Steps p.tables e below (T5.setTop (mkF m 10 #[.val (.ref ra), .val (.int xa), .val (.int xb)] [(.ref ra)])) _
    refine XS.iloadN X5.here hx rfl (hb hby d1_10) rfl ?_
    show Steps p.tables e below (T5.setTop (mkF m 11 #[.val (.ref ra), .val (.int xa), .val (.int xb)] [(.int xb), (.ref ra)])) _
    exact k
  have f8 := (E_ra.wr W5)
  have f9 := (F_partner_ra.other W5 (Or.inr (slot_ne (Or.inr (hw _ (List.mem_of_getElem? (i := 12) rfl))) (Or.inr (hw _ (List.mem_of_getElem? (i := 10) rfl))) (by decide) (t := .int) (t' := .int) (by decide) (by decide))))
  obtain ⟨T10, h10, X10, e10, W10, st10⟩ := putF X5 hx hZ hown (host := "") (Or.inl (hw _ (List.mem_of_getElem? (i := 11) rfl))) Via.refl e5 f9 f8 (Or.inr ⟨(hw _ (List.mem_of_getElem? (i := 12) rfl)), rfl, hnm⟩) (hw _ (List.mem_of_getElem? (i := 1) rfl)) (ty := .int) (by decide) rfl rfl (g := (mkF m 11 #[.val (.ref ra), .val (.int xa), .val (.int xb)] [(.int xb), (.ref ra)])) rfl rfl (hb hby d1_11)
  have K10 : Keep h0 h10 [ra] := K5.wr W10 (Or.inl (by simp))
  have z10 : n0 ≤ h10.size := Nat.le_trans Z0 K10.1
  have N10 := Fr.snoc X10 N5 g_ra
  have Fw10 := f9.same W10
  have pre11 : ∀ t, Steps p.tables e below (T10.setTop (mkF m 14 #[.val (.ref ra), .val (.int xa), .val (.int xb)] [])) t → Steps p.tables e below (s₁.setTop (entryFrame m #[(.ref ra), (.int xa), (.int xb)] 3)) t := fun t k => pre7 t (st10 t k)
  obtain ⟨fs, hr, hrun, hended, hW, hsame⟩ := X10.leave (v := none) (fun _ => rfl)
  refine ⟨_, _, pre11 _ ?_, hrun, hended, _, _, rfl, ?_, ⟨_, rfl⟩, hW, hsame.mono (by decide) (by decide)⟩
  · exact X10.returnOut hx Bd.returns (hb hby d1_14) hr
  · show Q_rm_init Z ra xa xb h0 n0 _ T10.heap _
    rw [e10]
    exact ⟨rfl, N10, K10, (f8.wr W10), (Fw5.other W10 (Or.inr (slot_ne (Or.inr (hw _ (List.mem_of_getElem? (i := 10) rfl))) (Or.inr (hw _ (List.mem_of_getElem? (i := 12) rfl))) (by decide) (t := .int) (t' := .int) (by decide) (by decide)))), Fw10⟩
theorem d3_0 : decode prog_32_method_4_code 0 = .ok (.aload_n 1, 1) := by decide +kernel
theorem d3_1 : decode prog_32_method_4_code 1 = .ok (.instanceof 8, 3) := by decide +kernel
theorem d3_4 : decode prog_32_method_4_code 4 = .ok (.ifCond .eq 34, 3) := by decide +kernel
theorem d3_38 : decode prog_32_method_4_code 38 = .ok (.iconst 0, 1) := by decide +kernel
theorem d3_39 : decode prog_32_method_4_code 39 = .ok (.ireturn, 1) := by decide +kernel
theorem ef_rm_eqN (m : MethodId) (ra : Addr) : entryFrame m #[(.ref ra), .null] 3 = mkF m 0 #[.val (.ref ra), .val .null, .unset] [] := by first | (simp [entryFrame, mkF, argsToLocals, Value.category]; done) | rfl
def Q_rm_eqN (Z : State) (ra : Addr) (h0 : Heap) (n0 : Nat) (v : Option Value) (h : Heap) (L : List Loc) : Prop := v = some (.int (0 : Int32)) ∧ Fr n0 L ∧ h = h0
set_option maxRecDepth 65536 in
set_option maxHeartbeats 40000000 in
theorem rm_eqN (l : Launch) (Z : State) (a0 : Array Value) (hw : ∀ d ∈ tables_1, d.before a0 Z = true) (ws : List Jvm.Cond) (ra : Addr) (h0 : Heap) (n0 : Nat) (Z0 : n0 ≤ h0.size) :
    MetFree l (⟨"com/example/suitor/suitor/Pair", "equals", "(Ljava/lang/Object;)Z"⟩ : MethodName) (head1 (Jvm.Cond.code (⟨"com/example/suitor/suitor/Pair", "equals", "(Ljava/lang/Object;)Z"⟩ : MethodName) prog_32_method_4_code 3 (some .boolean) :: ws) ({ frames := 0, cells := 0, slots := 0, locals := 0 } : Room)) (fun a U => a = #[(.ref ra), .null] ∧ Z.Warmed39 U.vm ∧ U.heap = h0) (fun _ _ _ _ _ => True) (fun _ U o U' => ∃ v L, o = .returned v ∧ Q_rm_eqN Z ra h0 n0 v U'.heap L ∧ FrameEnd U o U' L ({ frames := 0, cells := 0, slots := 0, locals := 0 } : Room).cells ({ frames := 0, cells := 0, slots := 0, locals := 0 } : Room).slots) := by
  refine MetFree.of_bodySF (plainFor_of_name pn0) hisR ?_
  intro p e s m args below meth c s₁ Bd hml0 hP hK
  obtain ⟨rfl, hZ, hh⟩ := hP
  have hx := Bd.exec
  have hby := Bd.bytes
  have hml : c.maxLocals = 3 := hml0
  have hown : s.vm.findClass "com/example/suitor/suitor/Pair" = some m.cls := findClass_of_methodNamed Bd.named
  have hnm := (name_of_methodNamed Bd.named Bd.method).1
  have X0 : Stand p l e ({ frames := 0, cells := 0, slots := 0, locals := 0 } : Room) s m #[(.ref ra), .null] below meth c s₁ [] 0 0 := Stand.of_body Bd
  have e0 : s₁.heap = h0 := by rw [← hh, Bd.state]; rfl
  have N0 := Fr.nil n0
  have pre0 : ∀ t, Steps p.tables e below (s₁.setTop (mkF m 0 #[.val (.ref ra), .val .null, .unset] [])) t → Steps p.tables e below (s₁.setTop (entryFrame m #[(.ref ra), .null] 3)) t := fun t k => castTop (ef_rm_eqN m ra) k
  have pre1 : ∀ t, Steps p.tables e below (s₁.setTop (mkF m 1 #[.val (.ref ra), .val .null, .unset] [.null])) t → Steps p.tables e below (s₁.setTop (entryFrame m #[(.ref ra), .null] 3)) t := by
    intro t k
    refine pre0 t ?_
    refine XS.aloadN X0.here hx rfl (hb hby d3_0) rfl rfl ?_
    show Steps p.tables e below (s₁.setTop (mkF m 1 #[.val (.ref ra), .val .null, .unset] [.null])) _
    exact k
  have pre2 : ∀ t, Steps p.tables e below (s₁.setTop (mkF m 39 #[.val (.ref ra), .val .null, .unset] [(.int (0 : Int32))])) t → Steps p.tables e below (s₁.setTop (entryFrame m #[(.ref ra), .null] 3)) t := by
    intro t k
    refine pre1 t ?_
    refine X0.instanceofNull hx (g := (mkF m 1 #[.val (.ref ra), .val .null, .unset] [.null])) rfl rfl (hb hby d3_1) _ ?_
    show Steps p.tables e below (s₁.setTop (mkF m 4 #[.val (.ref ra), .val .null, .unset] [(.int (0 : Int32))])) _
    refine XS.ifYes X0.here hx rfl (pc0 := 4) (pc' := 38) rfl (hb hby d3_4) rfl ((if0 _ _).trans (teq (show (0 : Int32) = (0 : Int32) from rfl)).1) (by decide) (by decide) ?_
    show Steps p.tables e below (s₁.setTop (mkF m 38 #[.val (.ref ra), .val .null, .unset] [])) _
    refine XS.iconst X0.here hx rfl (hb hby d3_38) ?_
    show Steps p.tables e below (s₁.setTop (mkF m 39 #[.val (.ref ra), .val .null, .unset] [(.int (0 : Int32))])) _
    exact k
  obtain ⟨fs, hr, hrun, hended, hW, hsame⟩ := X0.leave (v := some (.int (0 : Int32))) (fun h => by rw [Bd.returns] at h; cases h)
  refine ⟨_, _, pre2 _ ?_, hrun, hended, _, _, rfl, ?_, ⟨_, rfl⟩, hW, hsame.mono (by decide) (by decide)⟩
  · exact retN X0 hx (t := .boolean) Bd.returns (by simp) (hb hby d3_39) hr
  · show Q_rm_eqN Z ra h0 n0 _ s₁.heap _
    rw [e0]
    exact ⟨rfl, N0, rfl⟩
theorem ef_rm_eqS (m : MethodId) (ra : Addr) (rb : Addr) : entryFrame m #[(.ref ra), (.ref rb)] 3 = mkF m 0 #[.val (.ref ra), .val (.ref rb), .unset] [] := by first | (simp [entryFrame, mkF, argsToLocals, Value.category]; done) | rfl
def Q_rm_eqS (Z : State) (ra : Addr) (rb : Addr) (h0 : Heap) (n0 : Nat) (v : Option Value) (h : Heap) (L : List Loc) : Prop := v = some (.int (0 : Int32)) ∧ Fr n0 L ∧ h = h0
set_option maxRecDepth 65536 in
set_option maxHeartbeats 40000000 in
theorem rm_eqS (l : Launch) (Z : State) (a0 : Array Value) (hw : ∀ d ∈ tables_1, d.before a0 Z = true) (ws : List Jvm.Cond) (ra : Addr) (rb : Addr) (h0 : Heap) (n0 : Nat) (Z0 : n0 ≤ h0.size) (E1 : Exa Z h0 rb "java/lang/String") :
    MetFree l (⟨"com/example/suitor/suitor/Pair", "equals", "(Ljava/lang/Object;)Z"⟩ : MethodName) (head1 (Jvm.Cond.code (⟨"com/example/suitor/suitor/Pair", "equals", "(Ljava/lang/Object;)Z"⟩ : MethodName) prog_32_method_4_code 3 (some .boolean) :: ws) ({ frames := 0, cells := 0, slots := 0, locals := 0 } : Room)) (fun a U => a = #[(.ref ra), (.ref rb)] ∧ Z.Warmed39 U.vm ∧ U.heap = h0) (fun _ _ _ _ _ => True) (fun _ U o U' => ∃ v L, o = .returned v ∧ Q_rm_eqS Z ra rb h0 n0 v U'.heap L ∧ FrameEnd U o U' L ({ frames := 0, cells := 0, slots := 0, locals := 0 } : Room).cells ({ frames := 0, cells := 0, slots := 0, locals := 0 } : Room).slots) := by
  refine MetFree.of_bodySF (plainFor_of_name pn0) hisR ?_
  intro p e s m args below meth c s₁ Bd hml0 hP hK
  obtain ⟨rfl, hZ, hh⟩ := hP
  have hx := Bd.exec
  have hby := Bd.bytes
  have hml : c.maxLocals = 3 := hml0
  have hown : s.vm.findClass "com/example/suitor/suitor/Pair" = some m.cls := findClass_of_methodNamed Bd.named
  have hnm := (name_of_methodNamed Bd.named Bd.method).1
  have X0 : Stand p l e ({ frames := 0, cells := 0, slots := 0, locals := 0 } : Room) s m #[(.ref ra), (.ref rb)] below meth c s₁ [] 0 0 := Stand.of_body Bd
  have e0 : s₁.heap = h0 := by rw [← hh, Bd.state]; rfl
  have N0 := Fr.nil n0
  have pre0 : ∀ t, Steps p.tables e below (s₁.setTop (mkF m 0 #[.val (.ref ra), .val (.ref rb), .unset] [])) t → Steps p.tables e below (s₁.setTop (entryFrame m #[(.ref ra), (.ref rb)] 3)) t := fun t k => castTop (ef_rm_eqS m ra rb) k
  have pre1 : ∀ t, Steps p.tables e below (s₁.setTop (mkF m 1 #[.val (.ref ra), .val (.ref rb), .unset] [(.ref rb)])) t → Steps p.tables e below (s₁.setTop (entryFrame m #[(.ref ra), (.ref rb)] 3)) t := by
    intro t k
    refine pre0 t ?_
    refine XS.aloadN X0.here hx rfl (hb hby d3_0) rfl rfl ?_
    show Steps p.tables e below (s₁.setTop (mkF m 1 #[.val (.ref ra), .val (.ref rb), .unset] [(.ref rb)])) _
    exact k
  obtain ⟨T2, X2, e2, st2⟩ := instNo X0 hx hZ hown (hw _ (List.mem_of_getElem? (i := 18) rfl)) e0 E1 (own_no (hw _ (List.mem_of_getElem? (i := 44) rfl)) (hw _ (List.mem_of_getElem? (i := 1) rfl)) (NS.step (hw _ (List.mem_of_getElem? (i := 44) rfl)) (own_root (hw _ (List.mem_of_getElem? (i := 45) rfl)) (hw _ (List.mem_of_getElem? (i := 1) rfl)) (by decide)) (by decide)) (by decide)) (g := (mkF m 1 #[.val (.ref ra), .val (.ref rb), .unset] [(.ref rb)])) rfl rfl (hb hby d3_1)
  have pre3 : ∀ t, Steps p.tables e below (T2.setTop (mkF m 4 #[.val (.ref ra), .val (.ref rb), .unset] [(.int (0 : Int32))])) t → Steps p.tables e below (s₁.setTop (entryFrame m #[(.ref ra), (.ref rb)] 3)) t := fun t k => pre1 t (st2 t k)
  have pre4 : ∀ t, Steps p.tables e below (T2.setTop (mkF m 39 #[.val (.ref ra), .val (.ref rb), .unset] [(.int (0 : Int32))])) t → Steps p.tables e below (s₁.setTop (entryFrame m #[(.ref ra), (.ref rb)] 3)) t := by
    intro t k
    refine pre3 t ?_
    refine XS.ifYes X2.here hx rfl (pc0 := 4) (pc' := 38) rfl (hb hby d3_4) rfl ((if0 _ _).trans (teq (show (0 : Int32) = (0 : Int32) from rfl)).1) (by decide) (by decide) ?_
    show Steps p.tables e below (T2.setTop (mkF m 38 #[.val (.ref ra), .val (.ref rb), .unset] [])) _
    refine XS.iconst X2.here hx rfl (hb hby d3_38) ?_
    show Steps p.tables e below (T2.setTop (mkF m 39 #[.val (.ref ra), .val (.ref rb), .unset] [(.int (0 : Int32))])) _
    exact k
  obtain ⟨fs, hr, hrun, hended, hW, hsame⟩ := X2.leave (v := some (.int (0 : Int32))) (fun h => by rw [Bd.returns] at h; cases h)
  refine ⟨_, _, pre4 _ ?_, hrun, hended, _, _, rfl, ?_, ⟨_, rfl⟩, hW, hsame.mono (by decide) (by decide)⟩
  · exact retN X2 hx (t := .boolean) Bd.returns (by simp) (hb hby d3_39) hr
  · show Q_rm_eqS Z ra rb h0 n0 _ T2.heap _
    rw [e2]
    exact ⟨rfl, N0, rfl⟩
theorem ef_rm_eqI (m : MethodId) (ra : Addr) (rb : Addr) : entryFrame m #[(.ref ra), (.ref rb)] 3 = mkF m 0 #[.val (.ref ra), .val (.ref rb), .unset] [] := by first | (simp [entryFrame, mkF, argsToLocals, Value.category]; done) | rfl
def Q_rm_eqI (Z : State) (ra : Addr) (rb : Addr) (h0 : Heap) (n0 : Nat) (v : Option Value) (h : Heap) (L : List Loc) : Prop := v = some (.int (0 : Int32)) ∧ Fr n0 L ∧ h = h0
set_option maxRecDepth 65536 in
set_option maxHeartbeats 40000000 in
theorem rm_eqI (l : Launch) (Z : State) (a0 : Array Value) (hw : ∀ d ∈ tables_1, d.before a0 Z = true) (ws : List Jvm.Cond) (ra : Addr) (rb : Addr) (h0 : Heap) (n0 : Nat) (Z0 : n0 ≤ h0.size) (E1 : Exa Z h0 rb "java/lang/Integer") :
    MetFree l (⟨"com/example/suitor/suitor/Pair", "equals", "(Ljava/lang/Object;)Z"⟩ : MethodName) (head1 (Jvm.Cond.code (⟨"com/example/suitor/suitor/Pair", "equals", "(Ljava/lang/Object;)Z"⟩ : MethodName) prog_32_method_4_code 3 (some .boolean) :: ws) ({ frames := 0, cells := 0, slots := 0, locals := 0 } : Room)) (fun a U => a = #[(.ref ra), (.ref rb)] ∧ Z.Warmed39 U.vm ∧ U.heap = h0) (fun _ _ _ _ _ => True) (fun _ U o U' => ∃ v L, o = .returned v ∧ Q_rm_eqI Z ra rb h0 n0 v U'.heap L ∧ FrameEnd U o U' L ({ frames := 0, cells := 0, slots := 0, locals := 0 } : Room).cells ({ frames := 0, cells := 0, slots := 0, locals := 0 } : Room).slots) := by
  refine MetFree.of_bodySF (plainFor_of_name pn0) hisR ?_
  intro p e s m args below meth c s₁ Bd hml0 hP hK
  obtain ⟨rfl, hZ, hh⟩ := hP
  have hx := Bd.exec
  have hby := Bd.bytes
  have hml : c.maxLocals = 3 := hml0
  have hown : s.vm.findClass "com/example/suitor/suitor/Pair" = some m.cls := findClass_of_methodNamed Bd.named
  have hnm := (name_of_methodNamed Bd.named Bd.method).1
  have X0 : Stand p l e ({ frames := 0, cells := 0, slots := 0, locals := 0 } : Room) s m #[(.ref ra), (.ref rb)] below meth c s₁ [] 0 0 := Stand.of_body Bd
  have e0 : s₁.heap = h0 := by rw [← hh, Bd.state]; rfl
  have N0 := Fr.nil n0
  have pre0 : ∀ t, Steps p.tables e below (s₁.setTop (mkF m 0 #[.val (.ref ra), .val (.ref rb), .unset] [])) t → Steps p.tables e below (s₁.setTop (entryFrame m #[(.ref ra), (.ref rb)] 3)) t := fun t k => castTop (ef_rm_eqI m ra rb) k
  have pre1 : ∀ t, Steps p.tables e below (s₁.setTop (mkF m 1 #[.val (.ref ra), .val (.ref rb), .unset] [(.ref rb)])) t → Steps p.tables e below (s₁.setTop (entryFrame m #[(.ref ra), (.ref rb)] 3)) t := by
    intro t k
    refine pre0 t ?_
    refine XS.aloadN X0.here hx rfl (hb hby d3_0) rfl rfl ?_
    show Steps p.tables e below (s₁.setTop (mkF m 1 #[.val (.ref ra), .val (.ref rb), .unset] [(.ref rb)])) _
    exact k
  obtain ⟨T2, X2, e2, st2⟩ := instNo X0 hx hZ hown (hw _ (List.mem_of_getElem? (i := 18) rfl)) e0 E1 (own_no (hw _ (List.mem_of_getElem? (i := 67) rfl)) (hw _ (List.mem_of_getElem? (i := 1) rfl)) (NS.step (hw _ (List.mem_of_getElem? (i := 67) rfl)) (NS.step (hw _ (List.mem_of_getElem? (i := 68) rfl)) (own_root (hw _ (List.mem_of_getElem? (i := 45) rfl)) (hw _ (List.mem_of_getElem? (i := 1) rfl)) (by decide)) (by decide)) (by decide)) (by decide)) (g := (mkF m 1 #[.val (.ref ra), .val (.ref rb), .unset] [(.ref rb)])) rfl rfl (hb hby d3_1)
  have pre3 : ∀ t, Steps p.tables e below (T2.setTop (mkF m 4 #[.val (.ref ra), .val (.ref rb), .unset] [(.int (0 : Int32))])) t → Steps p.tables e below (s₁.setTop (entryFrame m #[(.ref ra), (.ref rb)] 3)) t := fun t k => pre1 t (st2 t k)
  have pre4 : ∀ t, Steps p.tables e below (T2.setTop (mkF m 39 #[.val (.ref ra), .val (.ref rb), .unset] [(.int (0 : Int32))])) t → Steps p.tables e below (s₁.setTop (entryFrame m #[(.ref ra), (.ref rb)] 3)) t := by
    intro t k
    refine pre3 t ?_
    refine XS.ifYes X2.here hx rfl (pc0 := 4) (pc' := 38) rfl (hb hby d3_4) rfl ((if0 _ _).trans (teq (show (0 : Int32) = (0 : Int32) from rfl)).1) (by decide) (by decide) ?_
    show Steps p.tables e below (T2.setTop (mkF m 38 #[.val (.ref ra), .val (.ref rb), .unset] [])) _
    refine XS.iconst X2.here hx rfl (hb hby d3_38) ?_
    show Steps p.tables e below (T2.setTop (mkF m 39 #[.val (.ref ra), .val (.ref rb), .unset] [(.int (0 : Int32))])) _
    exact k
  obtain ⟨fs, hr, hrun, hended, hW, hsame⟩ := X2.leave (v := some (.int (0 : Int32))) (fun h => by rw [Bd.returns] at h; cases h)
  refine ⟨_, _, pre4 _ ?_, hrun, hended, _, _, rfl, ?_, ⟨_, rfl⟩, hW, hsame.mono (by decide) (by decide)⟩
  · exact retN X2 hx (t := .boolean) Bd.returns (by simp) (hb hby d3_39) hr
  · show Q_rm_eqI Z ra rb h0 n0 _ T2.heap _
    rw [e2]
    exact ⟨rfl, N0, rfl⟩
theorem d3_7 : decode prog_32_method_4_code 7 = .ok (.aload_n 1, 1) := by decide +kernel
theorem d3_8 : decode prog_32_method_4_code 8 = .ok (.checkcast 8, 3) := by decide +kernel
theorem d3_11 : decode prog_32_method_4_code 11 = .ok (.astore_n 2, 1) := by decide +kernel
theorem d3_12 : decode prog_32_method_4_code 12 = .ok (.aload_n 0, 1) := by decide +kernel
theorem d3_13 : decode prog_32_method_4_code 13 = .ok (.getfield 7, 3) := by decide +kernel
theorem d3_16 : decode prog_32_method_4_code 16 = .ok (.aload_n 2, 1) := by decide +kernel
theorem d3_17 : decode prog_32_method_4_code 17 = .ok (.getfield 7, 3) := by decide +kernel
theorem d3_20 : decode prog_32_method_4_code 20 = .ok (.if_icmp .ne 18, 3) := by decide +kernel
theorem d3_23 : decode prog_32_method_4_code 23 = .ok (.aload_n 0, 1) := by decide +kernel
theorem d3_24 : decode prog_32_method_4_code 24 = .ok (.getfield 13, 3) := by decide +kernel
theorem d3_27 : decode prog_32_method_4_code 27 = .ok (.aload_n 2, 1) := by decide +kernel
theorem d3_28 : decode prog_32_method_4_code 28 = .ok (.getfield 13, 3) := by decide +kernel
theorem d3_31 : decode prog_32_method_4_code 31 = .ok (.if_icmp .ne 7, 3) := by decide +kernel
theorem d3_34 : decode prog_32_method_4_code 34 = .ok (.iconst 1, 1) := by decide +kernel
theorem d3_35 : decode prog_32_method_4_code 35 = .ok (.goto 4, 3) := by decide +kernel
def F_rm_eqP (xa : Int32) (xb : Int32) (xc : Int32) (xd : Int32) : Int32 := (if xa = xc then (if xb = xd then (1 : Int32) else (0 : Int32)) else (0 : Int32))
theorem ef_rm_eqP (m : MethodId) (ra : Addr) (rb : Addr) : entryFrame m #[(.ref ra), (.ref rb)] 3 = mkF m 0 #[.val (.ref ra), .val (.ref rb), .unset] [] := by first | (simp [entryFrame, mkF, argsToLocals, Value.category]; done) | rfl
def Q_rm_eqP (Z : State) (ra : Addr) (rb : Addr) (xa : Int32) (xb : Int32) (xc : Int32) (xd : Int32) (h0 : Heap) (n0 : Nat) (v : Option Value) (h : Heap) (L : List Loc) : Prop := v = some (.int (F_rm_eqP xa xb xc xd)) ∧ Fr n0 L ∧ h = h0
set_option maxRecDepth 65536 in
set_option maxHeartbeats 40000000 in
theorem rm_eqP (l : Launch) (Z : State) (a0 : Array Value) (hw : ∀ d ∈ tables_1, d.before a0 Z = true) (ws : List Jvm.Cond) (ra : Addr) (rb : Addr) (xa : Int32) (xb : Int32) (xc : Int32) (xd : Int32) (h0 : Heap) (n0 : Nat) (Z0 : n0 ≤ h0.size) (E1 : Exa Z h0 rb "com/example/suitor/suitor/Pair") (F1 : Fld Z h0 ra "com/example/suitor/suitor/Pair" "agent" "I" (.int xa)) (F2 : Fld Z h0 ra "com/example/suitor/suitor/Pair" "partner" "I" (.int xb)) (F3 : Fld Z h0 rb "com/example/suitor/suitor/Pair" "agent" "I" (.int xc)) (F4 : Fld Z h0 rb "com/example/suitor/suitor/Pair" "partner" "I" (.int xd)) :
    MetFree l (⟨"com/example/suitor/suitor/Pair", "equals", "(Ljava/lang/Object;)Z"⟩ : MethodName) (head1 (Jvm.Cond.code (⟨"com/example/suitor/suitor/Pair", "equals", "(Ljava/lang/Object;)Z"⟩ : MethodName) prog_32_method_4_code 3 (some .boolean) :: ws) ({ frames := 0, cells := 0, slots := 0, locals := 0 } : Room)) (fun a U => a = #[(.ref ra), (.ref rb)] ∧ Z.Warmed39 U.vm ∧ U.heap = h0) (fun _ _ _ _ _ => True) (fun _ U o U' => ∃ v L, o = .returned v ∧ Q_rm_eqP Z ra rb xa xb xc xd h0 n0 v U'.heap L ∧ FrameEnd U o U' L ({ frames := 0, cells := 0, slots := 0, locals := 0 } : Room).cells ({ frames := 0, cells := 0, slots := 0, locals := 0 } : Room).slots) := by
  refine MetFree.of_bodySF (plainFor_of_name pn0) hisR ?_
  intro p e s m args below meth c s₁ Bd hml0 hP hK
  obtain ⟨rfl, hZ, hh⟩ := hP
  have hx := Bd.exec
  have hby := Bd.bytes
  have hml : c.maxLocals = 3 := hml0
  have hown : s.vm.findClass "com/example/suitor/suitor/Pair" = some m.cls := findClass_of_methodNamed Bd.named
  have hnm := (name_of_methodNamed Bd.named Bd.method).1
  have X0 : Stand p l e ({ frames := 0, cells := 0, slots := 0, locals := 0 } : Room) s m #[(.ref ra), (.ref rb)] below meth c s₁ [] 0 0 := Stand.of_body Bd
  have e0 : s₁.heap = h0 := by rw [← hh, Bd.state]; rfl
  have N0 := Fr.nil n0
  have pre0 : ∀ t, Steps p.tables e below (s₁.setTop (mkF m 0 #[.val (.ref ra), .val (.ref rb), .unset] [])) t → Steps p.tables e below (s₁.setTop (entryFrame m #[(.ref ra), (.ref rb)] 3)) t := fun t k => castTop (ef_rm_eqP m ra rb) k
  have pre1 : ∀ t, Steps p.tables e below (s₁.setTop (mkF m 1 #[.val (.ref ra), .val (.ref rb), .unset] [(.ref rb)])) t → Steps p.tables e below (s₁.setTop (entryFrame m #[(.ref ra), (.ref rb)] 3)) t := by
    intro t k
    refine pre0 t ?_
    refine XS.aloadN X0.here hx rfl (hb hby d3_0) rfl rfl ?_
    show Steps p.tables e below (s₁.setTop (mkF m 1 #[.val (.ref ra), .val (.ref rb), .unset] [(.ref rb)])) _
    exact k
  obtain ⟨T2, X2, e2, st2⟩ := instY X0 hx hZ hown (hw _ (List.mem_of_getElem? (i := 18) rfl)) e0 (Ins.self E1) (g := (mkF m 1 #[.val (.ref ra), .val (.ref rb), .unset] [(.ref rb)])) rfl rfl (hb hby d3_1)
  have pre3 : ∀ t, Steps p.tables e below (T2.setTop (mkF m 4 #[.val (.ref ra), .val (.ref rb), .unset] [(.int (1 : Int32))])) t → Steps p.tables e below (s₁.setTop (entryFrame m #[(.ref ra), (.ref rb)] 3)) t := fun t k => pre1 t (st2 t k)
  have pre4 : ∀ t, Steps p.tables e below (T2.setTop (mkF m 8 #[.val (.ref ra), .val (.ref rb), .unset] [(.ref rb)])) t → Steps p.tables e below (s₁.setTop (entryFrame m #[(.ref ra), (.ref rb)] 3)) t := by
    intro t k
    refine pre3 t ?_
    refine XS.ifNo X2.here hx rfl (hb hby d3_4) rfl ((if0 _ _).trans (feq (show ¬ ((1 : Int32) = (0 : Int32)) from by decide)).1) ?_
    show Steps p.tables e below (T2.setTop (mkF m 7 #[.val (.ref ra), .val (.ref rb), .unset] [])) _
    refine XS.aloadN X2.here hx rfl (hb hby d3_7) rfl rfl ?_
    show Steps p.tables e below (T2.setTop (mkF m 8 #[.val (.ref ra), .val (.ref rb), .unset] [(.ref rb)])) _
    exact k
  obtain ⟨T5, X5, e5, st5⟩ := castY X2 hx hZ hown (hw _ (List.mem_of_getElem? (i := 18) rfl)) e2 (Ins.self E1) (g := (mkF m 8 #[.val (.ref ra), .val (.ref rb), .unset] [(.ref rb)])) rfl rfl (hb hby d3_8)
  have pre6 : ∀ t, Steps p.tables e below (T5.setTop (mkF m 11 #[.val (.ref ra), .val (.ref rb), .unset] [(.ref rb)])) t → Steps p.tables e below (s₁.setTop (entryFrame m #[(.ref ra), (.ref rb)] 3)) t := fun t k => pre4 t (st5 t k)
  have pre7 : ∀ t, Steps p.tables e below (T5.setTop (mkF m 13 #[.val (.ref ra), .val (.ref rb), .val (.ref rb)] [(.ref ra)])) t → Steps p.tables e below (s₁.setTop (entryFrame m #[(.ref ra), (.ref rb)] 3)) t := by
    intro t k
    refine pre6 t ?_
    refine XS.astoreN X5.here hx rfl (hb hby d3_11) rfl rfl (l' := #[.val (.ref ra), .val (.ref rb), .val (.ref rb)]) rfl ?_
    show Steps p.tables e below (T5.setTop (mkF m 12 #[.val (.ref ra), .val (.ref rb), .val (.ref rb)] [])) _
    refine XS.aloadN X5.here hx rfl (hb hby d3_12) rfl rfl ?_
    show Steps p.tables e below (T5.setTop (mkF m 13 #[.val (.ref ra), .val (.ref rb), .val (.ref rb)] [(.ref ra)])) _
    exact k
  obtain ⟨T8, X8, e8, st8⟩ := getF X5 hx hZ hown (host := "") (Or.inl (hw _ (List.mem_of_getElem? (i := 9) rfl))) Via.refl e5 F1 (g := (mkF m 13 #[.val (.ref ra), .val (.ref rb), .val (.ref rb)] [(.ref ra)])) rfl rfl (hb hby d3_13)
  have pre9 : ∀ t, Steps p.tables e below (T8.setTop (mkF m 16 #[.val (.ref ra), .val (.ref rb), .val (.ref rb)] [(.int xa)])) t → Steps p.tables e below (s₁.setTop (entryFrame m #[(.ref ra), (.ref rb)] 3)) t := fun t k => pre7 t (st8 t k)
  have pre10 : ∀ t, Steps p.tables e below (T8.setTop (mkF m 17 #[.val (.ref ra), .val (.ref rb), .val (.ref rb)] [(.ref rb), (.int xa)])) t → Steps p.tables e below (s₁.setTop (entryFrame m #[(.ref ra), (.ref rb)] 3)) t := by
    intro t k
    refine pre9 t ?_
    refine XS.aloadN X8.here hx rfl (hb hby d3_16) rfl rfl ?_
    show Steps p.tables e below (T8.setTop (mkF m 17 #[.val (.ref ra), .val (.ref rb), .val (.ref rb)] [(.ref rb), (.int xa)])) _
    exact k
  obtain ⟨T11, X11, e11, st11⟩ := getF X8 hx hZ hown (host := "") (Or.inl (hw _ (List.mem_of_getElem? (i := 9) rfl))) Via.refl e8 F3 (g := (mkF m 17 #[.val (.ref ra), .val (.ref rb), .val (.ref rb)] [(.ref rb), (.int xa)])) rfl rfl (hb hby d3_17)
  have pre12 : ∀ t, Steps p.tables e below (T11.setTop (mkF m 20 #[.val (.ref ra), .val (.ref rb), .val (.ref rb)] [(.int xc), (.int xa)])) t → Steps p.tables e below (s₁.setTop (entryFrame m #[(.ref ra), (.ref rb)] 3)) t := fun t k => pre10 t (st11 t k)
  by_cases hc20 : xa = xc
  · have pre13 : ∀ t, Steps p.tables e below (T11.setTop (mkF m 24 #[.val (.ref ra), .val (.ref rb), .val (.ref rb)] [(.ref ra)])) t → Steps p.tables e below (s₁.setTop (entryFrame m #[(.ref ra), (.ref rb)] 3)) t := by
      intro t k
      refine pre12 t ?_
      refine XS.icmpNo X11.here hx rfl (hb hby d3_20) rfl (teq hc20).2 ?_
      show Steps p.tables e below (T11.setTop (mkF m 23 #[.val (.ref ra), .val (.ref rb), .val (.ref rb)] [])) _
      refine XS.aloadN X11.here hx rfl (hb hby d3_23) rfl rfl ?_
      show Steps p.tables e below (T11.setTop (mkF m 24 #[.val (.ref ra), .val (.ref rb), .val (.ref rb)] [(.ref ra)])) _
      exact k
    obtain ⟨T14, X14, e14, st14⟩ := getF X11 hx hZ hown (host := "") (Or.inl (hw _ (List.mem_of_getElem? (i := 11) rfl))) Via.refl e11 F2 (g := (mkF m 24 #[.val (.ref ra), .val (.ref rb), .val (.ref rb)] [(.ref ra)])) rfl rfl (hb hby d3_24)
    have pre15 : ∀ t, Steps p.tables e below (T14.setTop (mkF m 27 #[.val (.ref ra), .val (.ref rb), .val (.ref rb)] [(.int xb)])) t → Steps p.tables e below (s₁.setTop (entryFrame m #[(.ref ra), (.ref rb)] 3)) t := fun t k => pre13 t (st14 t k)
    have pre16 : ∀ t, Steps p.tables e below (T14.setTop (mkF m 28 #[.val (.ref ra), .val (.ref rb), .val (.ref rb)] [(.ref rb), (.int xb)])) t → Steps p.tables e below (s₁.setTop (entryFrame m #[(.ref ra), (.ref rb)] 3)) t := by
      intro t k
      refine pre15 t ?_
      refine XS.aloadN X14.here hx rfl (hb hby d3_27) rfl rfl ?_
      show Steps p.tables e below (T14.setTop (mkF m 28 #[.val (.ref ra), .val (.ref rb), .val (.ref rb)] [(.ref rb), (.int xb)])) _
      exact k
    obtain ⟨T17, X17, e17, st17⟩ := getF X14 hx hZ hown (host := "") (Or.inl (hw _ (List.mem_of_getElem? (i := 11) rfl))) Via.refl e14 F4 (g := (mkF m 28 #[.val (.ref ra), .val (.ref rb), .val (.ref rb)] [(.ref rb), (.int xb)])) rfl rfl (hb hby d3_28)
    have pre18 : ∀ t, Steps p.tables e below (T17.setTop (mkF m 31 #[.val (.ref ra), .val (.ref rb), .val (.ref rb)] [(.int xd), (.int xb)])) t → Steps p.tables e below (s₁.setTop (entryFrame m #[(.ref ra), (.ref rb)] 3)) t := fun t k => pre16 t (st17 t k)
    by_cases hc31 : xb = xd
    · have pre19 : ∀ t, Steps p.tables e below (T17.setTop (mkF m 39 #[.val (.ref ra), .val (.ref rb), .val (.ref rb)] [(.int (1 : Int32))])) t → Steps p.tables e below (s₁.setTop (entryFrame m #[(.ref ra), (.ref rb)] 3)) t := by
        intro t k
        refine pre18 t ?_
        refine XS.icmpNo X17.here hx rfl (hb hby d3_31) rfl (teq hc31).2 ?_
        show Steps p.tables e below (T17.setTop (mkF m 34 #[.val (.ref ra), .val (.ref rb), .val (.ref rb)] [])) _
        refine XS.iconst X17.here hx rfl (hb hby d3_34) ?_
        show Steps p.tables e below (T17.setTop (mkF m 35 #[.val (.ref ra), .val (.ref rb), .val (.ref rb)] [(.int (1 : Int32))])) _
        refine XS.goto X17.here hx rfl (pc0 := 35) (pc' := 39) rfl (hb hby d3_35) (by decide) (by decide) ?_
        show Steps p.tables e below (T17.setTop (mkF m 39 #[.val (.ref ra), .val (.ref rb), .val (.ref rb)] [(.int (1 : Int32))])) _
        exact k
      obtain ⟨fs, hr, hrun, hended, hW, hsame⟩ := X17.leave (v := some (.int (1 : Int32))) (fun h => by rw [Bd.returns] at h; cases h)
      refine ⟨_, _, pre19 _ ?_, hrun, hended, _, _, rfl, ?_, ⟨_, rfl⟩, hW, hsame.mono (by decide) (by decide)⟩
      · exact retN X17 hx (t := .boolean) Bd.returns (by simp) (hb hby d3_39) hr
      · show Q_rm_eqP Z ra rb xa xb xc xd h0 n0 _ T17.heap _
        rw [e17]
        exact ⟨congrArg (fun z => some (Value.int z)) (show (1 : Int32) = (F_rm_eqP xa xb xc xd) from by rw [F_rm_eqP, if_pos hc20, if_pos hc31]), N0, rfl⟩
    · have pre20 : ∀ t, Steps p.tables e below (T17.setTop (mkF m 39 #[.val (.ref ra), .val (.ref rb), .val (.ref rb)] [(.int (0 : Int32))])) t → Steps p.tables e below (s₁.setTop (entryFrame m #[(.ref ra), (.ref rb)] 3)) t := by
        intro t k
        refine pre18 t ?_
        refine XS.icmpYes X17.here hx rfl (pc0 := 31) (pc' := 38) rfl (hb hby d3_31) rfl (feq hc31).2 (by decide) (by decide) ?_
        show Steps p.tables e below (T17.setTop (mkF m 38 #[.val (.ref ra), .val (.ref rb), .val (.ref rb)] [])) _
        refine XS.iconst X17.here hx rfl (hb hby d3_38) ?_
        show Steps p.tables e below (T17.setTop (mkF m 39 #[.val (.ref ra), .val (.ref rb), .val (.ref rb)] [(.int (0 : Int32))])) _
        exact k
      obtain ⟨fs, hr, hrun, hended, hW, hsame⟩ := X17.leave (v := some (.int (0 : Int32))) (fun h => by rw [Bd.returns] at h; cases h)
      refine ⟨_, _, pre20 _ ?_, hrun, hended, _, _, rfl, ?_, ⟨_, rfl⟩, hW, hsame.mono (by decide) (by decide)⟩
      · exact retN X17 hx (t := .boolean) Bd.returns (by simp) (hb hby d3_39) hr
      · show Q_rm_eqP Z ra rb xa xb xc xd h0 n0 _ T17.heap _
        rw [e17]
        exact ⟨congrArg (fun z => some (Value.int z)) (show (0 : Int32) = (F_rm_eqP xa xb xc xd) from by rw [F_rm_eqP, if_pos hc20, if_neg hc31]), N0, rfl⟩
  · have pre21 : ∀ t, Steps p.tables e below (T11.setTop (mkF m 39 #[.val (.ref ra), .val (.ref rb), .val (.ref rb)] [(.int (0 : Int32))])) t → Steps p.tables e below (s₁.setTop (entryFrame m #[(.ref ra), (.ref rb)] 3)) t := by
      intro t k
      refine pre12 t ?_
      refine XS.icmpYes X11.here hx rfl (pc0 := 20) (pc' := 38) rfl (hb hby d3_20) rfl (feq hc20).2 (by decide) (by decide) ?_
      show Steps p.tables e below (T11.setTop (mkF m 38 #[.val (.ref ra), .val (.ref rb), .val (.ref rb)] [])) _
      refine XS.iconst X11.here hx rfl (hb hby d3_38) ?_
      show Steps p.tables e below (T11.setTop (mkF m 39 #[.val (.ref ra), .val (.ref rb), .val (.ref rb)] [(.int (0 : Int32))])) _
      exact k
    obtain ⟨fs, hr, hrun, hended, hW, hsame⟩ := X11.leave (v := some (.int (0 : Int32))) (fun h => by rw [Bd.returns] at h; cases h)
    refine ⟨_, _, pre21 _ ?_, hrun, hended, _, _, rfl, ?_, ⟨_, rfl⟩, hW, hsame.mono (by decide) (by decide)⟩
    · exact retN X11 hx (t := .boolean) Bd.returns (by simp) (hb hby d3_39) hr
    · show Q_rm_eqP Z ra rb xa xb xc xd h0 n0 _ T11.heap _
      rw [e11]
      exact ⟨congrArg (fun z => some (Value.int z)) (show (0 : Int32) = (F_rm_eqP xa xb xc xd) from by rw [F_rm_eqP, if_neg hc20]), N0, rfl⟩
theorem d5_0 : decode jdk_43_method_3_code 0 = .ok (.iload_n 0, 1) := by decide +kernel
theorem d5_1 : decode jdk_43_method_3_code 1 = .ok (.sipush 255, 3) := by decide +kernel
theorem d5_4 : decode jdk_43_method_3_code 4 = .ok (.if_icmp .gt 7, 3) := by decide +kernel
theorem d5_7 : decode jdk_43_method_3_code 7 = .ok (.iconst 1, 1) := by decide +kernel
theorem d5_8 : decode jdk_43_method_3_code 8 = .ok (.goto 4, 3) := by decide +kernel
theorem d5_12 : decode jdk_43_method_3_code 12 = .ok (.ireturn, 1) := by decide +kernel
theorem pn1 : plainName "java/lang/StringLatin1" = true := by first | (simp [plainName, overriddenIn]; done) | decide +kernel
theorem ef_rm_can (m : MethodId) (xc : Int32) : entryFrame m #[(.int xc)] 1 = mkF m 0 #[.val (.int xc)] [] := by first | (simp [entryFrame, mkF, argsToLocals, Value.category]; done) | rfl
def Q_rm_can (Z : State) (xc : Int32) (h0 : Heap) (n0 : Nat) (v : Option Value) (h : Heap) (L : List Loc) : Prop := v = some (.int (1 : Int32)) ∧ Fr n0 L ∧ h = h0
set_option maxRecDepth 65536 in
set_option maxHeartbeats 40000000 in
theorem rm_can (l : Launch) (Z : State) (a0 : Array Value) (hw : ∀ d ∈ tables_1, d.before a0 Z = true) (ws : List Jvm.Cond) (xc : Int32) (h0 : Heap) (n0 : Nat) (Z0 : n0 ≤ h0.size) (hc : ¬ ((255 : Int32) < xc)) :
    MetFree l (⟨"java/lang/StringLatin1", "canEncode", "(C)Z"⟩ : MethodName) (head1 (Jvm.Cond.code (⟨"java/lang/StringLatin1", "canEncode", "(C)Z"⟩ : MethodName) jdk_43_method_3_code 1 (some .boolean) :: ws) ({ frames := 0, cells := 0, slots := 0, locals := 0 } : Room)) (fun a U => a = #[(.int xc)] ∧ Z.Warmed39 U.vm ∧ U.heap = h0) (fun _ _ _ _ _ => True) (fun _ U o U' => ∃ v L, o = .returned v ∧ Q_rm_can Z xc h0 n0 v U'.heap L ∧ FrameEnd U o U' L ({ frames := 0, cells := 0, slots := 0, locals := 0 } : Room).cells ({ frames := 0, cells := 0, slots := 0, locals := 0 } : Room).slots) := by
  refine MetFree.of_bodySF (plainFor_of_name pn1) hisR ?_
  intro p e s m args below meth c s₁ Bd hml0 hP hK
  obtain ⟨rfl, hZ, hh⟩ := hP
  have hx := Bd.exec
  have hby := Bd.bytes
  have hml : c.maxLocals = 1 := hml0
  have hown : s.vm.findClass "java/lang/StringLatin1" = some m.cls := findClass_of_methodNamed Bd.named
  have hnm := (name_of_methodNamed Bd.named Bd.method).1
  have X0 : Stand p l e ({ frames := 0, cells := 0, slots := 0, locals := 0 } : Room) s m #[(.int xc)] below meth c s₁ [] 0 0 := Stand.of_body Bd
  have e0 : s₁.heap = h0 := by rw [← hh, Bd.state]; rfl
  have N0 := Fr.nil n0
  have pre0 : ∀ t, Steps p.tables e below (s₁.setTop (mkF m 0 #[.val (.int xc)] [])) t → Steps p.tables e below (s₁.setTop (entryFrame m #[(.int xc)] 1)) t := fun t k => castTop (ef_rm_can m xc) k
  have pre1 : ∀ t, Steps p.tables e below (s₁.setTop (mkF m 12 #[.val (.int xc)] [(.int (1 : Int32))])) t → Steps p.tables e below (s₁.setTop (entryFrame m #[(.int xc)] 1)) t := by
    intro t k
    refine pre0 t ?_
    refine XS.iloadN X0.here hx rfl (hb hby d5_0) rfl ?_
    show Steps p.tables e below (s₁.setTop (mkF m 1 #[.val (.int xc)] [(.int xc)])) _
    refine XS.sipush X0.here hx rfl (hb hby d5_1) ?_
    show Steps p.tables e below (s₁.setTop (mkF m 4 #[.val (.int xc)] [(.int (255 : Int32)), (.int xc)])) _
    refine XS.icmpNo X0.here hx rfl (hb hby d5_4) rfl (flt (show ¬ ((255 : Int32) < xc) from hc)).2.2.1 ?_
    show Steps p.tables e below (s₁.setTop (mkF m 7 #[.val (.int xc)] [])) _
    refine XS.iconst X0.here hx rfl (hb hby d5_7) ?_
    show Steps p.tables e below (s₁.setTop (mkF m 8 #[.val (.int xc)] [(.int (1 : Int32))])) _
    refine XS.goto X0.here hx rfl (pc0 := 8) (pc' := 12) rfl (hb hby d5_8) (by decide) (by decide) ?_
    show Steps p.tables e below (s₁.setTop (mkF m 12 #[.val (.int xc)] [(.int (1 : Int32))])) _
    exact k
  obtain ⟨fs, hr, hrun, hended, hW, hsame⟩ := X0.leave (v := some (.int (1 : Int32))) (fun h => by rw [Bd.returns] at h; cases h)
  refine ⟨_, _, pre1 _ ?_, hrun, hended, _, _, rfl, ?_, ⟨_, rfl⟩, hW, hsame.mono (by decide) (by decide)⟩
  · exact retN X0 hx (t := .boolean) Bd.returns (by simp) (hb hby d5_12) hr
  · show Q_rm_can Z xc h0 n0 _ s₁.heap _
    rw [e0]
    exact ⟨rfl, N0, rfl⟩
theorem d6_0 : decode jdk_43_method_46_code 0 = .ok (.iconst 1, 1) := by decide +kernel
theorem d6_1 : decode jdk_43_method_46_code 1 = .ok (.newarray .byte, 2) := by decide +kernel
theorem d6_3 : decode jdk_43_method_46_code 3 = .ok (.dup, 1) := by decide +kernel
theorem d6_4 : decode jdk_43_method_46_code 4 = .ok (.iconst 0, 1) := by decide +kernel
theorem d6_5 : decode jdk_43_method_46_code 5 = .ok (.iload_n 0, 1) := by decide +kernel
theorem d6_6 : decode jdk_43_method_46_code 6 = .ok (.i2b, 1) := by decide +kernel
theorem d6_7 : decode jdk_43_method_46_code 7 = .ok (.bastore, 1) := by decide +kernel
theorem d6_8 : decode jdk_43_method_46_code 8 = .ok (.areturn, 1) := by decide +kernel
theorem ef_rm_tob (m : MethodId) (xc : Int32) : entryFrame m #[(.int xc)] 1 = mkF m 0 #[.val (.int xc)] [] := by first | (simp [entryFrame, mkF, argsToLocals, Value.category]; done) | rfl
def Q_rm_tob (Z : State) (xc : Int32) (h0 : Heap) (n0 : Nat) (v : Option Value) (h : Heap) (L : List Loc) : Prop := ∃ bo : Addr, v = some (.ref bo) ∧ Fr n0 L ∧ n0 ≤ bo ∧ h0.size ≤ bo ∧ Keep h0 h ([] : List Addr)
set_option maxRecDepth 65536 in
set_option maxHeartbeats 40000000 in
theorem rm_tob (l : Launch) (Z : State) (a0 : Array Value) (hw : ∀ d ∈ tables_1, d.before a0 Z = true) (ws : List Jvm.Cond) (xc : Int32) (h0 : Heap) (n0 : Nat) (Z0 : n0 ≤ h0.size) :
    MetFree l (⟨"java/lang/StringLatin1", "toBytes", "(C)[B"⟩ : MethodName) (head1 (Jvm.Cond.code (⟨"java/lang/StringLatin1", "toBytes", "(C)[B"⟩ : MethodName) jdk_43_method_46_code 1 (some (.array .byte)) :: ws) ({ frames := 0, cells := 1, slots := 1, locals := 0 } : Room)) (fun a U => a = #[(.int xc)] ∧ Z.Warmed39 U.vm ∧ U.heap = h0) (fun _ _ _ _ _ => True) (fun _ U o U' => ∃ v L, o = .returned v ∧ Q_rm_tob Z xc h0 n0 v U'.heap L ∧ FrameEnd U o U' L ({ frames := 0, cells := 1, slots := 1, locals := 0 } : Room).cells ({ frames := 0, cells := 1, slots := 1, locals := 0 } : Room).slots) := by
  refine MetFree.of_bodySF (plainFor_of_name pn1) hisR ?_
  intro p e s m args below meth c s₁ Bd hml0 hP hK
  obtain ⟨rfl, hZ, hh⟩ := hP
  have hx := Bd.exec
  have hby := Bd.bytes
  have hml : c.maxLocals = 1 := hml0
  have hown : s.vm.findClass "java/lang/StringLatin1" = some m.cls := findClass_of_methodNamed Bd.named
  have hnm := (name_of_methodNamed Bd.named Bd.method).1
  have X0 : Stand p l e ({ frames := 0, cells := 1, slots := 1, locals := 0 } : Room) s m #[(.int xc)] below meth c s₁ [] 0 0 := Stand.of_body Bd
  have e0 : s₁.heap = h0 := by rw [← hh, Bd.state]; rfl
  have N0 := Fr.nil n0
  have pre0 : ∀ t, Steps p.tables e below (s₁.setTop (mkF m 0 #[.val (.int xc)] [])) t → Steps p.tables e below (s₁.setTop (entryFrame m #[(.int xc)] 1)) t := fun t k => castTop (ef_rm_tob m xc) k
  have pre1 : ∀ t, Steps p.tables e below (s₁.setTop (mkF m 1 #[.val (.int xc)] [(.int (1 : Int32))])) t → Steps p.tables e below (s₁.setTop (entryFrame m #[(.int xc)] 1)) t := by
    intro t k
    refine pre0 t ?_
    refine XS.iconst X0.here hx rfl (hb hby d6_0) ?_
    show Steps p.tables e below (s₁.setTop (mkF m 1 #[.val (.int xc)] [(.int (1 : Int32))])) _
    exact k
  obtain ⟨T2, h2, k2, X2, e2, E2, A2, st2⟩ := newP X0 hx hZ (hw _ (List.mem_of_getElem? (i := 34) rfl)) e0 (g := (mkF m 1 #[.val (.int xc)] [(.int (1 : Int32))])) rfl (hb hby d6_1) rfl (by decide) (cap := 1) (by decide) (by decide) (by decide) (by decide)
  obtain ⟨b2, g2⟩ : ∃ z, z = h0.size := ⟨_, rfl⟩
  rw [← g2] at A2 st2
  have g_b2 : n0 ≤ b2 := Nat.le_trans Z0 (Nat.le_of_eq g2.symm)
  have sz_b2 : h0.size ≤ b2 := Nat.le_trans (Keep.refl h0 ([] : List Addr)).1 (Nat.le_of_eq g2.symm)
  have K2 : Keep h0 h2 ([] : List Addr) := (Keep.refl h0 ([] : List Addr)).ext E2
  have z2 : n0 ≤ h2.size := Nat.le_trans Z0 K2.1
  have V_b2 : Arv Z h2 b2 k2 .byte (1 : Int32) [(.int (0 : Int32))] (.int (0 : Int32)) := (Arv.new A2 (by decide)).pad (pad_rep [] (.int (0 : Int32)) 1)
  have pre3 : ∀ t, Steps p.tables e below (T2.setTop (mkF m 3 #[.val (.int xc)] [(.ref b2)])) t → Steps p.tables e below (s₁.setTop (entryFrame m #[(.int xc)] 1)) t := fun t k => pre1 t (st2 t k)
  have pre4 : ∀ t, Steps p.tables e below (T2.setTop (mkF m 7 #[.val (.int xc)] [(.int (xc.toInt8.toInt32)), (.int (0 : Int32)), (.ref b2), (.ref b2)])) t → Steps p.tables e below (s₁.setTop (entryFrame m #[(.int xc)] 1)) t := by
    intro t k
    refine pre3 t ?_
    refine XS.dup X2.here hx rfl (hb hby d6_3) rfl rfl ?_
    show Steps p.tables e below (T2.setTop (mkF m 4 #[.val (.int xc)] [(.ref b2), (.ref b2)])) _
    refine XS.iconst X2.here hx rfl (hb hby d6_4) ?_
    show Steps p.tables e below (T2.setTop (mkF m 5 #[.val (.int xc)] [(.int (0 : Int32)), (.ref b2), (.ref b2)])) _
    refine XS.iloadN X2.here hx rfl (hb hby d6_5) rfl ?_
    show Steps p.tables e below (T2.setTop (mkF m 6 #[.val (.int xc)] [(.int xc), (.int (0 : Int32)), (.ref b2), (.ref b2)])) _
    refine XS.i2b X2.here hx rfl (hb hby d6_6) rfl ?_
    show Steps p.tables e below (T2.setTop (mkF m 7 #[.val (.int xc)] [(.int (xc.toInt8.toInt32)), (.int (0 : Int32)), (.ref b2), (.ref b2)])) _
    exact k
  obtain ⟨c5, a5, q5, s5, m5, i5, u5⟩ := id V_b2
  obtain ⟨T6, h6, X6, e6, W6, st6⟩ := stB X2 hx hZ e2 a5 (j := (0 : Int32)) (inb_of s5 ⟨by decide, by decide⟩) (g := (mkF m 7 #[.val (.int xc)] [(.int (xc.toInt8.toInt32)), (.int (0 : Int32)), (.ref b2), (.ref b2)])) rfl rfl (hb hby d6_7)
  have K6 : Keep h0 h6 ([] : List Addr) := K2.wr W6 (Or.inr sz_b2)
  have z6 : n0 ≤ h6.size := Nat.le_trans Z0 K6.1
  have N6 := Fr.snoc X6 N0 g_b2
  have V6 : Arv Z h6 b2 k2 .byte (1 : Int32) [(.int (nar .byte (xc.toInt8.toInt32)))] (.int (0 : Int32)) := Arv.set a5 q5 s5 m5 i5 u5 (fits_nar_byte _) W6 0 rfl (Nat.le_of_ble_eq_true rfl)
  have pre7 : ∀ t, Steps p.tables e below (T6.setTop (mkF m 8 #[.val (.int xc)] [(.ref b2)])) t → Steps p.tables e below (s₁.setTop (entryFrame m #[(.int xc)] 1)) t := fun t k => pre4 t (st6 t k)
  obtain ⟨fs, hr, hrun, hended, hW, hsame⟩ := X6.leave (v := some (.ref b2)) (fun h => by rw [Bd.returns] at h; cases h)
  refine ⟨_, _, pre7 _ ?_, hrun, hended, _, _, rfl, ?_, ⟨_, rfl⟩, hW, hsame.mono (by decide) (by decide)⟩
  · exact retOut X6 hx Bd.returns rfl (Or.inr (Or.inr (Or.inr (Or.inr ⟨rfl, rfl, rfl⟩)))) (hb hby d6_8) hr
  · show Q_rm_tob Z xc h0 n0 _ T6.heap _
    rw [e6]
    exact ⟨b2, rfl, N6, g_b2, sz_b2, K6⟩
theorem d7_0 : decode jdk_42_method_151_code 0 = .ok (.aload_n 0, 1) := by decide +kernel
theorem d7_1 : decode jdk_42_method_151_code 1 = .ok (.invokespecial 1, 3) := by decide +kernel
theorem d7_4 : decode jdk_42_method_151_code 4 = .ok (.aload_n 0, 1) := by decide +kernel
theorem d7_5 : decode jdk_42_method_151_code 5 = .ok (.aload_n 1, 1) := by decide +kernel
theorem d7_6 : decode jdk_42_method_151_code 6 = .ok (.putfield 9, 3) := by decide +kernel
theorem d7_9 : decode jdk_42_method_151_code 9 = .ok (.aload_n 0, 1) := by decide +kernel
theorem d7_10 : decode jdk_42_method_151_code 10 = .ok (.iload_n 2, 1) := by decide +kernel
theorem d7_11 : decode jdk_42_method_151_code 11 = .ok (.putfield 15, 3) := by decide +kernel
theorem d7_14 : decode jdk_42_method_151_code 14 = .ok (.return_, 1) := by decide +kernel
theorem pn2 : plainName "java/lang/String" = true := by first | (simp [plainName, overriddenIn]; done) | decide +kernel
theorem ef_rm_sinit (m : MethodId) (ra : Addr) (rb : Addr) (xk : Int32) : entryFrame m #[(.ref ra), (.ref rb), (.int xk)] 3 = mkF m 0 #[.val (.ref ra), .val (.ref rb), .val (.int xk)] [] := by first | (simp [entryFrame, mkF, argsToLocals, Value.category]; done) | rfl
def Q_rm_sinit (Z : State) (ra : Addr) (rb : Addr) (xk : Int32) (h0 : Heap) (n0 : Nat) (v : Option Value) (h : Heap) (L : List Loc) : Prop := v = none ∧ Fr n0 L ∧ Keep h0 h [ra] ∧ Exa Z h ra "java/lang/String"
set_option maxRecDepth 65536 in
set_option maxHeartbeats 40000000 in
theorem rm_sinit (l : Launch) (Z : State) (a0 : Array Value) (hw : ∀ d ∈ tables_1, d.before a0 Z = true) (ws : List Jvm.Cond) (ra : Addr) (rb : Addr) (xk : Int32) (h0 : Heap) (n0 : Nat) (Z0 : n0 ≤ h0.size) (E_ra : Exa Z h0 ra "java/lang/String") (g_ra : n0 ≤ ra) (F_value_ra : Fld Z h0 ra "java/lang/String" "value" "[B" .null) (F_coder_ra : Fld Z h0 ra "java/lang/String" "coder" "B" (.int (0 : Int32))) :
    MetFree l (⟨"java/lang/String", "<init>", "([BB)V"⟩ : MethodName) (head1 (Jvm.Cond.code (⟨"java/lang/String", "<init>", "([BB)V"⟩ : MethodName) jdk_42_method_151_code 3 none :: ws) ({ frames := 1, cells := 0, slots := 0, locals := 12 } : Room)) (fun a U => a = #[(.ref ra), (.ref rb), (.int xk)] ∧ Z.Warmed39 U.vm ∧ U.heap = h0) (fun _ _ _ _ _ => True) (fun _ U o U' => ∃ v L, o = .returned v ∧ Q_rm_sinit Z ra rb xk h0 n0 v U'.heap L ∧ FrameEnd U o U' L ({ frames := 1, cells := 0, slots := 0, locals := 12 } : Room).cells ({ frames := 1, cells := 0, slots := 0, locals := 12 } : Room).slots) := by
  refine MetFree.of_bodySF (plainFor_of_name pn2) hisR ?_
  intro p e s m args below meth c s₁ Bd hml0 hP hK
  obtain ⟨rfl, hZ, hh⟩ := hP
  have hx := Bd.exec
  have hby := Bd.bytes
  have hml : c.maxLocals = 3 := hml0
  have hown : s.vm.findClass "java/lang/String" = some m.cls := findClass_of_methodNamed Bd.named
  have hnm := (name_of_methodNamed Bd.named Bd.method).1
  have X0 : Stand p l e ({ frames := 1, cells := 0, slots := 0, locals := 12 } : Room) s m #[(.ref ra), (.ref rb), (.int xk)] below meth c s₁ [] 0 0 := Stand.of_body Bd
  have e0 : s₁.heap = h0 := by rw [← hh, Bd.state]; rfl
  have N0 := Fr.nil n0
  have pre0 : ∀ t, Steps p.tables e below (s₁.setTop (mkF m 0 #[.val (.ref ra), .val (.ref rb), .val (.int xk)] [])) t → Steps p.tables e below (s₁.setTop (entryFrame m #[(.ref ra), (.ref rb), (.int xk)] 3)) t := fun t k => castTop (ef_rm_sinit m ra rb xk) k
  have pre1 : ∀ t, Steps p.tables e below (s₁.setTop (mkF m 1 #[.val (.ref ra), .val (.ref rb), .val (.int xk)] [(.ref ra)])) t → Steps p.tables e below (s₁.setTop (entryFrame m #[(.ref ra), (.ref rb), (.int xk)] 3)) t := by
    intro t k
    refine pre0 t ?_
    refine XS.aloadN X0.here hx rfl (hb hby d7_0) rfl rfl ?_
    show Steps p.tables e below (s₁.setTop (mkF m 1 #[.val (.ref ra), .val (.ref rb), .val (.int xk)] [(.ref ra)])) _
    exact k
  obtain ⟨T2, X2, e2, st2⟩ := initO X0 hx hZ hown (hw _ (List.mem_of_getElem? (i := 39) rfl)) (hw _ (List.mem_of_getElem? (i := 7) rfl)) (hw _ (List.mem_of_getElem? (i := 8) rfl)) e0 (g := (mkF m 1 #[.val (.ref ra), .val (.ref rb), .val (.int xk)] [(.ref ra)])) rfl (by rw [hml]; rfl) rfl (hb hby d7_1) (by decide) (W := 0) (by show 2 * 0 + _ ≤ _; exact Nat.le_of_eq rfl) (by decide)
  have pre3 : ∀ t, Steps p.tables e below (T2.setTop (mkF m 4 #[.val (.ref ra), .val (.ref rb), .val (.int xk)] [])) t → Steps p.tables e below (s₁.setTop (entryFrame m #[(.ref ra), (.ref rb), (.int xk)] 3)) t := fun t k => pre1 t (st2 t k)
  have pre4 : ∀ t, Steps p.tables e below (T2.setTop (mkF m 6 #[.val (.ref ra), .val (.ref rb), .val (.int xk)] [(.ref rb), (.ref ra)])) t → Steps p.tables e below (s₁.setTop (entryFrame m #[(.ref ra), (.ref rb), (.int xk)] 3)) t := by
    intro t k
    refine pre3 t ?_
    refine XS.aloadN X2.here hx rfl (hb hby d7_4) rfl rfl ?_
    show Steps p.tables e below (T2.setTop (mkF m 5 #[.val (.ref ra), .val (.ref rb), .val (.int xk)] [(.ref ra)])) _
    refine XS.aloadN X2.here hx rfl (hb hby d7_5) rfl rfl ?_
    show Steps p.tables e below (T2.setTop (mkF m 6 #[.val (.ref ra), .val (.ref rb), .val (.int xk)] [(.ref rb), (.ref ra)])) _
    exact k
  obtain ⟨T5, h5, X5, e5, W5, st5⟩ := putF X2 hx hZ hown (host := "") (Or.inl (hw _ (List.mem_of_getElem? (i := 40) rfl))) Via.refl e2 F_value_ra E_ra (Or.inr ⟨(hw _ (List.mem_of_getElem? (i := 41) rfl)), rfl, hnm⟩) (hw _ (List.mem_of_getElem? (i := 30) rfl)) (ty := (.array .byte)) (by decide) rfl rfl (g := (mkF m 6 #[.val (.ref ra), .val (.ref rb), .val (.int xk)] [(.ref rb), (.ref ra)])) rfl rfl (hb hby d7_6)
  have K5 : Keep h0 h5 [ra] := (Keep.refl h0 [ra]).wr W5 (Or.inl (by simp))
  have z5 : n0 ≤ h5.size := Nat.le_trans Z0 K5.1
  have N5 := Fr.snoc X5 N0 g_ra
  have Fw5 := F_value_ra.same W5
  have pre6 : ∀ t, Steps p.tables e below (T5.setTop (mkF m 9 #[.val (.ref ra), .val (.ref rb), .val (.int xk)] [])) t → Steps p.tables e below (s₁.setTop (entryFrame m #[(.ref ra), (.ref rb), (.int xk)] 3)) t := fun t k => pre4 t (st5 t k)
  have pre7 : ∀ t, Steps p.tables e below (T5.setTop (mkF m 11 #[.val (.ref ra), .val (.ref rb), .val (.int xk)] [(.int xk), (.ref ra)])) t → Steps p.tables e below (s₁.setTop (entryFrame m #[(.ref ra), (.ref rb), (.int xk)] 3)) t := by
    intro t k
    refine pre6 t ?_
    refine XS.aloadN X5.here hx rfl (hb hby d7_9) rfl rfl ?_
    show Steps p.tables e below (T5.setTop (mkF m 10 #[.val (.ref ra), .val (.ref rb), .val (.int xk)] [(.ref ra)])) _
    refine XS.iloadN X5.here hx rfl (hb hby d7_10) rfl ?_
    show Steps p.tables e below (T5.setTop (mkF m 11 #[.val (.ref ra), .val (.ref rb), .val (.int xk)] [(.int xk), (.ref ra)])) _
    exact k
  have f8 := (E_ra.wr W5)
  have f9 := (F_coder_ra.other W5 (Or.inr (slot_ne (Or.inr (hw _ (List.mem_of_getElem? (i := 43) rfl))) (Or.inr (hw _ (List.mem_of_getElem? (i := 41) rfl))) (by decide) (t := .byte) (t' := (.array .byte)) (by decide) (by decide))))
  obtain ⟨T10, h10, X10, e10, W10, st10⟩ := putFN X5 hx hZ hown (hw _ (List.mem_of_getElem? (i := 42) rfl)) Via.refl e5 f9 f8 (Or.inr ⟨(hw _ (List.mem_of_getElem? (i := 43) rfl)), rfl, hnm⟩) (hw _ (List.mem_of_getElem? (i := 30) rfl)) (ty := .byte) (v' := (.int (nar .byte xk))) (by decide) rfl (fits_nar_byte _) (g := (mkF m 11 #[.val (.ref ra), .val (.ref rb), .val (.int xk)] [(.int xk), (.ref ra)])) rfl rfl (hb hby d7_11)
  have K10 : Keep h0 h10 [ra] := K5.wr W10 (Or.inl (by simp))
  have z10 : n0 ≤ h10.size := Nat.le_trans Z0 K10.1
  have N10 := Fr.snoc X10 N5 g_ra
  have Fw10 := f9.same W10
  have pre11 : ∀ t, Steps p.tables e below (T10.setTop (mkF m 14 #[.val (.ref ra), .val (.ref rb), .val (.int xk)] [])) t → Steps p.tables e below (s₁.setTop (entryFrame m #[(.ref ra), (.ref rb), (.int xk)] 3)) t := fun t k => pre7 t (st10 t k)
  obtain ⟨fs, hr, hrun, hended, hW, hsame⟩ := X10.leave (v := none) (fun _ => rfl)
  refine ⟨_, _, pre11 _ ?_, hrun, hended, _, _, rfl, ?_, ⟨_, rfl⟩, hW, hsame.mono (by decide) (by decide)⟩
  · exact X10.returnOut hx Bd.returns (hb hby d7_14) hr
  · show Q_rm_sinit Z ra rb xk h0 n0 _ T10.heap _
    rw [e10]
    exact ⟨rfl, N10, K10, (f8.wr W10)⟩
theorem d4_0 : decode jdk_42_method_139_code 0 = .ok (.getstatic 38, 3) := by decide +kernel
theorem d4_3 : decode jdk_42_method_139_code 3 = .ok (.ifCond .eq 23, 3) := by decide +kernel
theorem d4_6 : decode jdk_42_method_139_code 6 = .ok (.iload_n 0, 1) := by decide +kernel
theorem d4_7 : decode jdk_42_method_139_code 7 = .ok (.invokestatic 1015, 3) := by decide +kernel
theorem pd0 : parseMethodDescriptor "(C)Z" = some ⟨[.char], some .boolean⟩ := by decide +kernel
theorem d4_10 : decode jdk_42_method_139_code 10 = .ok (.ifCond .eq 16, 3) := by decide +kernel
theorem d4_13 : decode jdk_42_method_139_code 13 = .ok (.new 10, 3) := by decide +kernel
theorem d4_16 : decode jdk_42_method_139_code 16 = .ok (.dup, 1) := by decide +kernel
theorem d4_17 : decode jdk_42_method_139_code 17 = .ok (.iload_n 0, 1) := by decide +kernel
theorem d4_18 : decode jdk_42_method_139_code 18 = .ok (.invokestatic 1018, 3) := by decide +kernel
theorem pd1 : parseMethodDescriptor "(C)[B" = some ⟨[.char], some (.array .byte)⟩ := by decide +kernel
theorem d4_21 : decode jdk_42_method_139_code 21 = .ok (.iconst 0, 1) := by decide +kernel
theorem d4_22 : decode jdk_42_method_139_code 22 = .ok (.invokespecial 209, 3) := by decide +kernel
theorem pd2 : parseMethodDescriptor "([BB)V" = some ⟨[(.array .byte), .byte], none⟩ := by decide +kernel
theorem d4_25 : decode jdk_42_method_139_code 25 = .ok (.areturn, 1) := by decide +kernel
theorem ef_rm_sval (m : MethodId) (xc : Int32) : entryFrame m #[(.int xc)] 1 = mkF m 0 #[.val (.int xc)] [] := by first | (simp [entryFrame, mkF, argsToLocals, Value.category]; done) | rfl
def Q_rm_sval (Z : State) (xc : Int32) (xcs : Int32) (h0 : Heap) (n0 : Nat) (v : Option Value) (h : Heap) (L : List Loc) : Prop := ∃ bo : Addr, v = some (.ref bo) ∧ Fr n0 L ∧ n0 ≤ bo ∧ h0.size ≤ bo ∧ Keep h0 h ([] : List Addr) ∧ Exa Z h bo "java/lang/String"
set_option maxRecDepth 65536 in
set_option maxHeartbeats 40000000 in
theorem rm_sval (l : Launch) (Z : State) (a0 : Array Value) (hw : ∀ d ∈ tables_1, d.before a0 Z = true) (ws : List Jvm.Cond) (xc : Int32) (xcs : Int32) (h0 : Heap) (n0 : Nat) (Z0 : n0 ≤ h0.size) (SC : Sta Z h0 "java/lang/String" "COMPACT_STRINGS" "Z" (.int xcs)) (hcs : ¬ (xcs = (0 : Int32))) (hc : ¬ ((255 : Int32) < xc)) :
    MetFree l (⟨"java/lang/String", "valueOf", "(C)Ljava/lang/String;"⟩ : MethodName) (head1 (Jvm.Cond.code (⟨"java/lang/String", "valueOf", "(C)Ljava/lang/String;"⟩ : MethodName) jdk_42_method_139_code 1 (some (.object "java/lang/String")) :: ws) ({ frames := 2, cells := 2, slots := 5, locals := 27 } : Room)) (fun a U => a = #[(.int xc)] ∧ Z.Warmed39 U.vm ∧ U.heap = h0) (fun _ _ _ _ _ => True) (fun _ U o U' => ∃ v L, o = .returned v ∧ Q_rm_sval Z xc xcs h0 n0 v U'.heap L ∧ FrameEnd U o U' L ({ frames := 2, cells := 2, slots := 5, locals := 27 } : Room).cells ({ frames := 2, cells := 2, slots := 5, locals := 27 } : Room).slots) := by
  refine MetFree.of_bodySF (plainFor_of_name pn2) hisR ?_
  intro p e s m args below meth c s₁ Bd hml0 hP hK
  obtain ⟨rfl, hZ, hh⟩ := hP
  have hx := Bd.exec
  have hby := Bd.bytes
  have hml : c.maxLocals = 1 := hml0
  have hown : s.vm.findClass "java/lang/String" = some m.cls := findClass_of_methodNamed Bd.named
  have hnm := (name_of_methodNamed Bd.named Bd.method).1
  have X0 : Stand p l e ({ frames := 2, cells := 2, slots := 5, locals := 27 } : Room) s m #[(.int xc)] below meth c s₁ [] 0 0 := Stand.of_body Bd
  have e0 : s₁.heap = h0 := by rw [← hh, Bd.state]; rfl
  have N0 := Fr.nil n0
  have pre0 : ∀ t, Steps p.tables e below (s₁.setTop (mkF m 0 #[.val (.int xc)] [])) t → Steps p.tables e below (s₁.setTop (entryFrame m #[(.int xc)] 1)) t := fun t k => castTop (ef_rm_sval m xc) k
  obtain ⟨T1, X1, e1, st1⟩ := getS2 X0 hx hZ hown (host := "") (Or.inl (hw _ (List.mem_of_getElem? (i := 24) rfl))) Via.refl e0 SC (g := (mkF m 0 #[.val (.int xc)] [])) rfl (hb hby d4_0)
  have pre2 : ∀ t, Steps p.tables e below (T1.setTop (mkF m 3 #[.val (.int xc)] [(.int xcs)])) t → Steps p.tables e below (s₁.setTop (entryFrame m #[(.int xc)] 1)) t := fun t k => pre0 t (st1 t k)
  have pre3 : ∀ t, Steps p.tables e below (T1.setTop (mkF m 7 #[.val (.int xc)] [(.int xc)])) t → Steps p.tables e below (s₁.setTop (entryFrame m #[(.int xc)] 1)) t := by
    intro t k
    refine pre2 t ?_
    refine XS.ifNo X1.here hx rfl (hb hby d4_3) rfl ((if0 _ _).trans (feq (show ¬ (xcs = (0 : Int32)) from hcs)).1) ?_
    show Steps p.tables e below (T1.setTop (mkF m 6 #[.val (.int xc)] [])) _
    refine XS.iloadN X1.here hx rfl (hb hby d4_6) rfl ?_
    show Steps p.tables e below (T1.setTop (mkF m 7 #[.val (.int xc)] [(.int xc)])) _
    exact k
  obtain ⟨_, _, ⟨T4, L4, k4, n4⟩, -, X4, ⟨Lc4, hQ4, l4, y4, z4⟩, st4⟩ := Jvm.LawKit.callS X1 hx (y := (⟨"java/lang/StringLatin1", "canEncode", "(C)Z"⟩ : MethodName)) hown (mvT hZ (hw _ (List.mem_of_getElem? (i := 25) rfl))) (mvT hZ (hw _ (List.mem_of_getElem? (i := 26) rfl))) (mvT hZ (hw _ (List.mem_of_getElem? (i := 27) rfl))) (mvT hZ (hw _ (List.mem_of_getElem? (i := 28) rfl))) (by decide) (backOf (W := 0) (rm_can l Z a0 hw [] xc h0 n0 Z0 (hc)) hZ (hw _ (List.mem_of_getElem? (i := 28) rfl)) (hw _ (List.mem_of_getElem? (i := 27) rfl)) (by decide) (by decide)) (g := (mkF m 7 #[.val (.int xc)] [(.int xc)])) rfl (by rw [hml]; rfl) (argsL := [(.int xc)]) (rest := []) (lenOf pd0 rfl) rfl (by show 2 * 0 + _ ≤ _; exact Nat.le_of_eq rfl) (hb hby d4_7) (fun _ _ => ⟨rfl, e1, (by decide : 0 + 0 ≤ _), (by decide : 0 + 0 ≤ _)⟩)
  dsimp only [Pt.U, Pt.locs, Pt.cells, Pt.slots] at X4 l4 y4 z4 st4 hQ4
  subst l4 y4 z4
  obtain ⟨rfl, M4, e4⟩ := hQ4
  have N4 := Fr.app N0 M4
  have pre5 : ∀ t, Steps p.tables e below (T4.setTop (mkF m 10 #[.val (.int xc)] [(.int (1 : Int32))])) t → Steps p.tables e below (s₁.setTop (entryFrame m #[(.int xc)] 1)) t := fun t k => pre3 t (st4 t k)
  have pre6 : ∀ t, Steps p.tables e below (T4.setTop (mkF m 13 #[.val (.int xc)] [])) t → Steps p.tables e below (s₁.setTop (entryFrame m #[(.int xc)] 1)) t := by
    intro t k
    refine pre5 t ?_
    refine XS.ifNo X4.here hx rfl (hb hby d4_10) rfl ((if0 _ _).trans (feq (show ¬ ((1 : Int32) = (0 : Int32)) from by decide)).1) ?_
    show Steps p.tables e below (T4.setTop (mkF m 13 #[.val (.int xc)] [])) _
    exact k
  obtain ⟨T7, h7, X7, e7, E7, A7, D7, -, st7⟩ := newO X4 hx hZ hown (hw _ (List.mem_of_getElem? (i := 29) rfl)) (hw _ (List.mem_of_getElem? (i := 30) rfl)) (hw _ (List.mem_of_getElem? (i := 22) rfl)) e4 (g := (mkF m 13 #[.val (.int xc)] [])) rfl (hb hby d4_13) (by decide) (by decide)
  obtain ⟨b7, g7⟩ : ∃ z, z = h0.size := ⟨_, rfl⟩
  rw [← g7] at A7 D7 st7
  have g_b7 : n0 ≤ b7 := Nat.le_trans Z0 (Nat.le_of_eq g7.symm)
  have sz_b7 : h0.size ≤ b7 := Nat.le_trans (Keep.refl h0 ([] : List Addr)).1 (Nat.le_of_eq g7.symm)
  have K7 : Keep h0 h7 ([] : List Addr) := (Keep.refl h0 ([] : List Addr)).ext E7
  have z7 : n0 ≤ h7.size := Nat.le_trans Z0 K7.1
  have F_value_b7 : Fld Z h7 b7 "java/lang/String" "value" "[B" .null := D7 (Or.inr (hw _ (List.mem_of_getElem? (i := 41) rfl))) (ty := (.array .byte)) (by decide)
  have F_coder_b7 : Fld Z h7 b7 "java/lang/String" "coder" "B" (.int (0 : Int32)) := D7 (Or.inr (hw _ (List.mem_of_getElem? (i := 43) rfl))) (ty := .byte) (by decide)
  have pre8 : ∀ t, Steps p.tables e below (T7.setTop (mkF m 16 #[.val (.int xc)] [(.ref b7)])) t → Steps p.tables e below (s₁.setTop (entryFrame m #[(.int xc)] 1)) t := fun t k => pre6 t (st7 t k)
  have pre9 : ∀ t, Steps p.tables e below (T7.setTop (mkF m 18 #[.val (.int xc)] [(.int xc), (.ref b7), (.ref b7)])) t → Steps p.tables e below (s₁.setTop (entryFrame m #[(.int xc)] 1)) t := by
    intro t k
    refine pre8 t ?_
    refine XS.dup X7.here hx rfl (hb hby d4_16) rfl rfl ?_
    show Steps p.tables e below (T7.setTop (mkF m 17 #[.val (.int xc)] [(.ref b7), (.ref b7)])) _
    refine XS.iloadN X7.here hx rfl (hb hby d4_17) rfl ?_
    show Steps p.tables e below (T7.setTop (mkF m 18 #[.val (.int xc)] [(.int xc), (.ref b7), (.ref b7)])) _
    exact k
  obtain ⟨_, _, ⟨T10, L10, k10, n10⟩, -, X10, ⟨Lc10, hQ10, l10, y10, z10⟩, st10⟩ := Jvm.LawKit.callS X7 hx (y := (⟨"java/lang/StringLatin1", "toBytes", "(C)[B"⟩ : MethodName)) hown (mvT hZ (hw _ (List.mem_of_getElem? (i := 31) rfl))) (mvT hZ (hw _ (List.mem_of_getElem? (i := 32) rfl))) (mvT hZ (hw _ (List.mem_of_getElem? (i := 27) rfl))) (mvT hZ (hw _ (List.mem_of_getElem? (i := 33) rfl))) (by decide) (backOf (W := 2) (rm_tob l Z a0 hw [] xc h7 n0 z7 ) hZ (hw _ (List.mem_of_getElem? (i := 33) rfl)) (hw _ (List.mem_of_getElem? (i := 27) rfl)) (by decide) (by decide)) (g := (mkF m 18 #[.val (.int xc)] [(.int xc), (.ref b7), (.ref b7)])) rfl (by rw [hml]; rfl) (argsL := [(.int xc)]) (rest := [(.ref b7), (.ref b7)]) (lenOf pd1 rfl) rfl (by show 2 * 0 + _ ≤ _; exact Nat.le_of_eq rfl) (hb hby d4_18) (fun _ _ => ⟨rfl, e7, (by decide : 1 + 1 ≤ _), (by decide : 4 + 1 ≤ _)⟩)
  dsimp only [Pt.U, Pt.locs, Pt.cells, Pt.slots] at X10 l10 y10 z10 st10 hQ10
  subst l10 y10 z10
  obtain ⟨b10, rfl, M10, g_b10, zs10, kp10⟩ := hQ10
  have sz_b10 : h0.size ≤ b10 := Nat.le_trans K7.1 zs10
  have K10 : Keep h0 T10.heap ([] : List Addr) := K7.trans kp10 all0
  have zz10 : n0 ≤ T10.heap.size := Nat.le_trans Z0 K10.1
  have N10 := Fr.app N4 M10
  have pre11 : ∀ t, Steps p.tables e below (T10.setTop (mkF m 21 #[.val (.int xc)] [(.ref b10), (.ref b7), (.ref b7)])) t → Steps p.tables e below (s₁.setTop (entryFrame m #[(.int xc)] 1)) t := fun t k => pre9 t (st10 t k)
  have pre12 : ∀ t, Steps p.tables e below (T10.setTop (mkF m 22 #[.val (.int xc)] [(.int (0 : Int32)), (.ref b10), (.ref b7), (.ref b7)])) t → Steps p.tables e below (s₁.setTop (entryFrame m #[(.int xc)] 1)) t := by
    intro t k
    refine pre11 t ?_
    refine XS.iconst X10.here hx rfl (hb hby d4_21) ?_
    show Steps p.tables e below (T10.setTop (mkF m 22 #[.val (.int xc)] [(.int (0 : Int32)), (.ref b10), (.ref b7), (.ref b7)])) _
    exact k
  have f13 := (A7.keep kp10)
  have f14 := (F_value_b7.keep kp10 nin0)
  have f15 := (F_coder_b7.keep kp10 nin0)
  obtain ⟨_, _, ⟨T16, L16, k16, n16⟩, -, X16, ⟨Lc16, hQ16, l16, y16, z16⟩, st16⟩ := X10.specialBack hx (y := (⟨"java/lang/String", "<init>", "([BB)V"⟩ : MethodName)) rfl hown (mvT hZ (hw _ (List.mem_of_getElem? (i := 35) rfl))) (mvT hZ (hw _ (List.mem_of_getElem? (i := 36) rfl))) (mvT hZ (hw _ (List.mem_of_getElem? (i := 38) rfl))) (by decide) (backOf (W := 1) (rm_sinit l Z a0 hw [] b7 b10 (0 : Int32) T10.heap n0 zz10 f13 (g_b7) f14 f15) hZ (hw _ (List.mem_of_getElem? (i := 38) rfl)) (hw _ (List.mem_of_getElem? (i := 22) rfl)) (by decide) (by decide)) (g := (mkF m 22 #[.val (.int xc)] [(.int (0 : Int32)), (.ref b10), (.ref b7), (.ref b7)])) rfl (by rw [hml]; rfl) (Steps.refl _) (a := b7) (argsL := [(.ref b10), (.int (0 : Int32))]) (rest := [(.ref b7)]) (lenOf pd2 rfl) rfl (by show 2 * 0 + _ ≤ _; exact Nat.le_of_eq rfl) (hb hby d4_22) (fun _ _ => ⟨rfl, rfl, (by decide : 2 + 0 ≤ _), (by decide : 5 + 0 ≤ _)⟩)
  dsimp only [Pt.U, Pt.locs, Pt.cells, Pt.slots] at X16 l16 y16 z16 st16 hQ16
  subst l16 y16 z16
  obtain ⟨rfl, M16, kp16, f16_0⟩ := hQ16
  have K16 : Keep h0 T16.heap ([] : List Addr) := K10.trans kp16 (allS (P := fun x => x ∈ ([] : List Addr) ∨ h0.size ≤ x) (Or.inr sz_b7) all0)
  have zz16 : n0 ≤ T16.heap.size := Nat.le_trans Z0 K16.1
  have N16 := Fr.app N10 M16
  have pre17 : ∀ t, Steps p.tables e below (T16.setTop (mkF m 25 #[.val (.int xc)] [(.ref b7)])) t → Steps p.tables e below (s₁.setTop (entryFrame m #[(.int xc)] 1)) t := fun t k => pre12 t (st16.trans k)
  obtain ⟨fs, hr, hrun, hended, hW, hsame⟩ := X16.leave (v := some (.ref b7)) (fun h => by rw [Bd.returns] at h; cases h)
  refine ⟨_, _, pre17 _ ?_, hrun, hended, _, _, rfl, ?_, ⟨_, rfl⟩, hW, hsame.mono (by decide) (by decide)⟩
  · exact retOut X16 hx Bd.returns rfl (Or.inr (Or.inr (Or.inr (Or.inr ⟨rfl, rfl, rfl⟩)))) (hb hby d4_25) hr
  · show Q_rm_sval Z xc xcs h0 n0 _ T16.heap _
    exact ⟨b7, rfl, N16, g_b7, sz_b7, K16, f16_0⟩
theorem d10_0 : decode jdk_18_method_1_code 0 = .ok (.aload_n 0, 1) := by decide +kernel
theorem d10_1 : decode jdk_18_method_1_code 1 = .ok (.invokespecial 1, 3) := by decide +kernel
theorem d10_4 : decode jdk_18_method_1_code 4 = .ok (.return_, 1) := by decide +kernel
theorem pn3 : plainName "java/lang/Number" = true := by first | (simp [plainName, overriddenIn]; done) | decide +kernel
theorem ef_rm_num (m : MethodId) (ra : Addr) : entryFrame m #[(.ref ra)] 1 = mkF m 0 #[.val (.ref ra)] [] := by first | (simp [entryFrame, mkF, argsToLocals, Value.category]; done) | rfl
def Q_rm_num (Z : State) (ra : Addr) (h0 : Heap) (n0 : Nat) (v : Option Value) (h : Heap) (L : List Loc) : Prop := v = none ∧ Fr n0 L ∧ h = h0
set_option maxRecDepth 65536 in
set_option maxHeartbeats 40000000 in
theorem rm_num (l : Launch) (Z : State) (a0 : Array Value) (hw : ∀ d ∈ tables_1, d.before a0 Z = true) (ws : List Jvm.Cond) (ra : Addr) (h0 : Heap) (n0 : Nat) (Z0 : n0 ≤ h0.size) :
    MetFree l (⟨"java/lang/Number", "<init>", "()V"⟩ : MethodName) (head1 (Jvm.Cond.code (⟨"java/lang/Number", "<init>", "()V"⟩ : MethodName) jdk_18_method_1_code 1 none :: ws) ({ frames := 1, cells := 0, slots := 0, locals := 12 } : Room)) (fun a U => a = #[(.ref ra)] ∧ Z.Warmed39 U.vm ∧ U.heap = h0) (fun _ _ _ _ _ => True) (fun _ U o U' => ∃ v L, o = .returned v ∧ Q_rm_num Z ra h0 n0 v U'.heap L ∧ FrameEnd U o U' L ({ frames := 1, cells := 0, slots := 0, locals := 12 } : Room).cells ({ frames := 1, cells := 0, slots := 0, locals := 12 } : Room).slots) := by
  refine MetFree.of_bodySF (plainFor_of_name pn3) hisR ?_
  intro p e s m args below meth c s₁ Bd hml0 hP hK
  obtain ⟨rfl, hZ, hh⟩ := hP
  have hx := Bd.exec
  have hby := Bd.bytes
  have hml : c.maxLocals = 1 := hml0
  have hown : s.vm.findClass "java/lang/Number" = some m.cls := findClass_of_methodNamed Bd.named
  have hnm := (name_of_methodNamed Bd.named Bd.method).1
  have X0 : Stand p l e ({ frames := 1, cells := 0, slots := 0, locals := 12 } : Room) s m #[(.ref ra)] below meth c s₁ [] 0 0 := Stand.of_body Bd
  have e0 : s₁.heap = h0 := by rw [← hh, Bd.state]; rfl
  have N0 := Fr.nil n0
  have pre0 : ∀ t, Steps p.tables e below (s₁.setTop (mkF m 0 #[.val (.ref ra)] [])) t → Steps p.tables e below (s₁.setTop (entryFrame m #[(.ref ra)] 1)) t := fun t k => castTop (ef_rm_num m ra) k
  have pre1 : ∀ t, Steps p.tables e below (s₁.setTop (mkF m 1 #[.val (.ref ra)] [(.ref ra)])) t → Steps p.tables e below (s₁.setTop (entryFrame m #[(.ref ra)] 1)) t := by
    intro t k
    refine pre0 t ?_
    refine XS.aloadN X0.here hx rfl (hb hby d10_0) rfl rfl ?_
    show Steps p.tables e below (s₁.setTop (mkF m 1 #[.val (.ref ra)] [(.ref ra)])) _
    exact k
  obtain ⟨T2, X2, e2, st2⟩ := initO X0 hx hZ hown (hw _ (List.mem_of_getElem? (i := 64) rfl)) (hw _ (List.mem_of_getElem? (i := 7) rfl)) (hw _ (List.mem_of_getElem? (i := 8) rfl)) e0 (g := (mkF m 1 #[.val (.ref ra)] [(.ref ra)])) rfl (by rw [hml]; rfl) rfl (hb hby d10_1) (by decide) (W := 0) (by show 2 * 0 + _ ≤ _; exact Nat.le_of_eq rfl) (by decide)
  have pre3 : ∀ t, Steps p.tables e below (T2.setTop (mkF m 4 #[.val (.ref ra)] [])) t → Steps p.tables e below (s₁.setTop (entryFrame m #[(.ref ra)] 1)) t := fun t k => pre1 t (st2 t k)
  obtain ⟨fs, hr, hrun, hended, hW, hsame⟩ := X2.leave (v := none) (fun _ => rfl)
  refine ⟨_, _, pre3 _ ?_, hrun, hended, _, _, rfl, ?_, ⟨_, rfl⟩, hW, hsame.mono (by decide) (by decide)⟩
  · exact X2.returnOut hx Bd.returns (hb hby d10_4) hr
  · show Q_rm_num Z ra h0 n0 _ T2.heap _
    rw [e2]
    exact ⟨rfl, N0, rfl⟩
theorem d9_0 : decode jdk_33_method_23_code 0 = .ok (.aload_n 0, 1) := by decide +kernel
theorem d9_1 : decode jdk_33_method_23_code 1 = .ok (.invokespecial 202, 3) := by decide +kernel
theorem pd3 : parseMethodDescriptor "()V" = some ⟨[], none⟩ := by decide +kernel
theorem d9_4 : decode jdk_33_method_23_code 4 = .ok (.aload_n 0, 1) := by decide +kernel
theorem d9_5 : decode jdk_33_method_23_code 5 = .ok (.iload_n 1, 1) := by decide +kernel
theorem d9_6 : decode jdk_33_method_23_code 6 = .ok (.putfield 205, 3) := by decide +kernel
theorem d9_9 : decode jdk_33_method_23_code 9 = .ok (.return_, 1) := by decide +kernel
theorem pn4 : plainName "java/lang/Integer" = true := by first | (simp [plainName, overriddenIn]; done) | decide +kernel
theorem ef_rm_iinit (m : MethodId) (ra : Addr) (xi : Int32) : entryFrame m #[(.ref ra), (.int xi)] 2 = mkF m 0 #[.val (.ref ra), .val (.int xi)] [] := by first | (simp [entryFrame, mkF, argsToLocals, Value.category]; done) | rfl
def Q_rm_iinit (Z : State) (ra : Addr) (xi : Int32) (h0 : Heap) (n0 : Nat) (v : Option Value) (h : Heap) (L : List Loc) : Prop := v = none ∧ Fr n0 L ∧ Keep h0 h [ra] ∧ Exa Z h ra "java/lang/Integer"
set_option maxRecDepth 65536 in
set_option maxHeartbeats 40000000 in
theorem rm_iinit (l : Launch) (Z : State) (a0 : Array Value) (hw : ∀ d ∈ tables_1, d.before a0 Z = true) (ws : List Jvm.Cond) (ra : Addr) (xi : Int32) (h0 : Heap) (n0 : Nat) (Z0 : n0 ≤ h0.size) (E_ra : Exa Z h0 ra "java/lang/Integer") (g_ra : n0 ≤ ra) (F_value_ra : Fld Z h0 ra "java/lang/Integer" "value" "I" (.int (0 : Int32))) :
    MetFree l (⟨"java/lang/Integer", "<init>", "(I)V"⟩ : MethodName) (head1 (Jvm.Cond.code (⟨"java/lang/Integer", "<init>", "(I)V"⟩ : MethodName) jdk_33_method_23_code 2 none :: ws) ({ frames := 2, cells := 0, slots := 0, locals := 24 } : Room)) (fun a U => a = #[(.ref ra), (.int xi)] ∧ Z.Warmed39 U.vm ∧ U.heap = h0) (fun _ _ _ _ _ => True) (fun _ U o U' => ∃ v L, o = .returned v ∧ Q_rm_iinit Z ra xi h0 n0 v U'.heap L ∧ FrameEnd U o U' L ({ frames := 2, cells := 0, slots := 0, locals := 24 } : Room).cells ({ frames := 2, cells := 0, slots := 0, locals := 24 } : Room).slots) := by
  refine MetFree.of_bodySF (plainFor_of_name pn4) hisR ?_
  intro p e s m args below meth c s₁ Bd hml0 hP hK
  obtain ⟨rfl, hZ, hh⟩ := hP
  have hx := Bd.exec
  have hby := Bd.bytes
  have hml : c.maxLocals = 2 := hml0
  have hown : s.vm.findClass "java/lang/Integer" = some m.cls := findClass_of_methodNamed Bd.named
  have hnm := (name_of_methodNamed Bd.named Bd.method).1
  have X0 : Stand p l e ({ frames := 2, cells := 0, slots := 0, locals := 24 } : Room) s m #[(.ref ra), (.int xi)] below meth c s₁ [] 0 0 := Stand.of_body Bd
  have e0 : s₁.heap = h0 := by rw [← hh, Bd.state]; rfl
  have N0 := Fr.nil n0
  have pre0 : ∀ t, Steps p.tables e below (s₁.setTop (mkF m 0 #[.val (.ref ra), .val (.int xi)] [])) t → Steps p.tables e below (s₁.setTop (entryFrame m #[(.ref ra), (.int xi)] 2)) t := fun t k => castTop (ef_rm_iinit m ra xi) k
  have pre1 : ∀ t, Steps p.tables e below (s₁.setTop (mkF m 1 #[.val (.ref ra), .val (.int xi)] [(.ref ra)])) t → Steps p.tables e below (s₁.setTop (entryFrame m #[(.ref ra), (.int xi)] 2)) t := by
    intro t k
    refine pre0 t ?_
    refine XS.aloadN X0.here hx rfl (hb hby d9_0) rfl rfl ?_
    show Steps p.tables e below (s₁.setTop (mkF m 1 #[.val (.ref ra), .val (.int xi)] [(.ref ra)])) _
    exact k
  obtain ⟨_, _, ⟨T2, L2, k2, n2⟩, -, X2, ⟨Lc2, hQ2, l2, y2, z2⟩, st2⟩ := X0.specialBack hx (y := (⟨"java/lang/Number", "<init>", "()V"⟩ : MethodName)) rfl hown (mvT hZ (hw _ (List.mem_of_getElem? (i := 58) rfl))) (mvT hZ (hw _ (List.mem_of_getElem? (i := 59) rfl))) (mvT hZ (hw _ (List.mem_of_getElem? (i := 63) rfl))) (by decide) (backOf (W := 0) (rm_num l Z a0 hw [] ra h0 n0 Z0 ) hZ (hw _ (List.mem_of_getElem? (i := 63) rfl)) (hw _ (List.mem_of_getElem? (i := 62) rfl)) (by decide) (by decide)) (g := (mkF m 1 #[.val (.ref ra), .val (.int xi)] [(.ref ra)])) rfl (by rw [hml]; rfl) (Steps.refl _) (a := ra) (argsL := []) (rest := []) (lenOf pd3 rfl) rfl (by show 2 * 0 + _ ≤ _; exact Nat.le_of_eq rfl) (hb hby d9_1) (fun _ _ => ⟨rfl, e0, (by decide : 0 + 0 ≤ _), (by decide : 0 + 0 ≤ _)⟩)
  dsimp only [Pt.U, Pt.locs, Pt.cells, Pt.slots] at X2 l2 y2 z2 st2 hQ2
  subst l2 y2 z2
  obtain ⟨rfl, M2, e2⟩ := hQ2
  have N2 := Fr.app N0 M2
  have pre3 : ∀ t, Steps p.tables e below (T2.setTop (mkF m 4 #[.val (.ref ra), .val (.int xi)] [])) t → Steps p.tables e below (s₁.setTop (entryFrame m #[(.ref ra), (.int xi)] 2)) t := fun t k => pre1 t (st2.trans k)
  have pre4 : ∀ t, Steps p.tables e below (T2.setTop (mkF m 6 #[.val (.ref ra), .val (.int xi)] [(.int xi), (.ref ra)])) t → Steps p.tables e below (s₁.setTop (entryFrame m #[(.ref ra), (.int xi)] 2)) t := by
    intro t k
    refine pre3 t ?_
    refine XS.aloadN X2.here hx rfl (hb hby d9_4) rfl rfl ?_
    show Steps p.tables e below (T2.setTop (mkF m 5 #[.val (.ref ra), .val (.int xi)] [(.ref ra)])) _
    refine XS.iloadN X2.here hx rfl (hb hby d9_5) rfl ?_
    show Steps p.tables e below (T2.setTop (mkF m 6 #[.val (.ref ra), .val (.int xi)] [(.int xi), (.ref ra)])) _
    exact k
  obtain ⟨T5, h5, X5, e5, W5, st5⟩ := putF X2 hx hZ hown (host := "") (Or.inl (hw _ (List.mem_of_getElem? (i := 65) rfl))) Via.refl e2 F_value_ra E_ra (Or.inr ⟨(hw _ (List.mem_of_getElem? (i := 66) rfl)), rfl, hnm⟩) (hw _ (List.mem_of_getElem? (i := 53) rfl)) (ty := .int) (by decide) rfl rfl (g := (mkF m 6 #[.val (.ref ra), .val (.int xi)] [(.int xi), (.ref ra)])) rfl rfl (hb hby d9_6)
  have K5 : Keep h0 h5 [ra] := (Keep.refl h0 [ra]).wr W5 (Or.inl (by simp))
  have z5 : n0 ≤ h5.size := Nat.le_trans Z0 K5.1
  have N5 := Fr.snoc X5 N2 g_ra
  have Fw5 := F_value_ra.same W5
  have pre6 : ∀ t, Steps p.tables e below (T5.setTop (mkF m 9 #[.val (.ref ra), .val (.int xi)] [])) t → Steps p.tables e below (s₁.setTop (entryFrame m #[(.ref ra), (.int xi)] 2)) t := fun t k => pre4 t (st5 t k)
  obtain ⟨fs, hr, hrun, hended, hW, hsame⟩ := X5.leave (v := none) (fun _ => rfl)
  refine ⟨_, _, pre6 _ ?_, hrun, hended, _, _, rfl, ?_, ⟨_, rfl⟩, hW, hsame.mono (by decide) (by decide)⟩
  · exact X5.returnOut hx Bd.returns (hb hby d9_9) hr
  · show Q_rm_iinit Z ra xi h0 n0 _ T5.heap _
    rw [e5]
    exact ⟨rfl, N5, K5, (E_ra.wr W5)⟩
theorem own_idx (xi : Int32) (h1 : ¬ (xi < (-128 : Int32))) (h2 : ¬ ((127 : Int32) < xi)) : ¬ ((xi + (128 : Int32)) < 0) ∧ (xi + (128 : Int32)) < (256 : Int32) := by
  simp only [Int32.lt_iff_toInt_lt] at *
  have := rng32 xi
  have : (128 : Int32).toInt = 128 := rfl
  have := c_iadd xi (128 : Int32)
  have := rng32 (xi + (128 : Int32))
  have : (-128 : Int32).toInt = -128 := rfl
  have : (127 : Int32).toInt = 127 := rfl
  have : (256 : Int32).toInt = 256 := rfl
  have : (0 : Int32).toInt = 0 := rfl
  omega
theorem d8_0 : decode jdk_33_method_22_code 0 = .ok (.iload_n 0, 1) := by decide +kernel
theorem d8_1 : decode jdk_33_method_22_code 1 = .ok (.bipush (-128), 2) := by decide +kernel
theorem d8_3 : decode jdk_33_method_22_code 3 = .ok (.if_icmp .lt 20, 3) := by decide +kernel
theorem d8_23 : decode jdk_33_method_22_code 23 = .ok (.new 1, 3) := by decide +kernel
theorem d8_26 : decode jdk_33_method_22_code 26 = .ok (.dup, 1) := by decide +kernel
theorem d8_27 : decode jdk_33_method_22_code 27 = .ok (.iload_n 0, 1) := by decide +kernel
theorem d8_28 : decode jdk_33_method_22_code 28 = .ok (.invokespecial 199, 3) := by decide +kernel
theorem pd4 : parseMethodDescriptor "(I)V" = some ⟨[.int], none⟩ := by decide +kernel
theorem d8_31 : decode jdk_33_method_22_code 31 = .ok (.areturn, 1) := by decide +kernel
theorem d8_6 : decode jdk_33_method_22_code 6 = .ok (.iload_n 0, 1) := by decide +kernel
theorem d8_7 : decode jdk_33_method_22_code 7 = .ok (.getstatic 191, 3) := by decide +kernel
theorem d8_10 : decode jdk_33_method_22_code 10 = .ok (.if_icmp .gt 13, 3) := by decide +kernel
theorem d8_13 : decode jdk_33_method_22_code 13 = .ok (.getstatic 195, 3) := by decide +kernel
theorem d8_16 : decode jdk_33_method_22_code 16 = .ok (.iload_n 0, 1) := by decide +kernel
theorem d8_17 : decode jdk_33_method_22_code 17 = .ok (.sipush 128, 3) := by decide +kernel
theorem d8_20 : decode jdk_33_method_22_code 20 = .ok (.iadd, 1) := by decide +kernel
theorem d8_21 : decode jdk_33_method_22_code 21 = .ok (.aaload, 1) := by decide +kernel
theorem d8_22 : decode jdk_33_method_22_code 22 = .ok (.areturn, 1) := by decide +kernel
theorem ef_rm_ival (m : MethodId) (xi : Int32) : entryFrame m #[(.int xi)] 1 = mkF m 0 #[.val (.int xi)] [] := by first | (simp [entryFrame, mkF, argsToLocals, Value.category]; done) | rfl
def Q_rm_ival (Z : State) (xi : Int32) (wc : Addr) (cc : Cell) (h0 : Heap) (n0 : Nat) (v : Option Value) (h : Heap) (L : List Loc) : Prop := ∃ bo : Addr, v = some (.ref bo) ∧ Fr n0 L ∧ Keep h0 h ([] : List Addr) ∧ Exa Z h bo "java/lang/Integer"
set_option maxRecDepth 65536 in
set_option maxHeartbeats 40000000 in
theorem rm_ival (l : Launch) (Z : State) (a0 : Array Value) (hw : ∀ d ∈ tables_1, d.before a0 Z = true) (ws : List Jvm.Cond) (xi : Int32) (wc : Addr) (cc : Cell) (h0 : Heap) (n0 : Nat) (Z0 : n0 ≤ h0.size) (SH : Sta Z h0 "java/lang/Integer$IntegerCache" "high" "I" (.int (127 : Int32))) (SW : Sta Z h0 "java/lang/Integer$IntegerCache" "cache" "[Ljava/lang/Integer;" (.ref wc)) (BX : Bxs Z wc cc "java/lang/Integer" "I" (256 : Int32) (fun j => .int (j - 128))) (OZ : Ext Z.heap h0) :
    MetFree l (⟨"java/lang/Integer", "valueOf", "(I)Ljava/lang/Integer;"⟩ : MethodName) (head1 (Jvm.Cond.code (⟨"java/lang/Integer", "valueOf", "(I)Ljava/lang/Integer;"⟩ : MethodName) jdk_33_method_22_code 1 (some (.object "java/lang/Integer")) :: ws) ({ frames := 3, cells := 1, slots := 1, locals := 38 } : Room)) (fun a U => a = #[(.int xi)] ∧ Z.Warmed39 U.vm ∧ U.heap = h0) (fun _ _ _ _ _ => True) (fun _ U o U' => ∃ v L, o = .returned v ∧ Q_rm_ival Z xi wc cc h0 n0 v U'.heap L ∧ FrameEnd U o U' L ({ frames := 3, cells := 1, slots := 1, locals := 38 } : Room).cells ({ frames := 3, cells := 1, slots := 1, locals := 38 } : Room).slots) := by
  refine MetFree.of_bodySF (plainFor_of_name pn4) hisR ?_
  intro p e s m args below meth c s₁ Bd hml0 hP hK
  obtain ⟨rfl, hZ, hh⟩ := hP
  have hx := Bd.exec
  have hby := Bd.bytes
  have hml : c.maxLocals = 1 := hml0
  have hown : s.vm.findClass "java/lang/Integer" = some m.cls := findClass_of_methodNamed Bd.named
  have hnm := (name_of_methodNamed Bd.named Bd.method).1
  have X0 : Stand p l e ({ frames := 3, cells := 1, slots := 1, locals := 38 } : Room) s m #[(.int xi)] below meth c s₁ [] 0 0 := Stand.of_body Bd
  have e0 : s₁.heap = h0 := by rw [← hh, Bd.state]; rfl
  have N0 := Fr.nil n0
  have pre0 : ∀ t, Steps p.tables e below (s₁.setTop (mkF m 0 #[.val (.int xi)] [])) t → Steps p.tables e below (s₁.setTop (entryFrame m #[(.int xi)] 1)) t := fun t k => castTop (ef_rm_ival m xi) k
  have pre1 : ∀ t, Steps p.tables e below (s₁.setTop (mkF m 3 #[.val (.int xi)] [(.int (-128 : Int32)), (.int xi)])) t → Steps p.tables e below (s₁.setTop (entryFrame m #[(.int xi)] 1)) t := by
    intro t k
    refine pre0 t ?_
    refine XS.iloadN X0.here hx rfl (hb hby d8_0) rfl ?_
    show Steps p.tables e below (s₁.setTop (mkF m 1 #[.val (.int xi)] [(.int xi)])) _
    refine XS.bipush X0.here hx rfl (hb hby d8_1) ?_
    show Steps p.tables e below (s₁.setTop (mkF m 3 #[.val (.int xi)] [(.int (-128 : Int32)), (.int xi)])) _
    exact k
  by_cases hc3 : xi < (-128 : Int32)
  · have pre2 : ∀ t, Steps p.tables e below (s₁.setTop (mkF m 23 #[.val (.int xi)] [])) t → Steps p.tables e below (s₁.setTop (entryFrame m #[(.int xi)] 1)) t := by
      intro t k
      refine pre1 t ?_
      refine XS.icmpYes X0.here hx rfl (pc0 := 3) (pc' := 23) rfl (hb hby d8_3) rfl (tlt hc3).1 (by decide) (by decide) ?_
      show Steps p.tables e below (s₁.setTop (mkF m 23 #[.val (.int xi)] [])) _
      exact k
    obtain ⟨T3, h3, X3, e3, E3, A3, D3, -, st3⟩ := newO X0 hx hZ hown (hw _ (List.mem_of_getElem? (i := 52) rfl)) (hw _ (List.mem_of_getElem? (i := 53) rfl)) (hw _ (List.mem_of_getElem? (i := 48) rfl)) e0 (g := (mkF m 23 #[.val (.int xi)] [])) rfl (hb hby d8_23) (by decide) (by decide)
    obtain ⟨b3, g3⟩ : ∃ z, z = h0.size := ⟨_, rfl⟩
    rw [← g3] at A3 D3 st3
    have g_b3 : n0 ≤ b3 := Nat.le_trans Z0 (Nat.le_of_eq g3.symm)
    have sz_b3 : h0.size ≤ b3 := Nat.le_trans (Keep.refl h0 ([] : List Addr)).1 (Nat.le_of_eq g3.symm)
    have K3 : Keep h0 h3 ([] : List Addr) := (Keep.refl h0 ([] : List Addr)).ext E3
    have z3 : n0 ≤ h3.size := Nat.le_trans Z0 K3.1
    have F_value_b3 : Fld Z h3 b3 "java/lang/Integer" "value" "I" (.int (0 : Int32)) := D3 (Or.inr (hw _ (List.mem_of_getElem? (i := 66) rfl))) (ty := .int) (by decide)
    have pre4 : ∀ t, Steps p.tables e below (T3.setTop (mkF m 26 #[.val (.int xi)] [(.ref b3)])) t → Steps p.tables e below (s₁.setTop (entryFrame m #[(.int xi)] 1)) t := fun t k => pre2 t (st3 t k)
    have pre5 : ∀ t, Steps p.tables e below (T3.setTop (mkF m 28 #[.val (.int xi)] [(.int xi), (.ref b3), (.ref b3)])) t → Steps p.tables e below (s₁.setTop (entryFrame m #[(.int xi)] 1)) t := by
      intro t k
      refine pre4 t ?_
      refine XS.dup X3.here hx rfl (hb hby d8_26) rfl rfl ?_
      show Steps p.tables e below (T3.setTop (mkF m 27 #[.val (.int xi)] [(.ref b3), (.ref b3)])) _
      refine XS.iloadN X3.here hx rfl (hb hby d8_27) rfl ?_
      show Steps p.tables e below (T3.setTop (mkF m 28 #[.val (.int xi)] [(.int xi), (.ref b3), (.ref b3)])) _
      exact k
    obtain ⟨_, _, ⟨T6, L6, k6, n6⟩, -, X6, ⟨Lc6, hQ6, l6, y6, z6⟩, st6⟩ := X3.specialBack hx (y := (⟨"java/lang/Integer", "<init>", "(I)V"⟩ : MethodName)) rfl hown (mvT hZ (hw _ (List.mem_of_getElem? (i := 54) rfl))) (mvT hZ (hw _ (List.mem_of_getElem? (i := 55) rfl))) (mvT hZ (hw _ (List.mem_of_getElem? (i := 57) rfl))) (by decide) (backOf (W := 1) (rm_iinit l Z a0 hw [] b3 xi h3 n0 z3 A3 (g_b3) F_value_b3) hZ (hw _ (List.mem_of_getElem? (i := 57) rfl)) (hw _ (List.mem_of_getElem? (i := 48) rfl)) (by decide) (by decide)) (g := (mkF m 28 #[.val (.int xi)] [(.int xi), (.ref b3), (.ref b3)])) rfl (by rw [hml]; rfl) (Steps.refl _) (a := b3) (argsL := [(.int xi)]) (rest := [(.ref b3)]) (lenOf pd4 rfl) rfl (by show 2 * 0 + _ ≤ _; exact Nat.le_of_eq rfl) (hb hby d8_28) (fun _ _ => ⟨rfl, e3, (by decide : 1 + 0 ≤ _), (by decide : 1 + 0 ≤ _)⟩)
    dsimp only [Pt.U, Pt.locs, Pt.cells, Pt.slots] at X6 l6 y6 z6 st6 hQ6
    subst l6 y6 z6
    obtain ⟨rfl, M6, kp6, f6_0⟩ := hQ6
    have K6 : Keep h0 T6.heap ([] : List Addr) := K3.trans kp6 (allS (P := fun x => x ∈ ([] : List Addr) ∨ h0.size ≤ x) (Or.inr sz_b3) all0)
    have zz6 : n0 ≤ T6.heap.size := Nat.le_trans Z0 K6.1
    have N6 := Fr.app N0 M6
    have pre7 : ∀ t, Steps p.tables e below (T6.setTop (mkF m 31 #[.val (.int xi)] [(.ref b3)])) t → Steps p.tables e below (s₁.setTop (entryFrame m #[(.int xi)] 1)) t := fun t k => pre5 t (st6.trans k)
    obtain ⟨fs, hr, hrun, hended, hW, hsame⟩ := X6.leave (v := some (.ref b3)) (fun h => by rw [Bd.returns] at h; cases h)
    refine ⟨_, _, pre7 _ ?_, hrun, hended, _, _, rfl, ?_, ⟨_, rfl⟩, hW, hsame.mono (by decide) (by decide)⟩
    · exact retOut X6 hx Bd.returns rfl (Or.inr (Or.inr (Or.inr (Or.inr ⟨rfl, rfl, rfl⟩)))) (hb hby d8_31) hr
    · show Q_rm_ival Z xi wc cc h0 n0 _ T6.heap _
      exact ⟨b3, rfl, N6, K6, f6_0⟩
  · have pre9 : ∀ t, Steps p.tables e below (s₁.setTop (mkF m 7 #[.val (.int xi)] [(.int xi)])) t → Steps p.tables e below (s₁.setTop (entryFrame m #[(.int xi)] 1)) t := by
      intro t k
      refine pre1 t ?_
      refine XS.icmpNo X0.here hx rfl (hb hby d8_3) rfl (flt hc3).1 ?_
      show Steps p.tables e below (s₁.setTop (mkF m 6 #[.val (.int xi)] [])) _
      refine XS.iloadN X0.here hx rfl (hb hby d8_6) rfl ?_
      show Steps p.tables e below (s₁.setTop (mkF m 7 #[.val (.int xi)] [(.int xi)])) _
      exact k
    obtain ⟨T8, X8, e8, st8⟩ := getS2 X0 hx hZ hown (host := "") (Or.inl (hw _ (List.mem_of_getElem? (i := 50) rfl))) Via.refl e0 SH (g := (mkF m 7 #[.val (.int xi)] [(.int xi)])) rfl (hb hby d8_7)
    have pre10 : ∀ t, Steps p.tables e below (T8.setTop (mkF m 10 #[.val (.int xi)] [(.int (127 : Int32)), (.int xi)])) t → Steps p.tables e below (s₁.setTop (entryFrame m #[(.int xi)] 1)) t := fun t k => pre9 t (st8 t k)
    by_cases hc10 : (127 : Int32) < xi
    · have pre11 : ∀ t, Steps p.tables e below (T8.setTop (mkF m 23 #[.val (.int xi)] [])) t → Steps p.tables e below (s₁.setTop (entryFrame m #[(.int xi)] 1)) t := by
        intro t k
        refine pre10 t ?_
        refine XS.icmpYes X8.here hx rfl (pc0 := 10) (pc' := 23) rfl (hb hby d8_10) rfl (tlt hc10).2.2.1 (by decide) (by decide) ?_
        show Steps p.tables e below (T8.setTop (mkF m 23 #[.val (.int xi)] [])) _
        exact k
      obtain ⟨T12, h12, X12, e12, E12, A12, D12, -, st12⟩ := newO X8 hx hZ hown (hw _ (List.mem_of_getElem? (i := 52) rfl)) (hw _ (List.mem_of_getElem? (i := 53) rfl)) (hw _ (List.mem_of_getElem? (i := 48) rfl)) e8 (g := (mkF m 23 #[.val (.int xi)] [])) rfl (hb hby d8_23) (by decide) (by decide)
      obtain ⟨b12, g12⟩ : ∃ z, z = h0.size := ⟨_, rfl⟩
      rw [← g12] at A12 D12 st12
      have g_b12 : n0 ≤ b12 := Nat.le_trans Z0 (Nat.le_of_eq g12.symm)
      have sz_b12 : h0.size ≤ b12 := Nat.le_trans (Keep.refl h0 ([] : List Addr)).1 (Nat.le_of_eq g12.symm)
      have K12 : Keep h0 h12 ([] : List Addr) := (Keep.refl h0 ([] : List Addr)).ext E12
      have z12 : n0 ≤ h12.size := Nat.le_trans Z0 K12.1
      have F_value_b12 : Fld Z h12 b12 "java/lang/Integer" "value" "I" (.int (0 : Int32)) := D12 (Or.inr (hw _ (List.mem_of_getElem? (i := 66) rfl))) (ty := .int) (by decide)
      have pre13 : ∀ t, Steps p.tables e below (T12.setTop (mkF m 26 #[.val (.int xi)] [(.ref b12)])) t → Steps p.tables e below (s₁.setTop (entryFrame m #[(.int xi)] 1)) t := fun t k => pre11 t (st12 t k)
      have pre14 : ∀ t, Steps p.tables e below (T12.setTop (mkF m 28 #[.val (.int xi)] [(.int xi), (.ref b12), (.ref b12)])) t → Steps p.tables e below (s₁.setTop (entryFrame m #[(.int xi)] 1)) t := by
        intro t k
        refine pre13 t ?_
        refine XS.dup X12.here hx rfl (hb hby d8_26) rfl rfl ?_
        show Steps p.tables e below (T12.setTop (mkF m 27 #[.val (.int xi)] [(.ref b12), (.ref b12)])) _
        refine XS.iloadN X12.here hx rfl (hb hby d8_27) rfl ?_
        show Steps p.tables e below (T12.setTop (mkF m 28 #[.val (.int xi)] [(.int xi), (.ref b12), (.ref b12)])) _
        exact k
      obtain ⟨_, _, ⟨T15, L15, k15, n15⟩, -, X15, ⟨Lc15, hQ15, l15, y15, z15⟩, st15⟩ := X12.specialBack hx (y := (⟨"java/lang/Integer", "<init>", "(I)V"⟩ : MethodName)) rfl hown (mvT hZ (hw _ (List.mem_of_getElem? (i := 54) rfl))) (mvT hZ (hw _ (List.mem_of_getElem? (i := 55) rfl))) (mvT hZ (hw _ (List.mem_of_getElem? (i := 57) rfl))) (by decide) (backOf (W := 1) (rm_iinit l Z a0 hw [] b12 xi h12 n0 z12 A12 (g_b12) F_value_b12) hZ (hw _ (List.mem_of_getElem? (i := 57) rfl)) (hw _ (List.mem_of_getElem? (i := 48) rfl)) (by decide) (by decide)) (g := (mkF m 28 #[.val (.int xi)] [(.int xi), (.ref b12), (.ref b12)])) rfl (by rw [hml]; rfl) (Steps.refl _) (a := b12) (argsL := [(.int xi)]) (rest := [(.ref b12)]) (lenOf pd4 rfl) rfl (by show 2 * 0 + _ ≤ _; exact Nat.le_of_eq rfl) (hb hby d8_28) (fun _ _ => ⟨rfl, e12, (by decide : 1 + 0 ≤ _), (by decide : 1 + 0 ≤ _)⟩)
      dsimp only [Pt.U, Pt.locs, Pt.cells, Pt.slots] at X15 l15 y15 z15 st15 hQ15
      subst l15 y15 z15
      obtain ⟨rfl, M15, kp15, f15_0⟩ := hQ15
      have K15 : Keep h0 T15.heap ([] : List Addr) := K12.trans kp15 (allS (P := fun x => x ∈ ([] : List Addr) ∨ h0.size ≤ x) (Or.inr sz_b12) all0)
      have zz15 : n0 ≤ T15.heap.size := Nat.le_trans Z0 K15.1
      have N15 := Fr.app N0 M15
      have pre16 : ∀ t, Steps p.tables e below (T15.setTop (mkF m 31 #[.val (.int xi)] [(.ref b12)])) t → Steps p.tables e below (s₁.setTop (entryFrame m #[(.int xi)] 1)) t := fun t k => pre14 t (st15.trans k)
      obtain ⟨fs, hr, hrun, hended, hW, hsame⟩ := X15.leave (v := some (.ref b12)) (fun h => by rw [Bd.returns] at h; cases h)
      refine ⟨_, _, pre16 _ ?_, hrun, hended, _, _, rfl, ?_, ⟨_, rfl⟩, hW, hsame.mono (by decide) (by decide)⟩
      · exact retOut X15 hx Bd.returns rfl (Or.inr (Or.inr (Or.inr (Or.inr ⟨rfl, rfl, rfl⟩)))) (hb hby d8_31) hr
      · show Q_rm_ival Z xi wc cc h0 n0 _ T15.heap _
        exact ⟨b12, rfl, N15, K15, f15_0⟩
    · have pre18 : ∀ t, Steps p.tables e below (T8.setTop (mkF m 13 #[.val (.int xi)] [])) t → Steps p.tables e below (s₁.setTop (entryFrame m #[(.int xi)] 1)) t := by
        intro t k
        refine pre10 t ?_
        refine XS.icmpNo X8.here hx rfl (hb hby d8_10) rfl (flt hc10).2.2.1 ?_
        show Steps p.tables e below (T8.setTop (mkF m 13 #[.val (.int xi)] [])) _
        exact k
      obtain ⟨T17, X17, e17, st17⟩ := getS2 X8 hx hZ hown (host := "") (Or.inl (hw _ (List.mem_of_getElem? (i := 69) rfl))) Via.refl e8 SW (g := (mkF m 13 #[.val (.int xi)] [])) rfl (hb hby d8_13)
      have pre19 : ∀ t, Steps p.tables e below (T17.setTop (mkF m 16 #[.val (.int xi)] [(.ref wc)])) t → Steps p.tables e below (s₁.setTop (entryFrame m #[(.int xi)] 1)) t := fun t k => pre18 t (st17 t k)
      have pre20 : ∀ t, Steps p.tables e below (T17.setTop (mkF m 21 #[.val (.int xi)] [(.int (xi + (128 : Int32))), (.ref wc)])) t → Steps p.tables e below (s₁.setTop (entryFrame m #[(.int xi)] 1)) t := by
        intro t k
        refine pre19 t ?_
        refine XS.iloadN X17.here hx rfl (hb hby d8_16) rfl ?_
        show Steps p.tables e below (T17.setTop (mkF m 17 #[.val (.int xi)] [(.int xi), (.ref wc)])) _
        refine XS.sipush X17.here hx rfl (hb hby d8_17) ?_
        show Steps p.tables e below (T17.setTop (mkF m 20 #[.val (.int xi)] [(.int (128 : Int32)), (.int xi), (.ref wc)])) _
        refine XS.iadd X17.here hx rfl (hb hby d8_20) rfl ?_
        show Steps p.tables e below (T17.setTop (mkF m 21 #[.val (.int xi)] [(.int (xi + (128 : Int32))), (.ref wc)])) _
        exact k
      have hin21 : ¬ ((xi + (128 : Int32)) < 0 ∨ cc.slots.size ≤ (xi + (128 : Int32)).toNatClampNeg) := inb_of BX.2.1 (own_idx xi hc3 hc10)
      obtain ⟨bx, hbx, Ebx, -⟩ := BX.2.2.2 _ hin21
      have pre21 : ∀ t, Steps p.tables e below (T17.setTop (mkF m 22 #[.val (.int xi)] [(.ref bx)])) t → Steps p.tables e below (s₁.setTop (entryFrame m #[(.int xi)] 1)) t := by
        intro t k
        refine pre20 t ?_
        refine X17.aaload hx (j := (xi + (128 : Int32))) (v := (.ref bx)) (by rw [e17]; exact (BX.1.ext OZ).1) (State.isArrayOf_alike hZ.alike BX.1.2.1) rfl BX.1.2.2 hin21 hbx (g := (mkF m 21 #[.val (.int xi)] [(.int (xi + (128 : Int32))), (.ref wc)])) rfl rfl (hb hby d8_21) _ ?_
        show Steps p.tables e below (T17.setTop (mkF m 22 #[.val (.int xi)] [(.ref bx)])) _
        exact k
      obtain ⟨fs, hr, hrun, hended, hW, hsame⟩ := X17.leave (v := some (.ref bx)) (fun h => by rw [Bd.returns] at h; cases h)
      refine ⟨_, _, pre21 _ ?_, hrun, hended, _, _, rfl, ?_, ⟨_, rfl⟩, hW, hsame.mono (by decide) (by decide)⟩
      · exact retOut X17 hx Bd.returns rfl (Or.inr (Or.inr (Or.inr (Or.inr ⟨rfl, rfl, rfl⟩)))) (hb hby d8_22) hr
      · show Q_rm_ival Z xi wc cc h0 n0 _ T17.heap _
        rw [e17]
        exact ⟨bx, rfl, N0, (Keep.refl h0 ([] : List Addr)), (Ebx.ext OZ)⟩
theorem own_c (xc : Int32) : ¬ ((255 : Int32) < ((xc &&& (255 : Int32)).toUInt32.toUInt16.toUInt32.toInt32)) := by
  have := rng32 xc
  have := c_mask xc (255 : Int32) 8 (by decide) (by decide +kernel)
  have := rng32 (xc &&& (255 : Int32))
  have := c_i2c (xc &&& (255 : Int32))
  have := rng32 ((xc &&& (255 : Int32)).toUInt32.toUInt16.toUInt32.toInt32)
  have : (255 : Int32).toInt = 255 := rfl
  rw [Int32.lt_iff_toInt_lt]
  omega
theorem pd5 : parseMethodDescriptor "(II)V" = some ⟨[.int, .int], none⟩ := by decide +kernel
theorem pd6 : parseMethodDescriptor "(Ljava/lang/Object;)Z" = some ⟨[(.object "java/lang/Object")], some .boolean⟩ := by decide +kernel
theorem pd7 : parseMethodDescriptor "(C)Ljava/lang/String;" = some ⟨[.char], some (.object "java/lang/String")⟩ := by decide +kernel
theorem pd8 : parseMethodDescriptor "(I)Ljava/lang/Integer;" = some ⟨[.int], some (.object "java/lang/Integer")⟩ := by decide +kernel
theorem pn5 : plainName "com/example/suitor/suitor/PairEqualsPinLaw" = true := by first | (simp [plainName, overriddenIn]; done) | decide +kernel
theorem own_eq (xa xb xc xd v : Int32) (hv : v = (if xc = xa then (if xd = xb then (1 : Int32) else (0 : Int32)) else (0 : Int32))) : F_rm_eqP xa xb xc xd = v := by
  rw [hv, F_rm_eqP]
  by_cases h1 : xa = xc
  · subst h1
    by_cases h2 : xb = xd
    · subst h2; simp
    · have h2' : ¬ (xd = xb) := fun q => h2 q.symm
      simp [h2, h2']
  · have h1' : ¬ (xc = xa) := fun q => h1 q.symm
    simp [h1, h1']
theorem own_len {s : State} {args : Array Value} {t : Term} {a : Addr} {c : Cell} {ty : FieldType} {z : Int32} (et : t.eval args s none [] s = some (.ref a)) (A : Arr s s.heap a c ty) (h : (Term.length t).eval args s none [] s = some (.int z)) : c.slots.size < 2 ^ 31 ∧ c.slots.size.toInt32 = z := by
  have ha := A.fin (Vm.Alike.refl _)
  simpa [Term.eval, et, ha] using h
theorem ef_rm0 (m : MethodId) (xa : Int32) (xb : Int32) (xc : Int32) (xd : Int32) (xs : Int32) : entryFrame m #[(.int xa), (.int xb), (.int xc), (.int xd), (.int xs)] maxLocals = mkF m 0 #[.val (.int xa), .val (.int xb), .val (.int xc), .val (.int xd), .val (.int xs), .unset, .unset, .unset, .unset, .unset, .unset] [] := by first | (simp [entryFrame, mkF, argsToLocals, Value.category, maxLocals]; done) | rfl
def Q_rm0 (Z : State) (xa : Int32) (xb : Int32) (xc : Int32) (xd : Int32) (xs : Int32) (xcs : Int32) (wc : Addr) (cc : Cell) (h0 : Heap) (n0 : Nat) (v : Option Value) (h : Heap) (L : List Loc) : Prop := v = some (.int (1 : Int32)) ∧ Fr n0 L
set_option maxRecDepth 65536 in
set_option maxHeartbeats 40000000 in
theorem rm0 (l : Launch) (Z : State) (a0 : Array Value) (hw : ∀ d ∈ tables_1, d.before a0 Z = true) (ws : List Jvm.Cond) (xa : Int32) (xb : Int32) (xc : Int32) (xd : Int32) (xs : Int32) (xcs : Int32) (wc : Addr) (cc : Cell) (h0 : Heap) (n0 : Nat) (Z0 : n0 ≤ h0.size) (SC : Sta Z h0 "java/lang/String" "COMPACT_STRINGS" "Z" (.int xcs)) (SH : Sta Z h0 "java/lang/Integer$IntegerCache" "high" "I" (.int (127 : Int32))) (SW : Sta Z h0 "java/lang/Integer$IntegerCache" "cache" "[Ljava/lang/Integer;" (.ref wc)) (hcs : ¬ (xcs = (0 : Int32))) (BX : Bxs Z wc cc "java/lang/Integer" "I" (256 : Int32) (fun j => .int (j - 128))) (OZ : Ext Z.heap h0) :
    MetFree l x (head1 (Jvm.Cond.code x code maxLocals ret :: ws) room_1) (fun a U => a = #[(.int xa), (.int xb), (.int xc), (.int xd), (.int xs)] ∧ Z.Warmed39 U.vm ∧ U.heap = h0) (fun _ _ _ _ _ => True) (fun _ U o U' => ∃ v L, o = .returned v ∧ Q_rm0 Z xa xb xc xd xs xcs wc cc h0 n0 v U'.heap L ∧ FrameEnd U o U' L room_1.cells room_1.slots) := by
  refine MetFree.of_bodySF (plainFor_of_name pn5) hisR ?_
  intro p e s m args below meth c s₁ Bd hml0 hP hK
  obtain ⟨rfl, hZ, hh⟩ := hP
  have hx := Bd.exec
  have hby := Bd.bytes
  have hml : c.maxLocals = 11 := hml0
  have hown : s.vm.findClass "com/example/suitor/suitor/PairEqualsPinLaw" = some m.cls := findClass_of_methodNamed Bd.named
  have hnm := (name_of_methodNamed Bd.named Bd.method).1
  have X0 : Stand p l e room_1 s m #[(.int xa), (.int xb), (.int xc), (.int xd), (.int xs)] below meth c s₁ [] 0 0 := Stand.of_body Bd
  have e0 : s₁.heap = h0 := by rw [← hh, Bd.state]; rfl
  have N0 := Fr.nil n0
  have pre0 : ∀ t, Steps p.tables e below (s₁.setTop (mkF m 0 #[.val (.int xa), .val (.int xb), .val (.int xc), .val (.int xd), .val (.int xs), .unset, .unset, .unset, .unset, .unset, .unset] [])) t → Steps p.tables e below (s₁.setTop (entryFrame m #[(.int xa), (.int xb), (.int xc), (.int xd), (.int xs)] maxLocals)) t := fun t k => castTop (ef_rm0 m xa xb xc xd xs) k
  have pre1 : ∀ t, Steps p.tables e below (s₁.setTop (mkF m 4 #[.val (.int xa), .val (.int xb), .val (.int xc), .val (.int xd), .val (.int xs), .unset, .unset, .unset, .unset, .unset, .unset] [(.int (xs &&& (1 : Int32)))])) t → Steps p.tables e below (s₁.setTop (entryFrame m #[(.int xa), (.int xb), (.int xc), (.int xd), (.int xs)] maxLocals)) t := by
    intro t k
    refine pre0 t ?_
    refine XS.iload X0.here hx rfl (hb hby at_0) rfl ?_
    show Steps p.tables e below (s₁.setTop (mkF m 2 #[.val (.int xa), .val (.int xb), .val (.int xc), .val (.int xd), .val (.int xs), .unset, .unset, .unset, .unset, .unset, .unset] [(.int xs)])) _
    refine XS.iconst X0.here hx rfl (hb hby at_2) ?_
    show Steps p.tables e below (s₁.setTop (mkF m 3 #[.val (.int xa), .val (.int xb), .val (.int xc), .val (.int xd), .val (.int xs), .unset, .unset, .unset, .unset, .unset, .unset] [(.int (1 : Int32)), (.int xs)])) _
    refine XS.iand X0.here hx rfl (hb hby at_3) rfl ?_
    show Steps p.tables e below (s₁.setTop (mkF m 4 #[.val (.int xa), .val (.int xb), .val (.int xc), .val (.int xd), .val (.int xs), .unset, .unset, .unset, .unset, .unset, .unset] [(.int (xs &&& (1 : Int32)))])) _
    exact k
  obtain ⟨v4, hv4⟩ : ∃ z : Int32, z = (if (xs &&& (1 : Int32)) = (0 : Int32) then xc else xa) := ⟨_, rfl⟩
  have pre2 : ∀ t, Steps p.tables e below (s₁.setTop (mkF m 12 #[.val (.int xa), .val (.int xb), .val (.int xc), .val (.int xd), .val (.int xs), .unset, .unset, .unset, .unset, .unset, .unset] [(.int v4)])) t → Steps p.tables e below (s₁.setTop (entryFrame m #[(.int xa), (.int xb), (.int xc), (.int xd), (.int xs)] maxLocals)) t := by
    intro t k
    refine pre1 t ?_
    by_cases hc4 : (xs &&& (1 : Int32)) = (0 : Int32)
    · refine XS.ifYes X0.here hx rfl (pc0 := 4) (pc' := 11) rfl (hb hby at_4) rfl ((if0 _ _).trans (teq hc4).1) (by decide) (by decide) ?_
      show Steps p.tables e below (s₁.setTop (mkF m 11 #[.val (.int xa), .val (.int xb), .val (.int xc), .val (.int xd), .val (.int xs), .unset, .unset, .unset, .unset, .unset, .unset] [])) _
      refine XS.iloadN X0.here hx rfl (hb hby at_11) rfl ?_
      show Steps p.tables e below (s₁.setTop (mkF m 12 #[.val (.int xa), .val (.int xb), .val (.int xc), .val (.int xd), .val (.int xs), .unset, .unset, .unset, .unset, .unset, .unset] [(.int xc)])) _
      rw [show v4 = xc from by rw [hv4, if_pos hc4]] at k
      exact k
    · refine XS.ifNo X0.here hx rfl (hb hby at_4) rfl ((if0 _ _).trans (feq hc4).1) ?_
      show Steps p.tables e below (s₁.setTop (mkF m 7 #[.val (.int xa), .val (.int xb), .val (.int xc), .val (.int xd), .val (.int xs), .unset, .unset, .unset, .unset, .unset, .unset] [])) _
      refine XS.iloadN X0.here hx rfl (hb hby at_7) rfl ?_
      show Steps p.tables e below (s₁.setTop (mkF m 8 #[.val (.int xa), .val (.int xb), .val (.int xc), .val (.int xd), .val (.int xs), .unset, .unset, .unset, .unset, .unset, .unset] [(.int xa)])) _
      refine XS.goto X0.here hx rfl (pc0 := 8) (pc' := 12) rfl (hb hby at_8) (by decide) (by decide) ?_
      show Steps p.tables e below (s₁.setTop (mkF m 12 #[.val (.int xa), .val (.int xb), .val (.int xc), .val (.int xd), .val (.int xs), .unset, .unset, .unset, .unset, .unset, .unset] [(.int xa)])) _
      rw [show v4 = xa from by rw [hv4, if_neg hc4]] at k
      exact k
  have pre3 : ∀ t, Steps p.tables e below (s₁.setTop (mkF m 18 #[.val (.int xa), .val (.int xb), .val (.int xc), .val (.int xd), .val (.int xs), .val (.int v4), .unset, .unset, .unset, .unset, .unset] [(.int (xs &&& (2 : Int32)))])) t → Steps p.tables e below (s₁.setTop (entryFrame m #[(.int xa), (.int xb), (.int xc), (.int xd), (.int xs)] maxLocals)) t := by
    intro t k
    refine pre2 t ?_
    refine XS.istore X0.here hx rfl (hb hby at_12) rfl (l' := #[.val (.int xa), .val (.int xb), .val (.int xc), .val (.int xd), .val (.int xs), .val (.int v4), .unset, .unset, .unset, .unset, .unset]) rfl ?_
    show Steps p.tables e below (s₁.setTop (mkF m 14 #[.val (.int xa), .val (.int xb), .val (.int xc), .val (.int xd), .val (.int xs), .val (.int v4), .unset, .unset, .unset, .unset, .unset] [])) _
    refine XS.iload X0.here hx rfl (hb hby at_14) rfl ?_
    show Steps p.tables e below (s₁.setTop (mkF m 16 #[.val (.int xa), .val (.int xb), .val (.int xc), .val (.int xd), .val (.int xs), .val (.int v4), .unset, .unset, .unset, .unset, .unset] [(.int xs)])) _
    refine XS.iconst X0.here hx rfl (hb hby at_16) ?_
    show Steps p.tables e below (s₁.setTop (mkF m 17 #[.val (.int xa), .val (.int xb), .val (.int xc), .val (.int xd), .val (.int xs), .val (.int v4), .unset, .unset, .unset, .unset, .unset] [(.int (2 : Int32)), (.int xs)])) _
    refine XS.iand X0.here hx rfl (hb hby at_17) rfl ?_
    show Steps p.tables e below (s₁.setTop (mkF m 18 #[.val (.int xa), .val (.int xb), .val (.int xc), .val (.int xd), .val (.int xs), .val (.int v4), .unset, .unset, .unset, .unset, .unset] [(.int (xs &&& (2 : Int32)))])) _
    exact k
  obtain ⟨v18, hv18⟩ : ∃ z : Int32, z = (if (xs &&& (2 : Int32)) = (0 : Int32) then xd else xb) := ⟨_, rfl⟩
  have pre4 : ∀ t, Steps p.tables e below (s₁.setTop (mkF m 26 #[.val (.int xa), .val (.int xb), .val (.int xc), .val (.int xd), .val (.int xs), .val (.int v4), .unset, .unset, .unset, .unset, .unset] [(.int v18)])) t → Steps p.tables e below (s₁.setTop (entryFrame m #[(.int xa), (.int xb), (.int xc), (.int xd), (.int xs)] maxLocals)) t := by
    intro t k
    refine pre3 t ?_
    by_cases hc18 : (xs &&& (2 : Int32)) = (0 : Int32)
    · refine XS.ifYes X0.here hx rfl (pc0 := 18) (pc' := 25) rfl (hb hby at_18) rfl ((if0 _ _).trans (teq hc18).1) (by decide) (by decide) ?_
      show Steps p.tables e below (s₁.setTop (mkF m 25 #[.val (.int xa), .val (.int xb), .val (.int xc), .val (.int xd), .val (.int xs), .val (.int v4), .unset, .unset, .unset, .unset, .unset] [])) _
      refine XS.iloadN X0.here hx rfl (hb hby at_25) rfl ?_
      show Steps p.tables e below (s₁.setTop (mkF m 26 #[.val (.int xa), .val (.int xb), .val (.int xc), .val (.int xd), .val (.int xs), .val (.int v4), .unset, .unset, .unset, .unset, .unset] [(.int xd)])) _
      rw [show v18 = xd from by rw [hv18, if_pos hc18]] at k
      exact k
    · refine XS.ifNo X0.here hx rfl (hb hby at_18) rfl ((if0 _ _).trans (feq hc18).1) ?_
      show Steps p.tables e below (s₁.setTop (mkF m 21 #[.val (.int xa), .val (.int xb), .val (.int xc), .val (.int xd), .val (.int xs), .val (.int v4), .unset, .unset, .unset, .unset, .unset] [])) _
      refine XS.iloadN X0.here hx rfl (hb hby at_21) rfl ?_
      show Steps p.tables e below (s₁.setTop (mkF m 22 #[.val (.int xa), .val (.int xb), .val (.int xc), .val (.int xd), .val (.int xs), .val (.int v4), .unset, .unset, .unset, .unset, .unset] [(.int xb)])) _
      refine XS.goto X0.here hx rfl (pc0 := 22) (pc' := 26) rfl (hb hby at_22) (by decide) (by decide) ?_
      show Steps p.tables e below (s₁.setTop (mkF m 26 #[.val (.int xa), .val (.int xb), .val (.int xc), .val (.int xd), .val (.int xs), .val (.int v4), .unset, .unset, .unset, .unset, .unset] [(.int xb)])) _
      rw [show v18 = xb from by rw [hv18, if_neg hc18]] at k
      exact k
  have pre5 : ∀ t, Steps p.tables e below (s₁.setTop (mkF m 36 #[.val (.int xa), .val (.int xb), .val (.int xc), .val (.int xd), .val (.int xs), .val (.int v4), .val (.int v18), .val (.int (((xs.toUInt32 >>> ((2 : Int32) &&& 31).toUInt32).toInt32) &&& (3 : Int32))), .unset, .unset, .unset] [])) t → Steps p.tables e below (s₁.setTop (entryFrame m #[(.int xa), (.int xb), (.int xc), (.int xd), (.int xs)] maxLocals)) t := by
    intro t k
    refine pre4 t ?_
    refine XS.istore X0.here hx rfl (hb hby at_26) rfl (l' := #[.val (.int xa), .val (.int xb), .val (.int xc), .val (.int xd), .val (.int xs), .val (.int v4), .val (.int v18), .unset, .unset, .unset, .unset]) rfl ?_
    show Steps p.tables e below (s₁.setTop (mkF m 28 #[.val (.int xa), .val (.int xb), .val (.int xc), .val (.int xd), .val (.int xs), .val (.int v4), .val (.int v18), .unset, .unset, .unset, .unset] [])) _
    refine XS.iload X0.here hx rfl (hb hby at_28) rfl ?_
    show Steps p.tables e below (s₁.setTop (mkF m 30 #[.val (.int xa), .val (.int xb), .val (.int xc), .val (.int xd), .val (.int xs), .val (.int v4), .val (.int v18), .unset, .unset, .unset, .unset] [(.int xs)])) _
    refine XS.iconst X0.here hx rfl (hb hby at_30) ?_
    show Steps p.tables e below (s₁.setTop (mkF m 31 #[.val (.int xa), .val (.int xb), .val (.int xc), .val (.int xd), .val (.int xs), .val (.int v4), .val (.int v18), .unset, .unset, .unset, .unset] [(.int (2 : Int32)), (.int xs)])) _
    refine XS.iushr X0.here hx rfl (hb hby at_31) rfl ?_
    show Steps p.tables e below (s₁.setTop (mkF m 32 #[.val (.int xa), .val (.int xb), .val (.int xc), .val (.int xd), .val (.int xs), .val (.int v4), .val (.int v18), .unset, .unset, .unset, .unset] [(.int ((xs.toUInt32 >>> ((2 : Int32) &&& 31).toUInt32).toInt32))])) _
    refine XS.iconst X0.here hx rfl (hb hby at_32) ?_
    show Steps p.tables e below (s₁.setTop (mkF m 33 #[.val (.int xa), .val (.int xb), .val (.int xc), .val (.int xd), .val (.int xs), .val (.int v4), .val (.int v18), .unset, .unset, .unset, .unset] [(.int (3 : Int32)), (.int ((xs.toUInt32 >>> ((2 : Int32) &&& 31).toUInt32).toInt32))])) _
    refine XS.iand X0.here hx rfl (hb hby at_33) rfl ?_
    show Steps p.tables e below (s₁.setTop (mkF m 34 #[.val (.int xa), .val (.int xb), .val (.int xc), .val (.int xd), .val (.int xs), .val (.int v4), .val (.int v18), .unset, .unset, .unset, .unset] [(.int (((xs.toUInt32 >>> ((2 : Int32) &&& 31).toUInt32).toInt32) &&& (3 : Int32)))])) _
    refine XS.istore X0.here hx rfl (hb hby at_34) rfl (l' := #[.val (.int xa), .val (.int xb), .val (.int xc), .val (.int xd), .val (.int xs), .val (.int v4), .val (.int v18), .val (.int (((xs.toUInt32 >>> ((2 : Int32) &&& 31).toUInt32).toInt32) &&& (3 : Int32))), .unset, .unset, .unset]) rfl ?_
    show Steps p.tables e below (s₁.setTop (mkF m 36 #[.val (.int xa), .val (.int xb), .val (.int xc), .val (.int xd), .val (.int xs), .val (.int v4), .val (.int v18), .val (.int (((xs.toUInt32 >>> ((2 : Int32) &&& 31).toUInt32).toInt32) &&& (3 : Int32))), .unset, .unset, .unset] [])) _
    exact k
  obtain ⟨kd, hkd⟩ : ∃ z : Int32, z = (((xs.toUInt32 >>> ((2 : Int32) &&& 31).toUInt32).toInt32) &&& (3 : Int32)) := ⟨_, rfl⟩
  rw [← hkd] at pre5
  obtain ⟨T6, h6, X6, e6, E6, A6, D6, -, st6⟩ := newO X0 hx hZ hown (hw _ (List.mem_of_getElem? (i := 0) rfl)) (hw _ (List.mem_of_getElem? (i := 1) rfl)) (hw _ (List.mem_of_getElem? (i := 2) rfl)) e0 (g := (mkF m 36 #[.val (.int xa), .val (.int xb), .val (.int xc), .val (.int xd), .val (.int xs), .val (.int v4), .val (.int v18), .val (.int kd), .unset, .unset, .unset] [])) rfl (hb hby at_36) (by decide) (by decide)
  obtain ⟨b6, g6⟩ : ∃ z, z = h0.size := ⟨_, rfl⟩
  rw [← g6] at A6 D6 st6
  have g_b6 : n0 ≤ b6 := Nat.le_trans Z0 (Nat.le_of_eq g6.symm)
  have sz_b6 : h0.size ≤ b6 := Nat.le_trans (Keep.refl h0 ([] : List Addr)).1 (Nat.le_of_eq g6.symm)
  have K6 : Keep h0 h6 ([] : List Addr) := (Keep.refl h0 ([] : List Addr)).ext E6
  have z6 : n0 ≤ h6.size := Nat.le_trans Z0 K6.1
  have F_agent_b6 : Fld Z h6 b6 "com/example/suitor/suitor/Pair" "agent" "I" (.int (0 : Int32)) := D6 (Or.inr (hw _ (List.mem_of_getElem? (i := 10) rfl))) (ty := .int) (by decide)
  have F_partner_b6 : Fld Z h6 b6 "com/example/suitor/suitor/Pair" "partner" "I" (.int (0 : Int32)) := D6 (Or.inr (hw _ (List.mem_of_getElem? (i := 12) rfl))) (ty := .int) (by decide)
  have pre7 : ∀ t, Steps p.tables e below (T6.setTop (mkF m 39 #[.val (.int xa), .val (.int xb), .val (.int xc), .val (.int xd), .val (.int xs), .val (.int v4), .val (.int v18), .val (.int kd), .unset, .unset, .unset] [(.ref b6)])) t → Steps p.tables e below (s₁.setTop (entryFrame m #[(.int xa), (.int xb), (.int xc), (.int xd), (.int xs)] maxLocals)) t := fun t k => pre5 t (st6 t k)
  have pre8 : ∀ t, Steps p.tables e below (T6.setTop (mkF m 42 #[.val (.int xa), .val (.int xb), .val (.int xc), .val (.int xd), .val (.int xs), .val (.int v4), .val (.int v18), .val (.int kd), .unset, .unset, .unset] [(.int xb), (.int xa), (.ref b6), (.ref b6)])) t → Steps p.tables e below (s₁.setTop (entryFrame m #[(.int xa), (.int xb), (.int xc), (.int xd), (.int xs)] maxLocals)) t := by
    intro t k
    refine pre7 t ?_
    refine XS.dup X6.here hx rfl (hb hby at_39) rfl rfl ?_
    show Steps p.tables e below (T6.setTop (mkF m 40 #[.val (.int xa), .val (.int xb), .val (.int xc), .val (.int xd), .val (.int xs), .val (.int v4), .val (.int v18), .val (.int kd), .unset, .unset, .unset] [(.ref b6), (.ref b6)])) _
    refine XS.iloadN X6.here hx rfl (hb hby at_40) rfl ?_
    show Steps p.tables e below (T6.setTop (mkF m 41 #[.val (.int xa), .val (.int xb), .val (.int xc), .val (.int xd), .val (.int xs), .val (.int v4), .val (.int v18), .val (.int kd), .unset, .unset, .unset] [(.int xa), (.ref b6), (.ref b6)])) _
    refine XS.iloadN X6.here hx rfl (hb hby at_41) rfl ?_
    show Steps p.tables e below (T6.setTop (mkF m 42 #[.val (.int xa), .val (.int xb), .val (.int xc), .val (.int xd), .val (.int xs), .val (.int v4), .val (.int v18), .val (.int kd), .unset, .unset, .unset] [(.int xb), (.int xa), (.ref b6), (.ref b6)])) _
    exact k
  obtain ⟨_, _, ⟨T9, L9, k9, n9⟩, -, X9, ⟨Lc9, hQ9, l9, y9, z9⟩, st9⟩ := X6.specialBack hx (y := (⟨"com/example/suitor/suitor/Pair", "<init>", "(II)V"⟩ : MethodName)) rfl hown (mvT hZ (hw _ (List.mem_of_getElem? (i := 3) rfl))) (mvT hZ (hw _ (List.mem_of_getElem? (i := 4) rfl))) (mvT hZ (hw _ (List.mem_of_getElem? (i := 5) rfl))) (by decide) (backOf (W := 1) (rm_init l Z a0 hw [] b6 xa xb h6 n0 z6 A6 (g_b6) F_agent_b6 F_partner_b6) hZ (hw _ (List.mem_of_getElem? (i := 5) rfl)) (hw _ (List.mem_of_getElem? (i := 2) rfl)) (by decide) (by decide)) (g := (mkF m 42 #[.val (.int xa), .val (.int xb), .val (.int xc), .val (.int xd), .val (.int xs), .val (.int v4), .val (.int v18), .val (.int kd), .unset, .unset, .unset] [(.int xb), (.int xa), (.ref b6), (.ref b6)])) rfl (by rw [hml]; rfl) (Steps.refl _) (a := b6) (argsL := [(.int xa), (.int xb)]) (rest := [(.ref b6)]) (lenOf pd5 rfl) rfl (by show 2 * 0 + _ ≤ _; exact Nat.le_of_eq rfl) (hb hby at_42) (fun _ _ => ⟨rfl, e6, (by decide : 1 + 0 ≤ _), (by decide : 2 + 0 ≤ _)⟩)
  dsimp only [Pt.U, Pt.locs, Pt.cells, Pt.slots] at X9 l9 y9 z9 st9 hQ9
  subst l9 y9 z9
  obtain ⟨rfl, M9, kp9, f9_0, f9_1, f9_2⟩ := hQ9
  have K9 : Keep h0 T9.heap ([] : List Addr) := K6.trans kp9 (allS (P := fun x => x ∈ ([] : List Addr) ∨ h0.size ≤ x) (Or.inr sz_b6) all0)
  have zz9 : n0 ≤ T9.heap.size := Nat.le_trans Z0 K9.1
  have N9 := Fr.app N0 M9
  have pre10 : ∀ t, Steps p.tables e below (T9.setTop (mkF m 45 #[.val (.int xa), .val (.int xb), .val (.int xc), .val (.int xd), .val (.int xs), .val (.int v4), .val (.int v18), .val (.int kd), .unset, .unset, .unset] [(.ref b6)])) t → Steps p.tables e below (s₁.setTop (entryFrame m #[(.int xa), (.int xb), (.int xc), (.int xd), (.int xs)] maxLocals)) t := fun t k => pre8 t (st9.trans k)
  have pre11 : ∀ t, Steps p.tables e below (T9.setTop (mkF m 49 #[.val (.int xa), .val (.int xb), .val (.int xc), .val (.int xd), .val (.int xs), .val (.int v4), .val (.int v18), .val (.int kd), .val (.ref b6), .unset, .unset] [(.int kd)])) t → Steps p.tables e below (s₁.setTop (entryFrame m #[(.int xa), (.int xb), (.int xc), (.int xd), (.int xs)] maxLocals)) t := by
    intro t k
    refine pre10 t ?_
    refine XS.astore X9.here hx rfl (hb hby at_45) rfl rfl (l' := #[.val (.int xa), .val (.int xb), .val (.int xc), .val (.int xd), .val (.int xs), .val (.int v4), .val (.int v18), .val (.int kd), .val (.ref b6), .unset, .unset]) rfl ?_
    show Steps p.tables e below (T9.setTop (mkF m 47 #[.val (.int xa), .val (.int xb), .val (.int xc), .val (.int xd), .val (.int xs), .val (.int v4), .val (.int v18), .val (.int kd), .val (.ref b6), .unset, .unset] [])) _
    refine XS.iload X9.here hx rfl (hb hby at_47) rfl ?_
    show Steps p.tables e below (T9.setTop (mkF m 49 #[.val (.int xa), .val (.int xb), .val (.int xc), .val (.int xd), .val (.int xs), .val (.int v4), .val (.int v18), .val (.int kd), .val (.ref b6), .unset, .unset] [(.int kd)])) _
    exact k
  by_cases hc49 : kd = (0 : Int32)
  · have pre12 : ∀ t, Steps p.tables e below (T9.setTop (mkF m 52 #[.val (.int xa), .val (.int xb), .val (.int xc), .val (.int xd), .val (.int xs), .val (.int v4), .val (.int v18), .val (.int kd), .val (.ref b6), .unset, .unset] [])) t → Steps p.tables e below (s₁.setTop (entryFrame m #[(.int xa), (.int xb), (.int xc), (.int xd), (.int xs)] maxLocals)) t := by
      intro t k
      refine pre11 t ?_
      refine XS.ifNo X9.here hx rfl (hb hby at_49) rfl ((if0 _ _).trans (teq hc49).2) ?_
      show Steps p.tables e below (T9.setTop (mkF m 52 #[.val (.int xa), .val (.int xb), .val (.int xc), .val (.int xd), .val (.int xs), .val (.int v4), .val (.int v18), .val (.int kd), .val (.ref b6), .unset, .unset] [])) _
      exact k
    obtain ⟨T13, h13, X13, e13, E13, A13, D13, -, st13⟩ := newO X9 hx hZ hown (hw _ (List.mem_of_getElem? (i := 0) rfl)) (hw _ (List.mem_of_getElem? (i := 1) rfl)) (hw _ (List.mem_of_getElem? (i := 2) rfl)) rfl (g := (mkF m 52 #[.val (.int xa), .val (.int xb), .val (.int xc), .val (.int xd), .val (.int xs), .val (.int v4), .val (.int v18), .val (.int kd), .val (.ref b6), .unset, .unset] [])) rfl (hb hby at_52) (by decide) (by decide)
    obtain ⟨b13, g13⟩ : ∃ z, z = T9.heap.size := ⟨_, rfl⟩
    rw [← g13] at A13 D13 st13
    have g_b13 : n0 ≤ b13 := Nat.le_trans zz9 (Nat.le_of_eq g13.symm)
    have sz_b13 : h0.size ≤ b13 := Nat.le_trans K9.1 (Nat.le_of_eq g13.symm)
    have K13 : Keep h0 h13 ([] : List Addr) := K9.ext E13
    have z13 : n0 ≤ h13.size := Nat.le_trans Z0 K13.1
    have F_agent_b13 : Fld Z h13 b13 "com/example/suitor/suitor/Pair" "agent" "I" (.int (0 : Int32)) := D13 (Or.inr (hw _ (List.mem_of_getElem? (i := 10) rfl))) (ty := .int) (by decide)
    have F_partner_b13 : Fld Z h13 b13 "com/example/suitor/suitor/Pair" "partner" "I" (.int (0 : Int32)) := D13 (Or.inr (hw _ (List.mem_of_getElem? (i := 12) rfl))) (ty := .int) (by decide)
    have pre14 : ∀ t, Steps p.tables e below (T13.setTop (mkF m 55 #[.val (.int xa), .val (.int xb), .val (.int xc), .val (.int xd), .val (.int xs), .val (.int v4), .val (.int v18), .val (.int kd), .val (.ref b6), .unset, .unset] [(.ref b13)])) t → Steps p.tables e below (s₁.setTop (entryFrame m #[(.int xa), (.int xb), (.int xc), (.int xd), (.int xs)] maxLocals)) t := fun t k => pre12 t (st13 t k)
    have pre15 : ∀ t, Steps p.tables e below (T13.setTop (mkF m 60 #[.val (.int xa), .val (.int xb), .val (.int xc), .val (.int xd), .val (.int xs), .val (.int v4), .val (.int v18), .val (.int kd), .val (.ref b6), .unset, .unset] [(.int v18), (.int v4), (.ref b13), (.ref b13)])) t → Steps p.tables e below (s₁.setTop (entryFrame m #[(.int xa), (.int xb), (.int xc), (.int xd), (.int xs)] maxLocals)) t := by
      intro t k
      refine pre14 t ?_
      refine XS.dup X13.here hx rfl (hb hby at_55) rfl rfl ?_
      show Steps p.tables e below (T13.setTop (mkF m 56 #[.val (.int xa), .val (.int xb), .val (.int xc), .val (.int xd), .val (.int xs), .val (.int v4), .val (.int v18), .val (.int kd), .val (.ref b6), .unset, .unset] [(.ref b13), (.ref b13)])) _
      refine XS.iload X13.here hx rfl (hb hby at_56) rfl ?_
      show Steps p.tables e below (T13.setTop (mkF m 58 #[.val (.int xa), .val (.int xb), .val (.int xc), .val (.int xd), .val (.int xs), .val (.int v4), .val (.int v18), .val (.int kd), .val (.ref b6), .unset, .unset] [(.int v4), (.ref b13), (.ref b13)])) _
      refine XS.iload X13.here hx rfl (hb hby at_58) rfl ?_
      show Steps p.tables e below (T13.setTop (mkF m 60 #[.val (.int xa), .val (.int xb), .val (.int xc), .val (.int xd), .val (.int xs), .val (.int v4), .val (.int v18), .val (.int kd), .val (.ref b6), .unset, .unset] [(.int v18), (.int v4), (.ref b13), (.ref b13)])) _
      exact k
    obtain ⟨_, _, ⟨T16, L16, k16, n16⟩, -, X16, ⟨Lc16, hQ16, l16, y16, z16⟩, st16⟩ := X13.specialBack hx (y := (⟨"com/example/suitor/suitor/Pair", "<init>", "(II)V"⟩ : MethodName)) rfl hown (mvT hZ (hw _ (List.mem_of_getElem? (i := 3) rfl))) (mvT hZ (hw _ (List.mem_of_getElem? (i := 4) rfl))) (mvT hZ (hw _ (List.mem_of_getElem? (i := 5) rfl))) (by decide) (backOf (W := 1) (rm_init l Z a0 hw [] b13 v4 v18 h13 n0 z13 A13 (g_b13) F_agent_b13 F_partner_b13) hZ (hw _ (List.mem_of_getElem? (i := 5) rfl)) (hw _ (List.mem_of_getElem? (i := 2) rfl)) (by decide) (by decide)) (g := (mkF m 60 #[.val (.int xa), .val (.int xb), .val (.int xc), .val (.int xd), .val (.int xs), .val (.int v4), .val (.int v18), .val (.int kd), .val (.ref b6), .unset, .unset] [(.int v18), (.int v4), (.ref b13), (.ref b13)])) rfl (by rw [hml]; rfl) (Steps.refl _) (a := b13) (argsL := [(.int v4), (.int v18)]) (rest := [(.ref b13)]) (lenOf pd5 rfl) rfl (by show 2 * 0 + _ ≤ _; exact Nat.le_of_eq rfl) (hb hby at_60) (fun _ _ => ⟨rfl, e13, (by decide : 2 + 0 ≤ _), (by decide : 4 + 0 ≤ _)⟩)
    dsimp only [Pt.U, Pt.locs, Pt.cells, Pt.slots] at X16 l16 y16 z16 st16 hQ16
    subst l16 y16 z16
    obtain ⟨rfl, M16, kp16, f16_0, f16_1, f16_2⟩ := hQ16
    have K16 : Keep h0 T16.heap ([] : List Addr) := K13.trans kp16 (allS (P := fun x => x ∈ ([] : List Addr) ∨ h0.size ≤ x) (Or.inr sz_b13) all0)
    have zz16 : n0 ≤ T16.heap.size := Nat.le_trans Z0 K16.1
    have N16 := Fr.app N9 M16
    have pre17 : ∀ t, Steps p.tables e below (T16.setTop (mkF m 63 #[.val (.int xa), .val (.int xb), .val (.int xc), .val (.int xd), .val (.int xs), .val (.int v4), .val (.int v18), .val (.int kd), .val (.ref b6), .unset, .unset] [(.ref b13)])) t → Steps p.tables e below (s₁.setTop (entryFrame m #[(.int xa), (.int xb), (.int xc), (.int xd), (.int xs)] maxLocals)) t := fun t k => pre15 t (st16.trans k)
    have pre18 : ∀ t, Steps p.tables e below (T16.setTop (mkF m 68 #[.val (.int xa), .val (.int xb), .val (.int xc), .val (.int xd), .val (.int xs), .val (.int v4), .val (.int v18), .val (.int kd), .val (.ref b6), .val (.ref b13), .unset] [(.int xa), (.int v4)])) t → Steps p.tables e below (s₁.setTop (entryFrame m #[(.int xa), (.int xb), (.int xc), (.int xd), (.int xs)] maxLocals)) t := by
      intro t k
      refine pre17 t ?_
      refine XS.astore X16.here hx rfl (hb hby at_63) rfl rfl (l' := #[.val (.int xa), .val (.int xb), .val (.int xc), .val (.int xd), .val (.int xs), .val (.int v4), .val (.int v18), .val (.int kd), .val (.ref b6), .val (.ref b13), .unset]) rfl ?_
      show Steps p.tables e below (T16.setTop (mkF m 65 #[.val (.int xa), .val (.int xb), .val (.int xc), .val (.int xd), .val (.int xs), .val (.int v4), .val (.int v18), .val (.int kd), .val (.ref b6), .val (.ref b13), .unset] [])) _
      refine XS.iload X16.here hx rfl (hb hby at_65) rfl ?_
      show Steps p.tables e below (T16.setTop (mkF m 67 #[.val (.int xa), .val (.int xb), .val (.int xc), .val (.int xd), .val (.int xs), .val (.int v4), .val (.int v18), .val (.int kd), .val (.ref b6), .val (.ref b13), .unset] [(.int v4)])) _
      refine XS.iloadN X16.here hx rfl (hb hby at_67) rfl ?_
      show Steps p.tables e below (T16.setTop (mkF m 68 #[.val (.int xa), .val (.int xb), .val (.int xc), .val (.int xd), .val (.int xs), .val (.int v4), .val (.int v18), .val (.int kd), .val (.ref b6), .val (.ref b13), .unset] [(.int xa), (.int v4)])) _
      exact k
    obtain ⟨v68, hv68⟩ : ∃ z : Int32, z = (if v4 = xa then (if v18 = xb then (1 : Int32) else (0 : Int32)) else (0 : Int32)) := ⟨_, rfl⟩
    have pre19 : ∀ t, Steps p.tables e below (T16.setTop (mkF m 82 #[.val (.int xa), .val (.int xb), .val (.int xc), .val (.int xd), .val (.int xs), .val (.int v4), .val (.int v18), .val (.int kd), .val (.ref b6), .val (.ref b13), .unset] [(.int v68)])) t → Steps p.tables e below (s₁.setTop (entryFrame m #[(.int xa), (.int xb), (.int xc), (.int xd), (.int xs)] maxLocals)) t := by
      intro t k
      refine pre18 t ?_
      by_cases hc68 : v4 = xa
      · refine XS.icmpNo X16.here hx rfl (hb hby at_68) rfl (teq hc68).2 ?_
        show Steps p.tables e below (T16.setTop (mkF m 71 #[.val (.int xa), .val (.int xb), .val (.int xc), .val (.int xd), .val (.int xs), .val (.int v4), .val (.int v18), .val (.int kd), .val (.ref b6), .val (.ref b13), .unset] [])) _
        refine XS.iload X16.here hx rfl (hb hby at_71) rfl ?_
        show Steps p.tables e below (T16.setTop (mkF m 73 #[.val (.int xa), .val (.int xb), .val (.int xc), .val (.int xd), .val (.int xs), .val (.int v4), .val (.int v18), .val (.int kd), .val (.ref b6), .val (.ref b13), .unset] [(.int v18)])) _
        refine XS.iloadN X16.here hx rfl (hb hby at_73) rfl ?_
        show Steps p.tables e below (T16.setTop (mkF m 74 #[.val (.int xa), .val (.int xb), .val (.int xc), .val (.int xd), .val (.int xs), .val (.int v4), .val (.int v18), .val (.int kd), .val (.ref b6), .val (.ref b13), .unset] [(.int xb), (.int v18)])) _
        by_cases hc74 : v18 = xb
        · refine XS.icmpNo X16.here hx rfl (hb hby at_74) rfl (teq hc74).2 ?_
          show Steps p.tables e below (T16.setTop (mkF m 77 #[.val (.int xa), .val (.int xb), .val (.int xc), .val (.int xd), .val (.int xs), .val (.int v4), .val (.int v18), .val (.int kd), .val (.ref b6), .val (.ref b13), .unset] [])) _
          refine XS.iconst X16.here hx rfl (hb hby at_77) ?_
          show Steps p.tables e below (T16.setTop (mkF m 78 #[.val (.int xa), .val (.int xb), .val (.int xc), .val (.int xd), .val (.int xs), .val (.int v4), .val (.int v18), .val (.int kd), .val (.ref b6), .val (.ref b13), .unset] [(.int (1 : Int32))])) _
          refine XS.goto X16.here hx rfl (pc0 := 78) (pc' := 82) rfl (hb hby at_78) (by decide) (by decide) ?_
          show Steps p.tables e below (T16.setTop (mkF m 82 #[.val (.int xa), .val (.int xb), .val (.int xc), .val (.int xd), .val (.int xs), .val (.int v4), .val (.int v18), .val (.int kd), .val (.ref b6), .val (.ref b13), .unset] [(.int (1 : Int32))])) _
          rw [show v68 = (1 : Int32) from by rw [hv68, if_pos hc68, if_pos hc74]] at k
          exact k
        · refine XS.icmpYes X16.here hx rfl (pc0 := 74) (pc' := 81) rfl (hb hby at_74) rfl (feq hc74).2 (by decide) (by decide) ?_
          show Steps p.tables e below (T16.setTop (mkF m 81 #[.val (.int xa), .val (.int xb), .val (.int xc), .val (.int xd), .val (.int xs), .val (.int v4), .val (.int v18), .val (.int kd), .val (.ref b6), .val (.ref b13), .unset] [])) _
          refine XS.iconst X16.here hx rfl (hb hby at_81) ?_
          show Steps p.tables e below (T16.setTop (mkF m 82 #[.val (.int xa), .val (.int xb), .val (.int xc), .val (.int xd), .val (.int xs), .val (.int v4), .val (.int v18), .val (.int kd), .val (.ref b6), .val (.ref b13), .unset] [(.int (0 : Int32))])) _
          rw [show v68 = (0 : Int32) from by rw [hv68, if_pos hc68, if_neg hc74]] at k
          exact k
      · refine XS.icmpYes X16.here hx rfl (pc0 := 68) (pc' := 81) rfl (hb hby at_68) rfl (feq hc68).2 (by decide) (by decide) ?_
        show Steps p.tables e below (T16.setTop (mkF m 81 #[.val (.int xa), .val (.int xb), .val (.int xc), .val (.int xd), .val (.int xs), .val (.int v4), .val (.int v18), .val (.int kd), .val (.ref b6), .val (.ref b13), .unset] [])) _
        refine XS.iconst X16.here hx rfl (hb hby at_81) ?_
        show Steps p.tables e below (T16.setTop (mkF m 82 #[.val (.int xa), .val (.int xb), .val (.int xc), .val (.int xd), .val (.int xs), .val (.int v4), .val (.int v18), .val (.int kd), .val (.ref b6), .val (.ref b13), .unset] [(.int (0 : Int32))])) _
        rw [show v68 = (0 : Int32) from by rw [hv68, if_neg hc68]] at k
        exact k
    have pre20 : ∀ t, Steps p.tables e below (T16.setTop (mkF m 138 #[.val (.int xa), .val (.int xb), .val (.int xc), .val (.int xd), .val (.int xs), .val (.int v4), .val (.int v18), .val (.int kd), .val (.ref b6), .val (.ref b13), .val (.int v68)] [(.ref b13), (.ref b6)])) t → Steps p.tables e below (s₁.setTop (entryFrame m #[(.int xa), (.int xb), (.int xc), (.int xd), (.int xs)] maxLocals)) t := by
      intro t k
      refine pre19 t ?_
      refine XS.istore X16.here hx rfl (hb hby at_82) rfl (l' := #[.val (.int xa), .val (.int xb), .val (.int xc), .val (.int xd), .val (.int xs), .val (.int v4), .val (.int v18), .val (.int kd), .val (.ref b6), .val (.ref b13), .val (.int v68)]) rfl ?_
      show Steps p.tables e below (T16.setTop (mkF m 84 #[.val (.int xa), .val (.int xb), .val (.int xc), .val (.int xd), .val (.int xs), .val (.int v4), .val (.int v18), .val (.int kd), .val (.ref b6), .val (.ref b13), .val (.int v68)] [])) _
      refine XS.goto X16.here hx rfl (pc0 := 84) (pc' := 134) rfl (hb hby at_84) (by decide) (by decide) ?_
      show Steps p.tables e below (T16.setTop (mkF m 134 #[.val (.int xa), .val (.int xb), .val (.int xc), .val (.int xd), .val (.int xs), .val (.int v4), .val (.int v18), .val (.int kd), .val (.ref b6), .val (.ref b13), .val (.int v68)] [])) _
      refine XS.aload X16.here hx rfl (hb hby at_134) rfl rfl ?_
      show Steps p.tables e below (T16.setTop (mkF m 136 #[.val (.int xa), .val (.int xb), .val (.int xc), .val (.int xd), .val (.int xs), .val (.int v4), .val (.int v18), .val (.int kd), .val (.ref b6), .val (.ref b13), .val (.int v68)] [(.ref b6)])) _
      refine XS.aload X16.here hx rfl (hb hby at_136) rfl rfl ?_
      show Steps p.tables e below (T16.setTop (mkF m 138 #[.val (.int xa), .val (.int xb), .val (.int xc), .val (.int xd), .val (.int xs), .val (.int v4), .val (.int v18), .val (.int kd), .val (.ref b6), .val (.ref b13), .val (.int v68)] [(.ref b13), (.ref b6)])) _
      exact k
    have f21 := ((f9_1.ext E13).keep kp16 (ninS (Nat.ne_of_lt (Nat.lt_of_lt_of_le f9_0.lt (Nat.le_of_eq g13.symm))) nin0))
    have f22 := ((f9_2.ext E13).keep kp16 (ninS (Nat.ne_of_lt (Nat.lt_of_lt_of_le f9_0.lt (Nat.le_of_eq g13.symm))) nin0))
    have f24 := ((f9_0.ext E13).keep kp16)
    obtain ⟨cq23, kq23, q23a, q23b, q23c⟩ := isOf hZ rfl f24
    obtain ⟨_, _, ⟨T23, L23, k23, n23⟩, -, X23, ⟨Lc23, hQ23, l23, y23, z23⟩, st23⟩ := X16.virtualBack hx (y := (⟨"com/example/suitor/suitor/Pair", "equals", "(Ljava/lang/Object;)Z"⟩ : MethodName)) (z := (⟨"com/example/suitor/suitor/Pair", "equals", "(Ljava/lang/Object;)Z"⟩ : MethodName)) hown (mvT hZ (hw _ (List.mem_of_getElem? (i := 13) rfl))) (mvT hZ (hw _ (List.mem_of_getElem? (i := 14) rfl))) (notFace_of_selects (args := #[]) (mvT hZ (hw _ (List.mem_of_getElem? (i := 16) rfl)))) (mvT hZ (hw _ (List.mem_of_getElem? (i := 16) rfl))) (mvT hZ (hw _ (List.mem_of_getElem? (i := 15) rfl))) (by decide) (backOf (W := 0) (rm_eqP l Z a0 hw [] b6 b13 xa xb v4 v18 T16.heap n0 zz16 f16_0 f21 f22 f16_1 f16_2) hZ (hw _ (List.mem_of_getElem? (i := 17) rfl)) (hw _ (List.mem_of_getElem? (i := 2) rfl)) (by decide) (by decide)) q23a q23c (g := (mkF m 138 #[.val (.int xa), .val (.int xb), .val (.int xc), .val (.int xd), .val (.int xs), .val (.int v4), .val (.int v18), .val (.int kd), .val (.ref b6), .val (.ref b13), .val (.int v68)] [(.ref b13), (.ref b6)])) rfl (by rw [hml]; rfl) (Steps.refl _) (argsL := [(.ref b13)]) (rest := []) (lenOf pd6 rfl) rfl (by show 2 * 0 + _ ≤ _; exact Nat.le_of_eq rfl) (hb hby at_138) (fun _ _ => ⟨rfl, rfl, (by decide : 2 + 0 ≤ _), (by decide : 4 + 0 ≤ _)⟩)
    dsimp only [Pt.U, Pt.locs, Pt.cells, Pt.slots] at X23 l23 y23 z23 st23 hQ23
    subst l23 y23 z23
    obtain ⟨rfl, M23, e23⟩ := hQ23
    have N23 := Fr.app N16 M23
    have pre25 : ∀ t, Steps p.tables e below (T23.setTop (mkF m 141 #[.val (.int xa), .val (.int xb), .val (.int xc), .val (.int xd), .val (.int xs), .val (.int v4), .val (.int v18), .val (.int kd), .val (.ref b6), .val (.ref b13), .val (.int v68)] [(.int (F_rm_eqP xa xb v4 v18))])) t → Steps p.tables e below (s₁.setTop (entryFrame m #[(.int xa), (.int xb), (.int xc), (.int xd), (.int xs)] maxLocals)) t := fun t k => pre20 t (st23.trans k)
    have pre26 : ∀ t, Steps p.tables e below (T23.setTop (mkF m 151 #[.val (.int xa), .val (.int xb), .val (.int xc), .val (.int xd), .val (.int xs), .val (.int v4), .val (.int v18), .val (.int kd), .val (.ref b6), .val (.ref b13), .val (.int v68)] [(.int (1 : Int32))])) t → Steps p.tables e below (s₁.setTop (entryFrame m #[(.int xa), (.int xb), (.int xc), (.int xd), (.int xs)] maxLocals)) t := by
      intro t k
      refine pre25 t ?_
      refine XS.iload X23.here hx rfl (hb hby at_141) rfl ?_
      show Steps p.tables e below (T23.setTop (mkF m 143 #[.val (.int xa), .val (.int xb), .val (.int xc), .val (.int xd), .val (.int xs), .val (.int v4), .val (.int v18), .val (.int kd), .val (.ref b6), .val (.ref b13), .val (.int v68)] [(.int v68), (.int (F_rm_eqP xa xb v4 v18))])) _
      refine XS.icmpNo X23.here hx rfl (hb hby at_143) rfl (teq (show (F_rm_eqP xa xb v4 v18) = v68 from own_eq _ _ _ _ _ hv68)).2 ?_
      show Steps p.tables e below (T23.setTop (mkF m 146 #[.val (.int xa), .val (.int xb), .val (.int xc), .val (.int xd), .val (.int xs), .val (.int v4), .val (.int v18), .val (.int kd), .val (.ref b6), .val (.ref b13), .val (.int v68)] [])) _
      refine XS.iconst X23.here hx rfl (hb hby at_146) ?_
      show Steps p.tables e below (T23.setTop (mkF m 147 #[.val (.int xa), .val (.int xb), .val (.int xc), .val (.int xd), .val (.int xs), .val (.int v4), .val (.int v18), .val (.int kd), .val (.ref b6), .val (.ref b13), .val (.int v68)] [(.int (1 : Int32))])) _
      refine XS.goto X23.here hx rfl (pc0 := 147) (pc' := 151) rfl (hb hby at_147) (by decide) (by decide) ?_
      show Steps p.tables e below (T23.setTop (mkF m 151 #[.val (.int xa), .val (.int xb), .val (.int xc), .val (.int xd), .val (.int xs), .val (.int v4), .val (.int v18), .val (.int kd), .val (.ref b6), .val (.ref b13), .val (.int v68)] [(.int (1 : Int32))])) _
      exact k
    obtain ⟨fs, hr, hrun, hended, hW, hsame⟩ := X23.leave (v := some (.int (1 : Int32))) (fun h => by rw [Bd.returns] at h; cases h)
    refine ⟨_, _, pre26 _ ?_, hrun, hended, _, _, rfl, ?_, ⟨_, rfl⟩, hW, hsame.mono (by decide) (by decide)⟩
    · exact retN X23 hx (t := .boolean) Bd.returns (by simp) (hb hby at_151) hr
    · show Q_rm0 Z xa xb xc xd xs xcs wc cc h0 n0 _ T23.heap _
      rw [e23]
      exact ⟨rfl, N23⟩
  · have pre27 : ∀ t, Steps p.tables e below (T9.setTop (mkF m 90 #[.val (.int xa), .val (.int xb), .val (.int xc), .val (.int xd), .val (.int xs), .val (.int v4), .val (.int v18), .val (.int kd), .val (.ref b6), .unset, .unset] [(.int (1 : Int32)), (.int kd)])) t → Steps p.tables e below (s₁.setTop (entryFrame m #[(.int xa), (.int xb), (.int xc), (.int xd), (.int xs)] maxLocals)) t := by
      intro t k
      refine pre11 t ?_
      refine XS.ifYes X9.here hx rfl (pc0 := 49) (pc' := 87) rfl (hb hby at_49) rfl ((if0 _ _).trans (feq hc49).2) (by decide) (by decide) ?_
      show Steps p.tables e below (T9.setTop (mkF m 87 #[.val (.int xa), .val (.int xb), .val (.int xc), .val (.int xd), .val (.int xs), .val (.int v4), .val (.int v18), .val (.int kd), .val (.ref b6), .unset, .unset] [])) _
      refine XS.iload X9.here hx rfl (hb hby at_87) rfl ?_
      show Steps p.tables e below (T9.setTop (mkF m 89 #[.val (.int xa), .val (.int xb), .val (.int xc), .val (.int xd), .val (.int xs), .val (.int v4), .val (.int v18), .val (.int kd), .val (.ref b6), .unset, .unset] [(.int kd)])) _
      refine XS.iconst X9.here hx rfl (hb hby at_89) ?_
      show Steps p.tables e below (T9.setTop (mkF m 90 #[.val (.int xa), .val (.int xb), .val (.int xc), .val (.int xd), .val (.int xs), .val (.int v4), .val (.int v18), .val (.int kd), .val (.ref b6), .unset, .unset] [(.int (1 : Int32)), (.int kd)])) _
      exact k
    by_cases hc90 : kd = (1 : Int32)
    · have pre28 : ∀ t, Steps p.tables e below (T9.setTop (mkF m 138 #[.val (.int xa), .val (.int xb), .val (.int xc), .val (.int xd), .val (.int xs), .val (.int v4), .val (.int v18), .val (.int kd), .val (.ref b6), .val .null, .val (.int (0 : Int32))] [.null, (.ref b6)])) t → Steps p.tables e below (s₁.setTop (entryFrame m #[(.int xa), (.int xb), (.int xc), (.int xd), (.int xs)] maxLocals)) t := by
        intro t k
        refine pre27 t ?_
        refine XS.icmpNo X9.here hx rfl (hb hby at_90) rfl (teq hc90).2 ?_
        show Steps p.tables e below (T9.setTop (mkF m 93 #[.val (.int xa), .val (.int xb), .val (.int xc), .val (.int xd), .val (.int xs), .val (.int v4), .val (.int v18), .val (.int kd), .val (.ref b6), .unset, .unset] [])) _
        refine XS.aconstNull X9.here hx rfl (hb hby at_93) ?_
        show Steps p.tables e below (T9.setTop (mkF m 94 #[.val (.int xa), .val (.int xb), .val (.int xc), .val (.int xd), .val (.int xs), .val (.int v4), .val (.int v18), .val (.int kd), .val (.ref b6), .unset, .unset] [.null])) _
        refine XS.astore X9.here hx rfl (hb hby at_94) rfl rfl (l' := #[.val (.int xa), .val (.int xb), .val (.int xc), .val (.int xd), .val (.int xs), .val (.int v4), .val (.int v18), .val (.int kd), .val (.ref b6), .val .null, .unset]) rfl ?_
        show Steps p.tables e below (T9.setTop (mkF m 96 #[.val (.int xa), .val (.int xb), .val (.int xc), .val (.int xd), .val (.int xs), .val (.int v4), .val (.int v18), .val (.int kd), .val (.ref b6), .val .null, .unset] [])) _
        refine XS.iconst X9.here hx rfl (hb hby at_96) ?_
        show Steps p.tables e below (T9.setTop (mkF m 97 #[.val (.int xa), .val (.int xb), .val (.int xc), .val (.int xd), .val (.int xs), .val (.int v4), .val (.int v18), .val (.int kd), .val (.ref b6), .val .null, .unset] [(.int (0 : Int32))])) _
        refine XS.istore X9.here hx rfl (hb hby at_97) rfl (l' := #[.val (.int xa), .val (.int xb), .val (.int xc), .val (.int xd), .val (.int xs), .val (.int v4), .val (.int v18), .val (.int kd), .val (.ref b6), .val .null, .val (.int (0 : Int32))]) rfl ?_
        show Steps p.tables e below (T9.setTop (mkF m 99 #[.val (.int xa), .val (.int xb), .val (.int xc), .val (.int xd), .val (.int xs), .val (.int v4), .val (.int v18), .val (.int kd), .val (.ref b6), .val .null, .val (.int (0 : Int32))] [])) _
        refine XS.goto X9.here hx rfl (pc0 := 99) (pc' := 134) rfl (hb hby at_99) (by decide) (by decide) ?_
        show Steps p.tables e below (T9.setTop (mkF m 134 #[.val (.int xa), .val (.int xb), .val (.int xc), .val (.int xd), .val (.int xs), .val (.int v4), .val (.int v18), .val (.int kd), .val (.ref b6), .val .null, .val (.int (0 : Int32))] [])) _
        refine XS.aload X9.here hx rfl (hb hby at_134) rfl rfl ?_
        show Steps p.tables e below (T9.setTop (mkF m 136 #[.val (.int xa), .val (.int xb), .val (.int xc), .val (.int xd), .val (.int xs), .val (.int v4), .val (.int v18), .val (.int kd), .val (.ref b6), .val .null, .val (.int (0 : Int32))] [(.ref b6)])) _
        refine XS.aload X9.here hx rfl (hb hby at_136) rfl rfl ?_
        show Steps p.tables e below (T9.setTop (mkF m 138 #[.val (.int xa), .val (.int xb), .val (.int xc), .val (.int xd), .val (.int xs), .val (.int v4), .val (.int v18), .val (.int kd), .val (.ref b6), .val .null, .val (.int (0 : Int32))] [.null, (.ref b6)])) _
        exact k
      obtain ⟨cq29, kq29, q29a, q29b, q29c⟩ := isOf hZ rfl f9_0
      obtain ⟨_, _, ⟨T29, L29, k29, n29⟩, -, X29, ⟨Lc29, hQ29, l29, y29, z29⟩, st29⟩ := X9.virtualBack hx (y := (⟨"com/example/suitor/suitor/Pair", "equals", "(Ljava/lang/Object;)Z"⟩ : MethodName)) (z := (⟨"com/example/suitor/suitor/Pair", "equals", "(Ljava/lang/Object;)Z"⟩ : MethodName)) hown (mvT hZ (hw _ (List.mem_of_getElem? (i := 13) rfl))) (mvT hZ (hw _ (List.mem_of_getElem? (i := 14) rfl))) (notFace_of_selects (args := #[]) (mvT hZ (hw _ (List.mem_of_getElem? (i := 16) rfl)))) (mvT hZ (hw _ (List.mem_of_getElem? (i := 16) rfl))) (mvT hZ (hw _ (List.mem_of_getElem? (i := 15) rfl))) (by decide) (backOf (W := 0) (rm_eqN l Z a0 hw [] b6 T9.heap n0 zz9 ) hZ (hw _ (List.mem_of_getElem? (i := 17) rfl)) (hw _ (List.mem_of_getElem? (i := 2) rfl)) (by decide) (by decide)) q29a q29c (g := (mkF m 138 #[.val (.int xa), .val (.int xb), .val (.int xc), .val (.int xd), .val (.int xs), .val (.int v4), .val (.int v18), .val (.int kd), .val (.ref b6), .val .null, .val (.int (0 : Int32))] [.null, (.ref b6)])) rfl (by rw [hml]; rfl) (Steps.refl _) (argsL := [.null]) (rest := []) (lenOf pd6 rfl) rfl (by show 2 * 0 + _ ≤ _; exact Nat.le_of_eq rfl) (hb hby at_138) (fun _ _ => ⟨rfl, rfl, (by decide : 1 + 0 ≤ _), (by decide : 2 + 0 ≤ _)⟩)
      dsimp only [Pt.U, Pt.locs, Pt.cells, Pt.slots] at X29 l29 y29 z29 st29 hQ29
      subst l29 y29 z29
      obtain ⟨rfl, M29, e29⟩ := hQ29
      have N29 := Fr.app N9 M29
      have pre30 : ∀ t, Steps p.tables e below (T29.setTop (mkF m 141 #[.val (.int xa), .val (.int xb), .val (.int xc), .val (.int xd), .val (.int xs), .val (.int v4), .val (.int v18), .val (.int kd), .val (.ref b6), .val .null, .val (.int (0 : Int32))] [(.int (0 : Int32))])) t → Steps p.tables e below (s₁.setTop (entryFrame m #[(.int xa), (.int xb), (.int xc), (.int xd), (.int xs)] maxLocals)) t := fun t k => pre28 t (st29.trans k)
      have pre31 : ∀ t, Steps p.tables e below (T29.setTop (mkF m 151 #[.val (.int xa), .val (.int xb), .val (.int xc), .val (.int xd), .val (.int xs), .val (.int v4), .val (.int v18), .val (.int kd), .val (.ref b6), .val .null, .val (.int (0 : Int32))] [(.int (1 : Int32))])) t → Steps p.tables e below (s₁.setTop (entryFrame m #[(.int xa), (.int xb), (.int xc), (.int xd), (.int xs)] maxLocals)) t := by
        intro t k
        refine pre30 t ?_
        refine XS.iload X29.here hx rfl (hb hby at_141) rfl ?_
        show Steps p.tables e below (T29.setTop (mkF m 143 #[.val (.int xa), .val (.int xb), .val (.int xc), .val (.int xd), .val (.int xs), .val (.int v4), .val (.int v18), .val (.int kd), .val (.ref b6), .val .null, .val (.int (0 : Int32))] [(.int (0 : Int32)), (.int (0 : Int32))])) _
        refine XS.icmpNo X29.here hx rfl (hb hby at_143) rfl (teq (show (0 : Int32) = (0 : Int32) from rfl)).2 ?_
        show Steps p.tables e below (T29.setTop (mkF m 146 #[.val (.int xa), .val (.int xb), .val (.int xc), .val (.int xd), .val (.int xs), .val (.int v4), .val (.int v18), .val (.int kd), .val (.ref b6), .val .null, .val (.int (0 : Int32))] [])) _
        refine XS.iconst X29.here hx rfl (hb hby at_146) ?_
        show Steps p.tables e below (T29.setTop (mkF m 147 #[.val (.int xa), .val (.int xb), .val (.int xc), .val (.int xd), .val (.int xs), .val (.int v4), .val (.int v18), .val (.int kd), .val (.ref b6), .val .null, .val (.int (0 : Int32))] [(.int (1 : Int32))])) _
        refine XS.goto X29.here hx rfl (pc0 := 147) (pc' := 151) rfl (hb hby at_147) (by decide) (by decide) ?_
        show Steps p.tables e below (T29.setTop (mkF m 151 #[.val (.int xa), .val (.int xb), .val (.int xc), .val (.int xd), .val (.int xs), .val (.int v4), .val (.int v18), .val (.int kd), .val (.ref b6), .val .null, .val (.int (0 : Int32))] [(.int (1 : Int32))])) _
        exact k
      obtain ⟨fs, hr, hrun, hended, hW, hsame⟩ := X29.leave (v := some (.int (1 : Int32))) (fun h => by rw [Bd.returns] at h; cases h)
      refine ⟨_, _, pre31 _ ?_, hrun, hended, _, _, rfl, ?_, ⟨_, rfl⟩, hW, hsame.mono (by decide) (by decide)⟩
      · exact retN X29 hx (t := .boolean) Bd.returns (by simp) (hb hby at_151) hr
      · show Q_rm0 Z xa xb xc xd xs xcs wc cc h0 n0 _ T29.heap _
        rw [e29]
        exact ⟨rfl, N29⟩
    · have pre32 : ∀ t, Steps p.tables e below (T9.setTop (mkF m 105 #[.val (.int xa), .val (.int xb), .val (.int xc), .val (.int xd), .val (.int xs), .val (.int v4), .val (.int v18), .val (.int kd), .val (.ref b6), .unset, .unset] [(.int (2 : Int32)), (.int kd)])) t → Steps p.tables e below (s₁.setTop (entryFrame m #[(.int xa), (.int xb), (.int xc), (.int xd), (.int xs)] maxLocals)) t := by
        intro t k
        refine pre27 t ?_
        refine XS.icmpYes X9.here hx rfl (pc0 := 90) (pc' := 102) rfl (hb hby at_90) rfl (feq hc90).2 (by decide) (by decide) ?_
        show Steps p.tables e below (T9.setTop (mkF m 102 #[.val (.int xa), .val (.int xb), .val (.int xc), .val (.int xd), .val (.int xs), .val (.int v4), .val (.int v18), .val (.int kd), .val (.ref b6), .unset, .unset] [])) _
        refine XS.iload X9.here hx rfl (hb hby at_102) rfl ?_
        show Steps p.tables e below (T9.setTop (mkF m 104 #[.val (.int xa), .val (.int xb), .val (.int xc), .val (.int xd), .val (.int xs), .val (.int v4), .val (.int v18), .val (.int kd), .val (.ref b6), .unset, .unset] [(.int kd)])) _
        refine XS.iconst X9.here hx rfl (hb hby at_104) ?_
        show Steps p.tables e below (T9.setTop (mkF m 105 #[.val (.int xa), .val (.int xb), .val (.int xc), .val (.int xd), .val (.int xs), .val (.int v4), .val (.int v18), .val (.int kd), .val (.ref b6), .unset, .unset] [(.int (2 : Int32)), (.int kd)])) _
        exact k
      by_cases hc105 : kd = (2 : Int32)
      · have pre33 : ∀ t, Steps p.tables e below (T9.setTop (mkF m 114 #[.val (.int xa), .val (.int xb), .val (.int xc), .val (.int xd), .val (.int xs), .val (.int v4), .val (.int v18), .val (.int kd), .val (.ref b6), .unset, .unset] [(.int ((xc &&& (255 : Int32)).toUInt32.toUInt16.toUInt32.toInt32))])) t → Steps p.tables e below (s₁.setTop (entryFrame m #[(.int xa), (.int xb), (.int xc), (.int xd), (.int xs)] maxLocals)) t := by
          intro t k
          refine pre32 t ?_
          refine XS.icmpNo X9.here hx rfl (hb hby at_105) rfl (teq hc105).2 ?_
          show Steps p.tables e below (T9.setTop (mkF m 108 #[.val (.int xa), .val (.int xb), .val (.int xc), .val (.int xd), .val (.int xs), .val (.int v4), .val (.int v18), .val (.int kd), .val (.ref b6), .unset, .unset] [])) _
          refine XS.iloadN X9.here hx rfl (hb hby at_108) rfl ?_
          show Steps p.tables e below (T9.setTop (mkF m 109 #[.val (.int xa), .val (.int xb), .val (.int xc), .val (.int xd), .val (.int xs), .val (.int v4), .val (.int v18), .val (.int kd), .val (.ref b6), .unset, .unset] [(.int xc)])) _
          refine XS.sipush X9.here hx rfl (hb hby at_109) ?_
          show Steps p.tables e below (T9.setTop (mkF m 112 #[.val (.int xa), .val (.int xb), .val (.int xc), .val (.int xd), .val (.int xs), .val (.int v4), .val (.int v18), .val (.int kd), .val (.ref b6), .unset, .unset] [(.int (255 : Int32)), (.int xc)])) _
          refine XS.iand X9.here hx rfl (hb hby at_112) rfl ?_
          show Steps p.tables e below (T9.setTop (mkF m 113 #[.val (.int xa), .val (.int xb), .val (.int xc), .val (.int xd), .val (.int xs), .val (.int v4), .val (.int v18), .val (.int kd), .val (.ref b6), .unset, .unset] [(.int (xc &&& (255 : Int32)))])) _
          refine XS.i2c X9.here hx rfl (hb hby at_113) rfl ?_
          show Steps p.tables e below (T9.setTop (mkF m 114 #[.val (.int xa), .val (.int xb), .val (.int xc), .val (.int xd), .val (.int xs), .val (.int v4), .val (.int v18), .val (.int kd), .val (.ref b6), .unset, .unset] [(.int ((xc &&& (255 : Int32)).toUInt32.toUInt16.toUInt32.toInt32))])) _
          exact k
        have f34 := (SC.ext (own_keep_ext K9))
        obtain ⟨_, _, ⟨T35, L35, k35, n35⟩, -, X35, ⟨Lc35, hQ35, l35, y35, z35⟩, st35⟩ := Jvm.LawKit.callS X9 hx (y := (⟨"java/lang/String", "valueOf", "(C)Ljava/lang/String;"⟩ : MethodName)) hown (mvT hZ (hw _ (List.mem_of_getElem? (i := 20) rfl))) (mvT hZ (hw _ (List.mem_of_getElem? (i := 21) rfl))) (mvT hZ (hw _ (List.mem_of_getElem? (i := 22) rfl))) (mvT hZ (hw _ (List.mem_of_getElem? (i := 23) rfl))) (by decide) (backOf (W := 0) (rm_sval l Z a0 hw [] ((xc &&& (255 : Int32)).toUInt32.toUInt16.toUInt32.toInt32) xcs T9.heap n0 zz9 f34 (hcs) (own_c xc)) hZ (hw _ (List.mem_of_getElem? (i := 23) rfl)) (hw _ (List.mem_of_getElem? (i := 22) rfl)) (by decide) (by decide)) (g := (mkF m 114 #[.val (.int xa), .val (.int xb), .val (.int xc), .val (.int xd), .val (.int xs), .val (.int v4), .val (.int v18), .val (.int kd), .val (.ref b6), .unset, .unset] [(.int ((xc &&& (255 : Int32)).toUInt32.toUInt16.toUInt32.toInt32))])) rfl (by rw [hml]; rfl) (argsL := [(.int ((xc &&& (255 : Int32)).toUInt32.toUInt16.toUInt32.toInt32))]) (rest := []) (lenOf pd7 rfl) rfl (by show 2 * 0 + _ ≤ _; exact Nat.le_of_eq rfl) (hb hby at_114) (fun _ _ => ⟨rfl, rfl, (by decide : 1 + 2 ≤ _), (by decide : 2 + 5 ≤ _)⟩)
        dsimp only [Pt.U, Pt.locs, Pt.cells, Pt.slots] at X35 l35 y35 z35 st35 hQ35
        subst l35 y35 z35
        obtain ⟨b35, rfl, M35, g_b35, zs35, kp35, f35_0⟩ := hQ35
        have sz_b35 : h0.size ≤ b35 := Nat.le_trans K9.1 zs35
        have K35 : Keep h0 T35.heap ([] : List Addr) := K9.trans kp35 all0
        have zz35 : n0 ≤ T35.heap.size := Nat.le_trans Z0 K35.1
        have N35 := Fr.app N9 M35
        have pre36 : ∀ t, Steps p.tables e below (T35.setTop (mkF m 117 #[.val (.int xa), .val (.int xb), .val (.int xc), .val (.int xd), .val (.int xs), .val (.int v4), .val (.int v18), .val (.int kd), .val (.ref b6), .unset, .unset] [(.ref b35)])) t → Steps p.tables e below (s₁.setTop (entryFrame m #[(.int xa), (.int xb), (.int xc), (.int xd), (.int xs)] maxLocals)) t := fun t k => pre33 t (st35 t k)
        have pre37 : ∀ t, Steps p.tables e below (T35.setTop (mkF m 138 #[.val (.int xa), .val (.int xb), .val (.int xc), .val (.int xd), .val (.int xs), .val (.int v4), .val (.int v18), .val (.int kd), .val (.ref b6), .val (.ref b35), .val (.int (0 : Int32))] [(.ref b35), (.ref b6)])) t → Steps p.tables e below (s₁.setTop (entryFrame m #[(.int xa), (.int xb), (.int xc), (.int xd), (.int xs)] maxLocals)) t := by
          intro t k
          refine pre36 t ?_
          refine XS.astore X35.here hx rfl (hb hby at_117) rfl rfl (l' := #[.val (.int xa), .val (.int xb), .val (.int xc), .val (.int xd), .val (.int xs), .val (.int v4), .val (.int v18), .val (.int kd), .val (.ref b6), .val (.ref b35), .unset]) rfl ?_
          show Steps p.tables e below (T35.setTop (mkF m 119 #[.val (.int xa), .val (.int xb), .val (.int xc), .val (.int xd), .val (.int xs), .val (.int v4), .val (.int v18), .val (.int kd), .val (.ref b6), .val (.ref b35), .unset] [])) _
          refine XS.iconst X35.here hx rfl (hb hby at_119) ?_
          show Steps p.tables e below (T35.setTop (mkF m 120 #[.val (.int xa), .val (.int xb), .val (.int xc), .val (.int xd), .val (.int xs), .val (.int v4), .val (.int v18), .val (.int kd), .val (.ref b6), .val (.ref b35), .unset] [(.int (0 : Int32))])) _
          refine XS.istore X35.here hx rfl (hb hby at_120) rfl (l' := #[.val (.int xa), .val (.int xb), .val (.int xc), .val (.int xd), .val (.int xs), .val (.int v4), .val (.int v18), .val (.int kd), .val (.ref b6), .val (.ref b35), .val (.int (0 : Int32))]) rfl ?_
          show Steps p.tables e below (T35.setTop (mkF m 122 #[.val (.int xa), .val (.int xb), .val (.int xc), .val (.int xd), .val (.int xs), .val (.int v4), .val (.int v18), .val (.int kd), .val (.ref b6), .val (.ref b35), .val (.int (0 : Int32))] [])) _
          refine XS.goto X35.here hx rfl (pc0 := 122) (pc' := 134) rfl (hb hby at_122) (by decide) (by decide) ?_
          show Steps p.tables e below (T35.setTop (mkF m 134 #[.val (.int xa), .val (.int xb), .val (.int xc), .val (.int xd), .val (.int xs), .val (.int v4), .val (.int v18), .val (.int kd), .val (.ref b6), .val (.ref b35), .val (.int (0 : Int32))] [])) _
          refine XS.aload X35.here hx rfl (hb hby at_134) rfl rfl ?_
          show Steps p.tables e below (T35.setTop (mkF m 136 #[.val (.int xa), .val (.int xb), .val (.int xc), .val (.int xd), .val (.int xs), .val (.int v4), .val (.int v18), .val (.int kd), .val (.ref b6), .val (.ref b35), .val (.int (0 : Int32))] [(.ref b6)])) _
          refine XS.aload X35.here hx rfl (hb hby at_136) rfl rfl ?_
          show Steps p.tables e below (T35.setTop (mkF m 138 #[.val (.int xa), .val (.int xb), .val (.int xc), .val (.int xd), .val (.int xs), .val (.int v4), .val (.int v18), .val (.int kd), .val (.ref b6), .val (.ref b35), .val (.int (0 : Int32))] [(.ref b35), (.ref b6)])) _
          exact k
        have f39 := (f9_0.keep kp35)
        obtain ⟨cq38, kq38, q38a, q38b, q38c⟩ := isOf hZ rfl f39
        obtain ⟨_, _, ⟨T38, L38, k38, n38⟩, -, X38, ⟨Lc38, hQ38, l38, y38, z38⟩, st38⟩ := X35.virtualBack hx (y := (⟨"com/example/suitor/suitor/Pair", "equals", "(Ljava/lang/Object;)Z"⟩ : MethodName)) (z := (⟨"com/example/suitor/suitor/Pair", "equals", "(Ljava/lang/Object;)Z"⟩ : MethodName)) hown (mvT hZ (hw _ (List.mem_of_getElem? (i := 13) rfl))) (mvT hZ (hw _ (List.mem_of_getElem? (i := 14) rfl))) (notFace_of_selects (args := #[]) (mvT hZ (hw _ (List.mem_of_getElem? (i := 16) rfl)))) (mvT hZ (hw _ (List.mem_of_getElem? (i := 16) rfl))) (mvT hZ (hw _ (List.mem_of_getElem? (i := 15) rfl))) (by decide) (backOf (W := 0) (rm_eqS l Z a0 hw [] b6 b35 T35.heap n0 zz35 f35_0) hZ (hw _ (List.mem_of_getElem? (i := 17) rfl)) (hw _ (List.mem_of_getElem? (i := 2) rfl)) (by decide) (by decide)) q38a q38c (g := (mkF m 138 #[.val (.int xa), .val (.int xb), .val (.int xc), .val (.int xd), .val (.int xs), .val (.int v4), .val (.int v18), .val (.int kd), .val (.ref b6), .val (.ref b35), .val (.int (0 : Int32))] [(.ref b35), (.ref b6)])) rfl (by rw [hml]; rfl) (Steps.refl _) (argsL := [(.ref b35)]) (rest := []) (lenOf pd6 rfl) rfl (by show 2 * 0 + _ ≤ _; exact Nat.le_of_eq rfl) (hb hby at_138) (fun _ _ => ⟨rfl, rfl, (by decide : 3 + 0 ≤ _), (by decide : 7 + 0 ≤ _)⟩)
        dsimp only [Pt.U, Pt.locs, Pt.cells, Pt.slots] at X38 l38 y38 z38 st38 hQ38
        subst l38 y38 z38
        obtain ⟨rfl, M38, e38⟩ := hQ38
        have N38 := Fr.app N35 M38
        have pre40 : ∀ t, Steps p.tables e below (T38.setTop (mkF m 141 #[.val (.int xa), .val (.int xb), .val (.int xc), .val (.int xd), .val (.int xs), .val (.int v4), .val (.int v18), .val (.int kd), .val (.ref b6), .val (.ref b35), .val (.int (0 : Int32))] [(.int (0 : Int32))])) t → Steps p.tables e below (s₁.setTop (entryFrame m #[(.int xa), (.int xb), (.int xc), (.int xd), (.int xs)] maxLocals)) t := fun t k => pre37 t (st38.trans k)
        have pre41 : ∀ t, Steps p.tables e below (T38.setTop (mkF m 151 #[.val (.int xa), .val (.int xb), .val (.int xc), .val (.int xd), .val (.int xs), .val (.int v4), .val (.int v18), .val (.int kd), .val (.ref b6), .val (.ref b35), .val (.int (0 : Int32))] [(.int (1 : Int32))])) t → Steps p.tables e below (s₁.setTop (entryFrame m #[(.int xa), (.int xb), (.int xc), (.int xd), (.int xs)] maxLocals)) t := by
          intro t k
          refine pre40 t ?_
          refine XS.iload X38.here hx rfl (hb hby at_141) rfl ?_
          show Steps p.tables e below (T38.setTop (mkF m 143 #[.val (.int xa), .val (.int xb), .val (.int xc), .val (.int xd), .val (.int xs), .val (.int v4), .val (.int v18), .val (.int kd), .val (.ref b6), .val (.ref b35), .val (.int (0 : Int32))] [(.int (0 : Int32)), (.int (0 : Int32))])) _
          refine XS.icmpNo X38.here hx rfl (hb hby at_143) rfl (teq (show (0 : Int32) = (0 : Int32) from rfl)).2 ?_
          show Steps p.tables e below (T38.setTop (mkF m 146 #[.val (.int xa), .val (.int xb), .val (.int xc), .val (.int xd), .val (.int xs), .val (.int v4), .val (.int v18), .val (.int kd), .val (.ref b6), .val (.ref b35), .val (.int (0 : Int32))] [])) _
          refine XS.iconst X38.here hx rfl (hb hby at_146) ?_
          show Steps p.tables e below (T38.setTop (mkF m 147 #[.val (.int xa), .val (.int xb), .val (.int xc), .val (.int xd), .val (.int xs), .val (.int v4), .val (.int v18), .val (.int kd), .val (.ref b6), .val (.ref b35), .val (.int (0 : Int32))] [(.int (1 : Int32))])) _
          refine XS.goto X38.here hx rfl (pc0 := 147) (pc' := 151) rfl (hb hby at_147) (by decide) (by decide) ?_
          show Steps p.tables e below (T38.setTop (mkF m 151 #[.val (.int xa), .val (.int xb), .val (.int xc), .val (.int xd), .val (.int xs), .val (.int v4), .val (.int v18), .val (.int kd), .val (.ref b6), .val (.ref b35), .val (.int (0 : Int32))] [(.int (1 : Int32))])) _
          exact k
        obtain ⟨fs, hr, hrun, hended, hW, hsame⟩ := X38.leave (v := some (.int (1 : Int32))) (fun h => by rw [Bd.returns] at h; cases h)
        refine ⟨_, _, pre41 _ ?_, hrun, hended, _, _, rfl, ?_, ⟨_, rfl⟩, hW, hsame.mono (by decide) (by decide)⟩
        · exact retN X38 hx (t := .boolean) Bd.returns (by simp) (hb hby at_151) hr
        · show Q_rm0 Z xa xb xc xd xs xcs wc cc h0 n0 _ T38.heap _
          rw [e38]
          exact ⟨rfl, N38⟩
      · have pre42 : ∀ t, Steps p.tables e below (T9.setTop (mkF m 126 #[.val (.int xa), .val (.int xb), .val (.int xc), .val (.int xd), .val (.int xs), .val (.int v4), .val (.int v18), .val (.int kd), .val (.ref b6), .unset, .unset] [(.int xa)])) t → Steps p.tables e below (s₁.setTop (entryFrame m #[(.int xa), (.int xb), (.int xc), (.int xd), (.int xs)] maxLocals)) t := by
          intro t k
          refine pre32 t ?_
          refine XS.icmpYes X9.here hx rfl (pc0 := 105) (pc' := 125) rfl (hb hby at_105) rfl (feq hc105).2 (by decide) (by decide) ?_
          show Steps p.tables e below (T9.setTop (mkF m 125 #[.val (.int xa), .val (.int xb), .val (.int xc), .val (.int xd), .val (.int xs), .val (.int v4), .val (.int v18), .val (.int kd), .val (.ref b6), .unset, .unset] [])) _
          refine XS.iloadN X9.here hx rfl (hb hby at_125) rfl ?_
          show Steps p.tables e below (T9.setTop (mkF m 126 #[.val (.int xa), .val (.int xb), .val (.int xc), .val (.int xd), .val (.int xs), .val (.int v4), .val (.int v18), .val (.int kd), .val (.ref b6), .unset, .unset] [(.int xa)])) _
          exact k
        have f43 := (SH.ext (own_keep_ext K9))
        have f44 := (SW.ext (own_keep_ext K9))
        obtain ⟨_, _, ⟨T45, L45, k45, n45⟩, -, X45, ⟨Lc45, hQ45, l45, y45, z45⟩, st45⟩ := Jvm.LawKit.callS X9 hx (y := (⟨"java/lang/Integer", "valueOf", "(I)Ljava/lang/Integer;"⟩ : MethodName)) hown (mvT hZ (hw _ (List.mem_of_getElem? (i := 46) rfl))) (mvT hZ (hw _ (List.mem_of_getElem? (i := 47) rfl))) (mvT hZ (hw _ (List.mem_of_getElem? (i := 48) rfl))) (mvT hZ (hw _ (List.mem_of_getElem? (i := 49) rfl))) (by decide) (backOf (W := 0) (rm_ival l Z a0 hw [] xa wc cc T9.heap n0 zz9 f43 f44 (BX) (own_ext_trans OZ (own_keep_ext K9))) hZ (hw _ (List.mem_of_getElem? (i := 49) rfl)) (hw _ (List.mem_of_getElem? (i := 48) rfl)) (by decide) (by decide)) (g := (mkF m 126 #[.val (.int xa), .val (.int xb), .val (.int xc), .val (.int xd), .val (.int xs), .val (.int v4), .val (.int v18), .val (.int kd), .val (.ref b6), .unset, .unset] [(.int xa)])) rfl (by rw [hml]; rfl) (argsL := [(.int xa)]) (rest := []) (lenOf pd8 rfl) rfl (by show 2 * 0 + _ ≤ _; exact Nat.le_of_eq rfl) (hb hby at_126) (fun _ _ => ⟨rfl, rfl, (by decide : 1 + 1 ≤ _), (by decide : 2 + 1 ≤ _)⟩)
        dsimp only [Pt.U, Pt.locs, Pt.cells, Pt.slots] at X45 l45 y45 z45 st45 hQ45
        subst l45 y45 z45
        obtain ⟨b45, rfl, M45, kp45, f45_0⟩ := hQ45
        have K45 : Keep h0 T45.heap ([] : List Addr) := K9.trans kp45 all0
        have zz45 : n0 ≤ T45.heap.size := Nat.le_trans Z0 K45.1
        have N45 := Fr.app N9 M45
        have pre46 : ∀ t, Steps p.tables e below (T45.setTop (mkF m 129 #[.val (.int xa), .val (.int xb), .val (.int xc), .val (.int xd), .val (.int xs), .val (.int v4), .val (.int v18), .val (.int kd), .val (.ref b6), .unset, .unset] [(.ref b45)])) t → Steps p.tables e below (s₁.setTop (entryFrame m #[(.int xa), (.int xb), (.int xc), (.int xd), (.int xs)] maxLocals)) t := fun t k => pre42 t (st45 t k)
        have pre47 : ∀ t, Steps p.tables e below (T45.setTop (mkF m 138 #[.val (.int xa), .val (.int xb), .val (.int xc), .val (.int xd), .val (.int xs), .val (.int v4), .val (.int v18), .val (.int kd), .val (.ref b6), .val (.ref b45), .val (.int (0 : Int32))] [(.ref b45), (.ref b6)])) t → Steps p.tables e below (s₁.setTop (entryFrame m #[(.int xa), (.int xb), (.int xc), (.int xd), (.int xs)] maxLocals)) t := by
          intro t k
          refine pre46 t ?_
          refine XS.astore X45.here hx rfl (hb hby at_129) rfl rfl (l' := #[.val (.int xa), .val (.int xb), .val (.int xc), .val (.int xd), .val (.int xs), .val (.int v4), .val (.int v18), .val (.int kd), .val (.ref b6), .val (.ref b45), .unset]) rfl ?_
          show Steps p.tables e below (T45.setTop (mkF m 131 #[.val (.int xa), .val (.int xb), .val (.int xc), .val (.int xd), .val (.int xs), .val (.int v4), .val (.int v18), .val (.int kd), .val (.ref b6), .val (.ref b45), .unset] [])) _
          refine XS.iconst X45.here hx rfl (hb hby at_131) ?_
          show Steps p.tables e below (T45.setTop (mkF m 132 #[.val (.int xa), .val (.int xb), .val (.int xc), .val (.int xd), .val (.int xs), .val (.int v4), .val (.int v18), .val (.int kd), .val (.ref b6), .val (.ref b45), .unset] [(.int (0 : Int32))])) _
          refine XS.istore X45.here hx rfl (hb hby at_132) rfl (l' := #[.val (.int xa), .val (.int xb), .val (.int xc), .val (.int xd), .val (.int xs), .val (.int v4), .val (.int v18), .val (.int kd), .val (.ref b6), .val (.ref b45), .val (.int (0 : Int32))]) rfl ?_
          show Steps p.tables e below (T45.setTop (mkF m 134 #[.val (.int xa), .val (.int xb), .val (.int xc), .val (.int xd), .val (.int xs), .val (.int v4), .val (.int v18), .val (.int kd), .val (.ref b6), .val (.ref b45), .val (.int (0 : Int32))] [])) _
          refine XS.aload X45.here hx rfl (hb hby at_134) rfl rfl ?_
          show Steps p.tables e below (T45.setTop (mkF m 136 #[.val (.int xa), .val (.int xb), .val (.int xc), .val (.int xd), .val (.int xs), .val (.int v4), .val (.int v18), .val (.int kd), .val (.ref b6), .val (.ref b45), .val (.int (0 : Int32))] [(.ref b6)])) _
          refine XS.aload X45.here hx rfl (hb hby at_136) rfl rfl ?_
          show Steps p.tables e below (T45.setTop (mkF m 138 #[.val (.int xa), .val (.int xb), .val (.int xc), .val (.int xd), .val (.int xs), .val (.int v4), .val (.int v18), .val (.int kd), .val (.ref b6), .val (.ref b45), .val (.int (0 : Int32))] [(.ref b45), (.ref b6)])) _
          exact k
        have f49 := (f9_0.keep kp45)
        obtain ⟨cq48, kq48, q48a, q48b, q48c⟩ := isOf hZ rfl f49
        obtain ⟨_, _, ⟨T48, L48, k48, n48⟩, -, X48, ⟨Lc48, hQ48, l48, y48, z48⟩, st48⟩ := X45.virtualBack hx (y := (⟨"com/example/suitor/suitor/Pair", "equals", "(Ljava/lang/Object;)Z"⟩ : MethodName)) (z := (⟨"com/example/suitor/suitor/Pair", "equals", "(Ljava/lang/Object;)Z"⟩ : MethodName)) hown (mvT hZ (hw _ (List.mem_of_getElem? (i := 13) rfl))) (mvT hZ (hw _ (List.mem_of_getElem? (i := 14) rfl))) (notFace_of_selects (args := #[]) (mvT hZ (hw _ (List.mem_of_getElem? (i := 16) rfl)))) (mvT hZ (hw _ (List.mem_of_getElem? (i := 16) rfl))) (mvT hZ (hw _ (List.mem_of_getElem? (i := 15) rfl))) (by decide) (backOf (W := 0) (rm_eqI l Z a0 hw [] b6 b45 T45.heap n0 zz45 f45_0) hZ (hw _ (List.mem_of_getElem? (i := 17) rfl)) (hw _ (List.mem_of_getElem? (i := 2) rfl)) (by decide) (by decide)) q48a q48c (g := (mkF m 138 #[.val (.int xa), .val (.int xb), .val (.int xc), .val (.int xd), .val (.int xs), .val (.int v4), .val (.int v18), .val (.int kd), .val (.ref b6), .val (.ref b45), .val (.int (0 : Int32))] [(.ref b45), (.ref b6)])) rfl (by rw [hml]; rfl) (Steps.refl _) (argsL := [(.ref b45)]) (rest := []) (lenOf pd6 rfl) rfl (by show 2 * 0 + _ ≤ _; exact Nat.le_of_eq rfl) (hb hby at_138) (fun _ _ => ⟨rfl, rfl, (by decide : 2 + 0 ≤ _), (by decide : 3 + 0 ≤ _)⟩)
        dsimp only [Pt.U, Pt.locs, Pt.cells, Pt.slots] at X48 l48 y48 z48 st48 hQ48
        subst l48 y48 z48
        obtain ⟨rfl, M48, e48⟩ := hQ48
        have N48 := Fr.app N45 M48
        have pre50 : ∀ t, Steps p.tables e below (T48.setTop (mkF m 141 #[.val (.int xa), .val (.int xb), .val (.int xc), .val (.int xd), .val (.int xs), .val (.int v4), .val (.int v18), .val (.int kd), .val (.ref b6), .val (.ref b45), .val (.int (0 : Int32))] [(.int (0 : Int32))])) t → Steps p.tables e below (s₁.setTop (entryFrame m #[(.int xa), (.int xb), (.int xc), (.int xd), (.int xs)] maxLocals)) t := fun t k => pre47 t (st48.trans k)
        have pre51 : ∀ t, Steps p.tables e below (T48.setTop (mkF m 151 #[.val (.int xa), .val (.int xb), .val (.int xc), .val (.int xd), .val (.int xs), .val (.int v4), .val (.int v18), .val (.int kd), .val (.ref b6), .val (.ref b45), .val (.int (0 : Int32))] [(.int (1 : Int32))])) t → Steps p.tables e below (s₁.setTop (entryFrame m #[(.int xa), (.int xb), (.int xc), (.int xd), (.int xs)] maxLocals)) t := by
          intro t k
          refine pre50 t ?_
          refine XS.iload X48.here hx rfl (hb hby at_141) rfl ?_
          show Steps p.tables e below (T48.setTop (mkF m 143 #[.val (.int xa), .val (.int xb), .val (.int xc), .val (.int xd), .val (.int xs), .val (.int v4), .val (.int v18), .val (.int kd), .val (.ref b6), .val (.ref b45), .val (.int (0 : Int32))] [(.int (0 : Int32)), (.int (0 : Int32))])) _
          refine XS.icmpNo X48.here hx rfl (hb hby at_143) rfl (teq (show (0 : Int32) = (0 : Int32) from rfl)).2 ?_
          show Steps p.tables e below (T48.setTop (mkF m 146 #[.val (.int xa), .val (.int xb), .val (.int xc), .val (.int xd), .val (.int xs), .val (.int v4), .val (.int v18), .val (.int kd), .val (.ref b6), .val (.ref b45), .val (.int (0 : Int32))] [])) _
          refine XS.iconst X48.here hx rfl (hb hby at_146) ?_
          show Steps p.tables e below (T48.setTop (mkF m 147 #[.val (.int xa), .val (.int xb), .val (.int xc), .val (.int xd), .val (.int xs), .val (.int v4), .val (.int v18), .val (.int kd), .val (.ref b6), .val (.ref b45), .val (.int (0 : Int32))] [(.int (1 : Int32))])) _
          refine XS.goto X48.here hx rfl (pc0 := 147) (pc' := 151) rfl (hb hby at_147) (by decide) (by decide) ?_
          show Steps p.tables e below (T48.setTop (mkF m 151 #[.val (.int xa), .val (.int xb), .val (.int xc), .val (.int xd), .val (.int xs), .val (.int v4), .val (.int v18), .val (.int kd), .val (.ref b6), .val (.ref b45), .val (.int (0 : Int32))] [(.int (1 : Int32))])) _
          exact k
        obtain ⟨fs, hr, hrun, hended, hW, hsame⟩ := X48.leave (v := some (.int (1 : Int32))) (fun h => by rw [Bd.returns] at h; cases h)
        refine ⟨_, _, pre51 _ ?_, hrun, hended, _, _, rfl, ?_, ⟨_, rfl⟩, hW, hsame.mono (by decide) (by decide)⟩
        · exact retN X48 hx (t := .boolean) Bd.returns (by simp) (hb hby at_151) hr
        · show Q_rm0 Z xa xb xc xd xs xcs wc cc h0 n0 _ T48.heap _
          rw [e48]
          exact ⟨rfl, N48⟩
set_option maxRecDepth 65536 in
set_option maxHeartbeats 40000000 in
theorem comes_1 {Post : Tables → Env → Array Value → State → Outcome → State → Prop} (hpost : ∀ tb e args s v u, (limb_1_1.after args s (.returned v) u = true ∧ limb_1_2.after args s (.returned v) u = true ∧ True) → FrameEnd s (.returned v) u (Jvm.fieldLocs frame_1_writes args s ++ Jvm.arrayLocs frame_1_arrays args s ++ Jvm.staticLocs frame_1_statics s) 16 128 → Post tb e args s (.returned v) u) :
    ArmFor flags0 classFile x code maxLocals ret World_1 tables_1 room_1 Calls_1 rest_1 Pre_1 Post := by
  intro l hfl _ _ p e ha hc hk s m args below hf hA hF happ hP
  obtain ⟨hcalls, hrest, hpre⟩ := hP
  obtain ⟨-, -, -, hnamed, -, -, -, hat⟩ := (Spec.applies_iff hf).mp happ
  obtain ⟨hg, hn⟩ := and_e (Cond.before_iff.mp (show (Jvm.Cond.and given_1 narrow_1).before args s = true from hpre))
  obtain ⟨ga1, gb1⟩ := and_e hg
  obtain ⟨ga2, gb2⟩ := and_e gb1
  obtain ⟨ga3, gb3⟩ := and_e gb2
  obtain ⟨ga4, gb4⟩ := and_e gb3
  obtain ⟨ga5, gb5⟩ := and_e gb4
  obtain ⟨w0, w1, w2, w3, w4, rfl⟩ : ∃ w0 w1 w2 w3 w4 : Value, args = #[w0, w1, w2, w3, w4] := by
    have hs : args.size = 5 := by simpa [Cond.value, given_1] using ga1
    obtain ⟨L⟩ := args
    match L, hs with
    | [w0, w1, w2, w3, w4], _ => exact ⟨w0, w1, w2, w3, w4, rfl⟩
  have hw := fun d (hd : d ∈ tables_1) => atoms_spec (ws := Jvm.Cond.code x code maxLocals ret :: tables_1) hat d (List.mem_cons_of_mem _ hd)
  have hfit : Fit s := fun {y c} hc i hi => by
    obtain ⟨ha, rfl⟩ := Array.getElem?_eq_some_iff.mp hc
    have q := List.all_eq_true.mp ((Array.all_eq_true_iff_forall_mem.mp hF) _ (Array.getElem_mem ha)) i (List.mem_range.mpr hi)
    simpa [Array.getElem?_eq_getElem hi] using q
  obtain ⟨hsets, hown0⟩ := atoms_of _ (rest_1_c_eq ▸ (show rest_1_c.before _ s = true from hrest))
  have hr0 := Cond.before_iff.mp hown0
  obtain ⟨i0, ei0⟩ := is_v ga2
  obtain rfl : w0 = (.int i0) := Option.some.inj ei0
  obtain ⟨i1, ei1⟩ := is_v ga3
  obtain rfl : w1 = (.int i1) := Option.some.inj ei1
  obtain ⟨i2, ei2⟩ := is_v ga4
  obtain rfl : w2 = (.int i2) := Option.some.inj ei2
  obtain ⟨i3, ei3⟩ := is_v ga5
  obtain rfl : w3 = (.int i3) := Option.some.inj ei3
  obtain ⟨i4, ei4⟩ := is_v gb5
  obtain rfl : w4 = (.int i4) := Option.some.inj ei4
  obtain ⟨xcs, ecs⟩ := is_v (Cond.before_iff.mp (hsets _ (List.mem_of_getElem? (i := 1) rfl)))
  have SC : Sta s s.heap "java/lang/String" "COMPACT_STRINGS" "Z" (.int xcs) := Sta.start ecs (Or.inl (hsets _ (List.mem_of_getElem? (i := 0) rfl)))
  have hcs : ¬ (xcs = (0 : Int32)) := gotF (Cond.eq_ints ecs (Term.int_eval (0))) (not_v (Cond.before_iff.mp (hsets _ (List.mem_of_getElem? (i := 2) rfl))))
  have eh := eqv_i (Term.int_eval (127)) (Cond.before_iff.mp (hsets _ (List.mem_of_getElem? (i := 12) rfl)))
  have SH := Sta.start eh (Or.inl (hsets _ (List.mem_of_getElem? (i := 10) rfl)))
  obtain ⟨wc, ewc⟩ := exa_v (Cond.before_iff.mp (hsets _ (List.mem_of_getElem? (i := 14) rfl)))
  have SW := Sta.start ewc (Or.inr ⟨(hw _ (List.mem_of_getElem? (i := 51) rfl)), (hsets _ (List.mem_of_getElem? (i := 11) rfl))⟩)
  obtain ⟨cc, Ac⟩ := Arr.start ewc (Cond.before_iff.mp (hsets _ (List.mem_of_getElem? (i := 13) rfl)))
  have lc := eqv_i (Term.int_eval (256)) (Cond.before_iff.mp (hsets _ (List.mem_of_getElem? (i := 15) rfl)))
  have lq : cc.slots.size < 2 ^ 31 ∧ cc.slots.size.toInt32 = (256 : Int32) := own_len ewc Ac lc
  have BX : Bxs s wc cc "java/lang/Integer" "I" (256 : Int32) (fun j => .int (j - 128)) := Bxs.start (t := (Term.static "java/lang/Integer$IntegerCache" "cache" "[Ljava/lang/Integer;")) (F := Term.sub (Term.index 0) (Term.int 128)) (fun idx => ewc) Ac lq.1 lq.2 (by decide) (Cond.before_iff.mp (hsets _ (List.mem_of_getElem? (i := 16) rfl))) (fun X j hj h => eqv_i (Term.sub_int (idx_at hj) (Term.int_eval 128)) h)
  obtain ⟨n, o, h1, h2, h3, _, L, rfl, ⟨rfl, N⟩, hq⟩ := rm0 l s _ hw tables_1 i0 i1 i2 i3 i4 xcs wc cc s.heap s.heap.size (Nat.le_refl _) SC SH SW hcs BX ⟨Nat.le_refl _, fun _ _ q => q⟩ p e ha hc hk s m _ below hf ((Spec.applies_iff_loose hf).mp happ).1 ⟨rfl, State.Warmed39.refl s, rfl⟩ trivial
  refine ⟨n, _, h1, h2, h3, hpost _ _ _ _ _ _ ⟨Cond.after_iff.mpr rfl, Cond.after_iff.mpr (eq_i res_at (Term.int_eval (1)) rfl), trivial⟩ ⟨hq.1, hq.2.1, (hq.2.2.sift fun y hy => Or.inr (N y hy)).mono (by decide) (by decide)⟩⟩
theorem main_1_1 : Claimed_1_1 := comes_1 fun _ _ _ _ _ _ h hF => ⟨h.1, hF⟩
theorem main_1_2 : Claimed_1_2 := comes_1 fun _ _ _ _ _ _ h hF => ⟨h.2.1, hF⟩
end Jvm.Pilot.@@N@@
namespace Jvm.Pilot.@@N@@
open Jvm Jvm.ClassFile Sem Op Lib Jvm.Free Jvm.Stand Jvm.Pilot.@@N@@.Jvm.D
/-! MADE BY PROGRAM (witnessworld.py) out of the Statement's table words and the real class files: 21 classes; the members and pool entries that the words name. The judged class is class 1, her method 1. -/
namespace start1
open Jvm.ClassFile
def u (s : String) : CpInfo := .utf8 (stringToUtf16 s)
/-- a pool by its gaps: so many unusable entries, then the entry; so many at the end -/
def gap : Nat → List CpInfo → List CpInfo
  | 0, r => r
  | n + 1, r => .unusable :: gap n r
def poolList (es : List (Nat × CpInfo)) (last : Nat) : List CpInfo := es.foldr (fun e r => gap e.1 (e.2 :: r)) (gap last [])
def pool (es : List (Nat × CpInfo)) (last : Nat) : Array CpInfo := ⟨poolList es last⟩
def fileOf (pool : Array CpInfo) (this : Nat) (attrs : Array Attribute := #[]) (ms : Array MethodInfo := #[]) (fl : Nat := 33) (sup : Nat := 0) (ifs : Array Nat := #[]) (fds : Array FieldInfo := #[]) : ClassFile where
  minorVersion := 0
  majorVersion := 65
  constantPool := pool
  accessFlags := fl
  thisClass := this
  superClass := sup
  interfaces := ifs
  fields := fds
  methods := ms
  attributes := attrs
def plain (name : String) (sup : Option ClassId) : Class where
  name := name
  kind := .ordinary
  loader := none
  accessFlags := 33
  super := sup
  interfaces := #[]
  cf := none
  fields := #[]
  methods := #[]
  instanceTypes := #[]
  staticTypes := #[]
  resolved := #[]
  callSites := []
  init := .initialized
  statics := none
  mirror := none

def pool0 : Array CpInfo := pool [(5, u "<init>"), (0, u "()V"), (1, .class_ 10), (1, u "java/lang/Object")] 113

def k0c0 : Code := { maxStack := 0, maxLocals := 1, code := object_method_1_code, exceptionTable := #[], attributes := #[] }
def k0m0 : Method := { name := "<init>", desc := "()V", sig := { parameters := [], returnType := none }, accessFlags := 1, code := some k0c0 }
/-- java/lang/Object -/
def k0 : Class := { plain "java/lang/Object" none with
  accessFlags := 33
  interfaces := #[]
  cf := some (fileOf pool0 8 #[] #[{ accessFlags := 1, nameIndex := 5, descriptorIndex := 6, attributes := #[] }] 33 0 #[] #[])
  fields := #[]
  methods := #[k0m0]
  instanceTypes := #[]
  staticTypes := #[]
  resolved := Array.replicate 124 none
  statics := none }

def pool1 : Array CpInfo := pool [(2, .class_ 4), (1, u "java/lang/Object"), (0, u "<init>"), (0, u "()V"), (0, .class_ 8), (0, u "com/example/suitor/suitor/Pair"), (0, .methodref 7 10), (0, .nameAndType 5 11), (0, u "(II)V"), (0, .methodref 13 14), (0, .class_ 15), (0, .nameAndType 16 17), (0, u "java/lang/String"), (0, u "valueOf"), (0, u "(C)Ljava/lang/String;"), (0, .methodref 19 20), (0, .class_ 21), (0, .nameAndType 16 22), (0, u "java/lang/Integer"), (0, u "(I)Ljava/lang/Integer;"), (0, .methodref 7 24), (0, .nameAndType 25 26), (0, u "equals"), (0, u "(Ljava/lang/Object;)Z"), (0, .class_ 28), (0, u "com/example/suitor/suitor/PairEqualsPinLaw"), (2, u "law"), (0, u "(IIIII)Z")] 3

def k1m0 : Method := { name := "<init>", desc := "()V", sig := { parameters := [], returnType := none }, accessFlags := 1, code := none }
def k1c1 : Code := { maxStack := 4, maxLocals := 11, code := code, exceptionTable := #[], attributes := #[] }
def k1m1 : Method := { name := "law", desc := "(IIIII)Z", sig := { parameters := [.int, .int, .int, .int, .int], returnType := some .boolean }, accessFlags := 9, code := some k1c1 }
/-- com/example/suitor/suitor/PairEqualsPinLaw -/
def k1 : Class := { plain "com/example/suitor/suitor/PairEqualsPinLaw" (some 0) with
  accessFlags := 49
  interfaces := #[]
  cf := some (fileOf pool1 27 #[] #[{ accessFlags := 1, nameIndex := 5, descriptorIndex := 6, attributes := #[] }, { accessFlags := 9, nameIndex := 31, descriptorIndex := 32, attributes := #[] }] 49 2 #[] #[])
  fields := #[]
  methods := #[k1m0, k1m1]
  instanceTypes := #[]
  staticTypes := #[]
  resolved := Array.replicate 36 none
  statics := none }

def pool2 : Array CpInfo := pool [(1, .methodref 2 3), (0, .class_ 4), (0, .nameAndType 5 6), (0, u "java/lang/Object"), (0, u "<init>"), (0, u "()V"), (0, .fieldref 8 9), (0, .class_ 10), (0, .nameAndType 11 12), (0, u "com/example/suitor/suitor/Pair"), (0, u "agent"), (0, u "I"), (0, .fieldref 8 14), (0, .nameAndType 15 12), (0, u "partner"), (4, u "(II)V"), (5, u "equals"), (0, u "(Ljava/lang/Object;)Z")] 21

def k2c0 : Code := { maxStack := 2, maxLocals := 3, code := prog_32_method_1_code, exceptionTable := #[], attributes := #[] }
def k2m0 : Method := { name := "<init>", desc := "(II)V", sig := { parameters := [.int, .int], returnType := none }, accessFlags := 1, code := some k2c0 }
def k2c1 : Code := { maxStack := 2, maxLocals := 3, code := prog_32_method_4_code, exceptionTable := #[], attributes := #[] }
def k2m1 : Method := { name := "equals", desc := "(Ljava/lang/Object;)Z", sig := { parameters := [(.object "java/lang/Object")], returnType := some .boolean }, accessFlags := 1, code := some k2c1 }
/-- com/example/suitor/suitor/Pair -/
def k2 : Class := { plain "com/example/suitor/suitor/Pair" (some 0) with
  accessFlags := 33
  interfaces := #[]
  cf := some (fileOf pool2 8 #[] #[{ accessFlags := 1, nameIndex := 5, descriptorIndex := 20, attributes := #[] }, { accessFlags := 1, nameIndex := 26, descriptorIndex := 27, attributes := #[] }] 33 2 #[] #[{ accessFlags := 18, nameIndex := 11, descriptorIndex := 12, attributes := #[] }, { accessFlags := 18, nameIndex := 15, descriptorIndex := 12, attributes := #[] }])
  fields := #[{ name := "agent", type := .int, accessFlags := 18, slot := 0, constantValue := 0 }, { name := "partner", type := .int, accessFlags := 18, slot := 1, constantValue := 0 }]
  methods := #[k2m0, k2m1]
  instanceTypes := #[.int, .int]
  staticTypes := #[]
  resolved := Array.replicate 49 none
  statics := none }

def pool3 : Array CpInfo := pool [(1, .class_ 2), (0, u "java/io/Serializable"), (0, .class_ 4), (0, u "java/lang/Object")] 2

/-- java/io/Serializable -/
def k3 : Class := { plain "java/io/Serializable" (some 0) with
  accessFlags := 1537
  interfaces := #[]
  cf := some (fileOf pool3 1 #[] #[] 1537 3 #[] #[])
  fields := #[]
  methods := #[]
  instanceTypes := #[]
  staticTypes := #[]
  resolved := Array.replicate 7 none
  statics := none }

def pool4 : Array CpInfo := pool [(1, .class_ 2), (0, u "java/lang/Comparable"), (0, .class_ 4), (0, u "java/lang/Object")] 7

/-- java/lang/Comparable -/
def k4 : Class := { plain "java/lang/Comparable" (some 0) with
  accessFlags := 1537
  interfaces := #[]
  cf := some (fileOf pool4 1 #[] #[] 1537 3 #[] #[])
  fields := #[]
  methods := #[]
  instanceTypes := #[]
  staticTypes := #[]
  resolved := Array.replicate 12 none
  statics := none }

def pool5 : Array CpInfo := pool [(2, .class_ 4), (1, u "java/lang/CharSequence"), (42, .class_ 48), (0, u "java/lang/CharSequence$1CodePointIterator"), (10, .class_ 60), (0, u "java/lang/CharSequence$1CharIterator"), (5, .class_ 67), (0, u "java/lang/Object")] 63

/-- java/lang/CharSequence -/
def k5 : Class := { plain "java/lang/CharSequence" (some 0) with
  accessFlags := 1537
  interfaces := #[]
  cf := some (fileOf pool5 2 #[.nestMembers #[47, 59]] #[] 1537 66 #[] #[])
  fields := #[]
  methods := #[]
  instanceTypes := #[]
  staticTypes := #[]
  resolved := Array.replicate 131 none
  statics := none }

def pool6 : Array CpInfo := pool [(1, .class_ 2), (0, u "java/lang/constant/Constable"), (0, .class_ 4), (0, u "java/lang/Object")] 6

/-- java/lang/constant/Constable -/
def k6 : Class := { plain "java/lang/constant/Constable" (some 0) with
  accessFlags := 1537
  interfaces := #[]
  cf := some (fileOf pool6 1 #[] #[] 1537 3 #[] #[])
  fields := #[]
  methods := #[]
  instanceTypes := #[]
  staticTypes := #[]
  resolved := Array.replicate 11 none
  statics := none }

def pool7 : Array CpInfo := pool [(1, .class_ 2), (0, u "java/lang/constant/ConstantDesc"), (0, .class_ 4), (0, u "java/lang/Object")] 32

/-- java/lang/constant/ConstantDesc -/
def k7 : Class := { plain "java/lang/constant/ConstantDesc" (some 0) with
  accessFlags := 1537
  interfaces := #[]
  cf := some (fileOf pool7 1 #[] #[] 1537 3 #[] #[])
  fields := #[]
  methods := #[]
  instanceTypes := #[]
  staticTypes := #[]
  resolved := Array.replicate 37 none
  statics := none }

def pool8 : Array CpInfo := pool [(1, .methodref 2 3), (0, .class_ 4), (0, .nameAndType 5 6), (0, u "java/lang/Object"), (0, u "<init>"), (0, u "()V"), (2, .fieldref 10 11), (0, .class_ 12), (0, .nameAndType 13 14), (0, u "java/lang/String"), (0, u "value"), (0, u "[B"), (0, .fieldref 10 16), (0, .nameAndType 17 18), (0, u "coder"), (0, u "B"), (2, u "hash"), (0, u "I"), (2, u "hashIsZero"), (0, u "Z"), (11, .fieldref 10 39), (0, .nameAndType 40 26), (0, u "COMPACT_STRINGS"), (12, u "toBytes"), (53, .class_ 109), (1, u "java/lang/StringLatin1"), (99, .methodref 10 210), (0, .nameAndType 5 211), (0, u "([BB)V"), (157, u "(C)Z"), (205, .class_ 576), (0, u "java/lang/CharSequence"), (22, u "CASE_INSENSITIVE_ORDER"), (0, u "Ljava/util/Comparator;"), (181, u "valueOf"), (0, u "(C)Ljava/lang/String;"), (231, .methodref 107 1016), (0, .nameAndType 1017 369), (0, u "canEncode"), (0, .methodref 107 1019), (0, .nameAndType 53 1020), (0, u "(C)[B"), (80, u "serialPersistentFields"), (0, u "[Ljava/io/ObjectStreamField;"), (0, .class_ 1104), (0, u "java/lang/String$CaseInsensitiveComparator"), (1, .class_ 1107), (0, u "java/io/Serializable"), (0, .class_ 1109), (0, u "java/lang/Comparable"), (0, .class_ 1111), (0, u "java/lang/constant/Constable"), (0, .class_ 1113), (0, u "java/lang/constant/ConstantDesc"), (2, u "serialVersionUID"), (0, u "J"), (3, u "REPL"), (0, u "C"), (2, u "LATIN1"), (1, u "UTF16")] 323

def k8m0 : Method := { name := "<init>", desc := "()V", sig := { parameters := [], returnType := none }, accessFlags := 1, code := none }
def k8c1 : Code := { maxStack := 4, maxLocals := 1, code := jdk_42_method_139_code, exceptionTable := #[], attributes := #[] }
def k8m1 : Method := { name := "valueOf", desc := "(C)Ljava/lang/String;", sig := { parameters := [.char], returnType := some (.object "java/lang/String") }, accessFlags := 9, code := some k8c1 }
def k8c2 : Code := { maxStack := 2, maxLocals := 3, code := jdk_42_method_151_code, exceptionTable := #[], attributes := #[] }
def k8m2 : Method := { name := "<init>", desc := "([BB)V", sig := { parameters := [(.array .byte), .byte], returnType := none }, accessFlags := 0, code := some k8c2 }
/-- java/lang/String -/
def k8 : Class := { plain "java/lang/String" (some 0) with
  accessFlags := 49
  interfaces := #[3, 4, 5, 6, 7]
  cf := some (fileOf pool8 10 #[.nestMembers #[1103]] #[{ accessFlags := 1, nameIndex := 5, descriptorIndex := 6, attributes := #[] }, { accessFlags := 9, nameIndex := 782, descriptorIndex := 783, attributes := #[] }, { accessFlags := 0, nameIndex := 5, descriptorIndex := 211, attributes := #[] }] 49 2 #[1106, 1108, 575, 1110, 1112] #[{ accessFlags := 18, nameIndex := 13, descriptorIndex := 14, attributes := #[] }, { accessFlags := 18, nameIndex := 17, descriptorIndex := 18, attributes := #[] }, { accessFlags := 2, nameIndex := 21, descriptorIndex := 22, attributes := #[] }, { accessFlags := 2, nameIndex := 25, descriptorIndex := 26, attributes := #[] }, { accessFlags := 26, nameIndex := 1116, descriptorIndex := 1117, attributes := #[] }, { accessFlags := 24, nameIndex := 40, descriptorIndex := 26, attributes := #[] }, { accessFlags := 26, nameIndex := 1101, descriptorIndex := 1102, attributes := #[] }, { accessFlags := 26, nameIndex := 1121, descriptorIndex := 1122, attributes := #[] }, { accessFlags := 25, nameIndex := 599, descriptorIndex := 600, attributes := #[] }, { accessFlags := 24, nameIndex := 1125, descriptorIndex := 18, attributes := #[] }, { accessFlags := 24, nameIndex := 1127, descriptorIndex := 18, attributes := #[] }])
  fields := #[{ name := "value", type := (.array .byte), accessFlags := 18, slot := 0, constantValue := 0 }, { name := "coder", type := .byte, accessFlags := 18, slot := 1, constantValue := 0 }, { name := "hash", type := .int, accessFlags := 2, slot := 2, constantValue := 0 }, { name := "hashIsZero", type := .boolean, accessFlags := 2, slot := 3, constantValue := 0 }, { name := "serialVersionUID", type := .long, accessFlags := 26, slot := 0, constantValue := 0 }, { name := "COMPACT_STRINGS", type := .boolean, accessFlags := 24, slot := 1, constantValue := 0 }, { name := "serialPersistentFields", type := (.array (.object "java/io/ObjectStreamField")), accessFlags := 26, slot := 2, constantValue := 0 }, { name := "REPL", type := .char, accessFlags := 26, slot := 3, constantValue := 0 }, { name := "CASE_INSENSITIVE_ORDER", type := (.object "java/util/Comparator"), accessFlags := 25, slot := 4, constantValue := 0 }, { name := "LATIN1", type := .byte, accessFlags := 24, slot := 5, constantValue := 0 }, { name := "UTF16", type := .byte, accessFlags := 24, slot := 6, constantValue := 0 }]
  methods := #[k8m0, k8m1, k8m2]
  instanceTypes := #[(.array .byte), .byte, .int, .boolean]
  staticTypes := #[.long, .boolean, (.array (.object "java/io/ObjectStreamField")), .char, (.object "java/util/Comparator"), .byte, .byte]
  resolved := Array.replicate 1451 none
  statics := some 0 }

def pool9 : Array CpInfo := pool [(4, .class_ 6), (1, u "java/lang/Object"), (0, u "<init>"), (0, u "()V"), (5, .class_ 16), (1, u "java/lang/StringLatin1"), (73, u "canEncode"), (14, u "(C)Z"), (15, u "$assertionsDisabled"), (0, u "Z"), (98, .class_ 223), (1, u "java/lang/StringLatin1$LinesSpliterator"), (156, u "toBytes"), (1, u "(C)[B"), (7, .class_ 391), (0, u "java/lang/StringLatin1$CharsSpliterator")] 3

def k9m0 : Method := { name := "<init>", desc := "()V", sig := { parameters := [], returnType := none }, accessFlags := 0, code := none }
def k9c1 : Code := { maxStack := 2, maxLocals := 1, code := jdk_43_method_3_code, exceptionTable := #[], attributes := #[] }
def k9m1 : Method := { name := "canEncode", desc := "(C)Z", sig := { parameters := [.char], returnType := some .boolean }, accessFlags := 9, code := some k9c1 }
def k9c2 : Code := { maxStack := 4, maxLocals := 1, code := jdk_43_method_46_code, exceptionTable := #[], attributes := #[] }
def k9m2 : Method := { name := "toBytes", desc := "(C)[B", sig := { parameters := [.char], returnType := some (.array .byte) }, accessFlags := 9, code := some k9c2 }
/-- java/lang/StringLatin1 -/
def k9 : Class := { plain "java/lang/StringLatin1" (some 0) with
  accessFlags := 48
  interfaces := #[]
  cf := some (fileOf pool9 14 #[.nestMembers #[390, 221]] #[{ accessFlags := 0, nameIndex := 7, descriptorIndex := 8, attributes := #[] }, { accessFlags := 9, nameIndex := 90, descriptorIndex := 105, attributes := #[] }, { accessFlags := 9, nameIndex := 380, descriptorIndex := 382, attributes := #[] }] 48 4 #[] #[{ accessFlags := 4120, nameIndex := 121, descriptorIndex := 122, attributes := #[] }])
  fields := #[{ name := "$assertionsDisabled", type := .boolean, accessFlags := 4120, slot := 0, constantValue := 0 }]
  methods := #[k9m0, k9m1, k9m2]
  instanceTypes := #[]
  staticTypes := #[.boolean]
  resolved := Array.replicate 395 none
  statics := none }

def pool10 : Array CpInfo := pool [(1, .methodref 2 3), (0, .class_ 4), (0, .nameAndType 5 6), (0, u "java/lang/Object"), (0, u "<init>"), (0, u "()V"), (1, .class_ 10), (1, u "java/lang/Number"), (2, .class_ 14), (0, u "java/io/Serializable"), (0, u "serialVersionUID"), (0, u "J")] 20

def k10c0 : Code := { maxStack := 1, maxLocals := 1, code := jdk_18_method_1_code, exceptionTable := #[], attributes := #[] }
def k10m0 : Method := { name := "<init>", desc := "()V", sig := { parameters := [], returnType := none }, accessFlags := 1, code := some k10c0 }
/-- java/lang/Number -/
def k10 : Class := { plain "java/lang/Number" (some 0) with
  accessFlags := 1057
  interfaces := #[3]
  cf := some (fileOf pool10 8 #[] #[{ accessFlags := 1, nameIndex := 5, descriptorIndex := 6, attributes := #[] }] 1057 2 #[13] #[{ accessFlags := 26, nameIndex := 15, descriptorIndex := 16, attributes := #[] }])
  fields := #[{ name := "serialVersionUID", type := .long, accessFlags := 26, slot := 0, constantValue := 0 }]
  methods := #[k10m0]
  instanceTypes := #[]
  staticTypes := #[.long]
  resolved := Array.replicate 37 none
  statics := none }

def pool11 : Array CpInfo := pool [(1, .class_ 2), (0, u "java/lang/Integer"), (16, u "digits"), (0, u "[C"), (46, u "<init>"), (17, u "DigitOnes"), (0, u "[B"), (2, u "DigitTens"), (10, .nameAndType 67 101), (0, u "()V"), (85, u "valueOf"), (0, u "(I)Ljava/lang/Integer;"), (0, .class_ 190), (0, u "java/lang/Integer$IntegerCache"), (0, .fieldref 189 192), (0, .nameAndType 193 194), (0, u "high"), (0, u "I"), (0, .fieldref 189 196), (0, .nameAndType 197 198), (0, u "cache"), (0, u "[Ljava/lang/Integer;"), (0, .methodref 1 200), (0, .nameAndType 67 201), (0, u "(I)V"), (0, .methodref 203 100), (0, .class_ 204), (0, u "java/lang/Number"), (0, .fieldref 1 206), (0, .nameAndType 207 194), (0, u "value"), (94, u "TYPE"), (0, u "Ljava/lang/Class;"), (0, .class_ 305), (0, u "java/lang/Comparable"), (0, .class_ 307), (0, u "java/lang/constant/Constable"), (0, .class_ 309), (0, u "java/lang/constant/ConstantDesc"), (0, u "MIN_VALUE"), (1, u "MAX_VALUE"), (3, u "SIZE"), (1, u "BYTES"), (1, u "serialVersionUID"), (0, u "J")] 131

def k11c0 : Code := { maxStack := 3, maxLocals := 1, code := jdk_33_method_22_code, exceptionTable := #[], attributes := #[] }
def k11m0 : Method := { name := "valueOf", desc := "(I)Ljava/lang/Integer;", sig := { parameters := [.int], returnType := some (.object "java/lang/Integer") }, accessFlags := 9, code := some k11c0 }
def k11c1 : Code := { maxStack := 2, maxLocals := 2, code := jdk_33_method_23_code, exceptionTable := #[], attributes := #[] }
def k11m1 : Method := { name := "<init>", desc := "(I)V", sig := { parameters := [.int], returnType := none }, accessFlags := 1, code := some k11c1 }
/-- java/lang/Integer -/
def k11 : Class := { plain "java/lang/Integer" (some 10) with
  accessFlags := 49
  interfaces := #[4, 6, 7]
  cf := some (fileOf pool11 1 #[.nestMembers #[189]] #[{ accessFlags := 9, nameIndex := 187, descriptorIndex := 188, attributes := #[] }, { accessFlags := 1, nameIndex := 67, descriptorIndex := 201, attributes := #[] }] 49 203 #[304, 306, 308] #[{ accessFlags := 25, nameIndex := 310, descriptorIndex := 194, attributes := #[] }, { accessFlags := 25, nameIndex := 312, descriptorIndex := 194, attributes := #[] }, { accessFlags := 25, nameIndex := 302, descriptorIndex := 303, attributes := #[] }, { accessFlags := 24, nameIndex := 19, descriptorIndex := 20, attributes := #[] }, { accessFlags := 24, nameIndex := 89, descriptorIndex := 86, attributes := #[] }, { accessFlags := 24, nameIndex := 85, descriptorIndex := 86, attributes := #[] }, { accessFlags := 18, nameIndex := 207, descriptorIndex := 194, attributes := #[] }, { accessFlags := 25, nameIndex := 316, descriptorIndex := 194, attributes := #[] }, { accessFlags := 25, nameIndex := 318, descriptorIndex := 194, attributes := #[] }, { accessFlags := 26, nameIndex := 320, descriptorIndex := 321, attributes := #[] }])
  fields := #[{ name := "MIN_VALUE", type := .int, accessFlags := 25, slot := 0, constantValue := 0 }, { name := "MAX_VALUE", type := .int, accessFlags := 25, slot := 1, constantValue := 0 }, { name := "TYPE", type := (.object "java/lang/Class"), accessFlags := 25, slot := 2, constantValue := 0 }, { name := "digits", type := (.array .char), accessFlags := 24, slot := 3, constantValue := 0 }, { name := "DigitTens", type := (.array .byte), accessFlags := 24, slot := 4, constantValue := 0 }, { name := "DigitOnes", type := (.array .byte), accessFlags := 24, slot := 5, constantValue := 0 }, { name := "value", type := .int, accessFlags := 18, slot := 0, constantValue := 0 }, { name := "SIZE", type := .int, accessFlags := 25, slot := 6, constantValue := 0 }, { name := "BYTES", type := .int, accessFlags := 25, slot := 7, constantValue := 0 }, { name := "serialVersionUID", type := .long, accessFlags := 26, slot := 8, constantValue := 0 }]
  methods := #[k11m0, k11m1]
  instanceTypes := #[.int]
  staticTypes := #[.int, .int, (.object "java/lang/Class"), (.array .char), (.array .byte), (.array .byte), .int, .int, .long]
  resolved := Array.replicate 453 none
  statics := none }

def pool12 : Array CpInfo := pool [(2, .class_ 4), (1, u "java/lang/Object"), (0, u "<init>"), (0, u "()V"), (0, .class_ 8), (0, u "java/lang/Integer"), (7, .class_ 18), (1, u "java/lang/Integer$IntegerCache"), (0, u "$assertionsDisabled"), (0, u "Z"), (26, u "high"), (0, u "I"), (8, u "archivedCache"), (0, u "[Ljava/lang/Integer;"), (12, u "cache"), (0, u "low")] 27

def k12m0 : Method := { name := "<init>", desc := "()V", sig := { parameters := [], returnType := none }, accessFlags := 2, code := none }
/-- java/lang/Integer$IntegerCache -/
def k12 : Class := { plain "java/lang/Integer$IntegerCache" (some 0) with
  accessFlags := 48
  interfaces := #[]
  cf := some (fileOf pool12 16 #[.nestHost 7] #[{ accessFlags := 2, nameIndex := 5, descriptorIndex := 6, attributes := #[] }] 48 2 #[] #[{ accessFlags := 24, nameIndex := 72, descriptorIndex := 48, attributes := #[] }, { accessFlags := 24, nameIndex := 47, descriptorIndex := 48, attributes := #[] }, { accessFlags := 24, nameIndex := 71, descriptorIndex := 58, attributes := #[] }, { accessFlags := 8, nameIndex := 57, descriptorIndex := 58, attributes := #[] }, { accessFlags := 4120, nameIndex := 19, descriptorIndex := 20, attributes := #[] }])
  fields := #[{ name := "low", type := .int, accessFlags := 24, slot := 0, constantValue := 0 }, { name := "high", type := .int, accessFlags := 24, slot := 1, constantValue := 0 }, { name := "cache", type := (.array (.object "java/lang/Integer")), accessFlags := 24, slot := 2, constantValue := 0 }, { name := "archivedCache", type := (.array (.object "java/lang/Integer")), accessFlags := 8, slot := 3, constantValue := 0 }, { name := "$assertionsDisabled", type := .boolean, accessFlags := 4120, slot := 4, constantValue := 0 }]
  methods := #[k12m0]
  instanceTypes := #[]
  staticTypes := #[.int, .int, (.array (.object "java/lang/Integer")), (.array (.object "java/lang/Integer")), .boolean]
  resolved := Array.replicate 100 none
  statics := some 1 }

def pool13 : Array CpInfo := pool [(2, .class_ 4), (1, u "java/lang/Object"), (0, u "<init>"), (0, u "()V"), (17, .class_ 26), (1, u "jdk/internal/util/Preconditions"), (28, .class_ 56), (0, u "jdk/internal/util/Preconditions$4"), (57, .class_ 115), (0, u "jdk/internal/util/Preconditions$1"), (7, u "SIOOBE_FORMATTER"), (0, u "Ljava/util/function/BiFunction;"), (0, .class_ 126), (0, u "jdk/internal/util/Preconditions$2"), (3, u "AIOOBE_FORMATTER"), (0, .class_ 132), (0, u "jdk/internal/util/Preconditions$3"), (3, u "IOOBE_FORMATTER")] 57

def k13m0 : Method := { name := "<init>", desc := "()V", sig := { parameters := [], returnType := none }, accessFlags := 1, code := none }
/-- jdk/internal/util/Preconditions -/
def k13 : Class := { plain "jdk/internal/util/Preconditions" (some 0) with
  accessFlags := 33
  interfaces := #[]
  cf := some (fileOf pool13 24 #[.nestMembers #[55, 131, 125, 114]] #[{ accessFlags := 1, nameIndex := 5, descriptorIndex := 6, attributes := #[] }] 33 2 #[] #[{ accessFlags := 25, nameIndex := 123, descriptorIndex := 124, attributes := #[] }, { accessFlags := 25, nameIndex := 130, descriptorIndex := 124, attributes := #[] }, { accessFlags := 25, nameIndex := 136, descriptorIndex := 124, attributes := #[] }])
  fields := #[{ name := "SIOOBE_FORMATTER", type := (.object "java/util/function/BiFunction"), accessFlags := 25, slot := 0, constantValue := 0 }, { name := "AIOOBE_FORMATTER", type := (.object "java/util/function/BiFunction"), accessFlags := 25, slot := 1, constantValue := 0 }, { name := "IOOBE_FORMATTER", type := (.object "java/util/function/BiFunction"), accessFlags := 25, slot := 2, constantValue := 0 }]
  methods := #[k13m0]
  instanceTypes := #[]
  staticTypes := #[(.object "java/util/function/BiFunction"), (.object "java/util/function/BiFunction"), (.object "java/util/function/BiFunction")]
  resolved := Array.replicate 194 none
  statics := some 2 }

def pool14 : Array CpInfo := pool [(9, u "<init>"), (6, .class_ 18), (1, u "java/lang/Object"), (0, u "()V"), (1, .class_ 23), (1, u "jdk/internal/util/ArraysSupport"), (0, u "LOG2_ARRAY_LONG_INDEX_SCALE"), (0, u "I"), (2, u "U"), (0, u "Ljdk/internal/misc/Unsafe;"), (8, u "BIG_ENDIAN"), (0, u "Z"), (8, u "LOG2_BYTE_BIT_SIZE"), (4, u "LOG2_ARRAY_INT_INDEX_SCALE"), (54, u "JLA"), (0, u "Ljdk/internal/access/JavaLangAccess;"), (11, u "LOG2_ARRAY_BOOLEAN_INDEX_SCALE"), (9, u "LOG2_ARRAY_BYTE_INDEX_SCALE"), (5, u "LOG2_ARRAY_CHAR_INDEX_SCALE"), (5, u "LOG2_ARRAY_SHORT_INDEX_SCALE"), (18, u "LOG2_ARRAY_FLOAT_INDEX_SCALE"), (24, u "LOG2_ARRAY_DOUBLE_INDEX_SCALE"), (89, u "T_BOOLEAN"), (2, u "T_CHAR"), (1, u "T_FLOAT"), (1, u "T_DOUBLE"), (1, u "T_BYTE"), (1, u "T_SHORT"), (1, u "T_INT"), (1, u "T_LONG"), (1, u "SOFT_MAX_ARRAY_LENGTH")] 83

def k14m0 : Method := { name := "<init>", desc := "()V", sig := { parameters := [], returnType := none }, accessFlags := 2, code := none }
/-- jdk/internal/util/ArraysSupport -/
def k14 : Class := { plain "jdk/internal/util/ArraysSupport" (some 0) with
  accessFlags := 33
  interfaces := #[]
  cf := some (fileOf pool14 21 #[] #[{ accessFlags := 2, nameIndex := 9, descriptorIndex := 19, attributes := #[] }] 33 16 #[] #[{ accessFlags := 24, nameIndex := 28, descriptorIndex := 29, attributes := #[] }, { accessFlags := 26, nameIndex := 38, descriptorIndex := 39, attributes := #[] }, { accessFlags := 25, nameIndex := 121, descriptorIndex := 25, attributes := #[] }, { accessFlags := 25, nameIndex := 131, descriptorIndex := 25, attributes := #[] }, { accessFlags := 25, nameIndex := 137, descriptorIndex := 25, attributes := #[] }, { accessFlags := 25, nameIndex := 143, descriptorIndex := 25, attributes := #[] }, { accessFlags := 25, nameIndex := 53, descriptorIndex := 25, attributes := #[] }, { accessFlags := 25, nameIndex := 24, descriptorIndex := 25, attributes := #[] }, { accessFlags := 25, nameIndex := 162, descriptorIndex := 25, attributes := #[] }, { accessFlags := 25, nameIndex := 187, descriptorIndex := 25, attributes := #[] }, { accessFlags := 26, nameIndex := 48, descriptorIndex := 25, attributes := #[] }, { accessFlags := 25, nameIndex := 277, descriptorIndex := 25, attributes := #[] }, { accessFlags := 25, nameIndex := 280, descriptorIndex := 25, attributes := #[] }, { accessFlags := 25, nameIndex := 282, descriptorIndex := 25, attributes := #[] }, { accessFlags := 25, nameIndex := 284, descriptorIndex := 25, attributes := #[] }, { accessFlags := 25, nameIndex := 286, descriptorIndex := 25, attributes := #[] }, { accessFlags := 25, nameIndex := 288, descriptorIndex := 25, attributes := #[] }, { accessFlags := 25, nameIndex := 290, descriptorIndex := 25, attributes := #[] }, { accessFlags := 25, nameIndex := 292, descriptorIndex := 25, attributes := #[] }, { accessFlags := 26, nameIndex := 108, descriptorIndex := 109, attributes := #[] }, { accessFlags := 25, nameIndex := 294, descriptorIndex := 25, attributes := #[] }])
  fields := #[{ name := "U", type := (.object "jdk/internal/misc/Unsafe"), accessFlags := 24, slot := 0, constantValue := 0 }, { name := "BIG_ENDIAN", type := .boolean, accessFlags := 26, slot := 1, constantValue := 0 }, { name := "LOG2_ARRAY_BOOLEAN_INDEX_SCALE", type := .int, accessFlags := 25, slot := 2, constantValue := 0 }, { name := "LOG2_ARRAY_BYTE_INDEX_SCALE", type := .int, accessFlags := 25, slot := 3, constantValue := 0 }, { name := "LOG2_ARRAY_CHAR_INDEX_SCALE", type := .int, accessFlags := 25, slot := 4, constantValue := 0 }, { name := "LOG2_ARRAY_SHORT_INDEX_SCALE", type := .int, accessFlags := 25, slot := 5, constantValue := 0 }, { name := "LOG2_ARRAY_INT_INDEX_SCALE", type := .int, accessFlags := 25, slot := 6, constantValue := 0 }, { name := "LOG2_ARRAY_LONG_INDEX_SCALE", type := .int, accessFlags := 25, slot := 7, constantValue := 0 }, { name := "LOG2_ARRAY_FLOAT_INDEX_SCALE", type := .int, accessFlags := 25, slot := 8, constantValue := 0 }, { name := "LOG2_ARRAY_DOUBLE_INDEX_SCALE", type := .int, accessFlags := 25, slot := 9, constantValue := 0 }, { name := "LOG2_BYTE_BIT_SIZE", type := .int, accessFlags := 26, slot := 10, constantValue := 0 }, { name := "T_BOOLEAN", type := .int, accessFlags := 25, slot := 11, constantValue := 0 }, { name := "T_CHAR", type := .int, accessFlags := 25, slot := 12, constantValue := 0 }, { name := "T_FLOAT", type := .int, accessFlags := 25, slot := 13, constantValue := 0 }, { name := "T_DOUBLE", type := .int, accessFlags := 25, slot := 14, constantValue := 0 }, { name := "T_BYTE", type := .int, accessFlags := 25, slot := 15, constantValue := 0 }, { name := "T_SHORT", type := .int, accessFlags := 25, slot := 16, constantValue := 0 }, { name := "T_INT", type := .int, accessFlags := 25, slot := 17, constantValue := 0 }, { name := "T_LONG", type := .int, accessFlags := 25, slot := 18, constantValue := 0 }, { name := "JLA", type := (.object "jdk/internal/access/JavaLangAccess"), accessFlags := 26, slot := 19, constantValue := 0 }, { name := "SOFT_MAX_ARRAY_LENGTH", type := .int, accessFlags := 25, slot := 20, constantValue := 0 }]
  methods := #[k14m0]
  instanceTypes := #[]
  staticTypes := #[(.object "jdk/internal/misc/Unsafe"), .boolean, .int, .int, .int, .int, .int, .int, .int, .int, .int, .int, .int, .int, .int, .int, .int, .int, .int, (.object "jdk/internal/access/JavaLangAccess"), .int]
  resolved := Array.replicate 378 none
  statics := none }

def pool15 : Array CpInfo := pool [(1, u "java/lang/Cloneable"), (0, .class_ 1), (0, u "java/lang/Object"), (0, .class_ 3)] 3

/-- java/lang/Cloneable -/
def k15 : Class := { plain "java/lang/Cloneable" (some 0) with
  accessFlags := 1537
  interfaces := #[]
  cf := some (fileOf pool15 2 #[] #[] 1537 4 #[] #[])
  fields := #[]
  methods := #[]
  instanceTypes := #[]
  staticTypes := #[]
  resolved := Array.replicate 8 none
  statics := none }

/-- the primitive byte -/
def k16 : Class := { plain "byte" none with kind := .primitive 'B', accessFlags := 0x411 }
/-- [B -/
def k17 : Class := { plain "[B" (some 0) with kind := .array 16 .byte, interfaces := #[15, 3], accessFlags := 1041 }

/-- the primitive int -/
def k18 : Class := { plain "int" none with kind := .primitive 'I', accessFlags := 0x411 }
/-- [I -/
def k19 : Class := { plain "[I" (some 0) with kind := .array 18 .int, interfaces := #[15, 3], accessFlags := 1041 }

/-- [Ljava/lang/Integer; -/
def k20 : Class := { plain "[Ljava/lang/Integer;" (some 0) with kind := .array 11 (.object "java/lang/Integer"), interfaces := #[15, 3], accessFlags := 1041 }

def heap : Heap := #[{ cls := 8, slots := #[.long 0, .int 1, .null, .int 0, .null, .int 0, .int 0], vm := .statics 8 },
  { cls := 12, slots := #[.int 0, .int 127, .ref 3, .null, .int 0], vm := .statics 12 },
  { cls := 13, slots := #[.null, .null, .null], vm := .statics 13 },
  { cls := 20, slots := #[.ref 4, .ref 5, .ref 6, .ref 7, .ref 8, .ref 9, .ref 10, .ref 11, .ref 12, .ref 13, .ref 14, .ref 15, .ref 16, .ref 17, .ref 18, .ref 19, .ref 20, .ref 21, .ref 22, .ref 23, .ref 24, .ref 25, .ref 26, .ref 27, .ref 28, .ref 29, .ref 30, .ref 31, .ref 32, .ref 33, .ref 34, .ref 35, .ref 36, .ref 37, .ref 38, .ref 39, .ref 40, .ref 41, .ref 42, .ref 43, .ref 44, .ref 45, .ref 46, .ref 47, .ref 48, .ref 49, .ref 50, .ref 51, .ref 52, .ref 53, .ref 54, .ref 55, .ref 56, .ref 57, .ref 58, .ref 59, .ref 60, .ref 61, .ref 62, .ref 63, .ref 64, .ref 65, .ref 66, .ref 67, .ref 68, .ref 69, .ref 70, .ref 71, .ref 72, .ref 73, .ref 74, .ref 75, .ref 76, .ref 77, .ref 78, .ref 79, .ref 80, .ref 81, .ref 82, .ref 83, .ref 84, .ref 85, .ref 86, .ref 87, .ref 88, .ref 89, .ref 90, .ref 91, .ref 92, .ref 93, .ref 94, .ref 95, .ref 96, .ref 97, .ref 98, .ref 99, .ref 100, .ref 101, .ref 102, .ref 103, .ref 104, .ref 105, .ref 106, .ref 107, .ref 108, .ref 109, .ref 110, .ref 111, .ref 112, .ref 113, .ref 114, .ref 115, .ref 116, .ref 117, .ref 118, .ref 119, .ref 120, .ref 121, .ref 122, .ref 123, .ref 124, .ref 125, .ref 126, .ref 127, .ref 128, .ref 129, .ref 130, .ref 131, .ref 132, .ref 133, .ref 134, .ref 135, .ref 136, .ref 137, .ref 138, .ref 139, .ref 140, .ref 141, .ref 142, .ref 143, .ref 144, .ref 145, .ref 146, .ref 147, .ref 148, .ref 149, .ref 150, .ref 151, .ref 152, .ref 153, .ref 154, .ref 155, .ref 156, .ref 157, .ref 158, .ref 159, .ref 160, .ref 161, .ref 162, .ref 163, .ref 164, .ref 165, .ref 166, .ref 167, .ref 168, .ref 169, .ref 170, .ref 171, .ref 172, .ref 173, .ref 174, .ref 175, .ref 176, .ref 177, .ref 178, .ref 179, .ref 180, .ref 181, .ref 182, .ref 183, .ref 184, .ref 185, .ref 186, .ref 187, .ref 188, .ref 189, .ref 190, .ref 191, .ref 192, .ref 193, .ref 194, .ref 195, .ref 196, .ref 197, .ref 198, .ref 199, .ref 200, .ref 201, .ref 202, .ref 203, .ref 204, .ref 205, .ref 206, .ref 207, .ref 208, .ref 209, .ref 210, .ref 211, .ref 212, .ref 213, .ref 214, .ref 215, .ref 216, .ref 217, .ref 218, .ref 219, .ref 220, .ref 221, .ref 222, .ref 223, .ref 224, .ref 225, .ref 226, .ref 227, .ref 228, .ref 229, .ref 230, .ref 231, .ref 232, .ref 233, .ref 234, .ref 235, .ref 236, .ref 237, .ref 238, .ref 239, .ref 240, .ref 241, .ref 242, .ref 243, .ref 244, .ref 245, .ref 246, .ref 247, .ref 248, .ref 249, .ref 250, .ref 251, .ref 252, .ref 253, .ref 254, .ref 255, .ref 256, .ref 257, .ref 258, .ref 259], vm := .none },
  { cls := 11, slots := #[.int (-128)], vm := .none },
  { cls := 11, slots := #[.int (-127)], vm := .none },
  { cls := 11, slots := #[.int (-126)], vm := .none },
  { cls := 11, slots := #[.int (-125)], vm := .none },
  { cls := 11, slots := #[.int (-124)], vm := .none },
  { cls := 11, slots := #[.int (-123)], vm := .none },
  { cls := 11, slots := #[.int (-122)], vm := .none },
  { cls := 11, slots := #[.int (-121)], vm := .none },
  { cls := 11, slots := #[.int (-120)], vm := .none },
  { cls := 11, slots := #[.int (-119)], vm := .none },
  { cls := 11, slots := #[.int (-118)], vm := .none },
  { cls := 11, slots := #[.int (-117)], vm := .none },
  { cls := 11, slots := #[.int (-116)], vm := .none },
  { cls := 11, slots := #[.int (-115)], vm := .none },
  { cls := 11, slots := #[.int (-114)], vm := .none },
  { cls := 11, slots := #[.int (-113)], vm := .none },
  { cls := 11, slots := #[.int (-112)], vm := .none },
  { cls := 11, slots := #[.int (-111)], vm := .none },
  { cls := 11, slots := #[.int (-110)], vm := .none },
  { cls := 11, slots := #[.int (-109)], vm := .none },
  { cls := 11, slots := #[.int (-108)], vm := .none },
  { cls := 11, slots := #[.int (-107)], vm := .none },
  { cls := 11, slots := #[.int (-106)], vm := .none },
  { cls := 11, slots := #[.int (-105)], vm := .none },
  { cls := 11, slots := #[.int (-104)], vm := .none },
  { cls := 11, slots := #[.int (-103)], vm := .none },
  { cls := 11, slots := #[.int (-102)], vm := .none },
  { cls := 11, slots := #[.int (-101)], vm := .none },
  { cls := 11, slots := #[.int (-100)], vm := .none },
  { cls := 11, slots := #[.int (-99)], vm := .none },
  { cls := 11, slots := #[.int (-98)], vm := .none },
  { cls := 11, slots := #[.int (-97)], vm := .none },
  { cls := 11, slots := #[.int (-96)], vm := .none },
  { cls := 11, slots := #[.int (-95)], vm := .none },
  { cls := 11, slots := #[.int (-94)], vm := .none },
  { cls := 11, slots := #[.int (-93)], vm := .none },
  { cls := 11, slots := #[.int (-92)], vm := .none },
  { cls := 11, slots := #[.int (-91)], vm := .none },
  { cls := 11, slots := #[.int (-90)], vm := .none },
  { cls := 11, slots := #[.int (-89)], vm := .none },
  { cls := 11, slots := #[.int (-88)], vm := .none },
  { cls := 11, slots := #[.int (-87)], vm := .none },
  { cls := 11, slots := #[.int (-86)], vm := .none },
  { cls := 11, slots := #[.int (-85)], vm := .none },
  { cls := 11, slots := #[.int (-84)], vm := .none },
  { cls := 11, slots := #[.int (-83)], vm := .none },
  { cls := 11, slots := #[.int (-82)], vm := .none },
  { cls := 11, slots := #[.int (-81)], vm := .none },
  { cls := 11, slots := #[.int (-80)], vm := .none },
  { cls := 11, slots := #[.int (-79)], vm := .none },
  { cls := 11, slots := #[.int (-78)], vm := .none },
  { cls := 11, slots := #[.int (-77)], vm := .none },
  { cls := 11, slots := #[.int (-76)], vm := .none },
  { cls := 11, slots := #[.int (-75)], vm := .none },
  { cls := 11, slots := #[.int (-74)], vm := .none },
  { cls := 11, slots := #[.int (-73)], vm := .none },
  { cls := 11, slots := #[.int (-72)], vm := .none },
  { cls := 11, slots := #[.int (-71)], vm := .none },
  { cls := 11, slots := #[.int (-70)], vm := .none },
  { cls := 11, slots := #[.int (-69)], vm := .none },
  { cls := 11, slots := #[.int (-68)], vm := .none },
  { cls := 11, slots := #[.int (-67)], vm := .none },
  { cls := 11, slots := #[.int (-66)], vm := .none },
  { cls := 11, slots := #[.int (-65)], vm := .none },
  { cls := 11, slots := #[.int (-64)], vm := .none },
  { cls := 11, slots := #[.int (-63)], vm := .none },
  { cls := 11, slots := #[.int (-62)], vm := .none },
  { cls := 11, slots := #[.int (-61)], vm := .none },
  { cls := 11, slots := #[.int (-60)], vm := .none },
  { cls := 11, slots := #[.int (-59)], vm := .none },
  { cls := 11, slots := #[.int (-58)], vm := .none },
  { cls := 11, slots := #[.int (-57)], vm := .none },
  { cls := 11, slots := #[.int (-56)], vm := .none },
  { cls := 11, slots := #[.int (-55)], vm := .none },
  { cls := 11, slots := #[.int (-54)], vm := .none },
  { cls := 11, slots := #[.int (-53)], vm := .none },
  { cls := 11, slots := #[.int (-52)], vm := .none },
  { cls := 11, slots := #[.int (-51)], vm := .none },
  { cls := 11, slots := #[.int (-50)], vm := .none },
  { cls := 11, slots := #[.int (-49)], vm := .none },
  { cls := 11, slots := #[.int (-48)], vm := .none },
  { cls := 11, slots := #[.int (-47)], vm := .none },
  { cls := 11, slots := #[.int (-46)], vm := .none },
  { cls := 11, slots := #[.int (-45)], vm := .none },
  { cls := 11, slots := #[.int (-44)], vm := .none },
  { cls := 11, slots := #[.int (-43)], vm := .none },
  { cls := 11, slots := #[.int (-42)], vm := .none },
  { cls := 11, slots := #[.int (-41)], vm := .none },
  { cls := 11, slots := #[.int (-40)], vm := .none },
  { cls := 11, slots := #[.int (-39)], vm := .none },
  { cls := 11, slots := #[.int (-38)], vm := .none },
  { cls := 11, slots := #[.int (-37)], vm := .none },
  { cls := 11, slots := #[.int (-36)], vm := .none },
  { cls := 11, slots := #[.int (-35)], vm := .none },
  { cls := 11, slots := #[.int (-34)], vm := .none },
  { cls := 11, slots := #[.int (-33)], vm := .none },
  { cls := 11, slots := #[.int (-32)], vm := .none },
  { cls := 11, slots := #[.int (-31)], vm := .none },
  { cls := 11, slots := #[.int (-30)], vm := .none },
  { cls := 11, slots := #[.int (-29)], vm := .none },
  { cls := 11, slots := #[.int (-28)], vm := .none },
  { cls := 11, slots := #[.int (-27)], vm := .none },
  { cls := 11, slots := #[.int (-26)], vm := .none },
  { cls := 11, slots := #[.int (-25)], vm := .none },
  { cls := 11, slots := #[.int (-24)], vm := .none },
  { cls := 11, slots := #[.int (-23)], vm := .none },
  { cls := 11, slots := #[.int (-22)], vm := .none },
  { cls := 11, slots := #[.int (-21)], vm := .none },
  { cls := 11, slots := #[.int (-20)], vm := .none },
  { cls := 11, slots := #[.int (-19)], vm := .none },
  { cls := 11, slots := #[.int (-18)], vm := .none },
  { cls := 11, slots := #[.int (-17)], vm := .none },
  { cls := 11, slots := #[.int (-16)], vm := .none },
  { cls := 11, slots := #[.int (-15)], vm := .none },
  { cls := 11, slots := #[.int (-14)], vm := .none },
  { cls := 11, slots := #[.int (-13)], vm := .none },
  { cls := 11, slots := #[.int (-12)], vm := .none },
  { cls := 11, slots := #[.int (-11)], vm := .none },
  { cls := 11, slots := #[.int (-10)], vm := .none },
  { cls := 11, slots := #[.int (-9)], vm := .none },
  { cls := 11, slots := #[.int (-8)], vm := .none },
  { cls := 11, slots := #[.int (-7)], vm := .none },
  { cls := 11, slots := #[.int (-6)], vm := .none },
  { cls := 11, slots := #[.int (-5)], vm := .none },
  { cls := 11, slots := #[.int (-4)], vm := .none },
  { cls := 11, slots := #[.int (-3)], vm := .none },
  { cls := 11, slots := #[.int (-2)], vm := .none },
  { cls := 11, slots := #[.int (-1)], vm := .none },
  { cls := 11, slots := #[.int 0], vm := .none },
  { cls := 11, slots := #[.int 1], vm := .none },
  { cls := 11, slots := #[.int 2], vm := .none },
  { cls := 11, slots := #[.int 3], vm := .none },
  { cls := 11, slots := #[.int 4], vm := .none },
  { cls := 11, slots := #[.int 5], vm := .none },
  { cls := 11, slots := #[.int 6], vm := .none },
  { cls := 11, slots := #[.int 7], vm := .none },
  { cls := 11, slots := #[.int 8], vm := .none },
  { cls := 11, slots := #[.int 9], vm := .none },
  { cls := 11, slots := #[.int 10], vm := .none },
  { cls := 11, slots := #[.int 11], vm := .none },
  { cls := 11, slots := #[.int 12], vm := .none },
  { cls := 11, slots := #[.int 13], vm := .none },
  { cls := 11, slots := #[.int 14], vm := .none },
  { cls := 11, slots := #[.int 15], vm := .none },
  { cls := 11, slots := #[.int 16], vm := .none },
  { cls := 11, slots := #[.int 17], vm := .none },
  { cls := 11, slots := #[.int 18], vm := .none },
  { cls := 11, slots := #[.int 19], vm := .none },
  { cls := 11, slots := #[.int 20], vm := .none },
  { cls := 11, slots := #[.int 21], vm := .none },
  { cls := 11, slots := #[.int 22], vm := .none },
  { cls := 11, slots := #[.int 23], vm := .none },
  { cls := 11, slots := #[.int 24], vm := .none },
  { cls := 11, slots := #[.int 25], vm := .none },
  { cls := 11, slots := #[.int 26], vm := .none },
  { cls := 11, slots := #[.int 27], vm := .none },
  { cls := 11, slots := #[.int 28], vm := .none },
  { cls := 11, slots := #[.int 29], vm := .none },
  { cls := 11, slots := #[.int 30], vm := .none },
  { cls := 11, slots := #[.int 31], vm := .none },
  { cls := 11, slots := #[.int 32], vm := .none },
  { cls := 11, slots := #[.int 33], vm := .none },
  { cls := 11, slots := #[.int 34], vm := .none },
  { cls := 11, slots := #[.int 35], vm := .none },
  { cls := 11, slots := #[.int 36], vm := .none },
  { cls := 11, slots := #[.int 37], vm := .none },
  { cls := 11, slots := #[.int 38], vm := .none },
  { cls := 11, slots := #[.int 39], vm := .none },
  { cls := 11, slots := #[.int 40], vm := .none },
  { cls := 11, slots := #[.int 41], vm := .none },
  { cls := 11, slots := #[.int 42], vm := .none },
  { cls := 11, slots := #[.int 43], vm := .none },
  { cls := 11, slots := #[.int 44], vm := .none },
  { cls := 11, slots := #[.int 45], vm := .none },
  { cls := 11, slots := #[.int 46], vm := .none },
  { cls := 11, slots := #[.int 47], vm := .none },
  { cls := 11, slots := #[.int 48], vm := .none },
  { cls := 11, slots := #[.int 49], vm := .none },
  { cls := 11, slots := #[.int 50], vm := .none },
  { cls := 11, slots := #[.int 51], vm := .none },
  { cls := 11, slots := #[.int 52], vm := .none },
  { cls := 11, slots := #[.int 53], vm := .none },
  { cls := 11, slots := #[.int 54], vm := .none },
  { cls := 11, slots := #[.int 55], vm := .none },
  { cls := 11, slots := #[.int 56], vm := .none },
  { cls := 11, slots := #[.int 57], vm := .none },
  { cls := 11, slots := #[.int 58], vm := .none },
  { cls := 11, slots := #[.int 59], vm := .none },
  { cls := 11, slots := #[.int 60], vm := .none },
  { cls := 11, slots := #[.int 61], vm := .none },
  { cls := 11, slots := #[.int 62], vm := .none },
  { cls := 11, slots := #[.int 63], vm := .none },
  { cls := 11, slots := #[.int 64], vm := .none },
  { cls := 11, slots := #[.int 65], vm := .none },
  { cls := 11, slots := #[.int 66], vm := .none },
  { cls := 11, slots := #[.int 67], vm := .none },
  { cls := 11, slots := #[.int 68], vm := .none },
  { cls := 11, slots := #[.int 69], vm := .none },
  { cls := 11, slots := #[.int 70], vm := .none },
  { cls := 11, slots := #[.int 71], vm := .none },
  { cls := 11, slots := #[.int 72], vm := .none },
  { cls := 11, slots := #[.int 73], vm := .none },
  { cls := 11, slots := #[.int 74], vm := .none },
  { cls := 11, slots := #[.int 75], vm := .none },
  { cls := 11, slots := #[.int 76], vm := .none },
  { cls := 11, slots := #[.int 77], vm := .none },
  { cls := 11, slots := #[.int 78], vm := .none },
  { cls := 11, slots := #[.int 79], vm := .none },
  { cls := 11, slots := #[.int 80], vm := .none },
  { cls := 11, slots := #[.int 81], vm := .none },
  { cls := 11, slots := #[.int 82], vm := .none },
  { cls := 11, slots := #[.int 83], vm := .none },
  { cls := 11, slots := #[.int 84], vm := .none },
  { cls := 11, slots := #[.int 85], vm := .none },
  { cls := 11, slots := #[.int 86], vm := .none },
  { cls := 11, slots := #[.int 87], vm := .none },
  { cls := 11, slots := #[.int 88], vm := .none },
  { cls := 11, slots := #[.int 89], vm := .none },
  { cls := 11, slots := #[.int 90], vm := .none },
  { cls := 11, slots := #[.int 91], vm := .none },
  { cls := 11, slots := #[.int 92], vm := .none },
  { cls := 11, slots := #[.int 93], vm := .none },
  { cls := 11, slots := #[.int 94], vm := .none },
  { cls := 11, slots := #[.int 95], vm := .none },
  { cls := 11, slots := #[.int 96], vm := .none },
  { cls := 11, slots := #[.int 97], vm := .none },
  { cls := 11, slots := #[.int 98], vm := .none },
  { cls := 11, slots := #[.int 99], vm := .none },
  { cls := 11, slots := #[.int 100], vm := .none },
  { cls := 11, slots := #[.int 101], vm := .none },
  { cls := 11, slots := #[.int 102], vm := .none },
  { cls := 11, slots := #[.int 103], vm := .none },
  { cls := 11, slots := #[.int 104], vm := .none },
  { cls := 11, slots := #[.int 105], vm := .none },
  { cls := 11, slots := #[.int 106], vm := .none },
  { cls := 11, slots := #[.int 107], vm := .none },
  { cls := 11, slots := #[.int 108], vm := .none },
  { cls := 11, slots := #[.int 109], vm := .none },
  { cls := 11, slots := #[.int 110], vm := .none },
  { cls := 11, slots := #[.int 111], vm := .none },
  { cls := 11, slots := #[.int 112], vm := .none },
  { cls := 11, slots := #[.int 113], vm := .none },
  { cls := 11, slots := #[.int 114], vm := .none },
  { cls := 11, slots := #[.int 115], vm := .none },
  { cls := 11, slots := #[.int 116], vm := .none },
  { cls := 11, slots := #[.int 117], vm := .none },
  { cls := 11, slots := #[.int 118], vm := .none },
  { cls := 11, slots := #[.int 119], vm := .none },
  { cls := 11, slots := #[.int 120], vm := .none },
  { cls := 11, slots := #[.int 121], vm := .none },
  { cls := 11, slots := #[.int 122], vm := .none },
  { cls := 11, slots := #[.int 123], vm := .none },
  { cls := 11, slots := #[.int 124], vm := .none },
  { cls := 11, slots := #[.int 125], vm := .none },
  { cls := 11, slots := #[.int 126], vm := .none },
  { cls := 11, slots := #[.int 127], vm := .none }]
def classes : Array Class := #[k0, k1, k2, k3, k4, k5, k6, k7, k8, k9, k10, k11, k12, k13, k14, k15, k16, k17, k18, k19, k20]
def interned : List (Array UInt16 × Addr) := []
def slotsUsed : Nat := 527
def theMethod : MethodId := ⟨1, 1⟩
def args0 : Array Value := #[.int 5, .int 5, .int 5, .int 5, .int 5]
def aboutOver (below : List Frame) : State where
  vm := { classes := classes, interned := interned.toArray }
  heap := heap
  slotsUsed := slotsUsed
  threads := #[{ frames := .invoking theMethod args0 :: below }]
def below0 : List Frame := [.native { method := ⟨0, 0⟩, args := #[] }]
def about1 : State := aboutOver below0
def p0 : Program := .bare "" "" ""
def e0 : Env := launch0.env 0 0 0
theorem w_frames : about1.frames = Frame.invoking theMethod args0 :: below0 := rfl
set_option maxRecDepth 65536 in
theorem w_args : argsFit about1.vm theMethod args0 = true := by decide +kernel
set_option maxRecDepth 65536 in
theorem w_heap : heapFits about1 = true := by decide +kernel
set_option maxRecDepth 65536 in
theorem w_runnable : about1.curStatus? = some .runnable := by decide +kernel
set_option maxRecDepth 65536 in
theorem w_alone : about1.alone = true := by decide +kernel
set_option maxRecDepth 65536 in
theorem w_named : about1.methodNamed? x = some theMethod := by decide +kernel
set_option maxRecDepth 65536 in
theorem w_hears : about1.hears theMethod below0 = true := by decide +kernel
set_option maxRecDepth 65536 in
theorem w_ripe : about1.ripe theMethod args0 below0 = true := by decide +kernel
theorem w_running : about1.status = .running := rfl
set_option maxRecDepth 65536 in
theorem w_room : about1.hasRoom e0.platform room_1 = true :=
  launch0.hasRoom_least _ room_1 (by decide +kernel) (by decide +kernel) (by decide +kernel) (by decide +kernel) (by decide +kernel) (by decide +kernel)
theorem allAtoms_all (ts : List Jvm.Cond) (a : Array Jvm.Value) (st : Jvm.State) : (allAtoms ts).before a st = ts.all (fun c => c.before a st) := by
  induction ts with
  | nil => rfl
  | cons c t ih =>
    show (Jvm.Cond.and c (allAtoms t)).before a st = _
    rw [Jvm.Cond.before_and, ih, List.all_cons]
def words1 : List Jvm.Cond := Jvm.Cond.code x code maxLocals ret :: tables_1
/-- a 'code' word, met by the world's own term for the bytes: nothing is compared byte by byte -/
theorem code_word {y : MethodName} {bytes : ByteArray} {mx : Nat} {rt : Option FieldType} {a : Array Value} {s : State} {m : MethodId} {meth : Method} {c : Code} (h1 : s.methodNamed? y = some m) (h2 : s.vm.method? m = some meth) (h3 : meth.code = some c) (h4 : c.code = bytes)
    (h5 : (c.maxLocals == mx && c.exceptionTable.isEmpty && decide (c.maxStack ≤ mostOperands) && decide (meth.sig.returnType = rt) && !meth.locks && decide (parseMethodDescriptor y.desc = some meth.sig)) = true) : (Jvm.Cond.code y bytes mx rt).before a s = true := by
  simp only [Bool.and_eq_true, beq_iff_eq, Bool.not_eq_true', decide_eq_true_eq] at h5
  obtain ⟨⟨⟨⟨⟨g1, g2⟩, g3⟩, g4⟩, g5⟩, g6⟩ := h5
  simp [Cond.before, Cond.holds, Cond.value, h1, h2, h3, h4, g1, g2, g3, g4, g5, g6]
def isCode : Jvm.Cond → Bool
  | .code _ _ _ _ => true
  | _ => false
theorem all_split {L : List Jvm.Cond} {P : Jvm.Cond → Bool} (h1 : L.all (fun c => isCode c || P c) = true) (h2 : ∀ c ∈ L.filter isCode, P c = true) : L.all P = true := by
  refine List.all_eq_true.mpr fun c hc => ?_
  have h := List.all_eq_true.mp h1 c hc
  rcases Bool.eq_false_or_eq_true (isCode c) with hi | hi
  · exact h2 c (List.mem_filter.mpr ⟨hc, hi⟩)
  · simpa [hi] using h
set_option maxRecDepth 65536 in
theorem w_c0 : (Jvm.Cond.code x code maxLocals ret).before args0 about1 = true := code_word (m := ⟨1, 1⟩) (meth := k1m1) (c := k1c1) (by decide +kernel) rfl rfl rfl (by decide +kernel)
set_option maxRecDepth 65536 in
theorem w_c1 : (Jvm.Cond.code ({ cls := "com/example/suitor/suitor/Pair", name := "<init>", desc := "(II)V" } : Jvm.MethodName) prog_32_method_1_code (3 : Nat) (Option.none : Option Jvm.ClassFile.FieldType)).before args0 about1 = true := code_word (m := ⟨2, 0⟩) (meth := k2m0) (c := k2c0) (by decide +kernel) rfl rfl rfl (by decide +kernel)
set_option maxRecDepth 65536 in
theorem w_c2 : (Jvm.Cond.code ({ cls := "java/lang/Object", name := "<init>", desc := "()V" } : Jvm.MethodName) object_method_1_code (1 : Nat) (Option.none : Option Jvm.ClassFile.FieldType)).before args0 about1 = true := code_word (m := ⟨0, 0⟩) (meth := k0m0) (c := k0c0) (by decide +kernel) rfl rfl rfl (by decide +kernel)
set_option maxRecDepth 65536 in
theorem w_c3 : (Jvm.Cond.code ({ cls := "com/example/suitor/suitor/Pair", name := "equals", desc := "(Ljava/lang/Object;)Z" } : Jvm.MethodName) prog_32_method_4_code (3 : Nat) (Option.some Jvm.ClassFile.FieldType.boolean)).before args0 about1 = true := code_word (m := ⟨2, 1⟩) (meth := k2m1) (c := k2c1) (by decide +kernel) rfl rfl rfl (by decide +kernel)
set_option maxRecDepth 65536 in
theorem w_c4 : (Jvm.Cond.code ({ cls := "java/lang/String", name := "valueOf", desc := "(C)Ljava/lang/String;" } : Jvm.MethodName) jdk_42_method_139_code (1 : Nat) (Option.some (Jvm.ClassFile.FieldType.object "java/lang/String"))).before args0 about1 = true := code_word (m := ⟨8, 1⟩) (meth := k8m1) (c := k8c1) (by decide +kernel) rfl rfl rfl (by decide +kernel)
set_option maxRecDepth 65536 in
theorem w_c5 : (Jvm.Cond.code ({ cls := "java/lang/StringLatin1", name := "canEncode", desc := "(C)Z" } : Jvm.MethodName) jdk_43_method_3_code (1 : Nat) (Option.some Jvm.ClassFile.FieldType.boolean)).before args0 about1 = true := code_word (m := ⟨9, 1⟩) (meth := k9m1) (c := k9c1) (by decide +kernel) rfl rfl rfl (by decide +kernel)
set_option maxRecDepth 65536 in
theorem w_c6 : (Jvm.Cond.code ({ cls := "java/lang/StringLatin1", name := "toBytes", desc := "(C)[B" } : Jvm.MethodName) jdk_43_method_46_code (1 : Nat) (Option.some (Jvm.ClassFile.FieldType.array Jvm.ClassFile.FieldType.byte))).before args0 about1 = true := code_word (m := ⟨9, 2⟩) (meth := k9m2) (c := k9c2) (by decide +kernel) rfl rfl rfl (by decide +kernel)
set_option maxRecDepth 65536 in
theorem w_c7 : (Jvm.Cond.code ({ cls := "java/lang/String", name := "<init>", desc := "([BB)V" } : Jvm.MethodName) jdk_42_method_151_code (3 : Nat) (Option.none : Option Jvm.ClassFile.FieldType)).before args0 about1 = true := code_word (m := ⟨8, 2⟩) (meth := k8m2) (c := k8c2) (by decide +kernel) rfl rfl rfl (by decide +kernel)
set_option maxRecDepth 65536 in
theorem w_c8 : (Jvm.Cond.code ({ cls := "java/lang/Integer", name := "valueOf", desc := "(I)Ljava/lang/Integer;" } : Jvm.MethodName) jdk_33_method_22_code (1 : Nat) (Option.some (Jvm.ClassFile.FieldType.object "java/lang/Integer"))).before args0 about1 = true := code_word (m := ⟨11, 0⟩) (meth := k11m0) (c := k11c0) (by decide +kernel) rfl rfl rfl (by decide +kernel)
set_option maxRecDepth 65536 in
theorem w_c9 : (Jvm.Cond.code ({ cls := "java/lang/Integer", name := "<init>", desc := "(I)V" } : Jvm.MethodName) jdk_33_method_23_code (2 : Nat) (Option.none : Option Jvm.ClassFile.FieldType)).before args0 about1 = true := code_word (m := ⟨11, 1⟩) (meth := k11m1) (c := k11c1) (by decide +kernel) rfl rfl rfl (by decide +kernel)
set_option maxRecDepth 65536 in
theorem w_c10 : (Jvm.Cond.code ({ cls := "java/lang/Number", name := "<init>", desc := "()V" } : Jvm.MethodName) jdk_18_method_1_code (1 : Nat) (Option.none : Option Jvm.ClassFile.FieldType)).before args0 about1 = true := code_word (m := ⟨10, 0⟩) (meth := k10m0) (c := k10c0) (by decide +kernel) rfl rfl rfl (by decide +kernel)
def codes1 : List Jvm.Cond := [Jvm.Cond.code x code maxLocals ret, Jvm.Cond.code ({ cls := "com/example/suitor/suitor/Pair", name := "<init>", desc := "(II)V" } : Jvm.MethodName) prog_32_method_1_code (3 : Nat) (Option.none : Option Jvm.ClassFile.FieldType), Jvm.Cond.code ({ cls := "java/lang/Object", name := "<init>", desc := "()V" } : Jvm.MethodName) object_method_1_code (1 : Nat) (Option.none : Option Jvm.ClassFile.FieldType), Jvm.Cond.code ({ cls := "com/example/suitor/suitor/Pair", name := "equals", desc := "(Ljava/lang/Object;)Z" } : Jvm.MethodName) prog_32_method_4_code (3 : Nat) (Option.some Jvm.ClassFile.FieldType.boolean), Jvm.Cond.code ({ cls := "java/lang/String", name := "valueOf", desc := "(C)Ljava/lang/String;" } : Jvm.MethodName) jdk_42_method_139_code (1 : Nat) (Option.some (Jvm.ClassFile.FieldType.object "java/lang/String")), Jvm.Cond.code ({ cls := "java/lang/StringLatin1", name := "canEncode", desc := "(C)Z" } : Jvm.MethodName) jdk_43_method_3_code (1 : Nat) (Option.some Jvm.ClassFile.FieldType.boolean), Jvm.Cond.code ({ cls := "java/lang/StringLatin1", name := "toBytes", desc := "(C)[B" } : Jvm.MethodName) jdk_43_method_46_code (1 : Nat) (Option.some (Jvm.ClassFile.FieldType.array Jvm.ClassFile.FieldType.byte)), Jvm.Cond.code ({ cls := "java/lang/String", name := "<init>", desc := "([BB)V" } : Jvm.MethodName) jdk_42_method_151_code (3 : Nat) (Option.none : Option Jvm.ClassFile.FieldType), Jvm.Cond.code ({ cls := "java/lang/Integer", name := "valueOf", desc := "(I)Ljava/lang/Integer;" } : Jvm.MethodName) jdk_33_method_22_code (1 : Nat) (Option.some (Jvm.ClassFile.FieldType.object "java/lang/Integer")), Jvm.Cond.code ({ cls := "java/lang/Integer", name := "<init>", desc := "(I)V" } : Jvm.MethodName) jdk_33_method_23_code (2 : Nat) (Option.none : Option Jvm.ClassFile.FieldType), Jvm.Cond.code ({ cls := "java/lang/Number", name := "<init>", desc := "()V" } : Jvm.MethodName) jdk_18_method_1_code (1 : Nat) (Option.none : Option Jvm.ClassFile.FieldType)]
set_option maxRecDepth 65536 in
theorem codes_eq : words1.filter isCode = codes1 := rfl
theorem w_codes : ∀ c ∈ words1.filter isCode, c.before args0 about1 = true := by
  rw [codes_eq]
  intro c hc
  simp only [codes1, List.mem_cons, List.not_mem_nil, or_false] at hc
  rcases hc with rfl | rfl | rfl | rfl | rfl | rfl | rfl | rfl | rfl | rfl | rfl
  · exact w_c0
  · exact w_c1
  · exact w_c2
  · exact w_c3
  · exact w_c4
  · exact w_c5
  · exact w_c6
  · exact w_c7
  · exact w_c8
  · exact w_c9
  · exact w_c10
set_option maxRecDepth 65536 in
theorem w_t1 : (words1.take 24).all (fun c => isCode c || c.before args0 about1) = true := by decide +kernel
set_option maxRecDepth 65536 in
theorem w_t2 : ((words1.drop 24).take 24).all (fun c => isCode c || c.before args0 about1) = true := by decide +kernel
set_option maxRecDepth 65536 in
theorem w_t3 : ((words1.drop 24).drop 24).all (fun c => isCode c || c.before args0 about1) = true := by decide +kernel
theorem w_tables : (allAtoms (Jvm.Cond.code x code maxLocals ret :: tables_1)).before args0 about1 = true := by
  rw [allAtoms_all]
  show words1.all (fun c => c.before args0 about1) = true
  refine all_split ?_ w_codes
  rw [← List.take_append_drop 24 words1, List.all_append, w_t1, ← List.take_append_drop 24 (words1.drop 24), List.all_append, w_t2, w_t3]
  rfl
set_option maxRecDepth 65536 in
theorem w_rest : rest_1_c.before args0 about1 = true := by decide +kernel
set_option maxRecDepth 65536 in
theorem w_case : (Jvm.Cond.and given_1 narrow_1).before args0 about1 = true := by decide +kernel
theorem w_applies : (headSpec (Jvm.Cond.code x code maxLocals ret :: tables_1) room_1).applies x e0.platform about1 = true :=
  (Spec.applies_iff w_frames).mpr ⟨w_running, w_runnable, w_alone, w_named, w_hears, w_ripe, w_room, w_tables⟩
theorem atStart : AtStart classFile x code maxLocals ret World_1 tables_1 room_1 Calls_1 rest_1 Pre_1 launch0 p0 e0 about1 theMethod args0 below0 :=
  ⟨lists_1, trivial, launch0.admits_env _ _ _, launch0.least_env, fairChoices_fair.cas, fairChoices_fair.clock, w_frames, w_args, w_heap, w_applies, trivial, w_rest, w_case⟩
end start1
theorem witness_1 : WitnessClaimed_1 := ⟨start1.p0, start1.e0, start1.about1, start1.theMethod, start1.args0, start1.below0, start1.atStart⟩
end Jvm.Pilot.@@N@@
