import JvmDerived
import JvmDerived.Pilot.@@N@@Statement
import JvmDerived.Pilot.@@N@@Code
set_option linter.unusedVariables false
set_option linter.unusedSimpArgs false
namespace Jvm.RoadKit
open Sem ClassFile Op Lib Jvm.Stand Jvm.Free Jvm.LawKit
section New
variable {p : Program} {l : Launch} {e : Env} {R : Room} {s : State} {m : MethodId} {args : Array Value} {below : List Frame} {meth : Method} {c : Code} {T : State} {locs : List Loc} {cells slots : Nat}
theorem retI (X : Stand p l e R s m args below meth c T locs cells slots) (hx : p.tables.exec = Jvm.exec) {pc : Nat} {Ls : Array Slot} {z : Int32} {rest : List Value} (hret : meth.sig.returnType = some .int) (hd : decode c.code pc = .ok (.ireturn, 1)) {fs : List Frame}
    (hl : ∀ (f : JFrame) (acts : List Action), f.method = m → f.locked = none → f.entered = [] → (doReturn e (T.setTop f) acts (some (.int z))).1 = T.setFrames fs) : Steps p.tables e below (T.setTop (mkF m pc Ls (.int z :: rest))) (T.setFrames fs) := by
  have hm' : T.vm.method? m = some meth := X.method'
  have hn : narrow .int (.int z) = .int z := rfl
  show Steps p.tables e below (T.setTop { method := m, pc := pc, locals := Ls, stack := _ :: rest, locked := none }) _
  jvm_step X.here [X.here.top, hx, hd, hm', hret, hn]
  first | (intro acts; rw [hl _ acts rfl rfl rfl]) | rw [hl _ _ rfl rfl rfl]
  exact Steps.refl _
end New
end Jvm.RoadKit
namespace Jvm.Pilot.@@N@@
open Jvm Jvm.ClassFile Sem Op Lib Jvm.Free Jvm.Stand Jvm.LawKit Jvm.RoadKit Bundle Jvm.Pilot.@@N@@.Jvm.D
theorem own_keep_ext {h h' : Heap} (K : Keep h h' []) : Ext h h' := ⟨K.1, fun a c q => K.2.1 a c q nin0⟩
theorem own_sta_keep {Z : State} {h h' : Heap} {C n d K : String} {a : Addr} {v : Value} (F : Sta Z h C n d v) (Kp : Keep h h' [a]) (E : Exa Z h a K) : Sta Z h' C n d v := by
  obtain ⟨cf, i, k, f, st, cell, h1, h2, h3, h4, h5, h6, h7⟩ := F
  obtain ⟨cell', k', g1, -, -, g4, -⟩ := E
  have ne : st ≠ a := by
    intro q
    subst q
    rw [h5] at g1
    cases g1
    rw [h6] at g4
    cases g4
  exact ⟨cf, i, k, f, st, cell, h1, h2, h3, h4, Kp.2.1 st cell h5 (ninS ne nin0), h6, h7⟩
theorem own_fldint {args : Array Value} {s : State} {t : Term} {C n d : String} {k : Int32} {x : Addr} (h : (Cond.eq (Term.field t C n d) (Term.int k)).value args s none s [] = some true) (ht : t.eval args s none [] s = some (.ref x)) : s.fieldOf? x C n d = some (.int k) := by
  obtain ⟨a, b, ea, eb, K1, K2⟩ := cmp_v (Or.inl h)
  have eb' : b = .int k := (Option.some.inj (eb.symm.trans (Term.int_eval k)))
  subst eb'
  obtain ⟨z, rfl⟩ := K2
  have := gotT (Cond.eq_ints ea (Term.int_eval k)) h
  subst this
  rw [← fld_at ht]
  exact ea
theorem own_fldref {args : Array Value} {s : State} {t u : Term} {C n d : String} {x y : Addr} (h : (Cond.eq (Term.field t C n d) u).value args s none s [] = some true) (ht : t.eval args s none [] s = some (.ref x)) (hu : u.eval args s none [] s = some (.ref y)) : s.fieldOf? x C n d = some (.ref y) := by
  rw [← fld_at ht]
  simp only [Cond.value, hu] at h
  cases hv : (Term.field t C n d).eval args s none [] s with
  | none => rw [hv] at h; simp at h
  | some v =>
    rw [hv] at h
    cases v <;> simp at h
    rw [h]
theorem d1_0 : decode prog_77_method_16_code 0 = .ok (.aload_n 0, 1) := by decide +kernel
theorem d1_1 : decode prog_77_method_16_code 1 = .ok (.getfield 120, 3) := by decide +kernel
theorem d1_4 : decode prog_77_method_16_code 4 = .ok (.getstatic 16, 3) := by decide +kernel
theorem d1_7 : decode prog_77_method_16_code 7 = .ok (.if_acmp .eq 33, 3) := by decide +kernel
theorem d1_40 : decode prog_77_method_16_code 40 = .ok (.iconst 1, 1) := by decide +kernel
theorem d1_41 : decode prog_77_method_16_code 41 = .ok (.goto 4, 3) := by decide +kernel
theorem d1_45 : decode prog_77_method_16_code 45 = .ok (.ireturn, 1) := by decide +kernel
theorem pn0 : plainName "com/example/xidr/xidr/xpath/values/AtomicType" = true := by first | (simp [plainName, overriddenIn]; done) | decide +kernel
theorem ef_rm_num0 (m : MethodId) (ra : Addr) : entryFrame m #[(.ref ra)] 1 = mkF m 0 #[.val (.ref ra)] [] := by first | (simp [entryFrame, mkF, argsToLocals, Value.category]; done) | rfl
def Q_rm_num0 (Z : State) (ra : Addr) (yDECIMAL : Addr) (h0 : Heap) (n0 : Nat) (v : Option Value) (h : Heap) (L : List Loc) : Prop := v = some (.int (1 : Int32)) ∧ Fr n0 L ∧ h = h0
set_option maxRecDepth 65536 in
set_option maxHeartbeats 40000000 in
theorem rm_num0 (l : Launch) (Z : State) (a0 : Array Value) (hw : ∀ d ∈ tables_1, d.before a0 Z = true) (ws : List Jvm.Cond) (ra : Addr) (yDECIMAL : Addr) (h0 : Heap) (n0 : Nat) (Z0 : n0 ≤ h0.size) (F1 : Fld Z h0 ra "com/example/xidr/xidr/xpath/values/AtomicType" "primitive" "Lcom/example/xidr/xidr/xpath/values/AtomicType;" (.ref yDECIMAL)) (SDECIMAL : Sta Z h0 "com/example/xidr/xidr/xpath/values/AtomicType" "DECIMAL" "Lcom/example/xidr/xidr/xpath/values/AtomicType;" (.ref yDECIMAL)) :
    MetFree l (⟨"com/example/xidr/xidr/xpath/values/AtomicType", "isNumeric", "()Z"⟩ : MethodName) (head1 (Jvm.Cond.code (⟨"com/example/xidr/xidr/xpath/values/AtomicType", "isNumeric", "()Z"⟩ : MethodName) prog_77_method_16_code 1 (some .boolean) :: ws) ({ frames := 0, cells := 0, slots := 0, locals := 0 } : Room)) (fun a U => a = #[(.ref ra)] ∧ Z.Warmed39 U.vm ∧ U.heap = h0) (fun _ _ _ _ _ => True) (fun _ U o U' => ∃ v L, o = .returned v ∧ Q_rm_num0 Z ra yDECIMAL h0 n0 v U'.heap L ∧ FrameEnd U o U' L ({ frames := 0, cells := 0, slots := 0, locals := 0 } : Room).cells ({ frames := 0, cells := 0, slots := 0, locals := 0 } : Room).slots) := by
  refine MetFree.of_bodySF (plainFor_of_name pn0) hisR ?_
  intro p e s m args below meth c s₁ Bd hml0 hP hK
  obtain ⟨rfl, hZ, hh⟩ := hP
  have hx := Bd.exec
  have hby := Bd.bytes
  have hml : c.maxLocals = 1 := hml0
  have hown : s.vm.findClass "com/example/xidr/xidr/xpath/values/AtomicType" = some m.cls := findClass_of_methodNamed Bd.named
  have hnm := (name_of_methodNamed Bd.named Bd.method).1
  have X0 : Stand p l e ({ frames := 0, cells := 0, slots := 0, locals := 0 } : Room) s m #[(.ref ra)] below meth c s₁ [] 0 0 := Stand.of_body Bd
  have e0 : s₁.heap = h0 := by rw [← hh, Bd.state]; rfl
  have N0 := Fr.nil n0
  have pre0 : ∀ t, Steps p.tables e below (s₁.setTop (mkF m 0 #[.val (.ref ra)] [])) t → Steps p.tables e below (s₁.setTop (entryFrame m #[(.ref ra)] 1)) t := fun t k => castTop (ef_rm_num0 m ra) k
  have pre1 : ∀ t, Steps p.tables e below (s₁.setTop (mkF m 1 #[.val (.ref ra)] [(.ref ra)])) t → Steps p.tables e below (s₁.setTop (entryFrame m #[(.ref ra)] 1)) t := by
    intro t k
    refine pre0 t ?_
    refine XS.aloadN X0.here hx rfl (hb hby d1_0) rfl rfl ?_
    show Steps p.tables e below (s₁.setTop (mkF m 1 #[.val (.ref ra)] [(.ref ra)])) _
    exact k
  obtain ⟨T2, X2, e2, st2⟩ := getF X0 hx hZ hown (host := "") (Or.inl (hw _ (List.mem_of_getElem? (i := 63) rfl))) Via.refl e0 F1 (g := (mkF m 1 #[.val (.ref ra)] [(.ref ra)])) rfl rfl (hb hby d1_1)
  have pre3 : ∀ t, Steps p.tables e below (T2.setTop (mkF m 4 #[.val (.ref ra)] [(.ref yDECIMAL)])) t → Steps p.tables e below (s₁.setTop (entryFrame m #[(.ref ra)] 1)) t := fun t k => pre1 t (st2 t k)
  obtain ⟨T4, X4, e4, st4⟩ := getS2 X2 hx hZ hown (host := "") (Or.inl (hw _ (List.mem_of_getElem? (i := 65) rfl))) Via.refl e2 SDECIMAL (g := (mkF m 4 #[.val (.ref ra)] [(.ref yDECIMAL)])) rfl (hb hby d1_4)
  have pre5 : ∀ t, Steps p.tables e below (T4.setTop (mkF m 7 #[.val (.ref ra)] [(.ref yDECIMAL), (.ref yDECIMAL)])) t → Steps p.tables e below (s₁.setTop (entryFrame m #[(.ref ra)] 1)) t := fun t k => pre3 t (st4 t k)
  have pre6 : ∀ t, Steps p.tables e below (T4.setTop (mkF m 45 #[.val (.ref ra)] [(.int (1 : Int32))])) t → Steps p.tables e below (s₁.setTop (entryFrame m #[(.ref ra)] 1)) t := by
    intro t k
    refine pre5 t ?_
    refine Jvm.RoadKit.acmp (g := (mkF m 7 #[.val (.ref ra)] [(.ref yDECIMAL), (.ref yDECIMAL)])) X4 hx rfl rfl rfl (pc0 := 7) (pc' := 40) (same := true) rfl (hb hby d1_7) rfl (decide_eq_true rfl) (by decide) (by decide) ?_
    show Steps p.tables e below (T4.setTop (mkF m 40 #[.val (.ref ra)] [])) _
    refine XS.iconst X4.here hx rfl (hb hby d1_40) ?_
    show Steps p.tables e below (T4.setTop (mkF m 41 #[.val (.ref ra)] [(.int (1 : Int32))])) _
    refine XS.goto X4.here hx rfl (pc0 := 41) (pc' := 45) rfl (hb hby d1_41) (by decide) (by decide) ?_
    show Steps p.tables e below (T4.setTop (mkF m 45 #[.val (.ref ra)] [(.int (1 : Int32))])) _
    exact k
  obtain ⟨fs, hr, hrun, hended, hW, hsame⟩ := X4.leave (v := some (.int (1 : Int32))) (fun h => by rw [Bd.returns] at h; cases h)
  refine ⟨_, _, pre6 _ ?_, hrun, hended, _, _, rfl, ?_, ⟨_, rfl⟩, hW, hsame.mono (by decide) (by decide)⟩
  · exact retN X4 hx (t := .boolean) Bd.returns (by simp) (hb hby d1_45) hr
  · show Q_rm_num0 Z ra yDECIMAL h0 n0 _ T4.heap _
    rw [e4]
    exact ⟨rfl, N0, rfl⟩
theorem d1_10 : decode prog_77_method_16_code 10 = .ok (.aload_n 0, 1) := by decide +kernel
theorem d1_11 : decode prog_77_method_16_code 11 = .ok (.getfield 120, 3) := by decide +kernel
theorem d1_14 : decode prog_77_method_16_code 14 = .ok (.getstatic 19, 3) := by decide +kernel
theorem d1_17 : decode prog_77_method_16_code 17 = .ok (.if_acmp .eq 23, 3) := by decide +kernel
theorem ef_rm_num1 (m : MethodId) (ra : Addr) : entryFrame m #[(.ref ra)] 1 = mkF m 0 #[.val (.ref ra)] [] := by first | (simp [entryFrame, mkF, argsToLocals, Value.category]; done) | rfl
def Q_rm_num1 (Z : State) (ra : Addr) (yINTEGER : Addr) (yDECIMAL : Addr) (h0 : Heap) (n0 : Nat) (v : Option Value) (h : Heap) (L : List Loc) : Prop := v = some (.int (1 : Int32)) ∧ Fr n0 L ∧ h = h0
set_option maxRecDepth 65536 in
set_option maxHeartbeats 40000000 in
theorem rm_num1 (l : Launch) (Z : State) (a0 : Array Value) (hw : ∀ d ∈ tables_1, d.before a0 Z = true) (ws : List Jvm.Cond) (ra : Addr) (yINTEGER : Addr) (yDECIMAL : Addr) (h0 : Heap) (n0 : Nat) (Z0 : n0 ≤ h0.size) (F1 : Fld Z h0 ra "com/example/xidr/xidr/xpath/values/AtomicType" "primitive" "Lcom/example/xidr/xidr/xpath/values/AtomicType;" (.ref yINTEGER)) (SDECIMAL : Sta Z h0 "com/example/xidr/xidr/xpath/values/AtomicType" "DECIMAL" "Lcom/example/xidr/xidr/xpath/values/AtomicType;" (.ref yDECIMAL)) (SINTEGER : Sta Z h0 "com/example/xidr/xidr/xpath/values/AtomicType" "INTEGER" "Lcom/example/xidr/xidr/xpath/values/AtomicType;" (.ref yINTEGER)) (hDECIMAL : ¬ (yINTEGER = yDECIMAL)) :
    MetFree l (⟨"com/example/xidr/xidr/xpath/values/AtomicType", "isNumeric", "()Z"⟩ : MethodName) (head1 (Jvm.Cond.code (⟨"com/example/xidr/xidr/xpath/values/AtomicType", "isNumeric", "()Z"⟩ : MethodName) prog_77_method_16_code 1 (some .boolean) :: ws) ({ frames := 0, cells := 0, slots := 0, locals := 0 } : Room)) (fun a U => a = #[(.ref ra)] ∧ Z.Warmed39 U.vm ∧ U.heap = h0) (fun _ _ _ _ _ => True) (fun _ U o U' => ∃ v L, o = .returned v ∧ Q_rm_num1 Z ra yINTEGER yDECIMAL h0 n0 v U'.heap L ∧ FrameEnd U o U' L ({ frames := 0, cells := 0, slots := 0, locals := 0 } : Room).cells ({ frames := 0, cells := 0, slots := 0, locals := 0 } : Room).slots) := by
  refine MetFree.of_bodySF (plainFor_of_name pn0) hisR ?_
  intro p e s m args below meth c s₁ Bd hml0 hP hK
  obtain ⟨rfl, hZ, hh⟩ := hP
  have hx := Bd.exec
  have hby := Bd.bytes
  have hml : c.maxLocals = 1 := hml0
  have hown : s.vm.findClass "com/example/xidr/xidr/xpath/values/AtomicType" = some m.cls := findClass_of_methodNamed Bd.named
  have hnm := (name_of_methodNamed Bd.named Bd.method).1
  have X0 : Stand p l e ({ frames := 0, cells := 0, slots := 0, locals := 0 } : Room) s m #[(.ref ra)] below meth c s₁ [] 0 0 := Stand.of_body Bd
  have e0 : s₁.heap = h0 := by rw [← hh, Bd.state]; rfl
  have N0 := Fr.nil n0
  have pre0 : ∀ t, Steps p.tables e below (s₁.setTop (mkF m 0 #[.val (.ref ra)] [])) t → Steps p.tables e below (s₁.setTop (entryFrame m #[(.ref ra)] 1)) t := fun t k => castTop (ef_rm_num1 m ra) k
  have pre1 : ∀ t, Steps p.tables e below (s₁.setTop (mkF m 1 #[.val (.ref ra)] [(.ref ra)])) t → Steps p.tables e below (s₁.setTop (entryFrame m #[(.ref ra)] 1)) t := by
    intro t k
    refine pre0 t ?_
    refine XS.aloadN X0.here hx rfl (hb hby d1_0) rfl rfl ?_
    show Steps p.tables e below (s₁.setTop (mkF m 1 #[.val (.ref ra)] [(.ref ra)])) _
    exact k
  obtain ⟨T2, X2, e2, st2⟩ := getF X0 hx hZ hown (host := "") (Or.inl (hw _ (List.mem_of_getElem? (i := 63) rfl))) Via.refl e0 F1 (g := (mkF m 1 #[.val (.ref ra)] [(.ref ra)])) rfl rfl (hb hby d1_1)
  have pre3 : ∀ t, Steps p.tables e below (T2.setTop (mkF m 4 #[.val (.ref ra)] [(.ref yINTEGER)])) t → Steps p.tables e below (s₁.setTop (entryFrame m #[(.ref ra)] 1)) t := fun t k => pre1 t (st2 t k)
  obtain ⟨T4, X4, e4, st4⟩ := getS2 X2 hx hZ hown (host := "") (Or.inl (hw _ (List.mem_of_getElem? (i := 65) rfl))) Via.refl e2 SDECIMAL (g := (mkF m 4 #[.val (.ref ra)] [(.ref yINTEGER)])) rfl (hb hby d1_4)
  have pre5 : ∀ t, Steps p.tables e below (T4.setTop (mkF m 7 #[.val (.ref ra)] [(.ref yDECIMAL), (.ref yINTEGER)])) t → Steps p.tables e below (s₁.setTop (entryFrame m #[(.ref ra)] 1)) t := fun t k => pre3 t (st4 t k)
  have pre6 : ∀ t, Steps p.tables e below (T4.setTop (mkF m 11 #[.val (.ref ra)] [(.ref ra)])) t → Steps p.tables e below (s₁.setTop (entryFrame m #[(.ref ra)] 1)) t := by
    intro t k
    refine pre5 t ?_
    refine Jvm.RoadKit.acmp (g := (mkF m 7 #[.val (.ref ra)] [(.ref yDECIMAL), (.ref yINTEGER)])) X4 hx rfl rfl rfl (pc0 := 7) (pc' := 10) (same := false) rfl (hb hby d1_7) rfl (decide_eq_false fun q => hDECIMAL (Value.ref.inj q)) (by decide) (by decide) ?_
    show Steps p.tables e below (T4.setTop (mkF m 10 #[.val (.ref ra)] [])) _
    refine XS.aloadN X4.here hx rfl (hb hby d1_10) rfl rfl ?_
    show Steps p.tables e below (T4.setTop (mkF m 11 #[.val (.ref ra)] [(.ref ra)])) _
    exact k
  obtain ⟨T7, X7, e7, st7⟩ := getF X4 hx hZ hown (host := "") (Or.inl (hw _ (List.mem_of_getElem? (i := 63) rfl))) Via.refl e4 F1 (g := (mkF m 11 #[.val (.ref ra)] [(.ref ra)])) rfl rfl (hb hby d1_11)
  have pre8 : ∀ t, Steps p.tables e below (T7.setTop (mkF m 14 #[.val (.ref ra)] [(.ref yINTEGER)])) t → Steps p.tables e below (s₁.setTop (entryFrame m #[(.ref ra)] 1)) t := fun t k => pre6 t (st7 t k)
  obtain ⟨T9, X9, e9, st9⟩ := getS2 X7 hx hZ hown (host := "") (Or.inl (hw _ (List.mem_of_getElem? (i := 66) rfl))) Via.refl e7 SINTEGER (g := (mkF m 14 #[.val (.ref ra)] [(.ref yINTEGER)])) rfl (hb hby d1_14)
  have pre10 : ∀ t, Steps p.tables e below (T9.setTop (mkF m 17 #[.val (.ref ra)] [(.ref yINTEGER), (.ref yINTEGER)])) t → Steps p.tables e below (s₁.setTop (entryFrame m #[(.ref ra)] 1)) t := fun t k => pre8 t (st9 t k)
  have pre11 : ∀ t, Steps p.tables e below (T9.setTop (mkF m 45 #[.val (.ref ra)] [(.int (1 : Int32))])) t → Steps p.tables e below (s₁.setTop (entryFrame m #[(.ref ra)] 1)) t := by
    intro t k
    refine pre10 t ?_
    refine Jvm.RoadKit.acmp (g := (mkF m 17 #[.val (.ref ra)] [(.ref yINTEGER), (.ref yINTEGER)])) X9 hx rfl rfl rfl (pc0 := 17) (pc' := 40) (same := true) rfl (hb hby d1_17) rfl (decide_eq_true rfl) (by decide) (by decide) ?_
    show Steps p.tables e below (T9.setTop (mkF m 40 #[.val (.ref ra)] [])) _
    refine XS.iconst X9.here hx rfl (hb hby d1_40) ?_
    show Steps p.tables e below (T9.setTop (mkF m 41 #[.val (.ref ra)] [(.int (1 : Int32))])) _
    refine XS.goto X9.here hx rfl (pc0 := 41) (pc' := 45) rfl (hb hby d1_41) (by decide) (by decide) ?_
    show Steps p.tables e below (T9.setTop (mkF m 45 #[.val (.ref ra)] [(.int (1 : Int32))])) _
    exact k
  obtain ⟨fs, hr, hrun, hended, hW, hsame⟩ := X9.leave (v := some (.int (1 : Int32))) (fun h => by rw [Bd.returns] at h; cases h)
  refine ⟨_, _, pre11 _ ?_, hrun, hended, _, _, rfl, ?_, ⟨_, rfl⟩, hW, hsame.mono (by decide) (by decide)⟩
  · exact retN X9 hx (t := .boolean) Bd.returns (by simp) (hb hby d1_45) hr
  · show Q_rm_num1 Z ra yINTEGER yDECIMAL h0 n0 _ T9.heap _
    rw [e9]
    exact ⟨rfl, N0, rfl⟩
theorem d1_20 : decode prog_77_method_16_code 20 = .ok (.aload_n 0, 1) := by decide +kernel
theorem d1_21 : decode prog_77_method_16_code 21 = .ok (.getfield 120, 3) := by decide +kernel
theorem d1_24 : decode prog_77_method_16_code 24 = .ok (.getstatic 58, 3) := by decide +kernel
theorem d1_27 : decode prog_77_method_16_code 27 = .ok (.if_acmp .eq 13, 3) := by decide +kernel
theorem ef_rm_num2 (m : MethodId) (ra : Addr) : entryFrame m #[(.ref ra)] 1 = mkF m 0 #[.val (.ref ra)] [] := by first | (simp [entryFrame, mkF, argsToLocals, Value.category]; done) | rfl
def Q_rm_num2 (Z : State) (ra : Addr) (yFLOAT : Addr) (yDECIMAL : Addr) (yINTEGER : Addr) (h0 : Heap) (n0 : Nat) (v : Option Value) (h : Heap) (L : List Loc) : Prop := v = some (.int (1 : Int32)) ∧ Fr n0 L ∧ h = h0
set_option maxRecDepth 65536 in
set_option maxHeartbeats 40000000 in
theorem rm_num2 (l : Launch) (Z : State) (a0 : Array Value) (hw : ∀ d ∈ tables_1, d.before a0 Z = true) (ws : List Jvm.Cond) (ra : Addr) (yFLOAT : Addr) (yDECIMAL : Addr) (yINTEGER : Addr) (h0 : Heap) (n0 : Nat) (Z0 : n0 ≤ h0.size) (F1 : Fld Z h0 ra "com/example/xidr/xidr/xpath/values/AtomicType" "primitive" "Lcom/example/xidr/xidr/xpath/values/AtomicType;" (.ref yFLOAT)) (SDECIMAL : Sta Z h0 "com/example/xidr/xidr/xpath/values/AtomicType" "DECIMAL" "Lcom/example/xidr/xidr/xpath/values/AtomicType;" (.ref yDECIMAL)) (SINTEGER : Sta Z h0 "com/example/xidr/xidr/xpath/values/AtomicType" "INTEGER" "Lcom/example/xidr/xidr/xpath/values/AtomicType;" (.ref yINTEGER)) (SFLOAT : Sta Z h0 "com/example/xidr/xidr/xpath/values/AtomicType" "FLOAT" "Lcom/example/xidr/xidr/xpath/values/AtomicType;" (.ref yFLOAT)) (hDECIMAL : ¬ (yFLOAT = yDECIMAL)) (hINTEGER : ¬ (yFLOAT = yINTEGER)) :
    MetFree l (⟨"com/example/xidr/xidr/xpath/values/AtomicType", "isNumeric", "()Z"⟩ : MethodName) (head1 (Jvm.Cond.code (⟨"com/example/xidr/xidr/xpath/values/AtomicType", "isNumeric", "()Z"⟩ : MethodName) prog_77_method_16_code 1 (some .boolean) :: ws) ({ frames := 0, cells := 0, slots := 0, locals := 0 } : Room)) (fun a U => a = #[(.ref ra)] ∧ Z.Warmed39 U.vm ∧ U.heap = h0) (fun _ _ _ _ _ => True) (fun _ U o U' => ∃ v L, o = .returned v ∧ Q_rm_num2 Z ra yFLOAT yDECIMAL yINTEGER h0 n0 v U'.heap L ∧ FrameEnd U o U' L ({ frames := 0, cells := 0, slots := 0, locals := 0 } : Room).cells ({ frames := 0, cells := 0, slots := 0, locals := 0 } : Room).slots) := by
  refine MetFree.of_bodySF (plainFor_of_name pn0) hisR ?_
  intro p e s m args below meth c s₁ Bd hml0 hP hK
  obtain ⟨rfl, hZ, hh⟩ := hP
  have hx := Bd.exec
  have hby := Bd.bytes
  have hml : c.maxLocals = 1 := hml0
  have hown : s.vm.findClass "com/example/xidr/xidr/xpath/values/AtomicType" = some m.cls := findClass_of_methodNamed Bd.named
  have hnm := (name_of_methodNamed Bd.named Bd.method).1
  have X0 : Stand p l e ({ frames := 0, cells := 0, slots := 0, locals := 0 } : Room) s m #[(.ref ra)] below meth c s₁ [] 0 0 := Stand.of_body Bd
  have e0 : s₁.heap = h0 := by rw [← hh, Bd.state]; rfl
  have N0 := Fr.nil n0
  have pre0 : ∀ t, Steps p.tables e below (s₁.setTop (mkF m 0 #[.val (.ref ra)] [])) t → Steps p.tables e below (s₁.setTop (entryFrame m #[(.ref ra)] 1)) t := fun t k => castTop (ef_rm_num2 m ra) k
  have pre1 : ∀ t, Steps p.tables e below (s₁.setTop (mkF m 1 #[.val (.ref ra)] [(.ref ra)])) t → Steps p.tables e below (s₁.setTop (entryFrame m #[(.ref ra)] 1)) t := by
    intro t k
    refine pre0 t ?_
    refine XS.aloadN X0.here hx rfl (hb hby d1_0) rfl rfl ?_
    show Steps p.tables e below (s₁.setTop (mkF m 1 #[.val (.ref ra)] [(.ref ra)])) _
    exact k
  obtain ⟨T2, X2, e2, st2⟩ := getF X0 hx hZ hown (host := "") (Or.inl (hw _ (List.mem_of_getElem? (i := 63) rfl))) Via.refl e0 F1 (g := (mkF m 1 #[.val (.ref ra)] [(.ref ra)])) rfl rfl (hb hby d1_1)
  have pre3 : ∀ t, Steps p.tables e below (T2.setTop (mkF m 4 #[.val (.ref ra)] [(.ref yFLOAT)])) t → Steps p.tables e below (s₁.setTop (entryFrame m #[(.ref ra)] 1)) t := fun t k => pre1 t (st2 t k)
  obtain ⟨T4, X4, e4, st4⟩ := getS2 X2 hx hZ hown (host := "") (Or.inl (hw _ (List.mem_of_getElem? (i := 65) rfl))) Via.refl e2 SDECIMAL (g := (mkF m 4 #[.val (.ref ra)] [(.ref yFLOAT)])) rfl (hb hby d1_4)
  have pre5 : ∀ t, Steps p.tables e below (T4.setTop (mkF m 7 #[.val (.ref ra)] [(.ref yDECIMAL), (.ref yFLOAT)])) t → Steps p.tables e below (s₁.setTop (entryFrame m #[(.ref ra)] 1)) t := fun t k => pre3 t (st4 t k)
  have pre6 : ∀ t, Steps p.tables e below (T4.setTop (mkF m 11 #[.val (.ref ra)] [(.ref ra)])) t → Steps p.tables e below (s₁.setTop (entryFrame m #[(.ref ra)] 1)) t := by
    intro t k
    refine pre5 t ?_
    refine Jvm.RoadKit.acmp (g := (mkF m 7 #[.val (.ref ra)] [(.ref yDECIMAL), (.ref yFLOAT)])) X4 hx rfl rfl rfl (pc0 := 7) (pc' := 10) (same := false) rfl (hb hby d1_7) rfl (decide_eq_false fun q => hDECIMAL (Value.ref.inj q)) (by decide) (by decide) ?_
    show Steps p.tables e below (T4.setTop (mkF m 10 #[.val (.ref ra)] [])) _
    refine XS.aloadN X4.here hx rfl (hb hby d1_10) rfl rfl ?_
    show Steps p.tables e below (T4.setTop (mkF m 11 #[.val (.ref ra)] [(.ref ra)])) _
    exact k
  obtain ⟨T7, X7, e7, st7⟩ := getF X4 hx hZ hown (host := "") (Or.inl (hw _ (List.mem_of_getElem? (i := 63) rfl))) Via.refl e4 F1 (g := (mkF m 11 #[.val (.ref ra)] [(.ref ra)])) rfl rfl (hb hby d1_11)
  have pre8 : ∀ t, Steps p.tables e below (T7.setTop (mkF m 14 #[.val (.ref ra)] [(.ref yFLOAT)])) t → Steps p.tables e below (s₁.setTop (entryFrame m #[(.ref ra)] 1)) t := fun t k => pre6 t (st7 t k)
  obtain ⟨T9, X9, e9, st9⟩ := getS2 X7 hx hZ hown (host := "") (Or.inl (hw _ (List.mem_of_getElem? (i := 66) rfl))) Via.refl e7 SINTEGER (g := (mkF m 14 #[.val (.ref ra)] [(.ref yFLOAT)])) rfl (hb hby d1_14)
  have pre10 : ∀ t, Steps p.tables e below (T9.setTop (mkF m 17 #[.val (.ref ra)] [(.ref yINTEGER), (.ref yFLOAT)])) t → Steps p.tables e below (s₁.setTop (entryFrame m #[(.ref ra)] 1)) t := fun t k => pre8 t (st9 t k)
  have pre11 : ∀ t, Steps p.tables e below (T9.setTop (mkF m 21 #[.val (.ref ra)] [(.ref ra)])) t → Steps p.tables e below (s₁.setTop (entryFrame m #[(.ref ra)] 1)) t := by
    intro t k
    refine pre10 t ?_
    refine Jvm.RoadKit.acmp (g := (mkF m 17 #[.val (.ref ra)] [(.ref yINTEGER), (.ref yFLOAT)])) X9 hx rfl rfl rfl (pc0 := 17) (pc' := 20) (same := false) rfl (hb hby d1_17) rfl (decide_eq_false fun q => hINTEGER (Value.ref.inj q)) (by decide) (by decide) ?_
    show Steps p.tables e below (T9.setTop (mkF m 20 #[.val (.ref ra)] [])) _
    refine XS.aloadN X9.here hx rfl (hb hby d1_20) rfl rfl ?_
    show Steps p.tables e below (T9.setTop (mkF m 21 #[.val (.ref ra)] [(.ref ra)])) _
    exact k
  obtain ⟨T12, X12, e12, st12⟩ := getF X9 hx hZ hown (host := "") (Or.inl (hw _ (List.mem_of_getElem? (i := 63) rfl))) Via.refl e9 F1 (g := (mkF m 21 #[.val (.ref ra)] [(.ref ra)])) rfl rfl (hb hby d1_21)
  have pre13 : ∀ t, Steps p.tables e below (T12.setTop (mkF m 24 #[.val (.ref ra)] [(.ref yFLOAT)])) t → Steps p.tables e below (s₁.setTop (entryFrame m #[(.ref ra)] 1)) t := fun t k => pre11 t (st12 t k)
  obtain ⟨T14, X14, e14, st14⟩ := getS2 X12 hx hZ hown (host := "") (Or.inl (hw _ (List.mem_of_getElem? (i := 67) rfl))) Via.refl e12 SFLOAT (g := (mkF m 24 #[.val (.ref ra)] [(.ref yFLOAT)])) rfl (hb hby d1_24)
  have pre15 : ∀ t, Steps p.tables e below (T14.setTop (mkF m 27 #[.val (.ref ra)] [(.ref yFLOAT), (.ref yFLOAT)])) t → Steps p.tables e below (s₁.setTop (entryFrame m #[(.ref ra)] 1)) t := fun t k => pre13 t (st14 t k)
  have pre16 : ∀ t, Steps p.tables e below (T14.setTop (mkF m 45 #[.val (.ref ra)] [(.int (1 : Int32))])) t → Steps p.tables e below (s₁.setTop (entryFrame m #[(.ref ra)] 1)) t := by
    intro t k
    refine pre15 t ?_
    refine Jvm.RoadKit.acmp (g := (mkF m 27 #[.val (.ref ra)] [(.ref yFLOAT), (.ref yFLOAT)])) X14 hx rfl rfl rfl (pc0 := 27) (pc' := 40) (same := true) rfl (hb hby d1_27) rfl (decide_eq_true rfl) (by decide) (by decide) ?_
    show Steps p.tables e below (T14.setTop (mkF m 40 #[.val (.ref ra)] [])) _
    refine XS.iconst X14.here hx rfl (hb hby d1_40) ?_
    show Steps p.tables e below (T14.setTop (mkF m 41 #[.val (.ref ra)] [(.int (1 : Int32))])) _
    refine XS.goto X14.here hx rfl (pc0 := 41) (pc' := 45) rfl (hb hby d1_41) (by decide) (by decide) ?_
    show Steps p.tables e below (T14.setTop (mkF m 45 #[.val (.ref ra)] [(.int (1 : Int32))])) _
    exact k
  obtain ⟨fs, hr, hrun, hended, hW, hsame⟩ := X14.leave (v := some (.int (1 : Int32))) (fun h => by rw [Bd.returns] at h; cases h)
  refine ⟨_, _, pre16 _ ?_, hrun, hended, _, _, rfl, ?_, ⟨_, rfl⟩, hW, hsame.mono (by decide) (by decide)⟩
  · exact retN X14 hx (t := .boolean) Bd.returns (by simp) (hb hby d1_45) hr
  · show Q_rm_num2 Z ra yFLOAT yDECIMAL yINTEGER h0 n0 _ T14.heap _
    rw [e14]
    exact ⟨rfl, N0, rfl⟩
theorem d1_30 : decode prog_77_method_16_code 30 = .ok (.aload_n 0, 1) := by decide +kernel
theorem d1_31 : decode prog_77_method_16_code 31 = .ok (.getfield 120, 3) := by decide +kernel
theorem d1_34 : decode prog_77_method_16_code 34 = .ok (.getstatic 61, 3) := by decide +kernel
theorem d1_37 : decode prog_77_method_16_code 37 = .ok (.if_acmp .ne 7, 3) := by decide +kernel
theorem ef_rm_num3 (m : MethodId) (ra : Addr) : entryFrame m #[(.ref ra)] 1 = mkF m 0 #[.val (.ref ra)] [] := by first | (simp [entryFrame, mkF, argsToLocals, Value.category]; done) | rfl
def Q_rm_num3 (Z : State) (ra : Addr) (yDOUBLE : Addr) (yDECIMAL : Addr) (yINTEGER : Addr) (yFLOAT : Addr) (h0 : Heap) (n0 : Nat) (v : Option Value) (h : Heap) (L : List Loc) : Prop := v = some (.int (1 : Int32)) ∧ Fr n0 L ∧ h = h0
set_option maxRecDepth 65536 in
set_option maxHeartbeats 40000000 in
theorem rm_num3 (l : Launch) (Z : State) (a0 : Array Value) (hw : ∀ d ∈ tables_1, d.before a0 Z = true) (ws : List Jvm.Cond) (ra : Addr) (yDOUBLE : Addr) (yDECIMAL : Addr) (yINTEGER : Addr) (yFLOAT : Addr) (h0 : Heap) (n0 : Nat) (Z0 : n0 ≤ h0.size) (F1 : Fld Z h0 ra "com/example/xidr/xidr/xpath/values/AtomicType" "primitive" "Lcom/example/xidr/xidr/xpath/values/AtomicType;" (.ref yDOUBLE)) (SDECIMAL : Sta Z h0 "com/example/xidr/xidr/xpath/values/AtomicType" "DECIMAL" "Lcom/example/xidr/xidr/xpath/values/AtomicType;" (.ref yDECIMAL)) (SINTEGER : Sta Z h0 "com/example/xidr/xidr/xpath/values/AtomicType" "INTEGER" "Lcom/example/xidr/xidr/xpath/values/AtomicType;" (.ref yINTEGER)) (SFLOAT : Sta Z h0 "com/example/xidr/xidr/xpath/values/AtomicType" "FLOAT" "Lcom/example/xidr/xidr/xpath/values/AtomicType;" (.ref yFLOAT)) (SDOUBLE : Sta Z h0 "com/example/xidr/xidr/xpath/values/AtomicType" "DOUBLE" "Lcom/example/xidr/xidr/xpath/values/AtomicType;" (.ref yDOUBLE)) (hDECIMAL : ¬ (yDOUBLE = yDECIMAL)) (hINTEGER : ¬ (yDOUBLE = yINTEGER)) (hFLOAT : ¬ (yDOUBLE = yFLOAT)) :
    MetFree l (⟨"com/example/xidr/xidr/xpath/values/AtomicType", "isNumeric", "()Z"⟩ : MethodName) (head1 (Jvm.Cond.code (⟨"com/example/xidr/xidr/xpath/values/AtomicType", "isNumeric", "()Z"⟩ : MethodName) prog_77_method_16_code 1 (some .boolean) :: ws) ({ frames := 0, cells := 0, slots := 0, locals := 0 } : Room)) (fun a U => a = #[(.ref ra)] ∧ Z.Warmed39 U.vm ∧ U.heap = h0) (fun _ _ _ _ _ => True) (fun _ U o U' => ∃ v L, o = .returned v ∧ Q_rm_num3 Z ra yDOUBLE yDECIMAL yINTEGER yFLOAT h0 n0 v U'.heap L ∧ FrameEnd U o U' L ({ frames := 0, cells := 0, slots := 0, locals := 0 } : Room).cells ({ frames := 0, cells := 0, slots := 0, locals := 0 } : Room).slots) := by
  refine MetFree.of_bodySF (plainFor_of_name pn0) hisR ?_
  intro p e s m args below meth c s₁ Bd hml0 hP hK
  obtain ⟨rfl, hZ, hh⟩ := hP
  have hx := Bd.exec
  have hby := Bd.bytes
  have hml : c.maxLocals = 1 := hml0
  have hown : s.vm.findClass "com/example/xidr/xidr/xpath/values/AtomicType" = some m.cls := findClass_of_methodNamed Bd.named
  have hnm := (name_of_methodNamed Bd.named Bd.method).1
  have X0 : Stand p l e ({ frames := 0, cells := 0, slots := 0, locals := 0 } : Room) s m #[(.ref ra)] below meth c s₁ [] 0 0 := Stand.of_body Bd
  have e0 : s₁.heap = h0 := by rw [← hh, Bd.state]; rfl
  have N0 := Fr.nil n0
  have pre0 : ∀ t, Steps p.tables e below (s₁.setTop (mkF m 0 #[.val (.ref ra)] [])) t → Steps p.tables e below (s₁.setTop (entryFrame m #[(.ref ra)] 1)) t := fun t k => castTop (ef_rm_num3 m ra) k
  have pre1 : ∀ t, Steps p.tables e below (s₁.setTop (mkF m 1 #[.val (.ref ra)] [(.ref ra)])) t → Steps p.tables e below (s₁.setTop (entryFrame m #[(.ref ra)] 1)) t := by
    intro t k
    refine pre0 t ?_
    refine XS.aloadN X0.here hx rfl (hb hby d1_0) rfl rfl ?_
    show Steps p.tables e below (s₁.setTop (mkF m 1 #[.val (.ref ra)] [(.ref ra)])) _
    exact k
  obtain ⟨T2, X2, e2, st2⟩ := getF X0 hx hZ hown (host := "") (Or.inl (hw _ (List.mem_of_getElem? (i := 63) rfl))) Via.refl e0 F1 (g := (mkF m 1 #[.val (.ref ra)] [(.ref ra)])) rfl rfl (hb hby d1_1)
  have pre3 : ∀ t, Steps p.tables e below (T2.setTop (mkF m 4 #[.val (.ref ra)] [(.ref yDOUBLE)])) t → Steps p.tables e below (s₁.setTop (entryFrame m #[(.ref ra)] 1)) t := fun t k => pre1 t (st2 t k)
  obtain ⟨T4, X4, e4, st4⟩ := getS2 X2 hx hZ hown (host := "") (Or.inl (hw _ (List.mem_of_getElem? (i := 65) rfl))) Via.refl e2 SDECIMAL (g := (mkF m 4 #[.val (.ref ra)] [(.ref yDOUBLE)])) rfl (hb hby d1_4)
  have pre5 : ∀ t, Steps p.tables e below (T4.setTop (mkF m 7 #[.val (.ref ra)] [(.ref yDECIMAL), (.ref yDOUBLE)])) t → Steps p.tables e below (s₁.setTop (entryFrame m #[(.ref ra)] 1)) t := fun t k => pre3 t (st4 t k)
  have pre6 : ∀ t, Steps p.tables e below (T4.setTop (mkF m 11 #[.val (.ref ra)] [(.ref ra)])) t → Steps p.tables e below (s₁.setTop (entryFrame m #[(.ref ra)] 1)) t := by
    intro t k
    refine pre5 t ?_
    refine Jvm.RoadKit.acmp (g := (mkF m 7 #[.val (.ref ra)] [(.ref yDECIMAL), (.ref yDOUBLE)])) X4 hx rfl rfl rfl (pc0 := 7) (pc' := 10) (same := false) rfl (hb hby d1_7) rfl (decide_eq_false fun q => hDECIMAL (Value.ref.inj q)) (by decide) (by decide) ?_
    show Steps p.tables e below (T4.setTop (mkF m 10 #[.val (.ref ra)] [])) _
    refine XS.aloadN X4.here hx rfl (hb hby d1_10) rfl rfl ?_
    show Steps p.tables e below (T4.setTop (mkF m 11 #[.val (.ref ra)] [(.ref ra)])) _
    exact k
  obtain ⟨T7, X7, e7, st7⟩ := getF X4 hx hZ hown (host := "") (Or.inl (hw _ (List.mem_of_getElem? (i := 63) rfl))) Via.refl e4 F1 (g := (mkF m 11 #[.val (.ref ra)] [(.ref ra)])) rfl rfl (hb hby d1_11)
  have pre8 : ∀ t, Steps p.tables e below (T7.setTop (mkF m 14 #[.val (.ref ra)] [(.ref yDOUBLE)])) t → Steps p.tables e below (s₁.setTop (entryFrame m #[(.ref ra)] 1)) t := fun t k => pre6 t (st7 t k)
  obtain ⟨T9, X9, e9, st9⟩ := getS2 X7 hx hZ hown (host := "") (Or.inl (hw _ (List.mem_of_getElem? (i := 66) rfl))) Via.refl e7 SINTEGER (g := (mkF m 14 #[.val (.ref ra)] [(.ref yDOUBLE)])) rfl (hb hby d1_14)
  have pre10 : ∀ t, Steps p.tables e below (T9.setTop (mkF m 17 #[.val (.ref ra)] [(.ref yINTEGER), (.ref yDOUBLE)])) t → Steps p.tables e below (s₁.setTop (entryFrame m #[(.ref ra)] 1)) t := fun t k => pre8 t (st9 t k)
  have pre11 : ∀ t, Steps p.tables e below (T9.setTop (mkF m 21 #[.val (.ref ra)] [(.ref ra)])) t → Steps p.tables e below (s₁.setTop (entryFrame m #[(.ref ra)] 1)) t := by
    intro t k
    refine pre10 t ?_
    refine Jvm.RoadKit.acmp (g := (mkF m 17 #[.val (.ref ra)] [(.ref yINTEGER), (.ref yDOUBLE)])) X9 hx rfl rfl rfl (pc0 := 17) (pc' := 20) (same := false) rfl (hb hby d1_17) rfl (decide_eq_false fun q => hINTEGER (Value.ref.inj q)) (by decide) (by decide) ?_
    show Steps p.tables e below (T9.setTop (mkF m 20 #[.val (.ref ra)] [])) _
    refine XS.aloadN X9.here hx rfl (hb hby d1_20) rfl rfl ?_
    show Steps p.tables e below (T9.setTop (mkF m 21 #[.val (.ref ra)] [(.ref ra)])) _
    exact k
  obtain ⟨T12, X12, e12, st12⟩ := getF X9 hx hZ hown (host := "") (Or.inl (hw _ (List.mem_of_getElem? (i := 63) rfl))) Via.refl e9 F1 (g := (mkF m 21 #[.val (.ref ra)] [(.ref ra)])) rfl rfl (hb hby d1_21)
  have pre13 : ∀ t, Steps p.tables e below (T12.setTop (mkF m 24 #[.val (.ref ra)] [(.ref yDOUBLE)])) t → Steps p.tables e below (s₁.setTop (entryFrame m #[(.ref ra)] 1)) t := fun t k => pre11 t (st12 t k)
  obtain ⟨T14, X14, e14, st14⟩ := getS2 X12 hx hZ hown (host := "") (Or.inl (hw _ (List.mem_of_getElem? (i := 67) rfl))) Via.refl e12 SFLOAT (g := (mkF m 24 #[.val (.ref ra)] [(.ref yDOUBLE)])) rfl (hb hby d1_24)
  have pre15 : ∀ t, Steps p.tables e below (T14.setTop (mkF m 27 #[.val (.ref ra)] [(.ref yFLOAT), (.ref yDOUBLE)])) t → Steps p.tables e below (s₁.setTop (entryFrame m #[(.ref ra)] 1)) t := fun t k => pre13 t (st14 t k)
  have pre16 : ∀ t, Steps p.tables e below (T14.setTop (mkF m 31 #[.val (.ref ra)] [(.ref ra)])) t → Steps p.tables e below (s₁.setTop (entryFrame m #[(.ref ra)] 1)) t := by
    intro t k
    refine pre15 t ?_
    refine Jvm.RoadKit.acmp (g := (mkF m 27 #[.val (.ref ra)] [(.ref yFLOAT), (.ref yDOUBLE)])) X14 hx rfl rfl rfl (pc0 := 27) (pc' := 30) (same := false) rfl (hb hby d1_27) rfl (decide_eq_false fun q => hFLOAT (Value.ref.inj q)) (by decide) (by decide) ?_
    show Steps p.tables e below (T14.setTop (mkF m 30 #[.val (.ref ra)] [])) _
    refine XS.aloadN X14.here hx rfl (hb hby d1_30) rfl rfl ?_
    show Steps p.tables e below (T14.setTop (mkF m 31 #[.val (.ref ra)] [(.ref ra)])) _
    exact k
  obtain ⟨T17, X17, e17, st17⟩ := getF X14 hx hZ hown (host := "") (Or.inl (hw _ (List.mem_of_getElem? (i := 63) rfl))) Via.refl e14 F1 (g := (mkF m 31 #[.val (.ref ra)] [(.ref ra)])) rfl rfl (hb hby d1_31)
  have pre18 : ∀ t, Steps p.tables e below (T17.setTop (mkF m 34 #[.val (.ref ra)] [(.ref yDOUBLE)])) t → Steps p.tables e below (s₁.setTop (entryFrame m #[(.ref ra)] 1)) t := fun t k => pre16 t (st17 t k)
  obtain ⟨T19, X19, e19, st19⟩ := getS2 X17 hx hZ hown (host := "") (Or.inl (hw _ (List.mem_of_getElem? (i := 68) rfl))) Via.refl e17 SDOUBLE (g := (mkF m 34 #[.val (.ref ra)] [(.ref yDOUBLE)])) rfl (hb hby d1_34)
  have pre20 : ∀ t, Steps p.tables e below (T19.setTop (mkF m 37 #[.val (.ref ra)] [(.ref yDOUBLE), (.ref yDOUBLE)])) t → Steps p.tables e below (s₁.setTop (entryFrame m #[(.ref ra)] 1)) t := fun t k => pre18 t (st19 t k)
  have pre21 : ∀ t, Steps p.tables e below (T19.setTop (mkF m 45 #[.val (.ref ra)] [(.int (1 : Int32))])) t → Steps p.tables e below (s₁.setTop (entryFrame m #[(.ref ra)] 1)) t := by
    intro t k
    refine pre20 t ?_
    refine Jvm.RoadKit.acmp (g := (mkF m 37 #[.val (.ref ra)] [(.ref yDOUBLE), (.ref yDOUBLE)])) X19 hx rfl rfl rfl (pc0 := 37) (pc' := 40) (same := true) rfl (hb hby d1_37) rfl (decide_eq_true rfl) (by decide) (by decide) ?_
    show Steps p.tables e below (T19.setTop (mkF m 40 #[.val (.ref ra)] [])) _
    refine XS.iconst X19.here hx rfl (hb hby d1_40) ?_
    show Steps p.tables e below (T19.setTop (mkF m 41 #[.val (.ref ra)] [(.int (1 : Int32))])) _
    refine XS.goto X19.here hx rfl (pc0 := 41) (pc' := 45) rfl (hb hby d1_41) (by decide) (by decide) ?_
    show Steps p.tables e below (T19.setTop (mkF m 45 #[.val (.ref ra)] [(.int (1 : Int32))])) _
    exact k
  obtain ⟨fs, hr, hrun, hended, hW, hsame⟩ := X19.leave (v := some (.int (1 : Int32))) (fun h => by rw [Bd.returns] at h; cases h)
  refine ⟨_, _, pre21 _ ?_, hrun, hended, _, _, rfl, ?_, ⟨_, rfl⟩, hW, hsame.mono (by decide) (by decide)⟩
  · exact retN X19 hx (t := .boolean) Bd.returns (by simp) (hb hby d1_45) hr
  · show Q_rm_num3 Z ra yDOUBLE yDECIMAL yINTEGER yFLOAT h0 n0 _ T19.heap _
    rw [e19]
    exact ⟨rfl, N0, rfl⟩
theorem d1_44 : decode prog_77_method_16_code 44 = .ok (.iconst 0, 1) := by decide +kernel
theorem ef_rm_num4 (m : MethodId) (ra : Addr) : entryFrame m #[(.ref ra)] 1 = mkF m 0 #[.val (.ref ra)] [] := by first | (simp [entryFrame, mkF, argsToLocals, Value.category]; done) | rfl
def Q_rm_num4 (Z : State) (ra : Addr) (xp : Addr) (yDECIMAL : Addr) (yINTEGER : Addr) (yFLOAT : Addr) (yDOUBLE : Addr) (h0 : Heap) (n0 : Nat) (v : Option Value) (h : Heap) (L : List Loc) : Prop := v = some (.int (0 : Int32)) ∧ Fr n0 L ∧ h = h0
set_option maxRecDepth 65536 in
set_option maxHeartbeats 40000000 in
theorem rm_num4 (l : Launch) (Z : State) (a0 : Array Value) (hw : ∀ d ∈ tables_1, d.before a0 Z = true) (ws : List Jvm.Cond) (ra : Addr) (xp : Addr) (yDECIMAL : Addr) (yINTEGER : Addr) (yFLOAT : Addr) (yDOUBLE : Addr) (h0 : Heap) (n0 : Nat) (Z0 : n0 ≤ h0.size) (F1 : Fld Z h0 ra "com/example/xidr/xidr/xpath/values/AtomicType" "primitive" "Lcom/example/xidr/xidr/xpath/values/AtomicType;" (.ref xp)) (SDECIMAL : Sta Z h0 "com/example/xidr/xidr/xpath/values/AtomicType" "DECIMAL" "Lcom/example/xidr/xidr/xpath/values/AtomicType;" (.ref yDECIMAL)) (SINTEGER : Sta Z h0 "com/example/xidr/xidr/xpath/values/AtomicType" "INTEGER" "Lcom/example/xidr/xidr/xpath/values/AtomicType;" (.ref yINTEGER)) (SFLOAT : Sta Z h0 "com/example/xidr/xidr/xpath/values/AtomicType" "FLOAT" "Lcom/example/xidr/xidr/xpath/values/AtomicType;" (.ref yFLOAT)) (SDOUBLE : Sta Z h0 "com/example/xidr/xidr/xpath/values/AtomicType" "DOUBLE" "Lcom/example/xidr/xidr/xpath/values/AtomicType;" (.ref yDOUBLE)) (hDECIMAL : ¬ (xp = yDECIMAL)) (hINTEGER : ¬ (xp = yINTEGER)) (hFLOAT : ¬ (xp = yFLOAT)) (hDOUBLE : ¬ (xp = yDOUBLE)) :
    MetFree l (⟨"com/example/xidr/xidr/xpath/values/AtomicType", "isNumeric", "()Z"⟩ : MethodName) (head1 (Jvm.Cond.code (⟨"com/example/xidr/xidr/xpath/values/AtomicType", "isNumeric", "()Z"⟩ : MethodName) prog_77_method_16_code 1 (some .boolean) :: ws) ({ frames := 0, cells := 0, slots := 0, locals := 0 } : Room)) (fun a U => a = #[(.ref ra)] ∧ Z.Warmed39 U.vm ∧ U.heap = h0) (fun _ _ _ _ _ => True) (fun _ U o U' => ∃ v L, o = .returned v ∧ Q_rm_num4 Z ra xp yDECIMAL yINTEGER yFLOAT yDOUBLE h0 n0 v U'.heap L ∧ FrameEnd U o U' L ({ frames := 0, cells := 0, slots := 0, locals := 0 } : Room).cells ({ frames := 0, cells := 0, slots := 0, locals := 0 } : Room).slots) := by
  refine MetFree.of_bodySF (plainFor_of_name pn0) hisR ?_
  intro p e s m args below meth c s₁ Bd hml0 hP hK
  obtain ⟨rfl, hZ, hh⟩ := hP
  have hx := Bd.exec
  have hby := Bd.bytes
  have hml : c.maxLocals = 1 := hml0
  have hown : s.vm.findClass "com/example/xidr/xidr/xpath/values/AtomicType" = some m.cls := findClass_of_methodNamed Bd.named
  have hnm := (name_of_methodNamed Bd.named Bd.method).1
  have X0 : Stand p l e ({ frames := 0, cells := 0, slots := 0, locals := 0 } : Room) s m #[(.ref ra)] below meth c s₁ [] 0 0 := Stand.of_body Bd
  have e0 : s₁.heap = h0 := by rw [← hh, Bd.state]; rfl
  have N0 := Fr.nil n0
  have pre0 : ∀ t, Steps p.tables e below (s₁.setTop (mkF m 0 #[.val (.ref ra)] [])) t → Steps p.tables e below (s₁.setTop (entryFrame m #[(.ref ra)] 1)) t := fun t k => castTop (ef_rm_num4 m ra) k
  have pre1 : ∀ t, Steps p.tables e below (s₁.setTop (mkF m 1 #[.val (.ref ra)] [(.ref ra)])) t → Steps p.tables e below (s₁.setTop (entryFrame m #[(.ref ra)] 1)) t := by
    intro t k
    refine pre0 t ?_
    refine XS.aloadN X0.here hx rfl (hb hby d1_0) rfl rfl ?_
    show Steps p.tables e below (s₁.setTop (mkF m 1 #[.val (.ref ra)] [(.ref ra)])) _
    exact k
  obtain ⟨T2, X2, e2, st2⟩ := getF X0 hx hZ hown (host := "") (Or.inl (hw _ (List.mem_of_getElem? (i := 63) rfl))) Via.refl e0 F1 (g := (mkF m 1 #[.val (.ref ra)] [(.ref ra)])) rfl rfl (hb hby d1_1)
  have pre3 : ∀ t, Steps p.tables e below (T2.setTop (mkF m 4 #[.val (.ref ra)] [(.ref xp)])) t → Steps p.tables e below (s₁.setTop (entryFrame m #[(.ref ra)] 1)) t := fun t k => pre1 t (st2 t k)
  obtain ⟨T4, X4, e4, st4⟩ := getS2 X2 hx hZ hown (host := "") (Or.inl (hw _ (List.mem_of_getElem? (i := 65) rfl))) Via.refl e2 SDECIMAL (g := (mkF m 4 #[.val (.ref ra)] [(.ref xp)])) rfl (hb hby d1_4)
  have pre5 : ∀ t, Steps p.tables e below (T4.setTop (mkF m 7 #[.val (.ref ra)] [(.ref yDECIMAL), (.ref xp)])) t → Steps p.tables e below (s₁.setTop (entryFrame m #[(.ref ra)] 1)) t := fun t k => pre3 t (st4 t k)
  have pre6 : ∀ t, Steps p.tables e below (T4.setTop (mkF m 11 #[.val (.ref ra)] [(.ref ra)])) t → Steps p.tables e below (s₁.setTop (entryFrame m #[(.ref ra)] 1)) t := by
    intro t k
    refine pre5 t ?_
    refine Jvm.RoadKit.acmp (g := (mkF m 7 #[.val (.ref ra)] [(.ref yDECIMAL), (.ref xp)])) X4 hx rfl rfl rfl (pc0 := 7) (pc' := 10) (same := false) rfl (hb hby d1_7) rfl (decide_eq_false fun q => hDECIMAL (Value.ref.inj q)) (by decide) (by decide) ?_
    show Steps p.tables e below (T4.setTop (mkF m 10 #[.val (.ref ra)] [])) _
    refine XS.aloadN X4.here hx rfl (hb hby d1_10) rfl rfl ?_
    show Steps p.tables e below (T4.setTop (mkF m 11 #[.val (.ref ra)] [(.ref ra)])) _
    exact k
  obtain ⟨T7, X7, e7, st7⟩ := getF X4 hx hZ hown (host := "") (Or.inl (hw _ (List.mem_of_getElem? (i := 63) rfl))) Via.refl e4 F1 (g := (mkF m 11 #[.val (.ref ra)] [(.ref ra)])) rfl rfl (hb hby d1_11)
  have pre8 : ∀ t, Steps p.tables e below (T7.setTop (mkF m 14 #[.val (.ref ra)] [(.ref xp)])) t → Steps p.tables e below (s₁.setTop (entryFrame m #[(.ref ra)] 1)) t := fun t k => pre6 t (st7 t k)
  obtain ⟨T9, X9, e9, st9⟩ := getS2 X7 hx hZ hown (host := "") (Or.inl (hw _ (List.mem_of_getElem? (i := 66) rfl))) Via.refl e7 SINTEGER (g := (mkF m 14 #[.val (.ref ra)] [(.ref xp)])) rfl (hb hby d1_14)
  have pre10 : ∀ t, Steps p.tables e below (T9.setTop (mkF m 17 #[.val (.ref ra)] [(.ref yINTEGER), (.ref xp)])) t → Steps p.tables e below (s₁.setTop (entryFrame m #[(.ref ra)] 1)) t := fun t k => pre8 t (st9 t k)
  have pre11 : ∀ t, Steps p.tables e below (T9.setTop (mkF m 21 #[.val (.ref ra)] [(.ref ra)])) t → Steps p.tables e below (s₁.setTop (entryFrame m #[(.ref ra)] 1)) t := by
    intro t k
    refine pre10 t ?_
    refine Jvm.RoadKit.acmp (g := (mkF m 17 #[.val (.ref ra)] [(.ref yINTEGER), (.ref xp)])) X9 hx rfl rfl rfl (pc0 := 17) (pc' := 20) (same := false) rfl (hb hby d1_17) rfl (decide_eq_false fun q => hINTEGER (Value.ref.inj q)) (by decide) (by decide) ?_
    show Steps p.tables e below (T9.setTop (mkF m 20 #[.val (.ref ra)] [])) _
    refine XS.aloadN X9.here hx rfl (hb hby d1_20) rfl rfl ?_
    show Steps p.tables e below (T9.setTop (mkF m 21 #[.val (.ref ra)] [(.ref ra)])) _
    exact k
  obtain ⟨T12, X12, e12, st12⟩ := getF X9 hx hZ hown (host := "") (Or.inl (hw _ (List.mem_of_getElem? (i := 63) rfl))) Via.refl e9 F1 (g := (mkF m 21 #[.val (.ref ra)] [(.ref ra)])) rfl rfl (hb hby d1_21)
  have pre13 : ∀ t, Steps p.tables e below (T12.setTop (mkF m 24 #[.val (.ref ra)] [(.ref xp)])) t → Steps p.tables e below (s₁.setTop (entryFrame m #[(.ref ra)] 1)) t := fun t k => pre11 t (st12 t k)
  obtain ⟨T14, X14, e14, st14⟩ := getS2 X12 hx hZ hown (host := "") (Or.inl (hw _ (List.mem_of_getElem? (i := 67) rfl))) Via.refl e12 SFLOAT (g := (mkF m 24 #[.val (.ref ra)] [(.ref xp)])) rfl (hb hby d1_24)
  have pre15 : ∀ t, Steps p.tables e below (T14.setTop (mkF m 27 #[.val (.ref ra)] [(.ref yFLOAT), (.ref xp)])) t → Steps p.tables e below (s₁.setTop (entryFrame m #[(.ref ra)] 1)) t := fun t k => pre13 t (st14 t k)
  have pre16 : ∀ t, Steps p.tables e below (T14.setTop (mkF m 31 #[.val (.ref ra)] [(.ref ra)])) t → Steps p.tables e below (s₁.setTop (entryFrame m #[(.ref ra)] 1)) t := by
    intro t k
    refine pre15 t ?_
    refine Jvm.RoadKit.acmp (g := (mkF m 27 #[.val (.ref ra)] [(.ref yFLOAT), (.ref xp)])) X14 hx rfl rfl rfl (pc0 := 27) (pc' := 30) (same := false) rfl (hb hby d1_27) rfl (decide_eq_false fun q => hFLOAT (Value.ref.inj q)) (by decide) (by decide) ?_
    show Steps p.tables e below (T14.setTop (mkF m 30 #[.val (.ref ra)] [])) _
    refine XS.aloadN X14.here hx rfl (hb hby d1_30) rfl rfl ?_
    show Steps p.tables e below (T14.setTop (mkF m 31 #[.val (.ref ra)] [(.ref ra)])) _
    exact k
  obtain ⟨T17, X17, e17, st17⟩ := getF X14 hx hZ hown (host := "") (Or.inl (hw _ (List.mem_of_getElem? (i := 63) rfl))) Via.refl e14 F1 (g := (mkF m 31 #[.val (.ref ra)] [(.ref ra)])) rfl rfl (hb hby d1_31)
  have pre18 : ∀ t, Steps p.tables e below (T17.setTop (mkF m 34 #[.val (.ref ra)] [(.ref xp)])) t → Steps p.tables e below (s₁.setTop (entryFrame m #[(.ref ra)] 1)) t := fun t k => pre16 t (st17 t k)
  obtain ⟨T19, X19, e19, st19⟩ := getS2 X17 hx hZ hown (host := "") (Or.inl (hw _ (List.mem_of_getElem? (i := 68) rfl))) Via.refl e17 SDOUBLE (g := (mkF m 34 #[.val (.ref ra)] [(.ref xp)])) rfl (hb hby d1_34)
  have pre20 : ∀ t, Steps p.tables e below (T19.setTop (mkF m 37 #[.val (.ref ra)] [(.ref yDOUBLE), (.ref xp)])) t → Steps p.tables e below (s₁.setTop (entryFrame m #[(.ref ra)] 1)) t := fun t k => pre18 t (st19 t k)
  have pre21 : ∀ t, Steps p.tables e below (T19.setTop (mkF m 45 #[.val (.ref ra)] [(.int (0 : Int32))])) t → Steps p.tables e below (s₁.setTop (entryFrame m #[(.ref ra)] 1)) t := by
    intro t k
    refine pre20 t ?_
    refine Jvm.RoadKit.acmp (g := (mkF m 37 #[.val (.ref ra)] [(.ref yDOUBLE), (.ref xp)])) X19 hx rfl rfl rfl (pc0 := 37) (pc' := 44) (same := false) rfl (hb hby d1_37) rfl (decide_eq_false fun q => hDOUBLE (Value.ref.inj q)) (by decide) (by decide) ?_
    show Steps p.tables e below (T19.setTop (mkF m 44 #[.val (.ref ra)] [])) _
    refine XS.iconst X19.here hx rfl (hb hby d1_44) ?_
    show Steps p.tables e below (T19.setTop (mkF m 45 #[.val (.ref ra)] [(.int (0 : Int32))])) _
    exact k
  obtain ⟨fs, hr, hrun, hended, hW, hsame⟩ := X19.leave (v := some (.int (0 : Int32))) (fun h => by rw [Bd.returns] at h; cases h)
  refine ⟨_, _, pre21 _ ?_, hrun, hended, _, _, rfl, ?_, ⟨_, rfl⟩, hW, hsame.mono (by decide) (by decide)⟩
  · exact retN X19 hx (t := .boolean) Bd.returns (by simp) (hb hby d1_45) hr
  · show Q_rm_num4 Z ra xp yDECIMAL yINTEGER yFLOAT yDOUBLE h0 n0 _ T19.heap _
    rw [e19]
    exact ⟨rfl, N0, rfl⟩
theorem own_i (xa ii : Int32) (h : ii = ((xa &&& (2147483647 : Int32)) % (26 : Int32))) : ii = (0 : Int32) ∨ ii = (1 : Int32) ∨ ii = (2 : Int32) ∨ ii = (3 : Int32) ∨ ii = (4 : Int32) ∨ ii = (5 : Int32) ∨ ii = (6 : Int32) ∨ ii = (7 : Int32) ∨ ii = (8 : Int32) ∨ ii = (9 : Int32) ∨ ii = (10 : Int32) ∨ ii = (11 : Int32) ∨ ii = (12 : Int32) ∨ ii = (13 : Int32) ∨ ii = (14 : Int32) ∨ ii = (15 : Int32) ∨ ii = (16 : Int32) ∨ ii = (17 : Int32) ∨ ii = (18 : Int32) ∨ ii = (19 : Int32) ∨ ii = (20 : Int32) ∨ ii = (21 : Int32) ∨ ii = (22 : Int32) ∨ ii = (23 : Int32) ∨ ii = (24 : Int32) ∨ ii = (25 : Int32) := by
  have b : 0 ≤ ii.toInt ∧ ii.toInt < 26 := by
    subst h
    have := rng32 xa
    have := c_mask xa (2147483647 : Int32) 31 (by decide) (by decide +kernel)
    have := rng32 (xa &&& (2147483647 : Int32))
    have : (26 : Int32).toInt = 26 := rfl
    have := c_irem (xa &&& (2147483647 : Int32)) (26 : Int32) 26 rfl
    have := rng32 ((xa &&& (2147483647 : Int32)) % (26 : Int32))
    omega
  simp only [← Int32.toInt_inj]
  have : (0 : Int32).toInt = 0 := rfl
  have : (1 : Int32).toInt = 1 := rfl
  have : (2 : Int32).toInt = 2 := rfl
  have : (3 : Int32).toInt = 3 := rfl
  have : (4 : Int32).toInt = 4 := rfl
  have : (5 : Int32).toInt = 5 := rfl
  have : (6 : Int32).toInt = 6 := rfl
  have : (7 : Int32).toInt = 7 := rfl
  have : (8 : Int32).toInt = 8 := rfl
  have : (9 : Int32).toInt = 9 := rfl
  have : (10 : Int32).toInt = 10 := rfl
  have : (11 : Int32).toInt = 11 := rfl
  have : (12 : Int32).toInt = 12 := rfl
  have : (13 : Int32).toInt = 13 := rfl
  have : (14 : Int32).toInt = 14 := rfl
  have : (15 : Int32).toInt = 15 := rfl
  have : (16 : Int32).toInt = 16 := rfl
  have : (17 : Int32).toInt = 17 := rfl
  have : (18 : Int32).toInt = 18 := rfl
  have : (19 : Int32).toInt = 19 := rfl
  have : (20 : Int32).toInt = 20 := rfl
  have : (21 : Int32).toInt = 21 := rfl
  have : (22 : Int32).toInt = 22 := rfl
  have : (23 : Int32).toInt = 23 := rfl
  have : (24 : Int32).toInt = 24 := rfl
  have : (25 : Int32).toInt = 25 := rfl
  omega
theorem pd0 : parseMethodDescriptor "()Z" = some ⟨[], some .boolean⟩ := by decide +kernel
theorem pn1 : plainName "com/example/xidr/xidr/xpath/values/AtomicTypeIsNumericPinLaw" = true := by first | (simp [plainName, overriddenIn]; done) | decide +kernel
theorem ef_rm0 (m : MethodId) (xa : Int32) : entryFrame m #[(.int xa)] maxLocals = mkF m 0 #[.val (.int xa), .unset, .unset, .unset, .unset] [] := by first | (simp [entryFrame, mkF, argsToLocals, Value.category, maxLocals]; done) | rfl
def Q_rm0 (Z : State) (xa : Int32) (w_ANY_ATOMIC_TYPE : Addr) (w_UNTYPED_ATOMIC : Addr) (w_STRING : Addr) (w_BOOLEAN : Addr) (w_DECIMAL : Addr) (w_INTEGER : Addr) (w_NON_POSITIVE_INTEGER : Addr) (w_NEGATIVE_INTEGER : Addr) (w_LONG : Addr) (w_INT : Addr) (w_SHORT : Addr) (w_BYTE : Addr) (w_NON_NEGATIVE_INTEGER : Addr) (w_UNSIGNED_LONG : Addr) (w_UNSIGNED_INT : Addr) (w_UNSIGNED_SHORT : Addr) (w_UNSIGNED_BYTE : Addr) (w_POSITIVE_INTEGER : Addr) (w_FLOAT : Addr) (w_DOUBLE : Addr) (w_ANY_URI : Addr) (w_DATE : Addr) (w_TIME : Addr) (w_HEX_BINARY : Addr) (w_QNAME : Addr) (w_NOTATION : Addr) (h0 : Heap) (n0 : Nat) (v : Option Value) (h : Heap) (L : List Loc) : Prop := v = some (.int (1 : Int32)) ∧ Fr n0 L
set_option maxRecDepth 65536 in
set_option maxHeartbeats 40000000 in
theorem rm0 (l : Launch) (Z : State) (a0 : Array Value) (hw : ∀ d ∈ tables_1, d.before a0 Z = true) (ws : List Jvm.Cond) (xa : Int32) (w_ANY_ATOMIC_TYPE : Addr) (w_UNTYPED_ATOMIC : Addr) (w_STRING : Addr) (w_BOOLEAN : Addr) (w_DECIMAL : Addr) (w_INTEGER : Addr) (w_NON_POSITIVE_INTEGER : Addr) (w_NEGATIVE_INTEGER : Addr) (w_LONG : Addr) (w_INT : Addr) (w_SHORT : Addr) (w_BYTE : Addr) (w_NON_NEGATIVE_INTEGER : Addr) (w_UNSIGNED_LONG : Addr) (w_UNSIGNED_INT : Addr) (w_UNSIGNED_SHORT : Addr) (w_UNSIGNED_BYTE : Addr) (w_POSITIVE_INTEGER : Addr) (w_FLOAT : Addr) (w_DOUBLE : Addr) (w_ANY_URI : Addr) (w_DATE : Addr) (w_TIME : Addr) (w_HEX_BINARY : Addr) (w_QNAME : Addr) (w_NOTATION : Addr) (h0 : Heap) (n0 : Nat) (Z0 : n0 ≤ h0.size) (S_ANY_ATOMIC_TYPE : Sta Z h0 "com/example/xidr/xidr/xpath/values/AtomicType" "ANY_ATOMIC_TYPE" "Lcom/example/xidr/xidr/xpath/values/AtomicType;" (.ref w_ANY_ATOMIC_TYPE)) (S_UNTYPED_ATOMIC : Sta Z h0 "com/example/xidr/xidr/xpath/values/AtomicType" "UNTYPED_ATOMIC" "Lcom/example/xidr/xidr/xpath/values/AtomicType;" (.ref w_UNTYPED_ATOMIC)) (S_STRING : Sta Z h0 "com/example/xidr/xidr/xpath/values/AtomicType" "STRING" "Lcom/example/xidr/xidr/xpath/values/AtomicType;" (.ref w_STRING)) (S_BOOLEAN : Sta Z h0 "com/example/xidr/xidr/xpath/values/AtomicType" "BOOLEAN" "Lcom/example/xidr/xidr/xpath/values/AtomicType;" (.ref w_BOOLEAN)) (S_DECIMAL : Sta Z h0 "com/example/xidr/xidr/xpath/values/AtomicType" "DECIMAL" "Lcom/example/xidr/xidr/xpath/values/AtomicType;" (.ref w_DECIMAL)) (S_INTEGER : Sta Z h0 "com/example/xidr/xidr/xpath/values/AtomicType" "INTEGER" "Lcom/example/xidr/xidr/xpath/values/AtomicType;" (.ref w_INTEGER)) (S_NON_POSITIVE_INTEGER : Sta Z h0 "com/example/xidr/xidr/xpath/values/AtomicType" "NON_POSITIVE_INTEGER" "Lcom/example/xidr/xidr/xpath/values/AtomicType;" (.ref w_NON_POSITIVE_INTEGER)) (S_NEGATIVE_INTEGER : Sta Z h0 "com/example/xidr/xidr/xpath/values/AtomicType" "NEGATIVE_INTEGER" "Lcom/example/xidr/xidr/xpath/values/AtomicType;" (.ref w_NEGATIVE_INTEGER)) (S_LONG : Sta Z h0 "com/example/xidr/xidr/xpath/values/AtomicType" "LONG" "Lcom/example/xidr/xidr/xpath/values/AtomicType;" (.ref w_LONG)) (S_INT : Sta Z h0 "com/example/xidr/xidr/xpath/values/AtomicType" "INT" "Lcom/example/xidr/xidr/xpath/values/AtomicType;" (.ref w_INT)) (S_SHORT : Sta Z h0 "com/example/xidr/xidr/xpath/values/AtomicType" "SHORT" "Lcom/example/xidr/xidr/xpath/values/AtomicType;" (.ref w_SHORT)) (S_BYTE : Sta Z h0 "com/example/xidr/xidr/xpath/values/AtomicType" "BYTE" "Lcom/example/xidr/xidr/xpath/values/AtomicType;" (.ref w_BYTE)) (S_NON_NEGATIVE_INTEGER : Sta Z h0 "com/example/xidr/xidr/xpath/values/AtomicType" "NON_NEGATIVE_INTEGER" "Lcom/example/xidr/xidr/xpath/values/AtomicType;" (.ref w_NON_NEGATIVE_INTEGER)) (S_UNSIGNED_LONG : Sta Z h0 "com/example/xidr/xidr/xpath/values/AtomicType" "UNSIGNED_LONG" "Lcom/example/xidr/xidr/xpath/values/AtomicType;" (.ref w_UNSIGNED_LONG)) (S_UNSIGNED_INT : Sta Z h0 "com/example/xidr/xidr/xpath/values/AtomicType" "UNSIGNED_INT" "Lcom/example/xidr/xidr/xpath/values/AtomicType;" (.ref w_UNSIGNED_INT)) (S_UNSIGNED_SHORT : Sta Z h0 "com/example/xidr/xidr/xpath/values/AtomicType" "UNSIGNED_SHORT" "Lcom/example/xidr/xidr/xpath/values/AtomicType;" (.ref w_UNSIGNED_SHORT)) (S_UNSIGNED_BYTE : Sta Z h0 "com/example/xidr/xidr/xpath/values/AtomicType" "UNSIGNED_BYTE" "Lcom/example/xidr/xidr/xpath/values/AtomicType;" (.ref w_UNSIGNED_BYTE)) (S_POSITIVE_INTEGER : Sta Z h0 "com/example/xidr/xidr/xpath/values/AtomicType" "POSITIVE_INTEGER" "Lcom/example/xidr/xidr/xpath/values/AtomicType;" (.ref w_POSITIVE_INTEGER)) (S_FLOAT : Sta Z h0 "com/example/xidr/xidr/xpath/values/AtomicType" "FLOAT" "Lcom/example/xidr/xidr/xpath/values/AtomicType;" (.ref w_FLOAT)) (S_DOUBLE : Sta Z h0 "com/example/xidr/xidr/xpath/values/AtomicType" "DOUBLE" "Lcom/example/xidr/xidr/xpath/values/AtomicType;" (.ref w_DOUBLE)) (S_ANY_URI : Sta Z h0 "com/example/xidr/xidr/xpath/values/AtomicType" "ANY_URI" "Lcom/example/xidr/xidr/xpath/values/AtomicType;" (.ref w_ANY_URI)) (S_DATE : Sta Z h0 "com/example/xidr/xidr/xpath/values/AtomicType" "DATE" "Lcom/example/xidr/xidr/xpath/values/AtomicType;" (.ref w_DATE)) (S_TIME : Sta Z h0 "com/example/xidr/xidr/xpath/values/AtomicType" "TIME" "Lcom/example/xidr/xidr/xpath/values/AtomicType;" (.ref w_TIME)) (S_HEX_BINARY : Sta Z h0 "com/example/xidr/xidr/xpath/values/AtomicType" "HEX_BINARY" "Lcom/example/xidr/xidr/xpath/values/AtomicType;" (.ref w_HEX_BINARY)) (S_QNAME : Sta Z h0 "com/example/xidr/xidr/xpath/values/AtomicType" "QNAME" "Lcom/example/xidr/xidr/xpath/values/AtomicType;" (.ref w_QNAME)) (S_NOTATION : Sta Z h0 "com/example/xidr/xidr/xpath/values/AtomicType" "NOTATION" "Lcom/example/xidr/xidr/xpath/values/AtomicType;" (.ref w_NOTATION)) (E_ANY_ATOMIC_TYPE : Exa Z h0 w_ANY_ATOMIC_TYPE "com/example/xidr/xidr/xpath/values/AtomicType") (E_UNTYPED_ATOMIC : Exa Z h0 w_UNTYPED_ATOMIC "com/example/xidr/xidr/xpath/values/AtomicType") (E_STRING : Exa Z h0 w_STRING "com/example/xidr/xidr/xpath/values/AtomicType") (E_BOOLEAN : Exa Z h0 w_BOOLEAN "com/example/xidr/xidr/xpath/values/AtomicType") (E_DECIMAL : Exa Z h0 w_DECIMAL "com/example/xidr/xidr/xpath/values/AtomicType") (E_INTEGER : Exa Z h0 w_INTEGER "com/example/xidr/xidr/xpath/values/AtomicType") (E_NON_POSITIVE_INTEGER : Exa Z h0 w_NON_POSITIVE_INTEGER "com/example/xidr/xidr/xpath/values/AtomicType") (E_NEGATIVE_INTEGER : Exa Z h0 w_NEGATIVE_INTEGER "com/example/xidr/xidr/xpath/values/AtomicType") (E_LONG : Exa Z h0 w_LONG "com/example/xidr/xidr/xpath/values/AtomicType") (E_INT : Exa Z h0 w_INT "com/example/xidr/xidr/xpath/values/AtomicType") (E_SHORT : Exa Z h0 w_SHORT "com/example/xidr/xidr/xpath/values/AtomicType") (E_BYTE : Exa Z h0 w_BYTE "com/example/xidr/xidr/xpath/values/AtomicType") (E_NON_NEGATIVE_INTEGER : Exa Z h0 w_NON_NEGATIVE_INTEGER "com/example/xidr/xidr/xpath/values/AtomicType") (E_UNSIGNED_LONG : Exa Z h0 w_UNSIGNED_LONG "com/example/xidr/xidr/xpath/values/AtomicType") (E_UNSIGNED_INT : Exa Z h0 w_UNSIGNED_INT "com/example/xidr/xidr/xpath/values/AtomicType") (E_UNSIGNED_SHORT : Exa Z h0 w_UNSIGNED_SHORT "com/example/xidr/xidr/xpath/values/AtomicType") (E_UNSIGNED_BYTE : Exa Z h0 w_UNSIGNED_BYTE "com/example/xidr/xidr/xpath/values/AtomicType") (E_POSITIVE_INTEGER : Exa Z h0 w_POSITIVE_INTEGER "com/example/xidr/xidr/xpath/values/AtomicType") (E_FLOAT : Exa Z h0 w_FLOAT "com/example/xidr/xidr/xpath/values/AtomicType") (E_DOUBLE : Exa Z h0 w_DOUBLE "com/example/xidr/xidr/xpath/values/AtomicType") (E_ANY_URI : Exa Z h0 w_ANY_URI "com/example/xidr/xidr/xpath/values/AtomicType") (E_DATE : Exa Z h0 w_DATE "com/example/xidr/xidr/xpath/values/AtomicType") (E_TIME : Exa Z h0 w_TIME "com/example/xidr/xidr/xpath/values/AtomicType") (E_HEX_BINARY : Exa Z h0 w_HEX_BINARY "com/example/xidr/xidr/xpath/values/AtomicType") (E_QNAME : Exa Z h0 w_QNAME "com/example/xidr/xidr/xpath/values/AtomicType") (E_NOTATION : Exa Z h0 w_NOTATION "com/example/xidr/xidr/xpath/values/AtomicType") (P_ANY_ATOMIC_TYPE : Fld Z h0 w_ANY_ATOMIC_TYPE "com/example/xidr/xidr/xpath/values/AtomicType" "primitive" "Lcom/example/xidr/xidr/xpath/values/AtomicType;" (.ref w_ANY_ATOMIC_TYPE)) (P_UNTYPED_ATOMIC : Fld Z h0 w_UNTYPED_ATOMIC "com/example/xidr/xidr/xpath/values/AtomicType" "primitive" "Lcom/example/xidr/xidr/xpath/values/AtomicType;" (.ref w_UNTYPED_ATOMIC)) (P_STRING : Fld Z h0 w_STRING "com/example/xidr/xidr/xpath/values/AtomicType" "primitive" "Lcom/example/xidr/xidr/xpath/values/AtomicType;" (.ref w_STRING)) (P_BOOLEAN : Fld Z h0 w_BOOLEAN "com/example/xidr/xidr/xpath/values/AtomicType" "primitive" "Lcom/example/xidr/xidr/xpath/values/AtomicType;" (.ref w_BOOLEAN)) (P_DECIMAL : Fld Z h0 w_DECIMAL "com/example/xidr/xidr/xpath/values/AtomicType" "primitive" "Lcom/example/xidr/xidr/xpath/values/AtomicType;" (.ref w_DECIMAL)) (P_INTEGER : Fld Z h0 w_INTEGER "com/example/xidr/xidr/xpath/values/AtomicType" "primitive" "Lcom/example/xidr/xidr/xpath/values/AtomicType;" (.ref w_INTEGER)) (P_NON_POSITIVE_INTEGER : Fld Z h0 w_NON_POSITIVE_INTEGER "com/example/xidr/xidr/xpath/values/AtomicType" "primitive" "Lcom/example/xidr/xidr/xpath/values/AtomicType;" (.ref w_INTEGER)) (P_NEGATIVE_INTEGER : Fld Z h0 w_NEGATIVE_INTEGER "com/example/xidr/xidr/xpath/values/AtomicType" "primitive" "Lcom/example/xidr/xidr/xpath/values/AtomicType;" (.ref w_INTEGER)) (P_LONG : Fld Z h0 w_LONG "com/example/xidr/xidr/xpath/values/AtomicType" "primitive" "Lcom/example/xidr/xidr/xpath/values/AtomicType;" (.ref w_INTEGER)) (P_INT : Fld Z h0 w_INT "com/example/xidr/xidr/xpath/values/AtomicType" "primitive" "Lcom/example/xidr/xidr/xpath/values/AtomicType;" (.ref w_INTEGER)) (P_SHORT : Fld Z h0 w_SHORT "com/example/xidr/xidr/xpath/values/AtomicType" "primitive" "Lcom/example/xidr/xidr/xpath/values/AtomicType;" (.ref w_INTEGER)) (P_BYTE : Fld Z h0 w_BYTE "com/example/xidr/xidr/xpath/values/AtomicType" "primitive" "Lcom/example/xidr/xidr/xpath/values/AtomicType;" (.ref w_INTEGER)) (P_NON_NEGATIVE_INTEGER : Fld Z h0 w_NON_NEGATIVE_INTEGER "com/example/xidr/xidr/xpath/values/AtomicType" "primitive" "Lcom/example/xidr/xidr/xpath/values/AtomicType;" (.ref w_INTEGER)) (P_UNSIGNED_LONG : Fld Z h0 w_UNSIGNED_LONG "com/example/xidr/xidr/xpath/values/AtomicType" "primitive" "Lcom/example/xidr/xidr/xpath/values/AtomicType;" (.ref w_INTEGER)) (P_UNSIGNED_INT : Fld Z h0 w_UNSIGNED_INT "com/example/xidr/xidr/xpath/values/AtomicType" "primitive" "Lcom/example/xidr/xidr/xpath/values/AtomicType;" (.ref w_INTEGER)) (P_UNSIGNED_SHORT : Fld Z h0 w_UNSIGNED_SHORT "com/example/xidr/xidr/xpath/values/AtomicType" "primitive" "Lcom/example/xidr/xidr/xpath/values/AtomicType;" (.ref w_INTEGER)) (P_UNSIGNED_BYTE : Fld Z h0 w_UNSIGNED_BYTE "com/example/xidr/xidr/xpath/values/AtomicType" "primitive" "Lcom/example/xidr/xidr/xpath/values/AtomicType;" (.ref w_INTEGER)) (P_POSITIVE_INTEGER : Fld Z h0 w_POSITIVE_INTEGER "com/example/xidr/xidr/xpath/values/AtomicType" "primitive" "Lcom/example/xidr/xidr/xpath/values/AtomicType;" (.ref w_INTEGER)) (P_FLOAT : Fld Z h0 w_FLOAT "com/example/xidr/xidr/xpath/values/AtomicType" "primitive" "Lcom/example/xidr/xidr/xpath/values/AtomicType;" (.ref w_FLOAT)) (P_DOUBLE : Fld Z h0 w_DOUBLE "com/example/xidr/xidr/xpath/values/AtomicType" "primitive" "Lcom/example/xidr/xidr/xpath/values/AtomicType;" (.ref w_DOUBLE)) (P_ANY_URI : Fld Z h0 w_ANY_URI "com/example/xidr/xidr/xpath/values/AtomicType" "primitive" "Lcom/example/xidr/xidr/xpath/values/AtomicType;" (.ref w_ANY_URI)) (P_DATE : Fld Z h0 w_DATE "com/example/xidr/xidr/xpath/values/AtomicType" "primitive" "Lcom/example/xidr/xidr/xpath/values/AtomicType;" (.ref w_DATE)) (P_TIME : Fld Z h0 w_TIME "com/example/xidr/xidr/xpath/values/AtomicType" "primitive" "Lcom/example/xidr/xidr/xpath/values/AtomicType;" (.ref w_TIME)) (P_HEX_BINARY : Fld Z h0 w_HEX_BINARY "com/example/xidr/xidr/xpath/values/AtomicType" "primitive" "Lcom/example/xidr/xidr/xpath/values/AtomicType;" (.ref w_HEX_BINARY)) (P_QNAME : Fld Z h0 w_QNAME "com/example/xidr/xidr/xpath/values/AtomicType" "primitive" "Lcom/example/xidr/xidr/xpath/values/AtomicType;" (.ref w_QNAME)) (P_NOTATION : Fld Z h0 w_NOTATION "com/example/xidr/xidr/xpath/values/AtomicType" "primitive" "Lcom/example/xidr/xidr/xpath/values/AtomicType;" (.ref w_NOTATION)) (hne_ANY_ATOMIC_TYPE_DECIMAL : ¬ (w_ANY_ATOMIC_TYPE = w_DECIMAL)) (hne_ANY_ATOMIC_TYPE_DOUBLE : ¬ (w_ANY_ATOMIC_TYPE = w_DOUBLE)) (hne_ANY_ATOMIC_TYPE_FLOAT : ¬ (w_ANY_ATOMIC_TYPE = w_FLOAT)) (hne_ANY_ATOMIC_TYPE_INTEGER : ¬ (w_ANY_ATOMIC_TYPE = w_INTEGER)) (hne_ANY_URI_DECIMAL : ¬ (w_ANY_URI = w_DECIMAL)) (hne_ANY_URI_DOUBLE : ¬ (w_ANY_URI = w_DOUBLE)) (hne_ANY_URI_FLOAT : ¬ (w_ANY_URI = w_FLOAT)) (hne_ANY_URI_INTEGER : ¬ (w_ANY_URI = w_INTEGER)) (hne_BOOLEAN_DECIMAL : ¬ (w_BOOLEAN = w_DECIMAL)) (hne_BOOLEAN_DOUBLE : ¬ (w_BOOLEAN = w_DOUBLE)) (hne_BOOLEAN_FLOAT : ¬ (w_BOOLEAN = w_FLOAT)) (hne_BOOLEAN_INTEGER : ¬ (w_BOOLEAN = w_INTEGER)) (hne_DATE_DECIMAL : ¬ (w_DATE = w_DECIMAL)) (hne_DATE_DOUBLE : ¬ (w_DATE = w_DOUBLE)) (hne_DATE_FLOAT : ¬ (w_DATE = w_FLOAT)) (hne_DATE_INTEGER : ¬ (w_DATE = w_INTEGER)) (hne_DOUBLE_DECIMAL : ¬ (w_DOUBLE = w_DECIMAL)) (hne_DOUBLE_FLOAT : ¬ (w_DOUBLE = w_FLOAT)) (hne_DOUBLE_INTEGER : ¬ (w_DOUBLE = w_INTEGER)) (hne_FLOAT_DECIMAL : ¬ (w_FLOAT = w_DECIMAL)) (hne_FLOAT_INTEGER : ¬ (w_FLOAT = w_INTEGER)) (hne_HEX_BINARY_DECIMAL : ¬ (w_HEX_BINARY = w_DECIMAL)) (hne_HEX_BINARY_DOUBLE : ¬ (w_HEX_BINARY = w_DOUBLE)) (hne_HEX_BINARY_FLOAT : ¬ (w_HEX_BINARY = w_FLOAT)) (hne_HEX_BINARY_INTEGER : ¬ (w_HEX_BINARY = w_INTEGER)) (hne_INTEGER_DECIMAL : ¬ (w_INTEGER = w_DECIMAL)) (hne_NOTATION_DECIMAL : ¬ (w_NOTATION = w_DECIMAL)) (hne_NOTATION_DOUBLE : ¬ (w_NOTATION = w_DOUBLE)) (hne_NOTATION_FLOAT : ¬ (w_NOTATION = w_FLOAT)) (hne_NOTATION_INTEGER : ¬ (w_NOTATION = w_INTEGER)) (hne_QNAME_DECIMAL : ¬ (w_QNAME = w_DECIMAL)) (hne_QNAME_DOUBLE : ¬ (w_QNAME = w_DOUBLE)) (hne_QNAME_FLOAT : ¬ (w_QNAME = w_FLOAT)) (hne_QNAME_INTEGER : ¬ (w_QNAME = w_INTEGER)) (hne_STRING_DECIMAL : ¬ (w_STRING = w_DECIMAL)) (hne_STRING_DOUBLE : ¬ (w_STRING = w_DOUBLE)) (hne_STRING_FLOAT : ¬ (w_STRING = w_FLOAT)) (hne_STRING_INTEGER : ¬ (w_STRING = w_INTEGER)) (hne_TIME_DECIMAL : ¬ (w_TIME = w_DECIMAL)) (hne_TIME_DOUBLE : ¬ (w_TIME = w_DOUBLE)) (hne_TIME_FLOAT : ¬ (w_TIME = w_FLOAT)) (hne_TIME_INTEGER : ¬ (w_TIME = w_INTEGER)) (hne_UNTYPED_ATOMIC_DECIMAL : ¬ (w_UNTYPED_ATOMIC = w_DECIMAL)) (hne_UNTYPED_ATOMIC_DOUBLE : ¬ (w_UNTYPED_ATOMIC = w_DOUBLE)) (hne_UNTYPED_ATOMIC_FLOAT : ¬ (w_UNTYPED_ATOMIC = w_FLOAT)) (hne_UNTYPED_ATOMIC_INTEGER : ¬ (w_UNTYPED_ATOMIC = w_INTEGER)) :
    MetFree l x (head1 (Jvm.Cond.code x code maxLocals ret :: ws) room_1) (fun a U => a = #[(.int xa)] ∧ Z.Warmed39 U.vm ∧ U.heap = h0) (fun _ _ _ _ _ => True) (fun _ U o U' => ∃ v L, o = .returned v ∧ Q_rm0 Z xa w_ANY_ATOMIC_TYPE w_UNTYPED_ATOMIC w_STRING w_BOOLEAN w_DECIMAL w_INTEGER w_NON_POSITIVE_INTEGER w_NEGATIVE_INTEGER w_LONG w_INT w_SHORT w_BYTE w_NON_NEGATIVE_INTEGER w_UNSIGNED_LONG w_UNSIGNED_INT w_UNSIGNED_SHORT w_UNSIGNED_BYTE w_POSITIVE_INTEGER w_FLOAT w_DOUBLE w_ANY_URI w_DATE w_TIME w_HEX_BINARY w_QNAME w_NOTATION h0 n0 v U'.heap L ∧ FrameEnd U o U' L room_1.cells room_1.slots) := by
  refine MetFree.of_bodySF (plainFor_of_name pn1) hisR ?_
  intro p e s m args below meth c s₁ Bd hml0 hP hK
  obtain ⟨rfl, hZ, hh⟩ := hP
  have hx := Bd.exec
  have hby := Bd.bytes
  have hml : c.maxLocals = 5 := hml0
  have hown : s.vm.findClass "com/example/xidr/xidr/xpath/values/AtomicTypeIsNumericPinLaw" = some m.cls := findClass_of_methodNamed Bd.named
  have hnm := (name_of_methodNamed Bd.named Bd.method).1
  have X0 : Stand p l e room_1 s m #[(.int xa)] below meth c s₁ [] 0 0 := Stand.of_body Bd
  have e0 : s₁.heap = h0 := by rw [← hh, Bd.state]; rfl
  have N0 := Fr.nil n0
  have pre0 : ∀ t, Steps p.tables e below (s₁.setTop (mkF m 0 #[.val (.int xa), .unset, .unset, .unset, .unset] [])) t → Steps p.tables e below (s₁.setTop (entryFrame m #[(.int xa)] maxLocals)) t := fun t k => castTop (ef_rm0 m xa) k
  have pre1 : ∀ t, Steps p.tables e below (s₁.setTop (mkF m 2 #[.val (.int xa), .unset, .unset, .unset, .unset] [(.int (26 : Int32))])) t → Steps p.tables e below (s₁.setTop (entryFrame m #[(.int xa)] maxLocals)) t := by
    intro t k
    refine pre0 t ?_
    refine XS.bipush X0.here hx rfl (hb hby at_0) ?_
    show Steps p.tables e below (s₁.setTop (mkF m 2 #[.val (.int xa), .unset, .unset, .unset, .unset] [(.int (26 : Int32))])) _
    exact k
  obtain ⟨T2, h2, k2, X2, e2, E2, A2, O2, st2⟩ := newR X0 hx hZ hown (hw _ (List.mem_of_getElem? (i := 0) rfl)) (hw _ (List.mem_of_getElem? (i := 1) rfl)) e0 (g := (mkF m 2 #[.val (.int xa), .unset, .unset, .unset, .unset] [(.int (26 : Int32))])) rfl (hb hby at_2) rfl (by decide) (cap := 26) (by decide) (by decide) (by decide) (by decide)
  obtain ⟨b2, g2⟩ : ∃ z, z = h0.size := ⟨_, rfl⟩
  rw [← g2] at A2 st2
  have g_b2 : n0 ≤ b2 := Nat.le_trans Z0 (Nat.le_of_eq g2.symm)
  have sz_b2 : h0.size ≤ b2 := Nat.le_trans (Keep.refl h0 ([] : List Addr)).1 (Nat.le_of_eq g2.symm)
  have K2 : Keep h0 h2 ([] : List Addr) := (Keep.refl h0 ([] : List Addr)).ext E2
  have z2 : n0 ≤ h2.size := Nat.le_trans Z0 K2.1
  have V_b2 : Arv Z h2 b2 k2 (.object "com/example/xidr/xidr/xpath/values/AtomicType") (26 : Int32) [.null, .null, .null, .null, .null, .null, .null, .null, .null, .null, .null, .null, .null, .null, .null, .null, .null, .null, .null, .null, .null, .null, .null, .null, .null, .null] .null := (Arv.new A2 (by decide)).pad (pad_rep [] .null 26)
  have X2 : Stand p l e _ s m _ below meth c T2 _ 1 26 := X2
  have pre3 : ∀ t, Steps p.tables e below (T2.setTop (mkF m 5 #[.val (.int xa), .unset, .unset, .unset, .unset] [(.ref b2)])) t → Steps p.tables e below (s₁.setTop (entryFrame m #[(.int xa)] maxLocals)) t := fun t k => pre1 t (st2 t k)
  have f4 := (S_ANY_ATOMIC_TYPE.ext E2)
  have pre6 : ∀ t, Steps p.tables e below (T2.setTop (mkF m 7 #[.val (.int xa), .unset, .unset, .unset, .unset] [(.int (0 : Int32)), (.ref b2), (.ref b2)])) t → Steps p.tables e below (s₁.setTop (entryFrame m #[(.int xa)] maxLocals)) t := by
    intro t k
    refine pre3 t ?_
    refine XS.dup X2.here hx rfl (hb hby at_5) rfl rfl ?_
    show Steps p.tables e below (T2.setTop (mkF m 6 #[.val (.int xa), .unset, .unset, .unset, .unset] [(.ref b2), (.ref b2)])) _
    refine XS.iconst X2.here hx rfl (hb hby at_6) ?_
    show Steps p.tables e below (T2.setTop (mkF m 7 #[.val (.int xa), .unset, .unset, .unset, .unset] [(.int (0 : Int32)), (.ref b2), (.ref b2)])) _
    exact k
  obtain ⟨T5, X5, e5, st5⟩ := getS2 X2 hx hZ hown (host := "") (Or.inl (hw _ (List.mem_of_getElem? (i := 2) rfl))) Via.refl e2 f4 (g := (mkF m 7 #[.val (.int xa), .unset, .unset, .unset, .unset] [(.int (0 : Int32)), (.ref b2), (.ref b2)])) rfl (hb hby at_7)
  have pre7 : ∀ t, Steps p.tables e below (T5.setTop (mkF m 10 #[.val (.int xa), .unset, .unset, .unset, .unset] [(.ref w_ANY_ATOMIC_TYPE), (.int (0 : Int32)), (.ref b2), (.ref b2)])) t → Steps p.tables e below (s₁.setTop (entryFrame m #[(.int xa)] maxLocals)) t := fun t k => pre6 t (st5 t k)
  obtain ⟨c8, a8, q8, s8, m8, i8, u8⟩ := id V_b2
  have f9 := (E_ANY_ATOMIC_TYPE.ext E2)
  obtain ⟨T10, h10, X10, e10, W10, st10⟩ := stR X5 hx hZ e5 a8 (j := (0 : Int32)) (inb_of s8 ⟨by decide, by decide⟩) rfl (Sto.ofV a8 q8 O2 (Ins.self f9)) (g := (mkF m 10 #[.val (.int xa), .unset, .unset, .unset, .unset] [(.ref w_ANY_ATOMIC_TYPE), (.int (0 : Int32)), (.ref b2), (.ref b2)])) rfl rfl (hb hby at_10)
  have K10 : Keep h0 h10 ([] : List Addr) := K2.wr W10 (Or.inr sz_b2)
  have z10 : n0 ≤ h10.size := Nat.le_trans Z0 K10.1
  have N10 := Fr.snoc X10 N0 g_b2
  have V10 : Arv Z h10 b2 k2 (.object "com/example/xidr/xidr/xpath/values/AtomicType") (26 : Int32) [(.ref w_ANY_ATOMIC_TYPE), .null, .null, .null, .null, .null, .null, .null, .null, .null, .null, .null, .null, .null, .null, .null, .null, .null, .null, .null, .null, .null, .null, .null, .null, .null] .null := Arv.set a8 q8 s8 m8 i8 u8 rfl W10 0 rfl (Nat.le_of_ble_eq_true rfl)
  have pre11 : ∀ t, Steps p.tables e below (T10.setTop (mkF m 11 #[.val (.int xa), .unset, .unset, .unset, .unset] [(.ref b2)])) t → Steps p.tables e below (s₁.setTop (entryFrame m #[(.int xa)] maxLocals)) t := fun t k => pre7 t (st10 t k)
  have f12 := (S_UNTYPED_ATOMIC.ext (own_keep_ext K10))
  have pre14 : ∀ t, Steps p.tables e below (T10.setTop (mkF m 13 #[.val (.int xa), .unset, .unset, .unset, .unset] [(.int (1 : Int32)), (.ref b2), (.ref b2)])) t → Steps p.tables e below (s₁.setTop (entryFrame m #[(.int xa)] maxLocals)) t := by
    intro t k
    refine pre11 t ?_
    refine XS.dup X10.here hx rfl (hb hby at_11) rfl rfl ?_
    show Steps p.tables e below (T10.setTop (mkF m 12 #[.val (.int xa), .unset, .unset, .unset, .unset] [(.ref b2), (.ref b2)])) _
    refine XS.iconst X10.here hx rfl (hb hby at_12) ?_
    show Steps p.tables e below (T10.setTop (mkF m 13 #[.val (.int xa), .unset, .unset, .unset, .unset] [(.int (1 : Int32)), (.ref b2), (.ref b2)])) _
    exact k
  obtain ⟨T13, X13, e13, st13⟩ := getS2 X10 hx hZ hown (host := "") (Or.inl (hw _ (List.mem_of_getElem? (i := 6) rfl))) Via.refl e10 f12 (g := (mkF m 13 #[.val (.int xa), .unset, .unset, .unset, .unset] [(.int (1 : Int32)), (.ref b2), (.ref b2)])) rfl (hb hby at_13)
  have pre15 : ∀ t, Steps p.tables e below (T13.setTop (mkF m 16 #[.val (.int xa), .unset, .unset, .unset, .unset] [(.ref w_UNTYPED_ATOMIC), (.int (1 : Int32)), (.ref b2), (.ref b2)])) t → Steps p.tables e below (s₁.setTop (entryFrame m #[(.int xa)] maxLocals)) t := fun t k => pre14 t (st13 t k)
  obtain ⟨c16, a16, q16, s16, m16, i16, u16⟩ := id V10
  have f17 := (E_UNTYPED_ATOMIC.ext (own_keep_ext K10))
  obtain ⟨T18, h18, X18, e18, W18, st18⟩ := stR X13 hx hZ e13 a16 (j := (1 : Int32)) (inb_of s16 ⟨by decide, by decide⟩) rfl (Sto.ofV a16 q16 O2 (Ins.self f17)) (g := (mkF m 16 #[.val (.int xa), .unset, .unset, .unset, .unset] [(.ref w_UNTYPED_ATOMIC), (.int (1 : Int32)), (.ref b2), (.ref b2)])) rfl rfl (hb hby at_16)
  have K18 : Keep h0 h18 ([] : List Addr) := K10.wr W18 (Or.inr sz_b2)
  have z18 : n0 ≤ h18.size := Nat.le_trans Z0 K18.1
  have N18 := Fr.snoc X18 N10 g_b2
  have V18 : Arv Z h18 b2 k2 (.object "com/example/xidr/xidr/xpath/values/AtomicType") (26 : Int32) [(.ref w_ANY_ATOMIC_TYPE), (.ref w_UNTYPED_ATOMIC), .null, .null, .null, .null, .null, .null, .null, .null, .null, .null, .null, .null, .null, .null, .null, .null, .null, .null, .null, .null, .null, .null, .null, .null] .null := Arv.set a16 q16 s16 m16 i16 u16 rfl W18 1 rfl (Nat.le_of_ble_eq_true rfl)
  have pre19 : ∀ t, Steps p.tables e below (T18.setTop (mkF m 17 #[.val (.int xa), .unset, .unset, .unset, .unset] [(.ref b2)])) t → Steps p.tables e below (s₁.setTop (entryFrame m #[(.int xa)] maxLocals)) t := fun t k => pre15 t (st18 t k)
  have f20 := (S_STRING.ext (own_keep_ext K18))
  have pre22 : ∀ t, Steps p.tables e below (T18.setTop (mkF m 19 #[.val (.int xa), .unset, .unset, .unset, .unset] [(.int (2 : Int32)), (.ref b2), (.ref b2)])) t → Steps p.tables e below (s₁.setTop (entryFrame m #[(.int xa)] maxLocals)) t := by
    intro t k
    refine pre19 t ?_
    refine XS.dup X18.here hx rfl (hb hby at_17) rfl rfl ?_
    show Steps p.tables e below (T18.setTop (mkF m 18 #[.val (.int xa), .unset, .unset, .unset, .unset] [(.ref b2), (.ref b2)])) _
    refine XS.iconst X18.here hx rfl (hb hby at_18) ?_
    show Steps p.tables e below (T18.setTop (mkF m 19 #[.val (.int xa), .unset, .unset, .unset, .unset] [(.int (2 : Int32)), (.ref b2), (.ref b2)])) _
    exact k
  obtain ⟨T21, X21, e21, st21⟩ := getS2 X18 hx hZ hown (host := "") (Or.inl (hw _ (List.mem_of_getElem? (i := 8) rfl))) Via.refl e18 f20 (g := (mkF m 19 #[.val (.int xa), .unset, .unset, .unset, .unset] [(.int (2 : Int32)), (.ref b2), (.ref b2)])) rfl (hb hby at_19)
  have pre23 : ∀ t, Steps p.tables e below (T21.setTop (mkF m 22 #[.val (.int xa), .unset, .unset, .unset, .unset] [(.ref w_STRING), (.int (2 : Int32)), (.ref b2), (.ref b2)])) t → Steps p.tables e below (s₁.setTop (entryFrame m #[(.int xa)] maxLocals)) t := fun t k => pre22 t (st21 t k)
  obtain ⟨c24, a24, q24, s24, m24, i24, u24⟩ := id V18
  have f25 := (E_STRING.ext (own_keep_ext K18))
  obtain ⟨T26, h26, X26, e26, W26, st26⟩ := stR X21 hx hZ e21 a24 (j := (2 : Int32)) (inb_of s24 ⟨by decide, by decide⟩) rfl (Sto.ofV a24 q24 O2 (Ins.self f25)) (g := (mkF m 22 #[.val (.int xa), .unset, .unset, .unset, .unset] [(.ref w_STRING), (.int (2 : Int32)), (.ref b2), (.ref b2)])) rfl rfl (hb hby at_22)
  have K26 : Keep h0 h26 ([] : List Addr) := K18.wr W26 (Or.inr sz_b2)
  have z26 : n0 ≤ h26.size := Nat.le_trans Z0 K26.1
  have N26 := Fr.snoc X26 N18 g_b2
  have V26 : Arv Z h26 b2 k2 (.object "com/example/xidr/xidr/xpath/values/AtomicType") (26 : Int32) [(.ref w_ANY_ATOMIC_TYPE), (.ref w_UNTYPED_ATOMIC), (.ref w_STRING), .null, .null, .null, .null, .null, .null, .null, .null, .null, .null, .null, .null, .null, .null, .null, .null, .null, .null, .null, .null, .null, .null, .null] .null := Arv.set a24 q24 s24 m24 i24 u24 rfl W26 2 rfl (Nat.le_of_ble_eq_true rfl)
  have pre27 : ∀ t, Steps p.tables e below (T26.setTop (mkF m 23 #[.val (.int xa), .unset, .unset, .unset, .unset] [(.ref b2)])) t → Steps p.tables e below (s₁.setTop (entryFrame m #[(.int xa)] maxLocals)) t := fun t k => pre23 t (st26 t k)
  have f28 := (S_BOOLEAN.ext (own_keep_ext K26))
  have pre30 : ∀ t, Steps p.tables e below (T26.setTop (mkF m 25 #[.val (.int xa), .unset, .unset, .unset, .unset] [(.int (3 : Int32)), (.ref b2), (.ref b2)])) t → Steps p.tables e below (s₁.setTop (entryFrame m #[(.int xa)] maxLocals)) t := by
    intro t k
    refine pre27 t ?_
    refine XS.dup X26.here hx rfl (hb hby at_23) rfl rfl ?_
    show Steps p.tables e below (T26.setTop (mkF m 24 #[.val (.int xa), .unset, .unset, .unset, .unset] [(.ref b2), (.ref b2)])) _
    refine XS.iconst X26.here hx rfl (hb hby at_24) ?_
    show Steps p.tables e below (T26.setTop (mkF m 25 #[.val (.int xa), .unset, .unset, .unset, .unset] [(.int (3 : Int32)), (.ref b2), (.ref b2)])) _
    exact k
  obtain ⟨T29, X29, e29, st29⟩ := getS2 X26 hx hZ hown (host := "") (Or.inl (hw _ (List.mem_of_getElem? (i := 10) rfl))) Via.refl e26 f28 (g := (mkF m 25 #[.val (.int xa), .unset, .unset, .unset, .unset] [(.int (3 : Int32)), (.ref b2), (.ref b2)])) rfl (hb hby at_25)
  have pre31 : ∀ t, Steps p.tables e below (T29.setTop (mkF m 28 #[.val (.int xa), .unset, .unset, .unset, .unset] [(.ref w_BOOLEAN), (.int (3 : Int32)), (.ref b2), (.ref b2)])) t → Steps p.tables e below (s₁.setTop (entryFrame m #[(.int xa)] maxLocals)) t := fun t k => pre30 t (st29 t k)
  obtain ⟨c32, a32, q32, s32, m32, i32, u32⟩ := id V26
  have f33 := (E_BOOLEAN.ext (own_keep_ext K26))
  obtain ⟨T34, h34, X34, e34, W34, st34⟩ := stR X29 hx hZ e29 a32 (j := (3 : Int32)) (inb_of s32 ⟨by decide, by decide⟩) rfl (Sto.ofV a32 q32 O2 (Ins.self f33)) (g := (mkF m 28 #[.val (.int xa), .unset, .unset, .unset, .unset] [(.ref w_BOOLEAN), (.int (3 : Int32)), (.ref b2), (.ref b2)])) rfl rfl (hb hby at_28)
  have K34 : Keep h0 h34 ([] : List Addr) := K26.wr W34 (Or.inr sz_b2)
  have z34 : n0 ≤ h34.size := Nat.le_trans Z0 K34.1
  have N34 := Fr.snoc X34 N26 g_b2
  have V34 : Arv Z h34 b2 k2 (.object "com/example/xidr/xidr/xpath/values/AtomicType") (26 : Int32) [(.ref w_ANY_ATOMIC_TYPE), (.ref w_UNTYPED_ATOMIC), (.ref w_STRING), (.ref w_BOOLEAN), .null, .null, .null, .null, .null, .null, .null, .null, .null, .null, .null, .null, .null, .null, .null, .null, .null, .null, .null, .null, .null, .null] .null := Arv.set a32 q32 s32 m32 i32 u32 rfl W34 3 rfl (Nat.le_of_ble_eq_true rfl)
  have pre35 : ∀ t, Steps p.tables e below (T34.setTop (mkF m 29 #[.val (.int xa), .unset, .unset, .unset, .unset] [(.ref b2)])) t → Steps p.tables e below (s₁.setTop (entryFrame m #[(.int xa)] maxLocals)) t := fun t k => pre31 t (st34 t k)
  have f36 := (S_DECIMAL.ext (own_keep_ext K34))
  have pre38 : ∀ t, Steps p.tables e below (T34.setTop (mkF m 31 #[.val (.int xa), .unset, .unset, .unset, .unset] [(.int (4 : Int32)), (.ref b2), (.ref b2)])) t → Steps p.tables e below (s₁.setTop (entryFrame m #[(.int xa)] maxLocals)) t := by
    intro t k
    refine pre35 t ?_
    refine XS.dup X34.here hx rfl (hb hby at_29) rfl rfl ?_
    show Steps p.tables e below (T34.setTop (mkF m 30 #[.val (.int xa), .unset, .unset, .unset, .unset] [(.ref b2), (.ref b2)])) _
    refine XS.iconst X34.here hx rfl (hb hby at_30) ?_
    show Steps p.tables e below (T34.setTop (mkF m 31 #[.val (.int xa), .unset, .unset, .unset, .unset] [(.int (4 : Int32)), (.ref b2), (.ref b2)])) _
    exact k
  obtain ⟨T37, X37, e37, st37⟩ := getS2 X34 hx hZ hown (host := "") (Or.inl (hw _ (List.mem_of_getElem? (i := 12) rfl))) Via.refl e34 f36 (g := (mkF m 31 #[.val (.int xa), .unset, .unset, .unset, .unset] [(.int (4 : Int32)), (.ref b2), (.ref b2)])) rfl (hb hby at_31)
  have pre39 : ∀ t, Steps p.tables e below (T37.setTop (mkF m 34 #[.val (.int xa), .unset, .unset, .unset, .unset] [(.ref w_DECIMAL), (.int (4 : Int32)), (.ref b2), (.ref b2)])) t → Steps p.tables e below (s₁.setTop (entryFrame m #[(.int xa)] maxLocals)) t := fun t k => pre38 t (st37 t k)
  obtain ⟨c40, a40, q40, s40, m40, i40, u40⟩ := id V34
  have f41 := (E_DECIMAL.ext (own_keep_ext K34))
  obtain ⟨T42, h42, X42, e42, W42, st42⟩ := stR X37 hx hZ e37 a40 (j := (4 : Int32)) (inb_of s40 ⟨by decide, by decide⟩) rfl (Sto.ofV a40 q40 O2 (Ins.self f41)) (g := (mkF m 34 #[.val (.int xa), .unset, .unset, .unset, .unset] [(.ref w_DECIMAL), (.int (4 : Int32)), (.ref b2), (.ref b2)])) rfl rfl (hb hby at_34)
  have K42 : Keep h0 h42 ([] : List Addr) := K34.wr W42 (Or.inr sz_b2)
  have z42 : n0 ≤ h42.size := Nat.le_trans Z0 K42.1
  have N42 := Fr.snoc X42 N34 g_b2
  have V42 : Arv Z h42 b2 k2 (.object "com/example/xidr/xidr/xpath/values/AtomicType") (26 : Int32) [(.ref w_ANY_ATOMIC_TYPE), (.ref w_UNTYPED_ATOMIC), (.ref w_STRING), (.ref w_BOOLEAN), (.ref w_DECIMAL), .null, .null, .null, .null, .null, .null, .null, .null, .null, .null, .null, .null, .null, .null, .null, .null, .null, .null, .null, .null, .null] .null := Arv.set a40 q40 s40 m40 i40 u40 rfl W42 4 rfl (Nat.le_of_ble_eq_true rfl)
  have pre43 : ∀ t, Steps p.tables e below (T42.setTop (mkF m 35 #[.val (.int xa), .unset, .unset, .unset, .unset] [(.ref b2)])) t → Steps p.tables e below (s₁.setTop (entryFrame m #[(.int xa)] maxLocals)) t := fun t k => pre39 t (st42 t k)
  have f44 := (S_INTEGER.ext (own_keep_ext K42))
  have pre46 : ∀ t, Steps p.tables e below (T42.setTop (mkF m 37 #[.val (.int xa), .unset, .unset, .unset, .unset] [(.int (5 : Int32)), (.ref b2), (.ref b2)])) t → Steps p.tables e below (s₁.setTop (entryFrame m #[(.int xa)] maxLocals)) t := by
    intro t k
    refine pre43 t ?_
    refine XS.dup X42.here hx rfl (hb hby at_35) rfl rfl ?_
    show Steps p.tables e below (T42.setTop (mkF m 36 #[.val (.int xa), .unset, .unset, .unset, .unset] [(.ref b2), (.ref b2)])) _
    refine XS.iconst X42.here hx rfl (hb hby at_36) ?_
    show Steps p.tables e below (T42.setTop (mkF m 37 #[.val (.int xa), .unset, .unset, .unset, .unset] [(.int (5 : Int32)), (.ref b2), (.ref b2)])) _
    exact k
  obtain ⟨T45, X45, e45, st45⟩ := getS2 X42 hx hZ hown (host := "") (Or.inl (hw _ (List.mem_of_getElem? (i := 14) rfl))) Via.refl e42 f44 (g := (mkF m 37 #[.val (.int xa), .unset, .unset, .unset, .unset] [(.int (5 : Int32)), (.ref b2), (.ref b2)])) rfl (hb hby at_37)
  have pre47 : ∀ t, Steps p.tables e below (T45.setTop (mkF m 40 #[.val (.int xa), .unset, .unset, .unset, .unset] [(.ref w_INTEGER), (.int (5 : Int32)), (.ref b2), (.ref b2)])) t → Steps p.tables e below (s₁.setTop (entryFrame m #[(.int xa)] maxLocals)) t := fun t k => pre46 t (st45 t k)
  obtain ⟨c48, a48, q48, s48, m48, i48, u48⟩ := id V42
  have f49 := (E_INTEGER.ext (own_keep_ext K42))
  obtain ⟨T50, h50, X50, e50, W50, st50⟩ := stR X45 hx hZ e45 a48 (j := (5 : Int32)) (inb_of s48 ⟨by decide, by decide⟩) rfl (Sto.ofV a48 q48 O2 (Ins.self f49)) (g := (mkF m 40 #[.val (.int xa), .unset, .unset, .unset, .unset] [(.ref w_INTEGER), (.int (5 : Int32)), (.ref b2), (.ref b2)])) rfl rfl (hb hby at_40)
  have K50 : Keep h0 h50 ([] : List Addr) := K42.wr W50 (Or.inr sz_b2)
  have z50 : n0 ≤ h50.size := Nat.le_trans Z0 K50.1
  have N50 := Fr.snoc X50 N42 g_b2
  have V50 : Arv Z h50 b2 k2 (.object "com/example/xidr/xidr/xpath/values/AtomicType") (26 : Int32) [(.ref w_ANY_ATOMIC_TYPE), (.ref w_UNTYPED_ATOMIC), (.ref w_STRING), (.ref w_BOOLEAN), (.ref w_DECIMAL), (.ref w_INTEGER), .null, .null, .null, .null, .null, .null, .null, .null, .null, .null, .null, .null, .null, .null, .null, .null, .null, .null, .null, .null] .null := Arv.set a48 q48 s48 m48 i48 u48 rfl W50 5 rfl (Nat.le_of_ble_eq_true rfl)
  have pre51 : ∀ t, Steps p.tables e below (T50.setTop (mkF m 41 #[.val (.int xa), .unset, .unset, .unset, .unset] [(.ref b2)])) t → Steps p.tables e below (s₁.setTop (entryFrame m #[(.int xa)] maxLocals)) t := fun t k => pre47 t (st50 t k)
  have f52 := (S_NON_POSITIVE_INTEGER.ext (own_keep_ext K50))
  have pre54 : ∀ t, Steps p.tables e below (T50.setTop (mkF m 44 #[.val (.int xa), .unset, .unset, .unset, .unset] [(.int (6 : Int32)), (.ref b2), (.ref b2)])) t → Steps p.tables e below (s₁.setTop (entryFrame m #[(.int xa)] maxLocals)) t := by
    intro t k
    refine pre51 t ?_
    refine XS.dup X50.here hx rfl (hb hby at_41) rfl rfl ?_
    show Steps p.tables e below (T50.setTop (mkF m 42 #[.val (.int xa), .unset, .unset, .unset, .unset] [(.ref b2), (.ref b2)])) _
    refine XS.bipush X50.here hx rfl (hb hby at_42) ?_
    show Steps p.tables e below (T50.setTop (mkF m 44 #[.val (.int xa), .unset, .unset, .unset, .unset] [(.int (6 : Int32)), (.ref b2), (.ref b2)])) _
    exact k
  obtain ⟨T53, X53, e53, st53⟩ := getS2 X50 hx hZ hown (host := "") (Or.inl (hw _ (List.mem_of_getElem? (i := 16) rfl))) Via.refl e50 f52 (g := (mkF m 44 #[.val (.int xa), .unset, .unset, .unset, .unset] [(.int (6 : Int32)), (.ref b2), (.ref b2)])) rfl (hb hby at_44)
  have pre55 : ∀ t, Steps p.tables e below (T53.setTop (mkF m 47 #[.val (.int xa), .unset, .unset, .unset, .unset] [(.ref w_NON_POSITIVE_INTEGER), (.int (6 : Int32)), (.ref b2), (.ref b2)])) t → Steps p.tables e below (s₁.setTop (entryFrame m #[(.int xa)] maxLocals)) t := fun t k => pre54 t (st53 t k)
  obtain ⟨c56, a56, q56, s56, m56, i56, u56⟩ := id V50
  have f57 := (E_NON_POSITIVE_INTEGER.ext (own_keep_ext K50))
  obtain ⟨T58, h58, X58, e58, W58, st58⟩ := stR X53 hx hZ e53 a56 (j := (6 : Int32)) (inb_of s56 ⟨by decide, by decide⟩) rfl (Sto.ofV a56 q56 O2 (Ins.self f57)) (g := (mkF m 47 #[.val (.int xa), .unset, .unset, .unset, .unset] [(.ref w_NON_POSITIVE_INTEGER), (.int (6 : Int32)), (.ref b2), (.ref b2)])) rfl rfl (hb hby at_47)
  have K58 : Keep h0 h58 ([] : List Addr) := K50.wr W58 (Or.inr sz_b2)
  have z58 : n0 ≤ h58.size := Nat.le_trans Z0 K58.1
  have N58 := Fr.snoc X58 N50 g_b2
  have V58 : Arv Z h58 b2 k2 (.object "com/example/xidr/xidr/xpath/values/AtomicType") (26 : Int32) [(.ref w_ANY_ATOMIC_TYPE), (.ref w_UNTYPED_ATOMIC), (.ref w_STRING), (.ref w_BOOLEAN), (.ref w_DECIMAL), (.ref w_INTEGER), (.ref w_NON_POSITIVE_INTEGER), .null, .null, .null, .null, .null, .null, .null, .null, .null, .null, .null, .null, .null, .null, .null, .null, .null, .null, .null] .null := Arv.set a56 q56 s56 m56 i56 u56 rfl W58 6 rfl (Nat.le_of_ble_eq_true rfl)
  have pre59 : ∀ t, Steps p.tables e below (T58.setTop (mkF m 48 #[.val (.int xa), .unset, .unset, .unset, .unset] [(.ref b2)])) t → Steps p.tables e below (s₁.setTop (entryFrame m #[(.int xa)] maxLocals)) t := fun t k => pre55 t (st58 t k)
  have f60 := (S_NEGATIVE_INTEGER.ext (own_keep_ext K58))
  have pre62 : ∀ t, Steps p.tables e below (T58.setTop (mkF m 51 #[.val (.int xa), .unset, .unset, .unset, .unset] [(.int (7 : Int32)), (.ref b2), (.ref b2)])) t → Steps p.tables e below (s₁.setTop (entryFrame m #[(.int xa)] maxLocals)) t := by
    intro t k
    refine pre59 t ?_
    refine XS.dup X58.here hx rfl (hb hby at_48) rfl rfl ?_
    show Steps p.tables e below (T58.setTop (mkF m 49 #[.val (.int xa), .unset, .unset, .unset, .unset] [(.ref b2), (.ref b2)])) _
    refine XS.bipush X58.here hx rfl (hb hby at_49) ?_
    show Steps p.tables e below (T58.setTop (mkF m 51 #[.val (.int xa), .unset, .unset, .unset, .unset] [(.int (7 : Int32)), (.ref b2), (.ref b2)])) _
    exact k
  obtain ⟨T61, X61, e61, st61⟩ := getS2 X58 hx hZ hown (host := "") (Or.inl (hw _ (List.mem_of_getElem? (i := 18) rfl))) Via.refl e58 f60 (g := (mkF m 51 #[.val (.int xa), .unset, .unset, .unset, .unset] [(.int (7 : Int32)), (.ref b2), (.ref b2)])) rfl (hb hby at_51)
  have pre63 : ∀ t, Steps p.tables e below (T61.setTop (mkF m 54 #[.val (.int xa), .unset, .unset, .unset, .unset] [(.ref w_NEGATIVE_INTEGER), (.int (7 : Int32)), (.ref b2), (.ref b2)])) t → Steps p.tables e below (s₁.setTop (entryFrame m #[(.int xa)] maxLocals)) t := fun t k => pre62 t (st61 t k)
  obtain ⟨c64, a64, q64, s64, m64, i64, u64⟩ := id V58
  have f65 := (E_NEGATIVE_INTEGER.ext (own_keep_ext K58))
  obtain ⟨T66, h66, X66, e66, W66, st66⟩ := stR X61 hx hZ e61 a64 (j := (7 : Int32)) (inb_of s64 ⟨by decide, by decide⟩) rfl (Sto.ofV a64 q64 O2 (Ins.self f65)) (g := (mkF m 54 #[.val (.int xa), .unset, .unset, .unset, .unset] [(.ref w_NEGATIVE_INTEGER), (.int (7 : Int32)), (.ref b2), (.ref b2)])) rfl rfl (hb hby at_54)
  have K66 : Keep h0 h66 ([] : List Addr) := K58.wr W66 (Or.inr sz_b2)
  have z66 : n0 ≤ h66.size := Nat.le_trans Z0 K66.1
  have N66 := Fr.snoc X66 N58 g_b2
  have V66 : Arv Z h66 b2 k2 (.object "com/example/xidr/xidr/xpath/values/AtomicType") (26 : Int32) [(.ref w_ANY_ATOMIC_TYPE), (.ref w_UNTYPED_ATOMIC), (.ref w_STRING), (.ref w_BOOLEAN), (.ref w_DECIMAL), (.ref w_INTEGER), (.ref w_NON_POSITIVE_INTEGER), (.ref w_NEGATIVE_INTEGER), .null, .null, .null, .null, .null, .null, .null, .null, .null, .null, .null, .null, .null, .null, .null, .null, .null, .null] .null := Arv.set a64 q64 s64 m64 i64 u64 rfl W66 7 rfl (Nat.le_of_ble_eq_true rfl)
  have pre67 : ∀ t, Steps p.tables e below (T66.setTop (mkF m 55 #[.val (.int xa), .unset, .unset, .unset, .unset] [(.ref b2)])) t → Steps p.tables e below (s₁.setTop (entryFrame m #[(.int xa)] maxLocals)) t := fun t k => pre63 t (st66 t k)
  have f68 := (S_LONG.ext (own_keep_ext K66))
  have pre70 : ∀ t, Steps p.tables e below (T66.setTop (mkF m 58 #[.val (.int xa), .unset, .unset, .unset, .unset] [(.int (8 : Int32)), (.ref b2), (.ref b2)])) t → Steps p.tables e below (s₁.setTop (entryFrame m #[(.int xa)] maxLocals)) t := by
    intro t k
    refine pre67 t ?_
    refine XS.dup X66.here hx rfl (hb hby at_55) rfl rfl ?_
    show Steps p.tables e below (T66.setTop (mkF m 56 #[.val (.int xa), .unset, .unset, .unset, .unset] [(.ref b2), (.ref b2)])) _
    refine XS.bipush X66.here hx rfl (hb hby at_56) ?_
    show Steps p.tables e below (T66.setTop (mkF m 58 #[.val (.int xa), .unset, .unset, .unset, .unset] [(.int (8 : Int32)), (.ref b2), (.ref b2)])) _
    exact k
  obtain ⟨T69, X69, e69, st69⟩ := getS2 X66 hx hZ hown (host := "") (Or.inl (hw _ (List.mem_of_getElem? (i := 20) rfl))) Via.refl e66 f68 (g := (mkF m 58 #[.val (.int xa), .unset, .unset, .unset, .unset] [(.int (8 : Int32)), (.ref b2), (.ref b2)])) rfl (hb hby at_58)
  have pre71 : ∀ t, Steps p.tables e below (T69.setTop (mkF m 61 #[.val (.int xa), .unset, .unset, .unset, .unset] [(.ref w_LONG), (.int (8 : Int32)), (.ref b2), (.ref b2)])) t → Steps p.tables e below (s₁.setTop (entryFrame m #[(.int xa)] maxLocals)) t := fun t k => pre70 t (st69 t k)
  obtain ⟨c72, a72, q72, s72, m72, i72, u72⟩ := id V66
  have f73 := (E_LONG.ext (own_keep_ext K66))
  obtain ⟨T74, h74, X74, e74, W74, st74⟩ := stR X69 hx hZ e69 a72 (j := (8 : Int32)) (inb_of s72 ⟨by decide, by decide⟩) rfl (Sto.ofV a72 q72 O2 (Ins.self f73)) (g := (mkF m 61 #[.val (.int xa), .unset, .unset, .unset, .unset] [(.ref w_LONG), (.int (8 : Int32)), (.ref b2), (.ref b2)])) rfl rfl (hb hby at_61)
  have K74 : Keep h0 h74 ([] : List Addr) := K66.wr W74 (Or.inr sz_b2)
  have z74 : n0 ≤ h74.size := Nat.le_trans Z0 K74.1
  have N74 := Fr.snoc X74 N66 g_b2
  have V74 : Arv Z h74 b2 k2 (.object "com/example/xidr/xidr/xpath/values/AtomicType") (26 : Int32) [(.ref w_ANY_ATOMIC_TYPE), (.ref w_UNTYPED_ATOMIC), (.ref w_STRING), (.ref w_BOOLEAN), (.ref w_DECIMAL), (.ref w_INTEGER), (.ref w_NON_POSITIVE_INTEGER), (.ref w_NEGATIVE_INTEGER), (.ref w_LONG), .null, .null, .null, .null, .null, .null, .null, .null, .null, .null, .null, .null, .null, .null, .null, .null, .null] .null := Arv.set a72 q72 s72 m72 i72 u72 rfl W74 8 rfl (Nat.le_of_ble_eq_true rfl)
  have pre75 : ∀ t, Steps p.tables e below (T74.setTop (mkF m 62 #[.val (.int xa), .unset, .unset, .unset, .unset] [(.ref b2)])) t → Steps p.tables e below (s₁.setTop (entryFrame m #[(.int xa)] maxLocals)) t := fun t k => pre71 t (st74 t k)
  have f76 := (S_INT.ext (own_keep_ext K74))
  have pre78 : ∀ t, Steps p.tables e below (T74.setTop (mkF m 65 #[.val (.int xa), .unset, .unset, .unset, .unset] [(.int (9 : Int32)), (.ref b2), (.ref b2)])) t → Steps p.tables e below (s₁.setTop (entryFrame m #[(.int xa)] maxLocals)) t := by
    intro t k
    refine pre75 t ?_
    refine XS.dup X74.here hx rfl (hb hby at_62) rfl rfl ?_
    show Steps p.tables e below (T74.setTop (mkF m 63 #[.val (.int xa), .unset, .unset, .unset, .unset] [(.ref b2), (.ref b2)])) _
    refine XS.bipush X74.here hx rfl (hb hby at_63) ?_
    show Steps p.tables e below (T74.setTop (mkF m 65 #[.val (.int xa), .unset, .unset, .unset, .unset] [(.int (9 : Int32)), (.ref b2), (.ref b2)])) _
    exact k
  obtain ⟨T77, X77, e77, st77⟩ := getS2 X74 hx hZ hown (host := "") (Or.inl (hw _ (List.mem_of_getElem? (i := 22) rfl))) Via.refl e74 f76 (g := (mkF m 65 #[.val (.int xa), .unset, .unset, .unset, .unset] [(.int (9 : Int32)), (.ref b2), (.ref b2)])) rfl (hb hby at_65)
  have pre79 : ∀ t, Steps p.tables e below (T77.setTop (mkF m 68 #[.val (.int xa), .unset, .unset, .unset, .unset] [(.ref w_INT), (.int (9 : Int32)), (.ref b2), (.ref b2)])) t → Steps p.tables e below (s₁.setTop (entryFrame m #[(.int xa)] maxLocals)) t := fun t k => pre78 t (st77 t k)
  obtain ⟨c80, a80, q80, s80, m80, i80, u80⟩ := id V74
  have f81 := (E_INT.ext (own_keep_ext K74))
  obtain ⟨T82, h82, X82, e82, W82, st82⟩ := stR X77 hx hZ e77 a80 (j := (9 : Int32)) (inb_of s80 ⟨by decide, by decide⟩) rfl (Sto.ofV a80 q80 O2 (Ins.self f81)) (g := (mkF m 68 #[.val (.int xa), .unset, .unset, .unset, .unset] [(.ref w_INT), (.int (9 : Int32)), (.ref b2), (.ref b2)])) rfl rfl (hb hby at_68)
  have K82 : Keep h0 h82 ([] : List Addr) := K74.wr W82 (Or.inr sz_b2)
  have z82 : n0 ≤ h82.size := Nat.le_trans Z0 K82.1
  have N82 := Fr.snoc X82 N74 g_b2
  have V82 : Arv Z h82 b2 k2 (.object "com/example/xidr/xidr/xpath/values/AtomicType") (26 : Int32) [(.ref w_ANY_ATOMIC_TYPE), (.ref w_UNTYPED_ATOMIC), (.ref w_STRING), (.ref w_BOOLEAN), (.ref w_DECIMAL), (.ref w_INTEGER), (.ref w_NON_POSITIVE_INTEGER), (.ref w_NEGATIVE_INTEGER), (.ref w_LONG), (.ref w_INT), .null, .null, .null, .null, .null, .null, .null, .null, .null, .null, .null, .null, .null, .null, .null, .null] .null := Arv.set a80 q80 s80 m80 i80 u80 rfl W82 9 rfl (Nat.le_of_ble_eq_true rfl)
  have pre83 : ∀ t, Steps p.tables e below (T82.setTop (mkF m 69 #[.val (.int xa), .unset, .unset, .unset, .unset] [(.ref b2)])) t → Steps p.tables e below (s₁.setTop (entryFrame m #[(.int xa)] maxLocals)) t := fun t k => pre79 t (st82 t k)
  have f84 := (S_SHORT.ext (own_keep_ext K82))
  have pre86 : ∀ t, Steps p.tables e below (T82.setTop (mkF m 72 #[.val (.int xa), .unset, .unset, .unset, .unset] [(.int (10 : Int32)), (.ref b2), (.ref b2)])) t → Steps p.tables e below (s₁.setTop (entryFrame m #[(.int xa)] maxLocals)) t := by
    intro t k
    refine pre83 t ?_
    refine XS.dup X82.here hx rfl (hb hby at_69) rfl rfl ?_
    show Steps p.tables e below (T82.setTop (mkF m 70 #[.val (.int xa), .unset, .unset, .unset, .unset] [(.ref b2), (.ref b2)])) _
    refine XS.bipush X82.here hx rfl (hb hby at_70) ?_
    show Steps p.tables e below (T82.setTop (mkF m 72 #[.val (.int xa), .unset, .unset, .unset, .unset] [(.int (10 : Int32)), (.ref b2), (.ref b2)])) _
    exact k
  obtain ⟨T85, X85, e85, st85⟩ := getS2 X82 hx hZ hown (host := "") (Or.inl (hw _ (List.mem_of_getElem? (i := 24) rfl))) Via.refl e82 f84 (g := (mkF m 72 #[.val (.int xa), .unset, .unset, .unset, .unset] [(.int (10 : Int32)), (.ref b2), (.ref b2)])) rfl (hb hby at_72)
  have pre87 : ∀ t, Steps p.tables e below (T85.setTop (mkF m 75 #[.val (.int xa), .unset, .unset, .unset, .unset] [(.ref w_SHORT), (.int (10 : Int32)), (.ref b2), (.ref b2)])) t → Steps p.tables e below (s₁.setTop (entryFrame m #[(.int xa)] maxLocals)) t := fun t k => pre86 t (st85 t k)
  obtain ⟨c88, a88, q88, s88, m88, i88, u88⟩ := id V82
  have f89 := (E_SHORT.ext (own_keep_ext K82))
  obtain ⟨T90, h90, X90, e90, W90, st90⟩ := stR X85 hx hZ e85 a88 (j := (10 : Int32)) (inb_of s88 ⟨by decide, by decide⟩) rfl (Sto.ofV a88 q88 O2 (Ins.self f89)) (g := (mkF m 75 #[.val (.int xa), .unset, .unset, .unset, .unset] [(.ref w_SHORT), (.int (10 : Int32)), (.ref b2), (.ref b2)])) rfl rfl (hb hby at_75)
  have K90 : Keep h0 h90 ([] : List Addr) := K82.wr W90 (Or.inr sz_b2)
  have z90 : n0 ≤ h90.size := Nat.le_trans Z0 K90.1
  have N90 := Fr.snoc X90 N82 g_b2
  have V90 : Arv Z h90 b2 k2 (.object "com/example/xidr/xidr/xpath/values/AtomicType") (26 : Int32) [(.ref w_ANY_ATOMIC_TYPE), (.ref w_UNTYPED_ATOMIC), (.ref w_STRING), (.ref w_BOOLEAN), (.ref w_DECIMAL), (.ref w_INTEGER), (.ref w_NON_POSITIVE_INTEGER), (.ref w_NEGATIVE_INTEGER), (.ref w_LONG), (.ref w_INT), (.ref w_SHORT), .null, .null, .null, .null, .null, .null, .null, .null, .null, .null, .null, .null, .null, .null, .null] .null := Arv.set a88 q88 s88 m88 i88 u88 rfl W90 10 rfl (Nat.le_of_ble_eq_true rfl)
  have pre91 : ∀ t, Steps p.tables e below (T90.setTop (mkF m 76 #[.val (.int xa), .unset, .unset, .unset, .unset] [(.ref b2)])) t → Steps p.tables e below (s₁.setTop (entryFrame m #[(.int xa)] maxLocals)) t := fun t k => pre87 t (st90 t k)
  have f92 := (S_BYTE.ext (own_keep_ext K90))
  have pre94 : ∀ t, Steps p.tables e below (T90.setTop (mkF m 79 #[.val (.int xa), .unset, .unset, .unset, .unset] [(.int (11 : Int32)), (.ref b2), (.ref b2)])) t → Steps p.tables e below (s₁.setTop (entryFrame m #[(.int xa)] maxLocals)) t := by
    intro t k
    refine pre91 t ?_
    refine XS.dup X90.here hx rfl (hb hby at_76) rfl rfl ?_
    show Steps p.tables e below (T90.setTop (mkF m 77 #[.val (.int xa), .unset, .unset, .unset, .unset] [(.ref b2), (.ref b2)])) _
    refine XS.bipush X90.here hx rfl (hb hby at_77) ?_
    show Steps p.tables e below (T90.setTop (mkF m 79 #[.val (.int xa), .unset, .unset, .unset, .unset] [(.int (11 : Int32)), (.ref b2), (.ref b2)])) _
    exact k
  obtain ⟨T93, X93, e93, st93⟩ := getS2 X90 hx hZ hown (host := "") (Or.inl (hw _ (List.mem_of_getElem? (i := 26) rfl))) Via.refl e90 f92 (g := (mkF m 79 #[.val (.int xa), .unset, .unset, .unset, .unset] [(.int (11 : Int32)), (.ref b2), (.ref b2)])) rfl (hb hby at_79)
  have pre95 : ∀ t, Steps p.tables e below (T93.setTop (mkF m 82 #[.val (.int xa), .unset, .unset, .unset, .unset] [(.ref w_BYTE), (.int (11 : Int32)), (.ref b2), (.ref b2)])) t → Steps p.tables e below (s₁.setTop (entryFrame m #[(.int xa)] maxLocals)) t := fun t k => pre94 t (st93 t k)
  obtain ⟨c96, a96, q96, s96, m96, i96, u96⟩ := id V90
  have f97 := (E_BYTE.ext (own_keep_ext K90))
  obtain ⟨T98, h98, X98, e98, W98, st98⟩ := stR X93 hx hZ e93 a96 (j := (11 : Int32)) (inb_of s96 ⟨by decide, by decide⟩) rfl (Sto.ofV a96 q96 O2 (Ins.self f97)) (g := (mkF m 82 #[.val (.int xa), .unset, .unset, .unset, .unset] [(.ref w_BYTE), (.int (11 : Int32)), (.ref b2), (.ref b2)])) rfl rfl (hb hby at_82)
  have K98 : Keep h0 h98 ([] : List Addr) := K90.wr W98 (Or.inr sz_b2)
  have z98 : n0 ≤ h98.size := Nat.le_trans Z0 K98.1
  have N98 := Fr.snoc X98 N90 g_b2
  have V98 : Arv Z h98 b2 k2 (.object "com/example/xidr/xidr/xpath/values/AtomicType") (26 : Int32) [(.ref w_ANY_ATOMIC_TYPE), (.ref w_UNTYPED_ATOMIC), (.ref w_STRING), (.ref w_BOOLEAN), (.ref w_DECIMAL), (.ref w_INTEGER), (.ref w_NON_POSITIVE_INTEGER), (.ref w_NEGATIVE_INTEGER), (.ref w_LONG), (.ref w_INT), (.ref w_SHORT), (.ref w_BYTE), .null, .null, .null, .null, .null, .null, .null, .null, .null, .null, .null, .null, .null, .null] .null := Arv.set a96 q96 s96 m96 i96 u96 rfl W98 11 rfl (Nat.le_of_ble_eq_true rfl)
  have pre99 : ∀ t, Steps p.tables e below (T98.setTop (mkF m 83 #[.val (.int xa), .unset, .unset, .unset, .unset] [(.ref b2)])) t → Steps p.tables e below (s₁.setTop (entryFrame m #[(.int xa)] maxLocals)) t := fun t k => pre95 t (st98 t k)
  have f100 := (S_NON_NEGATIVE_INTEGER.ext (own_keep_ext K98))
  have pre102 : ∀ t, Steps p.tables e below (T98.setTop (mkF m 86 #[.val (.int xa), .unset, .unset, .unset, .unset] [(.int (12 : Int32)), (.ref b2), (.ref b2)])) t → Steps p.tables e below (s₁.setTop (entryFrame m #[(.int xa)] maxLocals)) t := by
    intro t k
    refine pre99 t ?_
    refine XS.dup X98.here hx rfl (hb hby at_83) rfl rfl ?_
    show Steps p.tables e below (T98.setTop (mkF m 84 #[.val (.int xa), .unset, .unset, .unset, .unset] [(.ref b2), (.ref b2)])) _
    refine XS.bipush X98.here hx rfl (hb hby at_84) ?_
    show Steps p.tables e below (T98.setTop (mkF m 86 #[.val (.int xa), .unset, .unset, .unset, .unset] [(.int (12 : Int32)), (.ref b2), (.ref b2)])) _
    exact k
  obtain ⟨T101, X101, e101, st101⟩ := getS2 X98 hx hZ hown (host := "") (Or.inl (hw _ (List.mem_of_getElem? (i := 28) rfl))) Via.refl e98 f100 (g := (mkF m 86 #[.val (.int xa), .unset, .unset, .unset, .unset] [(.int (12 : Int32)), (.ref b2), (.ref b2)])) rfl (hb hby at_86)
  have pre103 : ∀ t, Steps p.tables e below (T101.setTop (mkF m 89 #[.val (.int xa), .unset, .unset, .unset, .unset] [(.ref w_NON_NEGATIVE_INTEGER), (.int (12 : Int32)), (.ref b2), (.ref b2)])) t → Steps p.tables e below (s₁.setTop (entryFrame m #[(.int xa)] maxLocals)) t := fun t k => pre102 t (st101 t k)
  obtain ⟨c104, a104, q104, s104, m104, i104, u104⟩ := id V98
  have f105 := (E_NON_NEGATIVE_INTEGER.ext (own_keep_ext K98))
  obtain ⟨T106, h106, X106, e106, W106, st106⟩ := stR X101 hx hZ e101 a104 (j := (12 : Int32)) (inb_of s104 ⟨by decide, by decide⟩) rfl (Sto.ofV a104 q104 O2 (Ins.self f105)) (g := (mkF m 89 #[.val (.int xa), .unset, .unset, .unset, .unset] [(.ref w_NON_NEGATIVE_INTEGER), (.int (12 : Int32)), (.ref b2), (.ref b2)])) rfl rfl (hb hby at_89)
  have K106 : Keep h0 h106 ([] : List Addr) := K98.wr W106 (Or.inr sz_b2)
  have z106 : n0 ≤ h106.size := Nat.le_trans Z0 K106.1
  have N106 := Fr.snoc X106 N98 g_b2
  have V106 : Arv Z h106 b2 k2 (.object "com/example/xidr/xidr/xpath/values/AtomicType") (26 : Int32) [(.ref w_ANY_ATOMIC_TYPE), (.ref w_UNTYPED_ATOMIC), (.ref w_STRING), (.ref w_BOOLEAN), (.ref w_DECIMAL), (.ref w_INTEGER), (.ref w_NON_POSITIVE_INTEGER), (.ref w_NEGATIVE_INTEGER), (.ref w_LONG), (.ref w_INT), (.ref w_SHORT), (.ref w_BYTE), (.ref w_NON_NEGATIVE_INTEGER), .null, .null, .null, .null, .null, .null, .null, .null, .null, .null, .null, .null, .null] .null := Arv.set a104 q104 s104 m104 i104 u104 rfl W106 12 rfl (Nat.le_of_ble_eq_true rfl)
  have pre107 : ∀ t, Steps p.tables e below (T106.setTop (mkF m 90 #[.val (.int xa), .unset, .unset, .unset, .unset] [(.ref b2)])) t → Steps p.tables e below (s₁.setTop (entryFrame m #[(.int xa)] maxLocals)) t := fun t k => pre103 t (st106 t k)
  have f108 := (S_UNSIGNED_LONG.ext (own_keep_ext K106))
  have pre110 : ∀ t, Steps p.tables e below (T106.setTop (mkF m 93 #[.val (.int xa), .unset, .unset, .unset, .unset] [(.int (13 : Int32)), (.ref b2), (.ref b2)])) t → Steps p.tables e below (s₁.setTop (entryFrame m #[(.int xa)] maxLocals)) t := by
    intro t k
    refine pre107 t ?_
    refine XS.dup X106.here hx rfl (hb hby at_90) rfl rfl ?_
    show Steps p.tables e below (T106.setTop (mkF m 91 #[.val (.int xa), .unset, .unset, .unset, .unset] [(.ref b2), (.ref b2)])) _
    refine XS.bipush X106.here hx rfl (hb hby at_91) ?_
    show Steps p.tables e below (T106.setTop (mkF m 93 #[.val (.int xa), .unset, .unset, .unset, .unset] [(.int (13 : Int32)), (.ref b2), (.ref b2)])) _
    exact k
  obtain ⟨T109, X109, e109, st109⟩ := getS2 X106 hx hZ hown (host := "") (Or.inl (hw _ (List.mem_of_getElem? (i := 30) rfl))) Via.refl e106 f108 (g := (mkF m 93 #[.val (.int xa), .unset, .unset, .unset, .unset] [(.int (13 : Int32)), (.ref b2), (.ref b2)])) rfl (hb hby at_93)
  have pre111 : ∀ t, Steps p.tables e below (T109.setTop (mkF m 96 #[.val (.int xa), .unset, .unset, .unset, .unset] [(.ref w_UNSIGNED_LONG), (.int (13 : Int32)), (.ref b2), (.ref b2)])) t → Steps p.tables e below (s₁.setTop (entryFrame m #[(.int xa)] maxLocals)) t := fun t k => pre110 t (st109 t k)
  obtain ⟨c112, a112, q112, s112, m112, i112, u112⟩ := id V106
  have f113 := (E_UNSIGNED_LONG.ext (own_keep_ext K106))
  obtain ⟨T114, h114, X114, e114, W114, st114⟩ := stR X109 hx hZ e109 a112 (j := (13 : Int32)) (inb_of s112 ⟨by decide, by decide⟩) rfl (Sto.ofV a112 q112 O2 (Ins.self f113)) (g := (mkF m 96 #[.val (.int xa), .unset, .unset, .unset, .unset] [(.ref w_UNSIGNED_LONG), (.int (13 : Int32)), (.ref b2), (.ref b2)])) rfl rfl (hb hby at_96)
  have K114 : Keep h0 h114 ([] : List Addr) := K106.wr W114 (Or.inr sz_b2)
  have z114 : n0 ≤ h114.size := Nat.le_trans Z0 K114.1
  have N114 := Fr.snoc X114 N106 g_b2
  have V114 : Arv Z h114 b2 k2 (.object "com/example/xidr/xidr/xpath/values/AtomicType") (26 : Int32) [(.ref w_ANY_ATOMIC_TYPE), (.ref w_UNTYPED_ATOMIC), (.ref w_STRING), (.ref w_BOOLEAN), (.ref w_DECIMAL), (.ref w_INTEGER), (.ref w_NON_POSITIVE_INTEGER), (.ref w_NEGATIVE_INTEGER), (.ref w_LONG), (.ref w_INT), (.ref w_SHORT), (.ref w_BYTE), (.ref w_NON_NEGATIVE_INTEGER), (.ref w_UNSIGNED_LONG), .null, .null, .null, .null, .null, .null, .null, .null, .null, .null, .null, .null] .null := Arv.set a112 q112 s112 m112 i112 u112 rfl W114 13 rfl (Nat.le_of_ble_eq_true rfl)
  have pre115 : ∀ t, Steps p.tables e below (T114.setTop (mkF m 97 #[.val (.int xa), .unset, .unset, .unset, .unset] [(.ref b2)])) t → Steps p.tables e below (s₁.setTop (entryFrame m #[(.int xa)] maxLocals)) t := fun t k => pre111 t (st114 t k)
  have f116 := (S_UNSIGNED_INT.ext (own_keep_ext K114))
  have pre118 : ∀ t, Steps p.tables e below (T114.setTop (mkF m 100 #[.val (.int xa), .unset, .unset, .unset, .unset] [(.int (14 : Int32)), (.ref b2), (.ref b2)])) t → Steps p.tables e below (s₁.setTop (entryFrame m #[(.int xa)] maxLocals)) t := by
    intro t k
    refine pre115 t ?_
    refine XS.dup X114.here hx rfl (hb hby at_97) rfl rfl ?_
    show Steps p.tables e below (T114.setTop (mkF m 98 #[.val (.int xa), .unset, .unset, .unset, .unset] [(.ref b2), (.ref b2)])) _
    refine XS.bipush X114.here hx rfl (hb hby at_98) ?_
    show Steps p.tables e below (T114.setTop (mkF m 100 #[.val (.int xa), .unset, .unset, .unset, .unset] [(.int (14 : Int32)), (.ref b2), (.ref b2)])) _
    exact k
  obtain ⟨T117, X117, e117, st117⟩ := getS2 X114 hx hZ hown (host := "") (Or.inl (hw _ (List.mem_of_getElem? (i := 32) rfl))) Via.refl e114 f116 (g := (mkF m 100 #[.val (.int xa), .unset, .unset, .unset, .unset] [(.int (14 : Int32)), (.ref b2), (.ref b2)])) rfl (hb hby at_100)
  have pre119 : ∀ t, Steps p.tables e below (T117.setTop (mkF m 103 #[.val (.int xa), .unset, .unset, .unset, .unset] [(.ref w_UNSIGNED_INT), (.int (14 : Int32)), (.ref b2), (.ref b2)])) t → Steps p.tables e below (s₁.setTop (entryFrame m #[(.int xa)] maxLocals)) t := fun t k => pre118 t (st117 t k)
  obtain ⟨c120, a120, q120, s120, m120, i120, u120⟩ := id V114
  have f121 := (E_UNSIGNED_INT.ext (own_keep_ext K114))
  obtain ⟨T122, h122, X122, e122, W122, st122⟩ := stR X117 hx hZ e117 a120 (j := (14 : Int32)) (inb_of s120 ⟨by decide, by decide⟩) rfl (Sto.ofV a120 q120 O2 (Ins.self f121)) (g := (mkF m 103 #[.val (.int xa), .unset, .unset, .unset, .unset] [(.ref w_UNSIGNED_INT), (.int (14 : Int32)), (.ref b2), (.ref b2)])) rfl rfl (hb hby at_103)
  have K122 : Keep h0 h122 ([] : List Addr) := K114.wr W122 (Or.inr sz_b2)
  have z122 : n0 ≤ h122.size := Nat.le_trans Z0 K122.1
  have N122 := Fr.snoc X122 N114 g_b2
  have V122 : Arv Z h122 b2 k2 (.object "com/example/xidr/xidr/xpath/values/AtomicType") (26 : Int32) [(.ref w_ANY_ATOMIC_TYPE), (.ref w_UNTYPED_ATOMIC), (.ref w_STRING), (.ref w_BOOLEAN), (.ref w_DECIMAL), (.ref w_INTEGER), (.ref w_NON_POSITIVE_INTEGER), (.ref w_NEGATIVE_INTEGER), (.ref w_LONG), (.ref w_INT), (.ref w_SHORT), (.ref w_BYTE), (.ref w_NON_NEGATIVE_INTEGER), (.ref w_UNSIGNED_LONG), (.ref w_UNSIGNED_INT), .null, .null, .null, .null, .null, .null, .null, .null, .null, .null, .null] .null := Arv.set a120 q120 s120 m120 i120 u120 rfl W122 14 rfl (Nat.le_of_ble_eq_true rfl)
  have pre123 : ∀ t, Steps p.tables e below (T122.setTop (mkF m 104 #[.val (.int xa), .unset, .unset, .unset, .unset] [(.ref b2)])) t → Steps p.tables e below (s₁.setTop (entryFrame m #[(.int xa)] maxLocals)) t := fun t k => pre119 t (st122 t k)
  have f124 := (S_UNSIGNED_SHORT.ext (own_keep_ext K122))
  have pre126 : ∀ t, Steps p.tables e below (T122.setTop (mkF m 107 #[.val (.int xa), .unset, .unset, .unset, .unset] [(.int (15 : Int32)), (.ref b2), (.ref b2)])) t → Steps p.tables e below (s₁.setTop (entryFrame m #[(.int xa)] maxLocals)) t := by
    intro t k
    refine pre123 t ?_
    refine XS.dup X122.here hx rfl (hb hby at_104) rfl rfl ?_
    show Steps p.tables e below (T122.setTop (mkF m 105 #[.val (.int xa), .unset, .unset, .unset, .unset] [(.ref b2), (.ref b2)])) _
    refine XS.bipush X122.here hx rfl (hb hby at_105) ?_
    show Steps p.tables e below (T122.setTop (mkF m 107 #[.val (.int xa), .unset, .unset, .unset, .unset] [(.int (15 : Int32)), (.ref b2), (.ref b2)])) _
    exact k
  obtain ⟨T125, X125, e125, st125⟩ := getS2 X122 hx hZ hown (host := "") (Or.inl (hw _ (List.mem_of_getElem? (i := 34) rfl))) Via.refl e122 f124 (g := (mkF m 107 #[.val (.int xa), .unset, .unset, .unset, .unset] [(.int (15 : Int32)), (.ref b2), (.ref b2)])) rfl (hb hby at_107)
  have pre127 : ∀ t, Steps p.tables e below (T125.setTop (mkF m 110 #[.val (.int xa), .unset, .unset, .unset, .unset] [(.ref w_UNSIGNED_SHORT), (.int (15 : Int32)), (.ref b2), (.ref b2)])) t → Steps p.tables e below (s₁.setTop (entryFrame m #[(.int xa)] maxLocals)) t := fun t k => pre126 t (st125 t k)
  obtain ⟨c128, a128, q128, s128, m128, i128, u128⟩ := id V122
  have f129 := (E_UNSIGNED_SHORT.ext (own_keep_ext K122))
  obtain ⟨T130, h130, X130, e130, W130, st130⟩ := stR X125 hx hZ e125 a128 (j := (15 : Int32)) (inb_of s128 ⟨by decide, by decide⟩) rfl (Sto.ofV a128 q128 O2 (Ins.self f129)) (g := (mkF m 110 #[.val (.int xa), .unset, .unset, .unset, .unset] [(.ref w_UNSIGNED_SHORT), (.int (15 : Int32)), (.ref b2), (.ref b2)])) rfl rfl (hb hby at_110)
  have K130 : Keep h0 h130 ([] : List Addr) := K122.wr W130 (Or.inr sz_b2)
  have z130 : n0 ≤ h130.size := Nat.le_trans Z0 K130.1
  have N130 := Fr.snoc X130 N122 g_b2
  have V130 : Arv Z h130 b2 k2 (.object "com/example/xidr/xidr/xpath/values/AtomicType") (26 : Int32) [(.ref w_ANY_ATOMIC_TYPE), (.ref w_UNTYPED_ATOMIC), (.ref w_STRING), (.ref w_BOOLEAN), (.ref w_DECIMAL), (.ref w_INTEGER), (.ref w_NON_POSITIVE_INTEGER), (.ref w_NEGATIVE_INTEGER), (.ref w_LONG), (.ref w_INT), (.ref w_SHORT), (.ref w_BYTE), (.ref w_NON_NEGATIVE_INTEGER), (.ref w_UNSIGNED_LONG), (.ref w_UNSIGNED_INT), (.ref w_UNSIGNED_SHORT), .null, .null, .null, .null, .null, .null, .null, .null, .null, .null] .null := Arv.set a128 q128 s128 m128 i128 u128 rfl W130 15 rfl (Nat.le_of_ble_eq_true rfl)
  have pre131 : ∀ t, Steps p.tables e below (T130.setTop (mkF m 111 #[.val (.int xa), .unset, .unset, .unset, .unset] [(.ref b2)])) t → Steps p.tables e below (s₁.setTop (entryFrame m #[(.int xa)] maxLocals)) t := fun t k => pre127 t (st130 t k)
  have f132 := (S_UNSIGNED_BYTE.ext (own_keep_ext K130))
  have pre134 : ∀ t, Steps p.tables e below (T130.setTop (mkF m 114 #[.val (.int xa), .unset, .unset, .unset, .unset] [(.int (16 : Int32)), (.ref b2), (.ref b2)])) t → Steps p.tables e below (s₁.setTop (entryFrame m #[(.int xa)] maxLocals)) t := by
    intro t k
    refine pre131 t ?_
    refine XS.dup X130.here hx rfl (hb hby at_111) rfl rfl ?_
    show Steps p.tables e below (T130.setTop (mkF m 112 #[.val (.int xa), .unset, .unset, .unset, .unset] [(.ref b2), (.ref b2)])) _
    refine XS.bipush X130.here hx rfl (hb hby at_112) ?_
    show Steps p.tables e below (T130.setTop (mkF m 114 #[.val (.int xa), .unset, .unset, .unset, .unset] [(.int (16 : Int32)), (.ref b2), (.ref b2)])) _
    exact k
  obtain ⟨T133, X133, e133, st133⟩ := getS2 X130 hx hZ hown (host := "") (Or.inl (hw _ (List.mem_of_getElem? (i := 36) rfl))) Via.refl e130 f132 (g := (mkF m 114 #[.val (.int xa), .unset, .unset, .unset, .unset] [(.int (16 : Int32)), (.ref b2), (.ref b2)])) rfl (hb hby at_114)
  have pre135 : ∀ t, Steps p.tables e below (T133.setTop (mkF m 117 #[.val (.int xa), .unset, .unset, .unset, .unset] [(.ref w_UNSIGNED_BYTE), (.int (16 : Int32)), (.ref b2), (.ref b2)])) t → Steps p.tables e below (s₁.setTop (entryFrame m #[(.int xa)] maxLocals)) t := fun t k => pre134 t (st133 t k)
  obtain ⟨c136, a136, q136, s136, m136, i136, u136⟩ := id V130
  have f137 := (E_UNSIGNED_BYTE.ext (own_keep_ext K130))
  obtain ⟨T138, h138, X138, e138, W138, st138⟩ := stR X133 hx hZ e133 a136 (j := (16 : Int32)) (inb_of s136 ⟨by decide, by decide⟩) rfl (Sto.ofV a136 q136 O2 (Ins.self f137)) (g := (mkF m 117 #[.val (.int xa), .unset, .unset, .unset, .unset] [(.ref w_UNSIGNED_BYTE), (.int (16 : Int32)), (.ref b2), (.ref b2)])) rfl rfl (hb hby at_117)
  have K138 : Keep h0 h138 ([] : List Addr) := K130.wr W138 (Or.inr sz_b2)
  have z138 : n0 ≤ h138.size := Nat.le_trans Z0 K138.1
  have N138 := Fr.snoc X138 N130 g_b2
  have V138 : Arv Z h138 b2 k2 (.object "com/example/xidr/xidr/xpath/values/AtomicType") (26 : Int32) [(.ref w_ANY_ATOMIC_TYPE), (.ref w_UNTYPED_ATOMIC), (.ref w_STRING), (.ref w_BOOLEAN), (.ref w_DECIMAL), (.ref w_INTEGER), (.ref w_NON_POSITIVE_INTEGER), (.ref w_NEGATIVE_INTEGER), (.ref w_LONG), (.ref w_INT), (.ref w_SHORT), (.ref w_BYTE), (.ref w_NON_NEGATIVE_INTEGER), (.ref w_UNSIGNED_LONG), (.ref w_UNSIGNED_INT), (.ref w_UNSIGNED_SHORT), (.ref w_UNSIGNED_BYTE), .null, .null, .null, .null, .null, .null, .null, .null, .null] .null := Arv.set a136 q136 s136 m136 i136 u136 rfl W138 16 rfl (Nat.le_of_ble_eq_true rfl)
  have pre139 : ∀ t, Steps p.tables e below (T138.setTop (mkF m 118 #[.val (.int xa), .unset, .unset, .unset, .unset] [(.ref b2)])) t → Steps p.tables e below (s₁.setTop (entryFrame m #[(.int xa)] maxLocals)) t := fun t k => pre135 t (st138 t k)
  have f140 := (S_POSITIVE_INTEGER.ext (own_keep_ext K138))
  have pre142 : ∀ t, Steps p.tables e below (T138.setTop (mkF m 121 #[.val (.int xa), .unset, .unset, .unset, .unset] [(.int (17 : Int32)), (.ref b2), (.ref b2)])) t → Steps p.tables e below (s₁.setTop (entryFrame m #[(.int xa)] maxLocals)) t := by
    intro t k
    refine pre139 t ?_
    refine XS.dup X138.here hx rfl (hb hby at_118) rfl rfl ?_
    show Steps p.tables e below (T138.setTop (mkF m 119 #[.val (.int xa), .unset, .unset, .unset, .unset] [(.ref b2), (.ref b2)])) _
    refine XS.bipush X138.here hx rfl (hb hby at_119) ?_
    show Steps p.tables e below (T138.setTop (mkF m 121 #[.val (.int xa), .unset, .unset, .unset, .unset] [(.int (17 : Int32)), (.ref b2), (.ref b2)])) _
    exact k
  obtain ⟨T141, X141, e141, st141⟩ := getS2 X138 hx hZ hown (host := "") (Or.inl (hw _ (List.mem_of_getElem? (i := 38) rfl))) Via.refl e138 f140 (g := (mkF m 121 #[.val (.int xa), .unset, .unset, .unset, .unset] [(.int (17 : Int32)), (.ref b2), (.ref b2)])) rfl (hb hby at_121)
  have pre143 : ∀ t, Steps p.tables e below (T141.setTop (mkF m 124 #[.val (.int xa), .unset, .unset, .unset, .unset] [(.ref w_POSITIVE_INTEGER), (.int (17 : Int32)), (.ref b2), (.ref b2)])) t → Steps p.tables e below (s₁.setTop (entryFrame m #[(.int xa)] maxLocals)) t := fun t k => pre142 t (st141 t k)
  obtain ⟨c144, a144, q144, s144, m144, i144, u144⟩ := id V138
  have f145 := (E_POSITIVE_INTEGER.ext (own_keep_ext K138))
  obtain ⟨T146, h146, X146, e146, W146, st146⟩ := stR X141 hx hZ e141 a144 (j := (17 : Int32)) (inb_of s144 ⟨by decide, by decide⟩) rfl (Sto.ofV a144 q144 O2 (Ins.self f145)) (g := (mkF m 124 #[.val (.int xa), .unset, .unset, .unset, .unset] [(.ref w_POSITIVE_INTEGER), (.int (17 : Int32)), (.ref b2), (.ref b2)])) rfl rfl (hb hby at_124)
  have K146 : Keep h0 h146 ([] : List Addr) := K138.wr W146 (Or.inr sz_b2)
  have z146 : n0 ≤ h146.size := Nat.le_trans Z0 K146.1
  have N146 := Fr.snoc X146 N138 g_b2
  have V146 : Arv Z h146 b2 k2 (.object "com/example/xidr/xidr/xpath/values/AtomicType") (26 : Int32) [(.ref w_ANY_ATOMIC_TYPE), (.ref w_UNTYPED_ATOMIC), (.ref w_STRING), (.ref w_BOOLEAN), (.ref w_DECIMAL), (.ref w_INTEGER), (.ref w_NON_POSITIVE_INTEGER), (.ref w_NEGATIVE_INTEGER), (.ref w_LONG), (.ref w_INT), (.ref w_SHORT), (.ref w_BYTE), (.ref w_NON_NEGATIVE_INTEGER), (.ref w_UNSIGNED_LONG), (.ref w_UNSIGNED_INT), (.ref w_UNSIGNED_SHORT), (.ref w_UNSIGNED_BYTE), (.ref w_POSITIVE_INTEGER), .null, .null, .null, .null, .null, .null, .null, .null] .null := Arv.set a144 q144 s144 m144 i144 u144 rfl W146 17 rfl (Nat.le_of_ble_eq_true rfl)
  have pre147 : ∀ t, Steps p.tables e below (T146.setTop (mkF m 125 #[.val (.int xa), .unset, .unset, .unset, .unset] [(.ref b2)])) t → Steps p.tables e below (s₁.setTop (entryFrame m #[(.int xa)] maxLocals)) t := fun t k => pre143 t (st146 t k)
  have f148 := (S_FLOAT.ext (own_keep_ext K146))
  have pre150 : ∀ t, Steps p.tables e below (T146.setTop (mkF m 128 #[.val (.int xa), .unset, .unset, .unset, .unset] [(.int (18 : Int32)), (.ref b2), (.ref b2)])) t → Steps p.tables e below (s₁.setTop (entryFrame m #[(.int xa)] maxLocals)) t := by
    intro t k
    refine pre147 t ?_
    refine XS.dup X146.here hx rfl (hb hby at_125) rfl rfl ?_
    show Steps p.tables e below (T146.setTop (mkF m 126 #[.val (.int xa), .unset, .unset, .unset, .unset] [(.ref b2), (.ref b2)])) _
    refine XS.bipush X146.here hx rfl (hb hby at_126) ?_
    show Steps p.tables e below (T146.setTop (mkF m 128 #[.val (.int xa), .unset, .unset, .unset, .unset] [(.int (18 : Int32)), (.ref b2), (.ref b2)])) _
    exact k
  obtain ⟨T149, X149, e149, st149⟩ := getS2 X146 hx hZ hown (host := "") (Or.inl (hw _ (List.mem_of_getElem? (i := 40) rfl))) Via.refl e146 f148 (g := (mkF m 128 #[.val (.int xa), .unset, .unset, .unset, .unset] [(.int (18 : Int32)), (.ref b2), (.ref b2)])) rfl (hb hby at_128)
  have pre151 : ∀ t, Steps p.tables e below (T149.setTop (mkF m 131 #[.val (.int xa), .unset, .unset, .unset, .unset] [(.ref w_FLOAT), (.int (18 : Int32)), (.ref b2), (.ref b2)])) t → Steps p.tables e below (s₁.setTop (entryFrame m #[(.int xa)] maxLocals)) t := fun t k => pre150 t (st149 t k)
  obtain ⟨c152, a152, q152, s152, m152, i152, u152⟩ := id V146
  have f153 := (E_FLOAT.ext (own_keep_ext K146))
  obtain ⟨T154, h154, X154, e154, W154, st154⟩ := stR X149 hx hZ e149 a152 (j := (18 : Int32)) (inb_of s152 ⟨by decide, by decide⟩) rfl (Sto.ofV a152 q152 O2 (Ins.self f153)) (g := (mkF m 131 #[.val (.int xa), .unset, .unset, .unset, .unset] [(.ref w_FLOAT), (.int (18 : Int32)), (.ref b2), (.ref b2)])) rfl rfl (hb hby at_131)
  have K154 : Keep h0 h154 ([] : List Addr) := K146.wr W154 (Or.inr sz_b2)
  have z154 : n0 ≤ h154.size := Nat.le_trans Z0 K154.1
  have N154 := Fr.snoc X154 N146 g_b2
  have V154 : Arv Z h154 b2 k2 (.object "com/example/xidr/xidr/xpath/values/AtomicType") (26 : Int32) [(.ref w_ANY_ATOMIC_TYPE), (.ref w_UNTYPED_ATOMIC), (.ref w_STRING), (.ref w_BOOLEAN), (.ref w_DECIMAL), (.ref w_INTEGER), (.ref w_NON_POSITIVE_INTEGER), (.ref w_NEGATIVE_INTEGER), (.ref w_LONG), (.ref w_INT), (.ref w_SHORT), (.ref w_BYTE), (.ref w_NON_NEGATIVE_INTEGER), (.ref w_UNSIGNED_LONG), (.ref w_UNSIGNED_INT), (.ref w_UNSIGNED_SHORT), (.ref w_UNSIGNED_BYTE), (.ref w_POSITIVE_INTEGER), (.ref w_FLOAT), .null, .null, .null, .null, .null, .null, .null] .null := Arv.set a152 q152 s152 m152 i152 u152 rfl W154 18 rfl (Nat.le_of_ble_eq_true rfl)
  have pre155 : ∀ t, Steps p.tables e below (T154.setTop (mkF m 132 #[.val (.int xa), .unset, .unset, .unset, .unset] [(.ref b2)])) t → Steps p.tables e below (s₁.setTop (entryFrame m #[(.int xa)] maxLocals)) t := fun t k => pre151 t (st154 t k)
  have f156 := (S_DOUBLE.ext (own_keep_ext K154))
  have pre158 : ∀ t, Steps p.tables e below (T154.setTop (mkF m 135 #[.val (.int xa), .unset, .unset, .unset, .unset] [(.int (19 : Int32)), (.ref b2), (.ref b2)])) t → Steps p.tables e below (s₁.setTop (entryFrame m #[(.int xa)] maxLocals)) t := by
    intro t k
    refine pre155 t ?_
    refine XS.dup X154.here hx rfl (hb hby at_132) rfl rfl ?_
    show Steps p.tables e below (T154.setTop (mkF m 133 #[.val (.int xa), .unset, .unset, .unset, .unset] [(.ref b2), (.ref b2)])) _
    refine XS.bipush X154.here hx rfl (hb hby at_133) ?_
    show Steps p.tables e below (T154.setTop (mkF m 135 #[.val (.int xa), .unset, .unset, .unset, .unset] [(.int (19 : Int32)), (.ref b2), (.ref b2)])) _
    exact k
  obtain ⟨T157, X157, e157, st157⟩ := getS2 X154 hx hZ hown (host := "") (Or.inl (hw _ (List.mem_of_getElem? (i := 42) rfl))) Via.refl e154 f156 (g := (mkF m 135 #[.val (.int xa), .unset, .unset, .unset, .unset] [(.int (19 : Int32)), (.ref b2), (.ref b2)])) rfl (hb hby at_135)
  have pre159 : ∀ t, Steps p.tables e below (T157.setTop (mkF m 138 #[.val (.int xa), .unset, .unset, .unset, .unset] [(.ref w_DOUBLE), (.int (19 : Int32)), (.ref b2), (.ref b2)])) t → Steps p.tables e below (s₁.setTop (entryFrame m #[(.int xa)] maxLocals)) t := fun t k => pre158 t (st157 t k)
  obtain ⟨c160, a160, q160, s160, m160, i160, u160⟩ := id V154
  have f161 := (E_DOUBLE.ext (own_keep_ext K154))
  obtain ⟨T162, h162, X162, e162, W162, st162⟩ := stR X157 hx hZ e157 a160 (j := (19 : Int32)) (inb_of s160 ⟨by decide, by decide⟩) rfl (Sto.ofV a160 q160 O2 (Ins.self f161)) (g := (mkF m 138 #[.val (.int xa), .unset, .unset, .unset, .unset] [(.ref w_DOUBLE), (.int (19 : Int32)), (.ref b2), (.ref b2)])) rfl rfl (hb hby at_138)
  have K162 : Keep h0 h162 ([] : List Addr) := K154.wr W162 (Or.inr sz_b2)
  have z162 : n0 ≤ h162.size := Nat.le_trans Z0 K162.1
  have N162 := Fr.snoc X162 N154 g_b2
  have V162 : Arv Z h162 b2 k2 (.object "com/example/xidr/xidr/xpath/values/AtomicType") (26 : Int32) [(.ref w_ANY_ATOMIC_TYPE), (.ref w_UNTYPED_ATOMIC), (.ref w_STRING), (.ref w_BOOLEAN), (.ref w_DECIMAL), (.ref w_INTEGER), (.ref w_NON_POSITIVE_INTEGER), (.ref w_NEGATIVE_INTEGER), (.ref w_LONG), (.ref w_INT), (.ref w_SHORT), (.ref w_BYTE), (.ref w_NON_NEGATIVE_INTEGER), (.ref w_UNSIGNED_LONG), (.ref w_UNSIGNED_INT), (.ref w_UNSIGNED_SHORT), (.ref w_UNSIGNED_BYTE), (.ref w_POSITIVE_INTEGER), (.ref w_FLOAT), (.ref w_DOUBLE), .null, .null, .null, .null, .null, .null] .null := Arv.set a160 q160 s160 m160 i160 u160 rfl W162 19 rfl (Nat.le_of_ble_eq_true rfl)
  have pre163 : ∀ t, Steps p.tables e below (T162.setTop (mkF m 139 #[.val (.int xa), .unset, .unset, .unset, .unset] [(.ref b2)])) t → Steps p.tables e below (s₁.setTop (entryFrame m #[(.int xa)] maxLocals)) t := fun t k => pre159 t (st162 t k)
  have f164 := (S_ANY_URI.ext (own_keep_ext K162))
  have pre166 : ∀ t, Steps p.tables e below (T162.setTop (mkF m 142 #[.val (.int xa), .unset, .unset, .unset, .unset] [(.int (20 : Int32)), (.ref b2), (.ref b2)])) t → Steps p.tables e below (s₁.setTop (entryFrame m #[(.int xa)] maxLocals)) t := by
    intro t k
    refine pre163 t ?_
    refine XS.dup X162.here hx rfl (hb hby at_139) rfl rfl ?_
    show Steps p.tables e below (T162.setTop (mkF m 140 #[.val (.int xa), .unset, .unset, .unset, .unset] [(.ref b2), (.ref b2)])) _
    refine XS.bipush X162.here hx rfl (hb hby at_140) ?_
    show Steps p.tables e below (T162.setTop (mkF m 142 #[.val (.int xa), .unset, .unset, .unset, .unset] [(.int (20 : Int32)), (.ref b2), (.ref b2)])) _
    exact k
  obtain ⟨T165, X165, e165, st165⟩ := getS2 X162 hx hZ hown (host := "") (Or.inl (hw _ (List.mem_of_getElem? (i := 44) rfl))) Via.refl e162 f164 (g := (mkF m 142 #[.val (.int xa), .unset, .unset, .unset, .unset] [(.int (20 : Int32)), (.ref b2), (.ref b2)])) rfl (hb hby at_142)
  have pre167 : ∀ t, Steps p.tables e below (T165.setTop (mkF m 145 #[.val (.int xa), .unset, .unset, .unset, .unset] [(.ref w_ANY_URI), (.int (20 : Int32)), (.ref b2), (.ref b2)])) t → Steps p.tables e below (s₁.setTop (entryFrame m #[(.int xa)] maxLocals)) t := fun t k => pre166 t (st165 t k)
  obtain ⟨c168, a168, q168, s168, m168, i168, u168⟩ := id V162
  have f169 := (E_ANY_URI.ext (own_keep_ext K162))
  obtain ⟨T170, h170, X170, e170, W170, st170⟩ := stR X165 hx hZ e165 a168 (j := (20 : Int32)) (inb_of s168 ⟨by decide, by decide⟩) rfl (Sto.ofV a168 q168 O2 (Ins.self f169)) (g := (mkF m 145 #[.val (.int xa), .unset, .unset, .unset, .unset] [(.ref w_ANY_URI), (.int (20 : Int32)), (.ref b2), (.ref b2)])) rfl rfl (hb hby at_145)
  have K170 : Keep h0 h170 ([] : List Addr) := K162.wr W170 (Or.inr sz_b2)
  have z170 : n0 ≤ h170.size := Nat.le_trans Z0 K170.1
  have N170 := Fr.snoc X170 N162 g_b2
  have V170 : Arv Z h170 b2 k2 (.object "com/example/xidr/xidr/xpath/values/AtomicType") (26 : Int32) [(.ref w_ANY_ATOMIC_TYPE), (.ref w_UNTYPED_ATOMIC), (.ref w_STRING), (.ref w_BOOLEAN), (.ref w_DECIMAL), (.ref w_INTEGER), (.ref w_NON_POSITIVE_INTEGER), (.ref w_NEGATIVE_INTEGER), (.ref w_LONG), (.ref w_INT), (.ref w_SHORT), (.ref w_BYTE), (.ref w_NON_NEGATIVE_INTEGER), (.ref w_UNSIGNED_LONG), (.ref w_UNSIGNED_INT), (.ref w_UNSIGNED_SHORT), (.ref w_UNSIGNED_BYTE), (.ref w_POSITIVE_INTEGER), (.ref w_FLOAT), (.ref w_DOUBLE), (.ref w_ANY_URI), .null, .null, .null, .null, .null] .null := Arv.set a168 q168 s168 m168 i168 u168 rfl W170 20 rfl (Nat.le_of_ble_eq_true rfl)
  have pre171 : ∀ t, Steps p.tables e below (T170.setTop (mkF m 146 #[.val (.int xa), .unset, .unset, .unset, .unset] [(.ref b2)])) t → Steps p.tables e below (s₁.setTop (entryFrame m #[(.int xa)] maxLocals)) t := fun t k => pre167 t (st170 t k)
  have f172 := (S_DATE.ext (own_keep_ext K170))
  have pre174 : ∀ t, Steps p.tables e below (T170.setTop (mkF m 149 #[.val (.int xa), .unset, .unset, .unset, .unset] [(.int (21 : Int32)), (.ref b2), (.ref b2)])) t → Steps p.tables e below (s₁.setTop (entryFrame m #[(.int xa)] maxLocals)) t := by
    intro t k
    refine pre171 t ?_
    refine XS.dup X170.here hx rfl (hb hby at_146) rfl rfl ?_
    show Steps p.tables e below (T170.setTop (mkF m 147 #[.val (.int xa), .unset, .unset, .unset, .unset] [(.ref b2), (.ref b2)])) _
    refine XS.bipush X170.here hx rfl (hb hby at_147) ?_
    show Steps p.tables e below (T170.setTop (mkF m 149 #[.val (.int xa), .unset, .unset, .unset, .unset] [(.int (21 : Int32)), (.ref b2), (.ref b2)])) _
    exact k
  obtain ⟨T173, X173, e173, st173⟩ := getS2 X170 hx hZ hown (host := "") (Or.inl (hw _ (List.mem_of_getElem? (i := 46) rfl))) Via.refl e170 f172 (g := (mkF m 149 #[.val (.int xa), .unset, .unset, .unset, .unset] [(.int (21 : Int32)), (.ref b2), (.ref b2)])) rfl (hb hby at_149)
  have pre175 : ∀ t, Steps p.tables e below (T173.setTop (mkF m 152 #[.val (.int xa), .unset, .unset, .unset, .unset] [(.ref w_DATE), (.int (21 : Int32)), (.ref b2), (.ref b2)])) t → Steps p.tables e below (s₁.setTop (entryFrame m #[(.int xa)] maxLocals)) t := fun t k => pre174 t (st173 t k)
  obtain ⟨c176, a176, q176, s176, m176, i176, u176⟩ := id V170
  have f177 := (E_DATE.ext (own_keep_ext K170))
  obtain ⟨T178, h178, X178, e178, W178, st178⟩ := stR X173 hx hZ e173 a176 (j := (21 : Int32)) (inb_of s176 ⟨by decide, by decide⟩) rfl (Sto.ofV a176 q176 O2 (Ins.self f177)) (g := (mkF m 152 #[.val (.int xa), .unset, .unset, .unset, .unset] [(.ref w_DATE), (.int (21 : Int32)), (.ref b2), (.ref b2)])) rfl rfl (hb hby at_152)
  have K178 : Keep h0 h178 ([] : List Addr) := K170.wr W178 (Or.inr sz_b2)
  have z178 : n0 ≤ h178.size := Nat.le_trans Z0 K178.1
  have N178 := Fr.snoc X178 N170 g_b2
  have V178 : Arv Z h178 b2 k2 (.object "com/example/xidr/xidr/xpath/values/AtomicType") (26 : Int32) [(.ref w_ANY_ATOMIC_TYPE), (.ref w_UNTYPED_ATOMIC), (.ref w_STRING), (.ref w_BOOLEAN), (.ref w_DECIMAL), (.ref w_INTEGER), (.ref w_NON_POSITIVE_INTEGER), (.ref w_NEGATIVE_INTEGER), (.ref w_LONG), (.ref w_INT), (.ref w_SHORT), (.ref w_BYTE), (.ref w_NON_NEGATIVE_INTEGER), (.ref w_UNSIGNED_LONG), (.ref w_UNSIGNED_INT), (.ref w_UNSIGNED_SHORT), (.ref w_UNSIGNED_BYTE), (.ref w_POSITIVE_INTEGER), (.ref w_FLOAT), (.ref w_DOUBLE), (.ref w_ANY_URI), (.ref w_DATE), .null, .null, .null, .null] .null := Arv.set a176 q176 s176 m176 i176 u176 rfl W178 21 rfl (Nat.le_of_ble_eq_true rfl)
  have pre179 : ∀ t, Steps p.tables e below (T178.setTop (mkF m 153 #[.val (.int xa), .unset, .unset, .unset, .unset] [(.ref b2)])) t → Steps p.tables e below (s₁.setTop (entryFrame m #[(.int xa)] maxLocals)) t := fun t k => pre175 t (st178 t k)
  have f180 := (S_TIME.ext (own_keep_ext K178))
  have pre182 : ∀ t, Steps p.tables e below (T178.setTop (mkF m 156 #[.val (.int xa), .unset, .unset, .unset, .unset] [(.int (22 : Int32)), (.ref b2), (.ref b2)])) t → Steps p.tables e below (s₁.setTop (entryFrame m #[(.int xa)] maxLocals)) t := by
    intro t k
    refine pre179 t ?_
    refine XS.dup X178.here hx rfl (hb hby at_153) rfl rfl ?_
    show Steps p.tables e below (T178.setTop (mkF m 154 #[.val (.int xa), .unset, .unset, .unset, .unset] [(.ref b2), (.ref b2)])) _
    refine XS.bipush X178.here hx rfl (hb hby at_154) ?_
    show Steps p.tables e below (T178.setTop (mkF m 156 #[.val (.int xa), .unset, .unset, .unset, .unset] [(.int (22 : Int32)), (.ref b2), (.ref b2)])) _
    exact k
  obtain ⟨T181, X181, e181, st181⟩ := getS2 X178 hx hZ hown (host := "") (Or.inl (hw _ (List.mem_of_getElem? (i := 48) rfl))) Via.refl e178 f180 (g := (mkF m 156 #[.val (.int xa), .unset, .unset, .unset, .unset] [(.int (22 : Int32)), (.ref b2), (.ref b2)])) rfl (hb hby at_156)
  have pre183 : ∀ t, Steps p.tables e below (T181.setTop (mkF m 159 #[.val (.int xa), .unset, .unset, .unset, .unset] [(.ref w_TIME), (.int (22 : Int32)), (.ref b2), (.ref b2)])) t → Steps p.tables e below (s₁.setTop (entryFrame m #[(.int xa)] maxLocals)) t := fun t k => pre182 t (st181 t k)
  obtain ⟨c184, a184, q184, s184, m184, i184, u184⟩ := id V178
  have f185 := (E_TIME.ext (own_keep_ext K178))
  obtain ⟨T186, h186, X186, e186, W186, st186⟩ := stR X181 hx hZ e181 a184 (j := (22 : Int32)) (inb_of s184 ⟨by decide, by decide⟩) rfl (Sto.ofV a184 q184 O2 (Ins.self f185)) (g := (mkF m 159 #[.val (.int xa), .unset, .unset, .unset, .unset] [(.ref w_TIME), (.int (22 : Int32)), (.ref b2), (.ref b2)])) rfl rfl (hb hby at_159)
  have K186 : Keep h0 h186 ([] : List Addr) := K178.wr W186 (Or.inr sz_b2)
  have z186 : n0 ≤ h186.size := Nat.le_trans Z0 K186.1
  have N186 := Fr.snoc X186 N178 g_b2
  have V186 : Arv Z h186 b2 k2 (.object "com/example/xidr/xidr/xpath/values/AtomicType") (26 : Int32) [(.ref w_ANY_ATOMIC_TYPE), (.ref w_UNTYPED_ATOMIC), (.ref w_STRING), (.ref w_BOOLEAN), (.ref w_DECIMAL), (.ref w_INTEGER), (.ref w_NON_POSITIVE_INTEGER), (.ref w_NEGATIVE_INTEGER), (.ref w_LONG), (.ref w_INT), (.ref w_SHORT), (.ref w_BYTE), (.ref w_NON_NEGATIVE_INTEGER), (.ref w_UNSIGNED_LONG), (.ref w_UNSIGNED_INT), (.ref w_UNSIGNED_SHORT), (.ref w_UNSIGNED_BYTE), (.ref w_POSITIVE_INTEGER), (.ref w_FLOAT), (.ref w_DOUBLE), (.ref w_ANY_URI), (.ref w_DATE), (.ref w_TIME), .null, .null, .null] .null := Arv.set a184 q184 s184 m184 i184 u184 rfl W186 22 rfl (Nat.le_of_ble_eq_true rfl)
  have pre187 : ∀ t, Steps p.tables e below (T186.setTop (mkF m 160 #[.val (.int xa), .unset, .unset, .unset, .unset] [(.ref b2)])) t → Steps p.tables e below (s₁.setTop (entryFrame m #[(.int xa)] maxLocals)) t := fun t k => pre183 t (st186 t k)
  have f188 := (S_HEX_BINARY.ext (own_keep_ext K186))
  have pre190 : ∀ t, Steps p.tables e below (T186.setTop (mkF m 163 #[.val (.int xa), .unset, .unset, .unset, .unset] [(.int (23 : Int32)), (.ref b2), (.ref b2)])) t → Steps p.tables e below (s₁.setTop (entryFrame m #[(.int xa)] maxLocals)) t := by
    intro t k
    refine pre187 t ?_
    refine XS.dup X186.here hx rfl (hb hby at_160) rfl rfl ?_
    show Steps p.tables e below (T186.setTop (mkF m 161 #[.val (.int xa), .unset, .unset, .unset, .unset] [(.ref b2), (.ref b2)])) _
    refine XS.bipush X186.here hx rfl (hb hby at_161) ?_
    show Steps p.tables e below (T186.setTop (mkF m 163 #[.val (.int xa), .unset, .unset, .unset, .unset] [(.int (23 : Int32)), (.ref b2), (.ref b2)])) _
    exact k
  obtain ⟨T189, X189, e189, st189⟩ := getS2 X186 hx hZ hown (host := "") (Or.inl (hw _ (List.mem_of_getElem? (i := 50) rfl))) Via.refl e186 f188 (g := (mkF m 163 #[.val (.int xa), .unset, .unset, .unset, .unset] [(.int (23 : Int32)), (.ref b2), (.ref b2)])) rfl (hb hby at_163)
  have pre191 : ∀ t, Steps p.tables e below (T189.setTop (mkF m 166 #[.val (.int xa), .unset, .unset, .unset, .unset] [(.ref w_HEX_BINARY), (.int (23 : Int32)), (.ref b2), (.ref b2)])) t → Steps p.tables e below (s₁.setTop (entryFrame m #[(.int xa)] maxLocals)) t := fun t k => pre190 t (st189 t k)
  obtain ⟨c192, a192, q192, s192, m192, i192, u192⟩ := id V186
  have f193 := (E_HEX_BINARY.ext (own_keep_ext K186))
  obtain ⟨T194, h194, X194, e194, W194, st194⟩ := stR X189 hx hZ e189 a192 (j := (23 : Int32)) (inb_of s192 ⟨by decide, by decide⟩) rfl (Sto.ofV a192 q192 O2 (Ins.self f193)) (g := (mkF m 166 #[.val (.int xa), .unset, .unset, .unset, .unset] [(.ref w_HEX_BINARY), (.int (23 : Int32)), (.ref b2), (.ref b2)])) rfl rfl (hb hby at_166)
  have K194 : Keep h0 h194 ([] : List Addr) := K186.wr W194 (Or.inr sz_b2)
  have z194 : n0 ≤ h194.size := Nat.le_trans Z0 K194.1
  have N194 := Fr.snoc X194 N186 g_b2
  have V194 : Arv Z h194 b2 k2 (.object "com/example/xidr/xidr/xpath/values/AtomicType") (26 : Int32) [(.ref w_ANY_ATOMIC_TYPE), (.ref w_UNTYPED_ATOMIC), (.ref w_STRING), (.ref w_BOOLEAN), (.ref w_DECIMAL), (.ref w_INTEGER), (.ref w_NON_POSITIVE_INTEGER), (.ref w_NEGATIVE_INTEGER), (.ref w_LONG), (.ref w_INT), (.ref w_SHORT), (.ref w_BYTE), (.ref w_NON_NEGATIVE_INTEGER), (.ref w_UNSIGNED_LONG), (.ref w_UNSIGNED_INT), (.ref w_UNSIGNED_SHORT), (.ref w_UNSIGNED_BYTE), (.ref w_POSITIVE_INTEGER), (.ref w_FLOAT), (.ref w_DOUBLE), (.ref w_ANY_URI), (.ref w_DATE), (.ref w_TIME), (.ref w_HEX_BINARY), .null, .null] .null := Arv.set a192 q192 s192 m192 i192 u192 rfl W194 23 rfl (Nat.le_of_ble_eq_true rfl)
  have pre195 : ∀ t, Steps p.tables e below (T194.setTop (mkF m 167 #[.val (.int xa), .unset, .unset, .unset, .unset] [(.ref b2)])) t → Steps p.tables e below (s₁.setTop (entryFrame m #[(.int xa)] maxLocals)) t := fun t k => pre191 t (st194 t k)
  have f196 := (S_QNAME.ext (own_keep_ext K194))
  have pre198 : ∀ t, Steps p.tables e below (T194.setTop (mkF m 170 #[.val (.int xa), .unset, .unset, .unset, .unset] [(.int (24 : Int32)), (.ref b2), (.ref b2)])) t → Steps p.tables e below (s₁.setTop (entryFrame m #[(.int xa)] maxLocals)) t := by
    intro t k
    refine pre195 t ?_
    refine XS.dup X194.here hx rfl (hb hby at_167) rfl rfl ?_
    show Steps p.tables e below (T194.setTop (mkF m 168 #[.val (.int xa), .unset, .unset, .unset, .unset] [(.ref b2), (.ref b2)])) _
    refine XS.bipush X194.here hx rfl (hb hby at_168) ?_
    show Steps p.tables e below (T194.setTop (mkF m 170 #[.val (.int xa), .unset, .unset, .unset, .unset] [(.int (24 : Int32)), (.ref b2), (.ref b2)])) _
    exact k
  obtain ⟨T197, X197, e197, st197⟩ := getS2 X194 hx hZ hown (host := "") (Or.inl (hw _ (List.mem_of_getElem? (i := 52) rfl))) Via.refl e194 f196 (g := (mkF m 170 #[.val (.int xa), .unset, .unset, .unset, .unset] [(.int (24 : Int32)), (.ref b2), (.ref b2)])) rfl (hb hby at_170)
  have pre199 : ∀ t, Steps p.tables e below (T197.setTop (mkF m 173 #[.val (.int xa), .unset, .unset, .unset, .unset] [(.ref w_QNAME), (.int (24 : Int32)), (.ref b2), (.ref b2)])) t → Steps p.tables e below (s₁.setTop (entryFrame m #[(.int xa)] maxLocals)) t := fun t k => pre198 t (st197 t k)
  obtain ⟨c200, a200, q200, s200, m200, i200, u200⟩ := id V194
  have f201 := (E_QNAME.ext (own_keep_ext K194))
  obtain ⟨T202, h202, X202, e202, W202, st202⟩ := stR X197 hx hZ e197 a200 (j := (24 : Int32)) (inb_of s200 ⟨by decide, by decide⟩) rfl (Sto.ofV a200 q200 O2 (Ins.self f201)) (g := (mkF m 173 #[.val (.int xa), .unset, .unset, .unset, .unset] [(.ref w_QNAME), (.int (24 : Int32)), (.ref b2), (.ref b2)])) rfl rfl (hb hby at_173)
  have K202 : Keep h0 h202 ([] : List Addr) := K194.wr W202 (Or.inr sz_b2)
  have z202 : n0 ≤ h202.size := Nat.le_trans Z0 K202.1
  have N202 := Fr.snoc X202 N194 g_b2
  have V202 : Arv Z h202 b2 k2 (.object "com/example/xidr/xidr/xpath/values/AtomicType") (26 : Int32) [(.ref w_ANY_ATOMIC_TYPE), (.ref w_UNTYPED_ATOMIC), (.ref w_STRING), (.ref w_BOOLEAN), (.ref w_DECIMAL), (.ref w_INTEGER), (.ref w_NON_POSITIVE_INTEGER), (.ref w_NEGATIVE_INTEGER), (.ref w_LONG), (.ref w_INT), (.ref w_SHORT), (.ref w_BYTE), (.ref w_NON_NEGATIVE_INTEGER), (.ref w_UNSIGNED_LONG), (.ref w_UNSIGNED_INT), (.ref w_UNSIGNED_SHORT), (.ref w_UNSIGNED_BYTE), (.ref w_POSITIVE_INTEGER), (.ref w_FLOAT), (.ref w_DOUBLE), (.ref w_ANY_URI), (.ref w_DATE), (.ref w_TIME), (.ref w_HEX_BINARY), (.ref w_QNAME), .null] .null := Arv.set a200 q200 s200 m200 i200 u200 rfl W202 24 rfl (Nat.le_of_ble_eq_true rfl)
  have pre203 : ∀ t, Steps p.tables e below (T202.setTop (mkF m 174 #[.val (.int xa), .unset, .unset, .unset, .unset] [(.ref b2)])) t → Steps p.tables e below (s₁.setTop (entryFrame m #[(.int xa)] maxLocals)) t := fun t k => pre199 t (st202 t k)
  have f204 := (S_NOTATION.ext (own_keep_ext K202))
  have pre206 : ∀ t, Steps p.tables e below (T202.setTop (mkF m 177 #[.val (.int xa), .unset, .unset, .unset, .unset] [(.int (25 : Int32)), (.ref b2), (.ref b2)])) t → Steps p.tables e below (s₁.setTop (entryFrame m #[(.int xa)] maxLocals)) t := by
    intro t k
    refine pre203 t ?_
    refine XS.dup X202.here hx rfl (hb hby at_174) rfl rfl ?_
    show Steps p.tables e below (T202.setTop (mkF m 175 #[.val (.int xa), .unset, .unset, .unset, .unset] [(.ref b2), (.ref b2)])) _
    refine XS.bipush X202.here hx rfl (hb hby at_175) ?_
    show Steps p.tables e below (T202.setTop (mkF m 177 #[.val (.int xa), .unset, .unset, .unset, .unset] [(.int (25 : Int32)), (.ref b2), (.ref b2)])) _
    exact k
  obtain ⟨T205, X205, e205, st205⟩ := getS2 X202 hx hZ hown (host := "") (Or.inl (hw _ (List.mem_of_getElem? (i := 54) rfl))) Via.refl e202 f204 (g := (mkF m 177 #[.val (.int xa), .unset, .unset, .unset, .unset] [(.int (25 : Int32)), (.ref b2), (.ref b2)])) rfl (hb hby at_177)
  have pre207 : ∀ t, Steps p.tables e below (T205.setTop (mkF m 180 #[.val (.int xa), .unset, .unset, .unset, .unset] [(.ref w_NOTATION), (.int (25 : Int32)), (.ref b2), (.ref b2)])) t → Steps p.tables e below (s₁.setTop (entryFrame m #[(.int xa)] maxLocals)) t := fun t k => pre206 t (st205 t k)
  obtain ⟨c208, a208, q208, s208, m208, i208, u208⟩ := id V202
  have f209 := (E_NOTATION.ext (own_keep_ext K202))
  obtain ⟨T210, h210, X210, e210, W210, st210⟩ := stR X205 hx hZ e205 a208 (j := (25 : Int32)) (inb_of s208 ⟨by decide, by decide⟩) rfl (Sto.ofV a208 q208 O2 (Ins.self f209)) (g := (mkF m 180 #[.val (.int xa), .unset, .unset, .unset, .unset] [(.ref w_NOTATION), (.int (25 : Int32)), (.ref b2), (.ref b2)])) rfl rfl (hb hby at_180)
  have K210 : Keep h0 h210 ([] : List Addr) := K202.wr W210 (Or.inr sz_b2)
  have z210 : n0 ≤ h210.size := Nat.le_trans Z0 K210.1
  have N210 := Fr.snoc X210 N202 g_b2
  have V210 : Arv Z h210 b2 k2 (.object "com/example/xidr/xidr/xpath/values/AtomicType") (26 : Int32) [(.ref w_ANY_ATOMIC_TYPE), (.ref w_UNTYPED_ATOMIC), (.ref w_STRING), (.ref w_BOOLEAN), (.ref w_DECIMAL), (.ref w_INTEGER), (.ref w_NON_POSITIVE_INTEGER), (.ref w_NEGATIVE_INTEGER), (.ref w_LONG), (.ref w_INT), (.ref w_SHORT), (.ref w_BYTE), (.ref w_NON_NEGATIVE_INTEGER), (.ref w_UNSIGNED_LONG), (.ref w_UNSIGNED_INT), (.ref w_UNSIGNED_SHORT), (.ref w_UNSIGNED_BYTE), (.ref w_POSITIVE_INTEGER), (.ref w_FLOAT), (.ref w_DOUBLE), (.ref w_ANY_URI), (.ref w_DATE), (.ref w_TIME), (.ref w_HEX_BINARY), (.ref w_QNAME), (.ref w_NOTATION)] .null := Arv.set a208 q208 s208 m208 i208 u208 rfl W210 25 rfl (Nat.le_of_ble_eq_true rfl)
  have pre211 : ∀ t, Steps p.tables e below (T210.setTop (mkF m 181 #[.val (.int xa), .unset, .unset, .unset, .unset] [(.ref b2)])) t → Steps p.tables e below (s₁.setTop (entryFrame m #[(.int xa)] maxLocals)) t := fun t k => pre207 t (st210 t k)
  have pre212 : ∀ t, Steps p.tables e below (T210.setTop (mkF m 184 #[.val (.int xa), .val (.ref b2), .unset, .unset, .unset] [(.int (26 : Int32))])) t → Steps p.tables e below (s₁.setTop (entryFrame m #[(.int xa)] maxLocals)) t := by
    intro t k
    refine pre211 t ?_
    refine XS.astoreN X210.here hx rfl (hb hby at_181) rfl rfl (l' := #[.val (.int xa), .val (.ref b2), .unset, .unset, .unset]) rfl ?_
    show Steps p.tables e below (T210.setTop (mkF m 182 #[.val (.int xa), .val (.ref b2), .unset, .unset, .unset] [])) _
    refine XS.bipush X210.here hx rfl (hb hby at_182) ?_
    show Steps p.tables e below (T210.setTop (mkF m 184 #[.val (.int xa), .val (.ref b2), .unset, .unset, .unset] [(.int (26 : Int32))])) _
    exact k
  obtain ⟨T213, h213, k213, X213, e213, E213, A213, st213⟩ := newP X210 hx hZ (hw _ (List.mem_of_getElem? (i := 56) rfl)) e210 (g := (mkF m 184 #[.val (.int xa), .val (.ref b2), .unset, .unset, .unset] [(.int (26 : Int32))])) rfl (hb hby at_184) rfl (by decide) (cap := 26) (by decide) (by decide) (by decide) (by decide)
  obtain ⟨b213, g213⟩ : ∃ z, z = h210.size := ⟨_, rfl⟩
  rw [← g213] at A213 st213
  have g_b213 : n0 ≤ b213 := Nat.le_trans z210 (Nat.le_of_eq g213.symm)
  have sz_b213 : h0.size ≤ b213 := Nat.le_trans K210.1 (Nat.le_of_eq g213.symm)
  have K213 : Keep h0 h213 ([] : List Addr) := K210.ext E213
  have z213 : n0 ≤ h213.size := Nat.le_trans Z0 K213.1
  have V_b213 : Arv Z h213 b213 k213 .boolean (26 : Int32) [(.int (0 : Int32)), (.int (0 : Int32)), (.int (0 : Int32)), (.int (0 : Int32)), (.int (0 : Int32)), (.int (0 : Int32)), (.int (0 : Int32)), (.int (0 : Int32)), (.int (0 : Int32)), (.int (0 : Int32)), (.int (0 : Int32)), (.int (0 : Int32)), (.int (0 : Int32)), (.int (0 : Int32)), (.int (0 : Int32)), (.int (0 : Int32)), (.int (0 : Int32)), (.int (0 : Int32)), (.int (0 : Int32)), (.int (0 : Int32)), (.int (0 : Int32)), (.int (0 : Int32)), (.int (0 : Int32)), (.int (0 : Int32)), (.int (0 : Int32)), (.int (0 : Int32))] (.int (0 : Int32)) := (Arv.new A213 (by decide)).pad (pad_rep [] (.int (0 : Int32)) 26)
  have X213 : Stand p l e _ s m _ below meth c T213 _ 2 52 := X213
  have pre214 : ∀ t, Steps p.tables e below (T213.setTop (mkF m 186 #[.val (.int xa), .val (.ref b2), .unset, .unset, .unset] [(.ref b213)])) t → Steps p.tables e below (s₁.setTop (entryFrame m #[(.int xa)] maxLocals)) t := fun t k => pre212 t (st213 t k)
  have pre215 : ∀ t, Steps p.tables e below (T213.setTop (mkF m 189 #[.val (.int xa), .val (.ref b2), .unset, .unset, .unset] [(.int (0 : Int32)), (.int (0 : Int32)), (.ref b213), (.ref b213)])) t → Steps p.tables e below (s₁.setTop (entryFrame m #[(.int xa)] maxLocals)) t := by
    intro t k
    refine pre214 t ?_
    refine XS.dup X213.here hx rfl (hb hby at_186) rfl rfl ?_
    show Steps p.tables e below (T213.setTop (mkF m 187 #[.val (.int xa), .val (.ref b2), .unset, .unset, .unset] [(.ref b213), (.ref b213)])) _
    refine XS.iconst X213.here hx rfl (hb hby at_187) ?_
    show Steps p.tables e below (T213.setTop (mkF m 188 #[.val (.int xa), .val (.ref b2), .unset, .unset, .unset] [(.int (0 : Int32)), (.ref b213), (.ref b213)])) _
    refine XS.iconst X213.here hx rfl (hb hby at_188) ?_
    show Steps p.tables e below (T213.setTop (mkF m 189 #[.val (.int xa), .val (.ref b2), .unset, .unset, .unset] [(.int (0 : Int32)), (.int (0 : Int32)), (.ref b213), (.ref b213)])) _
    exact k
  obtain ⟨c216, a216, q216, s216, m216, i216, u216⟩ := id V_b213
  obtain ⟨T217, h217, X217, e217, W217, st217⟩ := stZ X213 hx hZ e213 a216 (j := (0 : Int32)) (inb_of s216 ⟨by decide, by decide⟩) (g := (mkF m 189 #[.val (.int xa), .val (.ref b2), .unset, .unset, .unset] [(.int (0 : Int32)), (.int (0 : Int32)), (.ref b213), (.ref b213)])) rfl rfl (hb hby at_189)
  have K217 : Keep h0 h217 ([] : List Addr) := K213.wr W217 (Or.inr sz_b213)
  have z217 : n0 ≤ h217.size := Nat.le_trans Z0 K217.1
  have N217 := Fr.snoc X217 N210 g_b213
  have V217 : Arv Z h217 b213 k213 .boolean (26 : Int32) [(.int (nar .boolean (0 : Int32))), (.int (0 : Int32)), (.int (0 : Int32)), (.int (0 : Int32)), (.int (0 : Int32)), (.int (0 : Int32)), (.int (0 : Int32)), (.int (0 : Int32)), (.int (0 : Int32)), (.int (0 : Int32)), (.int (0 : Int32)), (.int (0 : Int32)), (.int (0 : Int32)), (.int (0 : Int32)), (.int (0 : Int32)), (.int (0 : Int32)), (.int (0 : Int32)), (.int (0 : Int32)), (.int (0 : Int32)), (.int (0 : Int32)), (.int (0 : Int32)), (.int (0 : Int32)), (.int (0 : Int32)), (.int (0 : Int32)), (.int (0 : Int32)), (.int (0 : Int32))] (.int (0 : Int32)) := Arv.set a216 q216 s216 m216 i216 u216 (fits_nar_bool _) W217 0 rfl (Nat.le_of_ble_eq_true rfl)
  have pre218 : ∀ t, Steps p.tables e below (T217.setTop (mkF m 190 #[.val (.int xa), .val (.ref b2), .unset, .unset, .unset] [(.ref b213)])) t → Steps p.tables e below (s₁.setTop (entryFrame m #[(.int xa)] maxLocals)) t := fun t k => pre215 t (st217 t k)
  have pre219 : ∀ t, Steps p.tables e below (T217.setTop (mkF m 193 #[.val (.int xa), .val (.ref b2), .unset, .unset, .unset] [(.int (0 : Int32)), (.int (1 : Int32)), (.ref b213), (.ref b213)])) t → Steps p.tables e below (s₁.setTop (entryFrame m #[(.int xa)] maxLocals)) t := by
    intro t k
    refine pre218 t ?_
    refine XS.dup X217.here hx rfl (hb hby at_190) rfl rfl ?_
    show Steps p.tables e below (T217.setTop (mkF m 191 #[.val (.int xa), .val (.ref b2), .unset, .unset, .unset] [(.ref b213), (.ref b213)])) _
    refine XS.iconst X217.here hx rfl (hb hby at_191) ?_
    show Steps p.tables e below (T217.setTop (mkF m 192 #[.val (.int xa), .val (.ref b2), .unset, .unset, .unset] [(.int (1 : Int32)), (.ref b213), (.ref b213)])) _
    refine XS.iconst X217.here hx rfl (hb hby at_192) ?_
    show Steps p.tables e below (T217.setTop (mkF m 193 #[.val (.int xa), .val (.ref b2), .unset, .unset, .unset] [(.int (0 : Int32)), (.int (1 : Int32)), (.ref b213), (.ref b213)])) _
    exact k
  obtain ⟨c220, a220, q220, s220, m220, i220, u220⟩ := id V217
  obtain ⟨T221, h221, X221, e221, W221, st221⟩ := stZ X217 hx hZ e217 a220 (j := (1 : Int32)) (inb_of s220 ⟨by decide, by decide⟩) (g := (mkF m 193 #[.val (.int xa), .val (.ref b2), .unset, .unset, .unset] [(.int (0 : Int32)), (.int (1 : Int32)), (.ref b213), (.ref b213)])) rfl rfl (hb hby at_193)
  have K221 : Keep h0 h221 ([] : List Addr) := K217.wr W221 (Or.inr sz_b213)
  have z221 : n0 ≤ h221.size := Nat.le_trans Z0 K221.1
  have N221 := Fr.snoc X221 N217 g_b213
  have V221 : Arv Z h221 b213 k213 .boolean (26 : Int32) [(.int (nar .boolean (0 : Int32))), (.int (nar .boolean (0 : Int32))), (.int (0 : Int32)), (.int (0 : Int32)), (.int (0 : Int32)), (.int (0 : Int32)), (.int (0 : Int32)), (.int (0 : Int32)), (.int (0 : Int32)), (.int (0 : Int32)), (.int (0 : Int32)), (.int (0 : Int32)), (.int (0 : Int32)), (.int (0 : Int32)), (.int (0 : Int32)), (.int (0 : Int32)), (.int (0 : Int32)), (.int (0 : Int32)), (.int (0 : Int32)), (.int (0 : Int32)), (.int (0 : Int32)), (.int (0 : Int32)), (.int (0 : Int32)), (.int (0 : Int32)), (.int (0 : Int32)), (.int (0 : Int32))] (.int (0 : Int32)) := Arv.set a220 q220 s220 m220 i220 u220 (fits_nar_bool _) W221 1 rfl (Nat.le_of_ble_eq_true rfl)
  have pre222 : ∀ t, Steps p.tables e below (T221.setTop (mkF m 194 #[.val (.int xa), .val (.ref b2), .unset, .unset, .unset] [(.ref b213)])) t → Steps p.tables e below (s₁.setTop (entryFrame m #[(.int xa)] maxLocals)) t := fun t k => pre219 t (st221 t k)
  have pre223 : ∀ t, Steps p.tables e below (T221.setTop (mkF m 197 #[.val (.int xa), .val (.ref b2), .unset, .unset, .unset] [(.int (0 : Int32)), (.int (2 : Int32)), (.ref b213), (.ref b213)])) t → Steps p.tables e below (s₁.setTop (entryFrame m #[(.int xa)] maxLocals)) t := by
    intro t k
    refine pre222 t ?_
    refine XS.dup X221.here hx rfl (hb hby at_194) rfl rfl ?_
    show Steps p.tables e below (T221.setTop (mkF m 195 #[.val (.int xa), .val (.ref b2), .unset, .unset, .unset] [(.ref b213), (.ref b213)])) _
    refine XS.iconst X221.here hx rfl (hb hby at_195) ?_
    show Steps p.tables e below (T221.setTop (mkF m 196 #[.val (.int xa), .val (.ref b2), .unset, .unset, .unset] [(.int (2 : Int32)), (.ref b213), (.ref b213)])) _
    refine XS.iconst X221.here hx rfl (hb hby at_196) ?_
    show Steps p.tables e below (T221.setTop (mkF m 197 #[.val (.int xa), .val (.ref b2), .unset, .unset, .unset] [(.int (0 : Int32)), (.int (2 : Int32)), (.ref b213), (.ref b213)])) _
    exact k
  obtain ⟨c224, a224, q224, s224, m224, i224, u224⟩ := id V221
  obtain ⟨T225, h225, X225, e225, W225, st225⟩ := stZ X221 hx hZ e221 a224 (j := (2 : Int32)) (inb_of s224 ⟨by decide, by decide⟩) (g := (mkF m 197 #[.val (.int xa), .val (.ref b2), .unset, .unset, .unset] [(.int (0 : Int32)), (.int (2 : Int32)), (.ref b213), (.ref b213)])) rfl rfl (hb hby at_197)
  have K225 : Keep h0 h225 ([] : List Addr) := K221.wr W225 (Or.inr sz_b213)
  have z225 : n0 ≤ h225.size := Nat.le_trans Z0 K225.1
  have N225 := Fr.snoc X225 N221 g_b213
  have V225 : Arv Z h225 b213 k213 .boolean (26 : Int32) [(.int (nar .boolean (0 : Int32))), (.int (nar .boolean (0 : Int32))), (.int (nar .boolean (0 : Int32))), (.int (0 : Int32)), (.int (0 : Int32)), (.int (0 : Int32)), (.int (0 : Int32)), (.int (0 : Int32)), (.int (0 : Int32)), (.int (0 : Int32)), (.int (0 : Int32)), (.int (0 : Int32)), (.int (0 : Int32)), (.int (0 : Int32)), (.int (0 : Int32)), (.int (0 : Int32)), (.int (0 : Int32)), (.int (0 : Int32)), (.int (0 : Int32)), (.int (0 : Int32)), (.int (0 : Int32)), (.int (0 : Int32)), (.int (0 : Int32)), (.int (0 : Int32)), (.int (0 : Int32)), (.int (0 : Int32))] (.int (0 : Int32)) := Arv.set a224 q224 s224 m224 i224 u224 (fits_nar_bool _) W225 2 rfl (Nat.le_of_ble_eq_true rfl)
  have pre226 : ∀ t, Steps p.tables e below (T225.setTop (mkF m 198 #[.val (.int xa), .val (.ref b2), .unset, .unset, .unset] [(.ref b213)])) t → Steps p.tables e below (s₁.setTop (entryFrame m #[(.int xa)] maxLocals)) t := fun t k => pre223 t (st225 t k)
  have pre227 : ∀ t, Steps p.tables e below (T225.setTop (mkF m 201 #[.val (.int xa), .val (.ref b2), .unset, .unset, .unset] [(.int (0 : Int32)), (.int (3 : Int32)), (.ref b213), (.ref b213)])) t → Steps p.tables e below (s₁.setTop (entryFrame m #[(.int xa)] maxLocals)) t := by
    intro t k
    refine pre226 t ?_
    refine XS.dup X225.here hx rfl (hb hby at_198) rfl rfl ?_
    show Steps p.tables e below (T225.setTop (mkF m 199 #[.val (.int xa), .val (.ref b2), .unset, .unset, .unset] [(.ref b213), (.ref b213)])) _
    refine XS.iconst X225.here hx rfl (hb hby at_199) ?_
    show Steps p.tables e below (T225.setTop (mkF m 200 #[.val (.int xa), .val (.ref b2), .unset, .unset, .unset] [(.int (3 : Int32)), (.ref b213), (.ref b213)])) _
    refine XS.iconst X225.here hx rfl (hb hby at_200) ?_
    show Steps p.tables e below (T225.setTop (mkF m 201 #[.val (.int xa), .val (.ref b2), .unset, .unset, .unset] [(.int (0 : Int32)), (.int (3 : Int32)), (.ref b213), (.ref b213)])) _
    exact k
  obtain ⟨c228, a228, q228, s228, m228, i228, u228⟩ := id V225
  obtain ⟨T229, h229, X229, e229, W229, st229⟩ := stZ X225 hx hZ e225 a228 (j := (3 : Int32)) (inb_of s228 ⟨by decide, by decide⟩) (g := (mkF m 201 #[.val (.int xa), .val (.ref b2), .unset, .unset, .unset] [(.int (0 : Int32)), (.int (3 : Int32)), (.ref b213), (.ref b213)])) rfl rfl (hb hby at_201)
  have K229 : Keep h0 h229 ([] : List Addr) := K225.wr W229 (Or.inr sz_b213)
  have z229 : n0 ≤ h229.size := Nat.le_trans Z0 K229.1
  have N229 := Fr.snoc X229 N225 g_b213
  have V229 : Arv Z h229 b213 k213 .boolean (26 : Int32) [(.int (nar .boolean (0 : Int32))), (.int (nar .boolean (0 : Int32))), (.int (nar .boolean (0 : Int32))), (.int (nar .boolean (0 : Int32))), (.int (0 : Int32)), (.int (0 : Int32)), (.int (0 : Int32)), (.int (0 : Int32)), (.int (0 : Int32)), (.int (0 : Int32)), (.int (0 : Int32)), (.int (0 : Int32)), (.int (0 : Int32)), (.int (0 : Int32)), (.int (0 : Int32)), (.int (0 : Int32)), (.int (0 : Int32)), (.int (0 : Int32)), (.int (0 : Int32)), (.int (0 : Int32)), (.int (0 : Int32)), (.int (0 : Int32)), (.int (0 : Int32)), (.int (0 : Int32)), (.int (0 : Int32)), (.int (0 : Int32))] (.int (0 : Int32)) := Arv.set a228 q228 s228 m228 i228 u228 (fits_nar_bool _) W229 3 rfl (Nat.le_of_ble_eq_true rfl)
  have pre230 : ∀ t, Steps p.tables e below (T229.setTop (mkF m 202 #[.val (.int xa), .val (.ref b2), .unset, .unset, .unset] [(.ref b213)])) t → Steps p.tables e below (s₁.setTop (entryFrame m #[(.int xa)] maxLocals)) t := fun t k => pre227 t (st229 t k)
  have pre231 : ∀ t, Steps p.tables e below (T229.setTop (mkF m 205 #[.val (.int xa), .val (.ref b2), .unset, .unset, .unset] [(.int (1 : Int32)), (.int (4 : Int32)), (.ref b213), (.ref b213)])) t → Steps p.tables e below (s₁.setTop (entryFrame m #[(.int xa)] maxLocals)) t := by
    intro t k
    refine pre230 t ?_
    refine XS.dup X229.here hx rfl (hb hby at_202) rfl rfl ?_
    show Steps p.tables e below (T229.setTop (mkF m 203 #[.val (.int xa), .val (.ref b2), .unset, .unset, .unset] [(.ref b213), (.ref b213)])) _
    refine XS.iconst X229.here hx rfl (hb hby at_203) ?_
    show Steps p.tables e below (T229.setTop (mkF m 204 #[.val (.int xa), .val (.ref b2), .unset, .unset, .unset] [(.int (4 : Int32)), (.ref b213), (.ref b213)])) _
    refine XS.iconst X229.here hx rfl (hb hby at_204) ?_
    show Steps p.tables e below (T229.setTop (mkF m 205 #[.val (.int xa), .val (.ref b2), .unset, .unset, .unset] [(.int (1 : Int32)), (.int (4 : Int32)), (.ref b213), (.ref b213)])) _
    exact k
  obtain ⟨c232, a232, q232, s232, m232, i232, u232⟩ := id V229
  obtain ⟨T233, h233, X233, e233, W233, st233⟩ := stZ X229 hx hZ e229 a232 (j := (4 : Int32)) (inb_of s232 ⟨by decide, by decide⟩) (g := (mkF m 205 #[.val (.int xa), .val (.ref b2), .unset, .unset, .unset] [(.int (1 : Int32)), (.int (4 : Int32)), (.ref b213), (.ref b213)])) rfl rfl (hb hby at_205)
  have K233 : Keep h0 h233 ([] : List Addr) := K229.wr W233 (Or.inr sz_b213)
  have z233 : n0 ≤ h233.size := Nat.le_trans Z0 K233.1
  have N233 := Fr.snoc X233 N229 g_b213
  have V233 : Arv Z h233 b213 k213 .boolean (26 : Int32) [(.int (nar .boolean (0 : Int32))), (.int (nar .boolean (0 : Int32))), (.int (nar .boolean (0 : Int32))), (.int (nar .boolean (0 : Int32))), (.int (nar .boolean (1 : Int32))), (.int (0 : Int32)), (.int (0 : Int32)), (.int (0 : Int32)), (.int (0 : Int32)), (.int (0 : Int32)), (.int (0 : Int32)), (.int (0 : Int32)), (.int (0 : Int32)), (.int (0 : Int32)), (.int (0 : Int32)), (.int (0 : Int32)), (.int (0 : Int32)), (.int (0 : Int32)), (.int (0 : Int32)), (.int (0 : Int32)), (.int (0 : Int32)), (.int (0 : Int32)), (.int (0 : Int32)), (.int (0 : Int32)), (.int (0 : Int32)), (.int (0 : Int32))] (.int (0 : Int32)) := Arv.set a232 q232 s232 m232 i232 u232 (fits_nar_bool _) W233 4 rfl (Nat.le_of_ble_eq_true rfl)
  have pre234 : ∀ t, Steps p.tables e below (T233.setTop (mkF m 206 #[.val (.int xa), .val (.ref b2), .unset, .unset, .unset] [(.ref b213)])) t → Steps p.tables e below (s₁.setTop (entryFrame m #[(.int xa)] maxLocals)) t := fun t k => pre231 t (st233 t k)
  have pre235 : ∀ t, Steps p.tables e below (T233.setTop (mkF m 209 #[.val (.int xa), .val (.ref b2), .unset, .unset, .unset] [(.int (1 : Int32)), (.int (5 : Int32)), (.ref b213), (.ref b213)])) t → Steps p.tables e below (s₁.setTop (entryFrame m #[(.int xa)] maxLocals)) t := by
    intro t k
    refine pre234 t ?_
    refine XS.dup X233.here hx rfl (hb hby at_206) rfl rfl ?_
    show Steps p.tables e below (T233.setTop (mkF m 207 #[.val (.int xa), .val (.ref b2), .unset, .unset, .unset] [(.ref b213), (.ref b213)])) _
    refine XS.iconst X233.here hx rfl (hb hby at_207) ?_
    show Steps p.tables e below (T233.setTop (mkF m 208 #[.val (.int xa), .val (.ref b2), .unset, .unset, .unset] [(.int (5 : Int32)), (.ref b213), (.ref b213)])) _
    refine XS.iconst X233.here hx rfl (hb hby at_208) ?_
    show Steps p.tables e below (T233.setTop (mkF m 209 #[.val (.int xa), .val (.ref b2), .unset, .unset, .unset] [(.int (1 : Int32)), (.int (5 : Int32)), (.ref b213), (.ref b213)])) _
    exact k
  obtain ⟨c236, a236, q236, s236, m236, i236, u236⟩ := id V233
  obtain ⟨T237, h237, X237, e237, W237, st237⟩ := stZ X233 hx hZ e233 a236 (j := (5 : Int32)) (inb_of s236 ⟨by decide, by decide⟩) (g := (mkF m 209 #[.val (.int xa), .val (.ref b2), .unset, .unset, .unset] [(.int (1 : Int32)), (.int (5 : Int32)), (.ref b213), (.ref b213)])) rfl rfl (hb hby at_209)
  have K237 : Keep h0 h237 ([] : List Addr) := K233.wr W237 (Or.inr sz_b213)
  have z237 : n0 ≤ h237.size := Nat.le_trans Z0 K237.1
  have N237 := Fr.snoc X237 N233 g_b213
  have V237 : Arv Z h237 b213 k213 .boolean (26 : Int32) [(.int (nar .boolean (0 : Int32))), (.int (nar .boolean (0 : Int32))), (.int (nar .boolean (0 : Int32))), (.int (nar .boolean (0 : Int32))), (.int (nar .boolean (1 : Int32))), (.int (nar .boolean (1 : Int32))), (.int (0 : Int32)), (.int (0 : Int32)), (.int (0 : Int32)), (.int (0 : Int32)), (.int (0 : Int32)), (.int (0 : Int32)), (.int (0 : Int32)), (.int (0 : Int32)), (.int (0 : Int32)), (.int (0 : Int32)), (.int (0 : Int32)), (.int (0 : Int32)), (.int (0 : Int32)), (.int (0 : Int32)), (.int (0 : Int32)), (.int (0 : Int32)), (.int (0 : Int32)), (.int (0 : Int32)), (.int (0 : Int32)), (.int (0 : Int32))] (.int (0 : Int32)) := Arv.set a236 q236 s236 m236 i236 u236 (fits_nar_bool _) W237 5 rfl (Nat.le_of_ble_eq_true rfl)
  have pre238 : ∀ t, Steps p.tables e below (T237.setTop (mkF m 210 #[.val (.int xa), .val (.ref b2), .unset, .unset, .unset] [(.ref b213)])) t → Steps p.tables e below (s₁.setTop (entryFrame m #[(.int xa)] maxLocals)) t := fun t k => pre235 t (st237 t k)
  have pre239 : ∀ t, Steps p.tables e below (T237.setTop (mkF m 214 #[.val (.int xa), .val (.ref b2), .unset, .unset, .unset] [(.int (1 : Int32)), (.int (6 : Int32)), (.ref b213), (.ref b213)])) t → Steps p.tables e below (s₁.setTop (entryFrame m #[(.int xa)] maxLocals)) t := by
    intro t k
    refine pre238 t ?_
    refine XS.dup X237.here hx rfl (hb hby at_210) rfl rfl ?_
    show Steps p.tables e below (T237.setTop (mkF m 211 #[.val (.int xa), .val (.ref b2), .unset, .unset, .unset] [(.ref b213), (.ref b213)])) _
    refine XS.bipush X237.here hx rfl (hb hby at_211) ?_
    show Steps p.tables e below (T237.setTop (mkF m 213 #[.val (.int xa), .val (.ref b2), .unset, .unset, .unset] [(.int (6 : Int32)), (.ref b213), (.ref b213)])) _
    refine XS.iconst X237.here hx rfl (hb hby at_213) ?_
    show Steps p.tables e below (T237.setTop (mkF m 214 #[.val (.int xa), .val (.ref b2), .unset, .unset, .unset] [(.int (1 : Int32)), (.int (6 : Int32)), (.ref b213), (.ref b213)])) _
    exact k
  obtain ⟨c240, a240, q240, s240, m240, i240, u240⟩ := id V237
  obtain ⟨T241, h241, X241, e241, W241, st241⟩ := stZ X237 hx hZ e237 a240 (j := (6 : Int32)) (inb_of s240 ⟨by decide, by decide⟩) (g := (mkF m 214 #[.val (.int xa), .val (.ref b2), .unset, .unset, .unset] [(.int (1 : Int32)), (.int (6 : Int32)), (.ref b213), (.ref b213)])) rfl rfl (hb hby at_214)
  have K241 : Keep h0 h241 ([] : List Addr) := K237.wr W241 (Or.inr sz_b213)
  have z241 : n0 ≤ h241.size := Nat.le_trans Z0 K241.1
  have N241 := Fr.snoc X241 N237 g_b213
  have V241 : Arv Z h241 b213 k213 .boolean (26 : Int32) [(.int (nar .boolean (0 : Int32))), (.int (nar .boolean (0 : Int32))), (.int (nar .boolean (0 : Int32))), (.int (nar .boolean (0 : Int32))), (.int (nar .boolean (1 : Int32))), (.int (nar .boolean (1 : Int32))), (.int (nar .boolean (1 : Int32))), (.int (0 : Int32)), (.int (0 : Int32)), (.int (0 : Int32)), (.int (0 : Int32)), (.int (0 : Int32)), (.int (0 : Int32)), (.int (0 : Int32)), (.int (0 : Int32)), (.int (0 : Int32)), (.int (0 : Int32)), (.int (0 : Int32)), (.int (0 : Int32)), (.int (0 : Int32)), (.int (0 : Int32)), (.int (0 : Int32)), (.int (0 : Int32)), (.int (0 : Int32)), (.int (0 : Int32)), (.int (0 : Int32))] (.int (0 : Int32)) := Arv.set a240 q240 s240 m240 i240 u240 (fits_nar_bool _) W241 6 rfl (Nat.le_of_ble_eq_true rfl)
  have pre242 : ∀ t, Steps p.tables e below (T241.setTop (mkF m 215 #[.val (.int xa), .val (.ref b2), .unset, .unset, .unset] [(.ref b213)])) t → Steps p.tables e below (s₁.setTop (entryFrame m #[(.int xa)] maxLocals)) t := fun t k => pre239 t (st241 t k)
  have pre243 : ∀ t, Steps p.tables e below (T241.setTop (mkF m 219 #[.val (.int xa), .val (.ref b2), .unset, .unset, .unset] [(.int (1 : Int32)), (.int (7 : Int32)), (.ref b213), (.ref b213)])) t → Steps p.tables e below (s₁.setTop (entryFrame m #[(.int xa)] maxLocals)) t := by
    intro t k
    refine pre242 t ?_
    refine XS.dup X241.here hx rfl (hb hby at_215) rfl rfl ?_
    show Steps p.tables e below (T241.setTop (mkF m 216 #[.val (.int xa), .val (.ref b2), .unset, .unset, .unset] [(.ref b213), (.ref b213)])) _
    refine XS.bipush X241.here hx rfl (hb hby at_216) ?_
    show Steps p.tables e below (T241.setTop (mkF m 218 #[.val (.int xa), .val (.ref b2), .unset, .unset, .unset] [(.int (7 : Int32)), (.ref b213), (.ref b213)])) _
    refine XS.iconst X241.here hx rfl (hb hby at_218) ?_
    show Steps p.tables e below (T241.setTop (mkF m 219 #[.val (.int xa), .val (.ref b2), .unset, .unset, .unset] [(.int (1 : Int32)), (.int (7 : Int32)), (.ref b213), (.ref b213)])) _
    exact k
  obtain ⟨c244, a244, q244, s244, m244, i244, u244⟩ := id V241
  obtain ⟨T245, h245, X245, e245, W245, st245⟩ := stZ X241 hx hZ e241 a244 (j := (7 : Int32)) (inb_of s244 ⟨by decide, by decide⟩) (g := (mkF m 219 #[.val (.int xa), .val (.ref b2), .unset, .unset, .unset] [(.int (1 : Int32)), (.int (7 : Int32)), (.ref b213), (.ref b213)])) rfl rfl (hb hby at_219)
  have K245 : Keep h0 h245 ([] : List Addr) := K241.wr W245 (Or.inr sz_b213)
  have z245 : n0 ≤ h245.size := Nat.le_trans Z0 K245.1
  have N245 := Fr.snoc X245 N241 g_b213
  have V245 : Arv Z h245 b213 k213 .boolean (26 : Int32) [(.int (nar .boolean (0 : Int32))), (.int (nar .boolean (0 : Int32))), (.int (nar .boolean (0 : Int32))), (.int (nar .boolean (0 : Int32))), (.int (nar .boolean (1 : Int32))), (.int (nar .boolean (1 : Int32))), (.int (nar .boolean (1 : Int32))), (.int (nar .boolean (1 : Int32))), (.int (0 : Int32)), (.int (0 : Int32)), (.int (0 : Int32)), (.int (0 : Int32)), (.int (0 : Int32)), (.int (0 : Int32)), (.int (0 : Int32)), (.int (0 : Int32)), (.int (0 : Int32)), (.int (0 : Int32)), (.int (0 : Int32)), (.int (0 : Int32)), (.int (0 : Int32)), (.int (0 : Int32)), (.int (0 : Int32)), (.int (0 : Int32)), (.int (0 : Int32)), (.int (0 : Int32))] (.int (0 : Int32)) := Arv.set a244 q244 s244 m244 i244 u244 (fits_nar_bool _) W245 7 rfl (Nat.le_of_ble_eq_true rfl)
  have pre246 : ∀ t, Steps p.tables e below (T245.setTop (mkF m 220 #[.val (.int xa), .val (.ref b2), .unset, .unset, .unset] [(.ref b213)])) t → Steps p.tables e below (s₁.setTop (entryFrame m #[(.int xa)] maxLocals)) t := fun t k => pre243 t (st245 t k)
  have pre247 : ∀ t, Steps p.tables e below (T245.setTop (mkF m 224 #[.val (.int xa), .val (.ref b2), .unset, .unset, .unset] [(.int (1 : Int32)), (.int (8 : Int32)), (.ref b213), (.ref b213)])) t → Steps p.tables e below (s₁.setTop (entryFrame m #[(.int xa)] maxLocals)) t := by
    intro t k
    refine pre246 t ?_
    refine XS.dup X245.here hx rfl (hb hby at_220) rfl rfl ?_
    show Steps p.tables e below (T245.setTop (mkF m 221 #[.val (.int xa), .val (.ref b2), .unset, .unset, .unset] [(.ref b213), (.ref b213)])) _
    refine XS.bipush X245.here hx rfl (hb hby at_221) ?_
    show Steps p.tables e below (T245.setTop (mkF m 223 #[.val (.int xa), .val (.ref b2), .unset, .unset, .unset] [(.int (8 : Int32)), (.ref b213), (.ref b213)])) _
    refine XS.iconst X245.here hx rfl (hb hby at_223) ?_
    show Steps p.tables e below (T245.setTop (mkF m 224 #[.val (.int xa), .val (.ref b2), .unset, .unset, .unset] [(.int (1 : Int32)), (.int (8 : Int32)), (.ref b213), (.ref b213)])) _
    exact k
  obtain ⟨c248, a248, q248, s248, m248, i248, u248⟩ := id V245
  obtain ⟨T249, h249, X249, e249, W249, st249⟩ := stZ X245 hx hZ e245 a248 (j := (8 : Int32)) (inb_of s248 ⟨by decide, by decide⟩) (g := (mkF m 224 #[.val (.int xa), .val (.ref b2), .unset, .unset, .unset] [(.int (1 : Int32)), (.int (8 : Int32)), (.ref b213), (.ref b213)])) rfl rfl (hb hby at_224)
  have K249 : Keep h0 h249 ([] : List Addr) := K245.wr W249 (Or.inr sz_b213)
  have z249 : n0 ≤ h249.size := Nat.le_trans Z0 K249.1
  have N249 := Fr.snoc X249 N245 g_b213
  have V249 : Arv Z h249 b213 k213 .boolean (26 : Int32) [(.int (nar .boolean (0 : Int32))), (.int (nar .boolean (0 : Int32))), (.int (nar .boolean (0 : Int32))), (.int (nar .boolean (0 : Int32))), (.int (nar .boolean (1 : Int32))), (.int (nar .boolean (1 : Int32))), (.int (nar .boolean (1 : Int32))), (.int (nar .boolean (1 : Int32))), (.int (nar .boolean (1 : Int32))), (.int (0 : Int32)), (.int (0 : Int32)), (.int (0 : Int32)), (.int (0 : Int32)), (.int (0 : Int32)), (.int (0 : Int32)), (.int (0 : Int32)), (.int (0 : Int32)), (.int (0 : Int32)), (.int (0 : Int32)), (.int (0 : Int32)), (.int (0 : Int32)), (.int (0 : Int32)), (.int (0 : Int32)), (.int (0 : Int32)), (.int (0 : Int32)), (.int (0 : Int32))] (.int (0 : Int32)) := Arv.set a248 q248 s248 m248 i248 u248 (fits_nar_bool _) W249 8 rfl (Nat.le_of_ble_eq_true rfl)
  have pre250 : ∀ t, Steps p.tables e below (T249.setTop (mkF m 225 #[.val (.int xa), .val (.ref b2), .unset, .unset, .unset] [(.ref b213)])) t → Steps p.tables e below (s₁.setTop (entryFrame m #[(.int xa)] maxLocals)) t := fun t k => pre247 t (st249 t k)
  have pre251 : ∀ t, Steps p.tables e below (T249.setTop (mkF m 229 #[.val (.int xa), .val (.ref b2), .unset, .unset, .unset] [(.int (1 : Int32)), (.int (9 : Int32)), (.ref b213), (.ref b213)])) t → Steps p.tables e below (s₁.setTop (entryFrame m #[(.int xa)] maxLocals)) t := by
    intro t k
    refine pre250 t ?_
    refine XS.dup X249.here hx rfl (hb hby at_225) rfl rfl ?_
    show Steps p.tables e below (T249.setTop (mkF m 226 #[.val (.int xa), .val (.ref b2), .unset, .unset, .unset] [(.ref b213), (.ref b213)])) _
    refine XS.bipush X249.here hx rfl (hb hby at_226) ?_
    show Steps p.tables e below (T249.setTop (mkF m 228 #[.val (.int xa), .val (.ref b2), .unset, .unset, .unset] [(.int (9 : Int32)), (.ref b213), (.ref b213)])) _
    refine XS.iconst X249.here hx rfl (hb hby at_228) ?_
    show Steps p.tables e below (T249.setTop (mkF m 229 #[.val (.int xa), .val (.ref b2), .unset, .unset, .unset] [(.int (1 : Int32)), (.int (9 : Int32)), (.ref b213), (.ref b213)])) _
    exact k
  obtain ⟨c252, a252, q252, s252, m252, i252, u252⟩ := id V249
  obtain ⟨T253, h253, X253, e253, W253, st253⟩ := stZ X249 hx hZ e249 a252 (j := (9 : Int32)) (inb_of s252 ⟨by decide, by decide⟩) (g := (mkF m 229 #[.val (.int xa), .val (.ref b2), .unset, .unset, .unset] [(.int (1 : Int32)), (.int (9 : Int32)), (.ref b213), (.ref b213)])) rfl rfl (hb hby at_229)
  have K253 : Keep h0 h253 ([] : List Addr) := K249.wr W253 (Or.inr sz_b213)
  have z253 : n0 ≤ h253.size := Nat.le_trans Z0 K253.1
  have N253 := Fr.snoc X253 N249 g_b213
  have V253 : Arv Z h253 b213 k213 .boolean (26 : Int32) [(.int (nar .boolean (0 : Int32))), (.int (nar .boolean (0 : Int32))), (.int (nar .boolean (0 : Int32))), (.int (nar .boolean (0 : Int32))), (.int (nar .boolean (1 : Int32))), (.int (nar .boolean (1 : Int32))), (.int (nar .boolean (1 : Int32))), (.int (nar .boolean (1 : Int32))), (.int (nar .boolean (1 : Int32))), (.int (nar .boolean (1 : Int32))), (.int (0 : Int32)), (.int (0 : Int32)), (.int (0 : Int32)), (.int (0 : Int32)), (.int (0 : Int32)), (.int (0 : Int32)), (.int (0 : Int32)), (.int (0 : Int32)), (.int (0 : Int32)), (.int (0 : Int32)), (.int (0 : Int32)), (.int (0 : Int32)), (.int (0 : Int32)), (.int (0 : Int32)), (.int (0 : Int32)), (.int (0 : Int32))] (.int (0 : Int32)) := Arv.set a252 q252 s252 m252 i252 u252 (fits_nar_bool _) W253 9 rfl (Nat.le_of_ble_eq_true rfl)
  have pre254 : ∀ t, Steps p.tables e below (T253.setTop (mkF m 230 #[.val (.int xa), .val (.ref b2), .unset, .unset, .unset] [(.ref b213)])) t → Steps p.tables e below (s₁.setTop (entryFrame m #[(.int xa)] maxLocals)) t := fun t k => pre251 t (st253 t k)
  have pre255 : ∀ t, Steps p.tables e below (T253.setTop (mkF m 234 #[.val (.int xa), .val (.ref b2), .unset, .unset, .unset] [(.int (1 : Int32)), (.int (10 : Int32)), (.ref b213), (.ref b213)])) t → Steps p.tables e below (s₁.setTop (entryFrame m #[(.int xa)] maxLocals)) t := by
    intro t k
    refine pre254 t ?_
    refine XS.dup X253.here hx rfl (hb hby at_230) rfl rfl ?_
    show Steps p.tables e below (T253.setTop (mkF m 231 #[.val (.int xa), .val (.ref b2), .unset, .unset, .unset] [(.ref b213), (.ref b213)])) _
    refine XS.bipush X253.here hx rfl (hb hby at_231) ?_
    show Steps p.tables e below (T253.setTop (mkF m 233 #[.val (.int xa), .val (.ref b2), .unset, .unset, .unset] [(.int (10 : Int32)), (.ref b213), (.ref b213)])) _
    refine XS.iconst X253.here hx rfl (hb hby at_233) ?_
    show Steps p.tables e below (T253.setTop (mkF m 234 #[.val (.int xa), .val (.ref b2), .unset, .unset, .unset] [(.int (1 : Int32)), (.int (10 : Int32)), (.ref b213), (.ref b213)])) _
    exact k
  obtain ⟨c256, a256, q256, s256, m256, i256, u256⟩ := id V253
  obtain ⟨T257, h257, X257, e257, W257, st257⟩ := stZ X253 hx hZ e253 a256 (j := (10 : Int32)) (inb_of s256 ⟨by decide, by decide⟩) (g := (mkF m 234 #[.val (.int xa), .val (.ref b2), .unset, .unset, .unset] [(.int (1 : Int32)), (.int (10 : Int32)), (.ref b213), (.ref b213)])) rfl rfl (hb hby at_234)
  have K257 : Keep h0 h257 ([] : List Addr) := K253.wr W257 (Or.inr sz_b213)
  have z257 : n0 ≤ h257.size := Nat.le_trans Z0 K257.1
  have N257 := Fr.snoc X257 N253 g_b213
  have V257 : Arv Z h257 b213 k213 .boolean (26 : Int32) [(.int (nar .boolean (0 : Int32))), (.int (nar .boolean (0 : Int32))), (.int (nar .boolean (0 : Int32))), (.int (nar .boolean (0 : Int32))), (.int (nar .boolean (1 : Int32))), (.int (nar .boolean (1 : Int32))), (.int (nar .boolean (1 : Int32))), (.int (nar .boolean (1 : Int32))), (.int (nar .boolean (1 : Int32))), (.int (nar .boolean (1 : Int32))), (.int (nar .boolean (1 : Int32))), (.int (0 : Int32)), (.int (0 : Int32)), (.int (0 : Int32)), (.int (0 : Int32)), (.int (0 : Int32)), (.int (0 : Int32)), (.int (0 : Int32)), (.int (0 : Int32)), (.int (0 : Int32)), (.int (0 : Int32)), (.int (0 : Int32)), (.int (0 : Int32)), (.int (0 : Int32)), (.int (0 : Int32)), (.int (0 : Int32))] (.int (0 : Int32)) := Arv.set a256 q256 s256 m256 i256 u256 (fits_nar_bool _) W257 10 rfl (Nat.le_of_ble_eq_true rfl)
  have pre258 : ∀ t, Steps p.tables e below (T257.setTop (mkF m 235 #[.val (.int xa), .val (.ref b2), .unset, .unset, .unset] [(.ref b213)])) t → Steps p.tables e below (s₁.setTop (entryFrame m #[(.int xa)] maxLocals)) t := fun t k => pre255 t (st257 t k)
  have pre259 : ∀ t, Steps p.tables e below (T257.setTop (mkF m 239 #[.val (.int xa), .val (.ref b2), .unset, .unset, .unset] [(.int (1 : Int32)), (.int (11 : Int32)), (.ref b213), (.ref b213)])) t → Steps p.tables e below (s₁.setTop (entryFrame m #[(.int xa)] maxLocals)) t := by
    intro t k
    refine pre258 t ?_
    refine XS.dup X257.here hx rfl (hb hby at_235) rfl rfl ?_
    show Steps p.tables e below (T257.setTop (mkF m 236 #[.val (.int xa), .val (.ref b2), .unset, .unset, .unset] [(.ref b213), (.ref b213)])) _
    refine XS.bipush X257.here hx rfl (hb hby at_236) ?_
    show Steps p.tables e below (T257.setTop (mkF m 238 #[.val (.int xa), .val (.ref b2), .unset, .unset, .unset] [(.int (11 : Int32)), (.ref b213), (.ref b213)])) _
    refine XS.iconst X257.here hx rfl (hb hby at_238) ?_
    show Steps p.tables e below (T257.setTop (mkF m 239 #[.val (.int xa), .val (.ref b2), .unset, .unset, .unset] [(.int (1 : Int32)), (.int (11 : Int32)), (.ref b213), (.ref b213)])) _
    exact k
  obtain ⟨c260, a260, q260, s260, m260, i260, u260⟩ := id V257
  obtain ⟨T261, h261, X261, e261, W261, st261⟩ := stZ X257 hx hZ e257 a260 (j := (11 : Int32)) (inb_of s260 ⟨by decide, by decide⟩) (g := (mkF m 239 #[.val (.int xa), .val (.ref b2), .unset, .unset, .unset] [(.int (1 : Int32)), (.int (11 : Int32)), (.ref b213), (.ref b213)])) rfl rfl (hb hby at_239)
  have K261 : Keep h0 h261 ([] : List Addr) := K257.wr W261 (Or.inr sz_b213)
  have z261 : n0 ≤ h261.size := Nat.le_trans Z0 K261.1
  have N261 := Fr.snoc X261 N257 g_b213
  have V261 : Arv Z h261 b213 k213 .boolean (26 : Int32) [(.int (nar .boolean (0 : Int32))), (.int (nar .boolean (0 : Int32))), (.int (nar .boolean (0 : Int32))), (.int (nar .boolean (0 : Int32))), (.int (nar .boolean (1 : Int32))), (.int (nar .boolean (1 : Int32))), (.int (nar .boolean (1 : Int32))), (.int (nar .boolean (1 : Int32))), (.int (nar .boolean (1 : Int32))), (.int (nar .boolean (1 : Int32))), (.int (nar .boolean (1 : Int32))), (.int (nar .boolean (1 : Int32))), (.int (0 : Int32)), (.int (0 : Int32)), (.int (0 : Int32)), (.int (0 : Int32)), (.int (0 : Int32)), (.int (0 : Int32)), (.int (0 : Int32)), (.int (0 : Int32)), (.int (0 : Int32)), (.int (0 : Int32)), (.int (0 : Int32)), (.int (0 : Int32)), (.int (0 : Int32)), (.int (0 : Int32))] (.int (0 : Int32)) := Arv.set a260 q260 s260 m260 i260 u260 (fits_nar_bool _) W261 11 rfl (Nat.le_of_ble_eq_true rfl)
  have pre262 : ∀ t, Steps p.tables e below (T261.setTop (mkF m 240 #[.val (.int xa), .val (.ref b2), .unset, .unset, .unset] [(.ref b213)])) t → Steps p.tables e below (s₁.setTop (entryFrame m #[(.int xa)] maxLocals)) t := fun t k => pre259 t (st261 t k)
  have pre263 : ∀ t, Steps p.tables e below (T261.setTop (mkF m 244 #[.val (.int xa), .val (.ref b2), .unset, .unset, .unset] [(.int (1 : Int32)), (.int (12 : Int32)), (.ref b213), (.ref b213)])) t → Steps p.tables e below (s₁.setTop (entryFrame m #[(.int xa)] maxLocals)) t := by
    intro t k
    refine pre262 t ?_
    refine XS.dup X261.here hx rfl (hb hby at_240) rfl rfl ?_
    show Steps p.tables e below (T261.setTop (mkF m 241 #[.val (.int xa), .val (.ref b2), .unset, .unset, .unset] [(.ref b213), (.ref b213)])) _
    refine XS.bipush X261.here hx rfl (hb hby at_241) ?_
    show Steps p.tables e below (T261.setTop (mkF m 243 #[.val (.int xa), .val (.ref b2), .unset, .unset, .unset] [(.int (12 : Int32)), (.ref b213), (.ref b213)])) _
    refine XS.iconst X261.here hx rfl (hb hby at_243) ?_
    show Steps p.tables e below (T261.setTop (mkF m 244 #[.val (.int xa), .val (.ref b2), .unset, .unset, .unset] [(.int (1 : Int32)), (.int (12 : Int32)), (.ref b213), (.ref b213)])) _
    exact k
  obtain ⟨c264, a264, q264, s264, m264, i264, u264⟩ := id V261
  obtain ⟨T265, h265, X265, e265, W265, st265⟩ := stZ X261 hx hZ e261 a264 (j := (12 : Int32)) (inb_of s264 ⟨by decide, by decide⟩) (g := (mkF m 244 #[.val (.int xa), .val (.ref b2), .unset, .unset, .unset] [(.int (1 : Int32)), (.int (12 : Int32)), (.ref b213), (.ref b213)])) rfl rfl (hb hby at_244)
  have K265 : Keep h0 h265 ([] : List Addr) := K261.wr W265 (Or.inr sz_b213)
  have z265 : n0 ≤ h265.size := Nat.le_trans Z0 K265.1
  have N265 := Fr.snoc X265 N261 g_b213
  have V265 : Arv Z h265 b213 k213 .boolean (26 : Int32) [(.int (nar .boolean (0 : Int32))), (.int (nar .boolean (0 : Int32))), (.int (nar .boolean (0 : Int32))), (.int (nar .boolean (0 : Int32))), (.int (nar .boolean (1 : Int32))), (.int (nar .boolean (1 : Int32))), (.int (nar .boolean (1 : Int32))), (.int (nar .boolean (1 : Int32))), (.int (nar .boolean (1 : Int32))), (.int (nar .boolean (1 : Int32))), (.int (nar .boolean (1 : Int32))), (.int (nar .boolean (1 : Int32))), (.int (nar .boolean (1 : Int32))), (.int (0 : Int32)), (.int (0 : Int32)), (.int (0 : Int32)), (.int (0 : Int32)), (.int (0 : Int32)), (.int (0 : Int32)), (.int (0 : Int32)), (.int (0 : Int32)), (.int (0 : Int32)), (.int (0 : Int32)), (.int (0 : Int32)), (.int (0 : Int32)), (.int (0 : Int32))] (.int (0 : Int32)) := Arv.set a264 q264 s264 m264 i264 u264 (fits_nar_bool _) W265 12 rfl (Nat.le_of_ble_eq_true rfl)
  have pre266 : ∀ t, Steps p.tables e below (T265.setTop (mkF m 245 #[.val (.int xa), .val (.ref b2), .unset, .unset, .unset] [(.ref b213)])) t → Steps p.tables e below (s₁.setTop (entryFrame m #[(.int xa)] maxLocals)) t := fun t k => pre263 t (st265 t k)
  have pre267 : ∀ t, Steps p.tables e below (T265.setTop (mkF m 249 #[.val (.int xa), .val (.ref b2), .unset, .unset, .unset] [(.int (1 : Int32)), (.int (13 : Int32)), (.ref b213), (.ref b213)])) t → Steps p.tables e below (s₁.setTop (entryFrame m #[(.int xa)] maxLocals)) t := by
    intro t k
    refine pre266 t ?_
    refine XS.dup X265.here hx rfl (hb hby at_245) rfl rfl ?_
    show Steps p.tables e below (T265.setTop (mkF m 246 #[.val (.int xa), .val (.ref b2), .unset, .unset, .unset] [(.ref b213), (.ref b213)])) _
    refine XS.bipush X265.here hx rfl (hb hby at_246) ?_
    show Steps p.tables e below (T265.setTop (mkF m 248 #[.val (.int xa), .val (.ref b2), .unset, .unset, .unset] [(.int (13 : Int32)), (.ref b213), (.ref b213)])) _
    refine XS.iconst X265.here hx rfl (hb hby at_248) ?_
    show Steps p.tables e below (T265.setTop (mkF m 249 #[.val (.int xa), .val (.ref b2), .unset, .unset, .unset] [(.int (1 : Int32)), (.int (13 : Int32)), (.ref b213), (.ref b213)])) _
    exact k
  obtain ⟨c268, a268, q268, s268, m268, i268, u268⟩ := id V265
  obtain ⟨T269, h269, X269, e269, W269, st269⟩ := stZ X265 hx hZ e265 a268 (j := (13 : Int32)) (inb_of s268 ⟨by decide, by decide⟩) (g := (mkF m 249 #[.val (.int xa), .val (.ref b2), .unset, .unset, .unset] [(.int (1 : Int32)), (.int (13 : Int32)), (.ref b213), (.ref b213)])) rfl rfl (hb hby at_249)
  have K269 : Keep h0 h269 ([] : List Addr) := K265.wr W269 (Or.inr sz_b213)
  have z269 : n0 ≤ h269.size := Nat.le_trans Z0 K269.1
  have N269 := Fr.snoc X269 N265 g_b213
  have V269 : Arv Z h269 b213 k213 .boolean (26 : Int32) [(.int (nar .boolean (0 : Int32))), (.int (nar .boolean (0 : Int32))), (.int (nar .boolean (0 : Int32))), (.int (nar .boolean (0 : Int32))), (.int (nar .boolean (1 : Int32))), (.int (nar .boolean (1 : Int32))), (.int (nar .boolean (1 : Int32))), (.int (nar .boolean (1 : Int32))), (.int (nar .boolean (1 : Int32))), (.int (nar .boolean (1 : Int32))), (.int (nar .boolean (1 : Int32))), (.int (nar .boolean (1 : Int32))), (.int (nar .boolean (1 : Int32))), (.int (nar .boolean (1 : Int32))), (.int (0 : Int32)), (.int (0 : Int32)), (.int (0 : Int32)), (.int (0 : Int32)), (.int (0 : Int32)), (.int (0 : Int32)), (.int (0 : Int32)), (.int (0 : Int32)), (.int (0 : Int32)), (.int (0 : Int32)), (.int (0 : Int32)), (.int (0 : Int32))] (.int (0 : Int32)) := Arv.set a268 q268 s268 m268 i268 u268 (fits_nar_bool _) W269 13 rfl (Nat.le_of_ble_eq_true rfl)
  have pre270 : ∀ t, Steps p.tables e below (T269.setTop (mkF m 250 #[.val (.int xa), .val (.ref b2), .unset, .unset, .unset] [(.ref b213)])) t → Steps p.tables e below (s₁.setTop (entryFrame m #[(.int xa)] maxLocals)) t := fun t k => pre267 t (st269 t k)
  have pre271 : ∀ t, Steps p.tables e below (T269.setTop (mkF m 254 #[.val (.int xa), .val (.ref b2), .unset, .unset, .unset] [(.int (1 : Int32)), (.int (14 : Int32)), (.ref b213), (.ref b213)])) t → Steps p.tables e below (s₁.setTop (entryFrame m #[(.int xa)] maxLocals)) t := by
    intro t k
    refine pre270 t ?_
    refine XS.dup X269.here hx rfl (hb hby at_250) rfl rfl ?_
    show Steps p.tables e below (T269.setTop (mkF m 251 #[.val (.int xa), .val (.ref b2), .unset, .unset, .unset] [(.ref b213), (.ref b213)])) _
    refine XS.bipush X269.here hx rfl (hb hby at_251) ?_
    show Steps p.tables e below (T269.setTop (mkF m 253 #[.val (.int xa), .val (.ref b2), .unset, .unset, .unset] [(.int (14 : Int32)), (.ref b213), (.ref b213)])) _
    refine XS.iconst X269.here hx rfl (hb hby at_253) ?_
    show Steps p.tables e below (T269.setTop (mkF m 254 #[.val (.int xa), .val (.ref b2), .unset, .unset, .unset] [(.int (1 : Int32)), (.int (14 : Int32)), (.ref b213), (.ref b213)])) _
    exact k
  obtain ⟨c272, a272, q272, s272, m272, i272, u272⟩ := id V269
  obtain ⟨T273, h273, X273, e273, W273, st273⟩ := stZ X269 hx hZ e269 a272 (j := (14 : Int32)) (inb_of s272 ⟨by decide, by decide⟩) (g := (mkF m 254 #[.val (.int xa), .val (.ref b2), .unset, .unset, .unset] [(.int (1 : Int32)), (.int (14 : Int32)), (.ref b213), (.ref b213)])) rfl rfl (hb hby at_254)
  have K273 : Keep h0 h273 ([] : List Addr) := K269.wr W273 (Or.inr sz_b213)
  have z273 : n0 ≤ h273.size := Nat.le_trans Z0 K273.1
  have N273 := Fr.snoc X273 N269 g_b213
  have V273 : Arv Z h273 b213 k213 .boolean (26 : Int32) [(.int (nar .boolean (0 : Int32))), (.int (nar .boolean (0 : Int32))), (.int (nar .boolean (0 : Int32))), (.int (nar .boolean (0 : Int32))), (.int (nar .boolean (1 : Int32))), (.int (nar .boolean (1 : Int32))), (.int (nar .boolean (1 : Int32))), (.int (nar .boolean (1 : Int32))), (.int (nar .boolean (1 : Int32))), (.int (nar .boolean (1 : Int32))), (.int (nar .boolean (1 : Int32))), (.int (nar .boolean (1 : Int32))), (.int (nar .boolean (1 : Int32))), (.int (nar .boolean (1 : Int32))), (.int (nar .boolean (1 : Int32))), (.int (0 : Int32)), (.int (0 : Int32)), (.int (0 : Int32)), (.int (0 : Int32)), (.int (0 : Int32)), (.int (0 : Int32)), (.int (0 : Int32)), (.int (0 : Int32)), (.int (0 : Int32)), (.int (0 : Int32)), (.int (0 : Int32))] (.int (0 : Int32)) := Arv.set a272 q272 s272 m272 i272 u272 (fits_nar_bool _) W273 14 rfl (Nat.le_of_ble_eq_true rfl)
  have pre274 : ∀ t, Steps p.tables e below (T273.setTop (mkF m 255 #[.val (.int xa), .val (.ref b2), .unset, .unset, .unset] [(.ref b213)])) t → Steps p.tables e below (s₁.setTop (entryFrame m #[(.int xa)] maxLocals)) t := fun t k => pre271 t (st273 t k)
  have pre275 : ∀ t, Steps p.tables e below (T273.setTop (mkF m 259 #[.val (.int xa), .val (.ref b2), .unset, .unset, .unset] [(.int (1 : Int32)), (.int (15 : Int32)), (.ref b213), (.ref b213)])) t → Steps p.tables e below (s₁.setTop (entryFrame m #[(.int xa)] maxLocals)) t := by
    intro t k
    refine pre274 t ?_
    refine XS.dup X273.here hx rfl (hb hby at_255) rfl rfl ?_
    show Steps p.tables e below (T273.setTop (mkF m 256 #[.val (.int xa), .val (.ref b2), .unset, .unset, .unset] [(.ref b213), (.ref b213)])) _
    refine XS.bipush X273.here hx rfl (hb hby at_256) ?_
    show Steps p.tables e below (T273.setTop (mkF m 258 #[.val (.int xa), .val (.ref b2), .unset, .unset, .unset] [(.int (15 : Int32)), (.ref b213), (.ref b213)])) _
    refine XS.iconst X273.here hx rfl (hb hby at_258) ?_
    show Steps p.tables e below (T273.setTop (mkF m 259 #[.val (.int xa), .val (.ref b2), .unset, .unset, .unset] [(.int (1 : Int32)), (.int (15 : Int32)), (.ref b213), (.ref b213)])) _
    exact k
  obtain ⟨c276, a276, q276, s276, m276, i276, u276⟩ := id V273
  obtain ⟨T277, h277, X277, e277, W277, st277⟩ := stZ X273 hx hZ e273 a276 (j := (15 : Int32)) (inb_of s276 ⟨by decide, by decide⟩) (g := (mkF m 259 #[.val (.int xa), .val (.ref b2), .unset, .unset, .unset] [(.int (1 : Int32)), (.int (15 : Int32)), (.ref b213), (.ref b213)])) rfl rfl (hb hby at_259)
  have K277 : Keep h0 h277 ([] : List Addr) := K273.wr W277 (Or.inr sz_b213)
  have z277 : n0 ≤ h277.size := Nat.le_trans Z0 K277.1
  have N277 := Fr.snoc X277 N273 g_b213
  have V277 : Arv Z h277 b213 k213 .boolean (26 : Int32) [(.int (nar .boolean (0 : Int32))), (.int (nar .boolean (0 : Int32))), (.int (nar .boolean (0 : Int32))), (.int (nar .boolean (0 : Int32))), (.int (nar .boolean (1 : Int32))), (.int (nar .boolean (1 : Int32))), (.int (nar .boolean (1 : Int32))), (.int (nar .boolean (1 : Int32))), (.int (nar .boolean (1 : Int32))), (.int (nar .boolean (1 : Int32))), (.int (nar .boolean (1 : Int32))), (.int (nar .boolean (1 : Int32))), (.int (nar .boolean (1 : Int32))), (.int (nar .boolean (1 : Int32))), (.int (nar .boolean (1 : Int32))), (.int (nar .boolean (1 : Int32))), (.int (0 : Int32)), (.int (0 : Int32)), (.int (0 : Int32)), (.int (0 : Int32)), (.int (0 : Int32)), (.int (0 : Int32)), (.int (0 : Int32)), (.int (0 : Int32)), (.int (0 : Int32)), (.int (0 : Int32))] (.int (0 : Int32)) := Arv.set a276 q276 s276 m276 i276 u276 (fits_nar_bool _) W277 15 rfl (Nat.le_of_ble_eq_true rfl)
  have pre278 : ∀ t, Steps p.tables e below (T277.setTop (mkF m 260 #[.val (.int xa), .val (.ref b2), .unset, .unset, .unset] [(.ref b213)])) t → Steps p.tables e below (s₁.setTop (entryFrame m #[(.int xa)] maxLocals)) t := fun t k => pre275 t (st277 t k)
  have pre279 : ∀ t, Steps p.tables e below (T277.setTop (mkF m 264 #[.val (.int xa), .val (.ref b2), .unset, .unset, .unset] [(.int (1 : Int32)), (.int (16 : Int32)), (.ref b213), (.ref b213)])) t → Steps p.tables e below (s₁.setTop (entryFrame m #[(.int xa)] maxLocals)) t := by
    intro t k
    refine pre278 t ?_
    refine XS.dup X277.here hx rfl (hb hby at_260) rfl rfl ?_
    show Steps p.tables e below (T277.setTop (mkF m 261 #[.val (.int xa), .val (.ref b2), .unset, .unset, .unset] [(.ref b213), (.ref b213)])) _
    refine XS.bipush X277.here hx rfl (hb hby at_261) ?_
    show Steps p.tables e below (T277.setTop (mkF m 263 #[.val (.int xa), .val (.ref b2), .unset, .unset, .unset] [(.int (16 : Int32)), (.ref b213), (.ref b213)])) _
    refine XS.iconst X277.here hx rfl (hb hby at_263) ?_
    show Steps p.tables e below (T277.setTop (mkF m 264 #[.val (.int xa), .val (.ref b2), .unset, .unset, .unset] [(.int (1 : Int32)), (.int (16 : Int32)), (.ref b213), (.ref b213)])) _
    exact k
  obtain ⟨c280, a280, q280, s280, m280, i280, u280⟩ := id V277
  obtain ⟨T281, h281, X281, e281, W281, st281⟩ := stZ X277 hx hZ e277 a280 (j := (16 : Int32)) (inb_of s280 ⟨by decide, by decide⟩) (g := (mkF m 264 #[.val (.int xa), .val (.ref b2), .unset, .unset, .unset] [(.int (1 : Int32)), (.int (16 : Int32)), (.ref b213), (.ref b213)])) rfl rfl (hb hby at_264)
  have K281 : Keep h0 h281 ([] : List Addr) := K277.wr W281 (Or.inr sz_b213)
  have z281 : n0 ≤ h281.size := Nat.le_trans Z0 K281.1
  have N281 := Fr.snoc X281 N277 g_b213
  have V281 : Arv Z h281 b213 k213 .boolean (26 : Int32) [(.int (nar .boolean (0 : Int32))), (.int (nar .boolean (0 : Int32))), (.int (nar .boolean (0 : Int32))), (.int (nar .boolean (0 : Int32))), (.int (nar .boolean (1 : Int32))), (.int (nar .boolean (1 : Int32))), (.int (nar .boolean (1 : Int32))), (.int (nar .boolean (1 : Int32))), (.int (nar .boolean (1 : Int32))), (.int (nar .boolean (1 : Int32))), (.int (nar .boolean (1 : Int32))), (.int (nar .boolean (1 : Int32))), (.int (nar .boolean (1 : Int32))), (.int (nar .boolean (1 : Int32))), (.int (nar .boolean (1 : Int32))), (.int (nar .boolean (1 : Int32))), (.int (nar .boolean (1 : Int32))), (.int (0 : Int32)), (.int (0 : Int32)), (.int (0 : Int32)), (.int (0 : Int32)), (.int (0 : Int32)), (.int (0 : Int32)), (.int (0 : Int32)), (.int (0 : Int32)), (.int (0 : Int32))] (.int (0 : Int32)) := Arv.set a280 q280 s280 m280 i280 u280 (fits_nar_bool _) W281 16 rfl (Nat.le_of_ble_eq_true rfl)
  have pre282 : ∀ t, Steps p.tables e below (T281.setTop (mkF m 265 #[.val (.int xa), .val (.ref b2), .unset, .unset, .unset] [(.ref b213)])) t → Steps p.tables e below (s₁.setTop (entryFrame m #[(.int xa)] maxLocals)) t := fun t k => pre279 t (st281 t k)
  have pre283 : ∀ t, Steps p.tables e below (T281.setTop (mkF m 269 #[.val (.int xa), .val (.ref b2), .unset, .unset, .unset] [(.int (1 : Int32)), (.int (17 : Int32)), (.ref b213), (.ref b213)])) t → Steps p.tables e below (s₁.setTop (entryFrame m #[(.int xa)] maxLocals)) t := by
    intro t k
    refine pre282 t ?_
    refine XS.dup X281.here hx rfl (hb hby at_265) rfl rfl ?_
    show Steps p.tables e below (T281.setTop (mkF m 266 #[.val (.int xa), .val (.ref b2), .unset, .unset, .unset] [(.ref b213), (.ref b213)])) _
    refine XS.bipush X281.here hx rfl (hb hby at_266) ?_
    show Steps p.tables e below (T281.setTop (mkF m 268 #[.val (.int xa), .val (.ref b2), .unset, .unset, .unset] [(.int (17 : Int32)), (.ref b213), (.ref b213)])) _
    refine XS.iconst X281.here hx rfl (hb hby at_268) ?_
    show Steps p.tables e below (T281.setTop (mkF m 269 #[.val (.int xa), .val (.ref b2), .unset, .unset, .unset] [(.int (1 : Int32)), (.int (17 : Int32)), (.ref b213), (.ref b213)])) _
    exact k
  obtain ⟨c284, a284, q284, s284, m284, i284, u284⟩ := id V281
  obtain ⟨T285, h285, X285, e285, W285, st285⟩ := stZ X281 hx hZ e281 a284 (j := (17 : Int32)) (inb_of s284 ⟨by decide, by decide⟩) (g := (mkF m 269 #[.val (.int xa), .val (.ref b2), .unset, .unset, .unset] [(.int (1 : Int32)), (.int (17 : Int32)), (.ref b213), (.ref b213)])) rfl rfl (hb hby at_269)
  have K285 : Keep h0 h285 ([] : List Addr) := K281.wr W285 (Or.inr sz_b213)
  have z285 : n0 ≤ h285.size := Nat.le_trans Z0 K285.1
  have N285 := Fr.snoc X285 N281 g_b213
  have V285 : Arv Z h285 b213 k213 .boolean (26 : Int32) [(.int (nar .boolean (0 : Int32))), (.int (nar .boolean (0 : Int32))), (.int (nar .boolean (0 : Int32))), (.int (nar .boolean (0 : Int32))), (.int (nar .boolean (1 : Int32))), (.int (nar .boolean (1 : Int32))), (.int (nar .boolean (1 : Int32))), (.int (nar .boolean (1 : Int32))), (.int (nar .boolean (1 : Int32))), (.int (nar .boolean (1 : Int32))), (.int (nar .boolean (1 : Int32))), (.int (nar .boolean (1 : Int32))), (.int (nar .boolean (1 : Int32))), (.int (nar .boolean (1 : Int32))), (.int (nar .boolean (1 : Int32))), (.int (nar .boolean (1 : Int32))), (.int (nar .boolean (1 : Int32))), (.int (nar .boolean (1 : Int32))), (.int (0 : Int32)), (.int (0 : Int32)), (.int (0 : Int32)), (.int (0 : Int32)), (.int (0 : Int32)), (.int (0 : Int32)), (.int (0 : Int32)), (.int (0 : Int32))] (.int (0 : Int32)) := Arv.set a284 q284 s284 m284 i284 u284 (fits_nar_bool _) W285 17 rfl (Nat.le_of_ble_eq_true rfl)
  have pre286 : ∀ t, Steps p.tables e below (T285.setTop (mkF m 270 #[.val (.int xa), .val (.ref b2), .unset, .unset, .unset] [(.ref b213)])) t → Steps p.tables e below (s₁.setTop (entryFrame m #[(.int xa)] maxLocals)) t := fun t k => pre283 t (st285 t k)
  have pre287 : ∀ t, Steps p.tables e below (T285.setTop (mkF m 274 #[.val (.int xa), .val (.ref b2), .unset, .unset, .unset] [(.int (1 : Int32)), (.int (18 : Int32)), (.ref b213), (.ref b213)])) t → Steps p.tables e below (s₁.setTop (entryFrame m #[(.int xa)] maxLocals)) t := by
    intro t k
    refine pre286 t ?_
    refine XS.dup X285.here hx rfl (hb hby at_270) rfl rfl ?_
    show Steps p.tables e below (T285.setTop (mkF m 271 #[.val (.int xa), .val (.ref b2), .unset, .unset, .unset] [(.ref b213), (.ref b213)])) _
    refine XS.bipush X285.here hx rfl (hb hby at_271) ?_
    show Steps p.tables e below (T285.setTop (mkF m 273 #[.val (.int xa), .val (.ref b2), .unset, .unset, .unset] [(.int (18 : Int32)), (.ref b213), (.ref b213)])) _
    refine XS.iconst X285.here hx rfl (hb hby at_273) ?_
    show Steps p.tables e below (T285.setTop (mkF m 274 #[.val (.int xa), .val (.ref b2), .unset, .unset, .unset] [(.int (1 : Int32)), (.int (18 : Int32)), (.ref b213), (.ref b213)])) _
    exact k
  obtain ⟨c288, a288, q288, s288, m288, i288, u288⟩ := id V285
  obtain ⟨T289, h289, X289, e289, W289, st289⟩ := stZ X285 hx hZ e285 a288 (j := (18 : Int32)) (inb_of s288 ⟨by decide, by decide⟩) (g := (mkF m 274 #[.val (.int xa), .val (.ref b2), .unset, .unset, .unset] [(.int (1 : Int32)), (.int (18 : Int32)), (.ref b213), (.ref b213)])) rfl rfl (hb hby at_274)
  have K289 : Keep h0 h289 ([] : List Addr) := K285.wr W289 (Or.inr sz_b213)
  have z289 : n0 ≤ h289.size := Nat.le_trans Z0 K289.1
  have N289 := Fr.snoc X289 N285 g_b213
  have V289 : Arv Z h289 b213 k213 .boolean (26 : Int32) [(.int (nar .boolean (0 : Int32))), (.int (nar .boolean (0 : Int32))), (.int (nar .boolean (0 : Int32))), (.int (nar .boolean (0 : Int32))), (.int (nar .boolean (1 : Int32))), (.int (nar .boolean (1 : Int32))), (.int (nar .boolean (1 : Int32))), (.int (nar .boolean (1 : Int32))), (.int (nar .boolean (1 : Int32))), (.int (nar .boolean (1 : Int32))), (.int (nar .boolean (1 : Int32))), (.int (nar .boolean (1 : Int32))), (.int (nar .boolean (1 : Int32))), (.int (nar .boolean (1 : Int32))), (.int (nar .boolean (1 : Int32))), (.int (nar .boolean (1 : Int32))), (.int (nar .boolean (1 : Int32))), (.int (nar .boolean (1 : Int32))), (.int (nar .boolean (1 : Int32))), (.int (0 : Int32)), (.int (0 : Int32)), (.int (0 : Int32)), (.int (0 : Int32)), (.int (0 : Int32)), (.int (0 : Int32)), (.int (0 : Int32))] (.int (0 : Int32)) := Arv.set a288 q288 s288 m288 i288 u288 (fits_nar_bool _) W289 18 rfl (Nat.le_of_ble_eq_true rfl)
  have pre290 : ∀ t, Steps p.tables e below (T289.setTop (mkF m 275 #[.val (.int xa), .val (.ref b2), .unset, .unset, .unset] [(.ref b213)])) t → Steps p.tables e below (s₁.setTop (entryFrame m #[(.int xa)] maxLocals)) t := fun t k => pre287 t (st289 t k)
  have pre291 : ∀ t, Steps p.tables e below (T289.setTop (mkF m 279 #[.val (.int xa), .val (.ref b2), .unset, .unset, .unset] [(.int (1 : Int32)), (.int (19 : Int32)), (.ref b213), (.ref b213)])) t → Steps p.tables e below (s₁.setTop (entryFrame m #[(.int xa)] maxLocals)) t := by
    intro t k
    refine pre290 t ?_
    refine XS.dup X289.here hx rfl (hb hby at_275) rfl rfl ?_
    show Steps p.tables e below (T289.setTop (mkF m 276 #[.val (.int xa), .val (.ref b2), .unset, .unset, .unset] [(.ref b213), (.ref b213)])) _
    refine XS.bipush X289.here hx rfl (hb hby at_276) ?_
    show Steps p.tables e below (T289.setTop (mkF m 278 #[.val (.int xa), .val (.ref b2), .unset, .unset, .unset] [(.int (19 : Int32)), (.ref b213), (.ref b213)])) _
    refine XS.iconst X289.here hx rfl (hb hby at_278) ?_
    show Steps p.tables e below (T289.setTop (mkF m 279 #[.val (.int xa), .val (.ref b2), .unset, .unset, .unset] [(.int (1 : Int32)), (.int (19 : Int32)), (.ref b213), (.ref b213)])) _
    exact k
  obtain ⟨c292, a292, q292, s292, m292, i292, u292⟩ := id V289
  obtain ⟨T293, h293, X293, e293, W293, st293⟩ := stZ X289 hx hZ e289 a292 (j := (19 : Int32)) (inb_of s292 ⟨by decide, by decide⟩) (g := (mkF m 279 #[.val (.int xa), .val (.ref b2), .unset, .unset, .unset] [(.int (1 : Int32)), (.int (19 : Int32)), (.ref b213), (.ref b213)])) rfl rfl (hb hby at_279)
  have K293 : Keep h0 h293 ([] : List Addr) := K289.wr W293 (Or.inr sz_b213)
  have z293 : n0 ≤ h293.size := Nat.le_trans Z0 K293.1
  have N293 := Fr.snoc X293 N289 g_b213
  have V293 : Arv Z h293 b213 k213 .boolean (26 : Int32) [(.int (nar .boolean (0 : Int32))), (.int (nar .boolean (0 : Int32))), (.int (nar .boolean (0 : Int32))), (.int (nar .boolean (0 : Int32))), (.int (nar .boolean (1 : Int32))), (.int (nar .boolean (1 : Int32))), (.int (nar .boolean (1 : Int32))), (.int (nar .boolean (1 : Int32))), (.int (nar .boolean (1 : Int32))), (.int (nar .boolean (1 : Int32))), (.int (nar .boolean (1 : Int32))), (.int (nar .boolean (1 : Int32))), (.int (nar .boolean (1 : Int32))), (.int (nar .boolean (1 : Int32))), (.int (nar .boolean (1 : Int32))), (.int (nar .boolean (1 : Int32))), (.int (nar .boolean (1 : Int32))), (.int (nar .boolean (1 : Int32))), (.int (nar .boolean (1 : Int32))), (.int (nar .boolean (1 : Int32))), (.int (0 : Int32)), (.int (0 : Int32)), (.int (0 : Int32)), (.int (0 : Int32)), (.int (0 : Int32)), (.int (0 : Int32))] (.int (0 : Int32)) := Arv.set a292 q292 s292 m292 i292 u292 (fits_nar_bool _) W293 19 rfl (Nat.le_of_ble_eq_true rfl)
  have pre294 : ∀ t, Steps p.tables e below (T293.setTop (mkF m 280 #[.val (.int xa), .val (.ref b2), .unset, .unset, .unset] [(.ref b213)])) t → Steps p.tables e below (s₁.setTop (entryFrame m #[(.int xa)] maxLocals)) t := fun t k => pre291 t (st293 t k)
  have pre295 : ∀ t, Steps p.tables e below (T293.setTop (mkF m 284 #[.val (.int xa), .val (.ref b2), .unset, .unset, .unset] [(.int (0 : Int32)), (.int (20 : Int32)), (.ref b213), (.ref b213)])) t → Steps p.tables e below (s₁.setTop (entryFrame m #[(.int xa)] maxLocals)) t := by
    intro t k
    refine pre294 t ?_
    refine XS.dup X293.here hx rfl (hb hby at_280) rfl rfl ?_
    show Steps p.tables e below (T293.setTop (mkF m 281 #[.val (.int xa), .val (.ref b2), .unset, .unset, .unset] [(.ref b213), (.ref b213)])) _
    refine XS.bipush X293.here hx rfl (hb hby at_281) ?_
    show Steps p.tables e below (T293.setTop (mkF m 283 #[.val (.int xa), .val (.ref b2), .unset, .unset, .unset] [(.int (20 : Int32)), (.ref b213), (.ref b213)])) _
    refine XS.iconst X293.here hx rfl (hb hby at_283) ?_
    show Steps p.tables e below (T293.setTop (mkF m 284 #[.val (.int xa), .val (.ref b2), .unset, .unset, .unset] [(.int (0 : Int32)), (.int (20 : Int32)), (.ref b213), (.ref b213)])) _
    exact k
  obtain ⟨c296, a296, q296, s296, m296, i296, u296⟩ := id V293
  obtain ⟨T297, h297, X297, e297, W297, st297⟩ := stZ X293 hx hZ e293 a296 (j := (20 : Int32)) (inb_of s296 ⟨by decide, by decide⟩) (g := (mkF m 284 #[.val (.int xa), .val (.ref b2), .unset, .unset, .unset] [(.int (0 : Int32)), (.int (20 : Int32)), (.ref b213), (.ref b213)])) rfl rfl (hb hby at_284)
  have K297 : Keep h0 h297 ([] : List Addr) := K293.wr W297 (Or.inr sz_b213)
  have z297 : n0 ≤ h297.size := Nat.le_trans Z0 K297.1
  have N297 := Fr.snoc X297 N293 g_b213
  have V297 : Arv Z h297 b213 k213 .boolean (26 : Int32) [(.int (nar .boolean (0 : Int32))), (.int (nar .boolean (0 : Int32))), (.int (nar .boolean (0 : Int32))), (.int (nar .boolean (0 : Int32))), (.int (nar .boolean (1 : Int32))), (.int (nar .boolean (1 : Int32))), (.int (nar .boolean (1 : Int32))), (.int (nar .boolean (1 : Int32))), (.int (nar .boolean (1 : Int32))), (.int (nar .boolean (1 : Int32))), (.int (nar .boolean (1 : Int32))), (.int (nar .boolean (1 : Int32))), (.int (nar .boolean (1 : Int32))), (.int (nar .boolean (1 : Int32))), (.int (nar .boolean (1 : Int32))), (.int (nar .boolean (1 : Int32))), (.int (nar .boolean (1 : Int32))), (.int (nar .boolean (1 : Int32))), (.int (nar .boolean (1 : Int32))), (.int (nar .boolean (1 : Int32))), (.int (nar .boolean (0 : Int32))), (.int (0 : Int32)), (.int (0 : Int32)), (.int (0 : Int32)), (.int (0 : Int32)), (.int (0 : Int32))] (.int (0 : Int32)) := Arv.set a296 q296 s296 m296 i296 u296 (fits_nar_bool _) W297 20 rfl (Nat.le_of_ble_eq_true rfl)
  have pre298 : ∀ t, Steps p.tables e below (T297.setTop (mkF m 285 #[.val (.int xa), .val (.ref b2), .unset, .unset, .unset] [(.ref b213)])) t → Steps p.tables e below (s₁.setTop (entryFrame m #[(.int xa)] maxLocals)) t := fun t k => pre295 t (st297 t k)
  have pre299 : ∀ t, Steps p.tables e below (T297.setTop (mkF m 289 #[.val (.int xa), .val (.ref b2), .unset, .unset, .unset] [(.int (0 : Int32)), (.int (21 : Int32)), (.ref b213), (.ref b213)])) t → Steps p.tables e below (s₁.setTop (entryFrame m #[(.int xa)] maxLocals)) t := by
    intro t k
    refine pre298 t ?_
    refine XS.dup X297.here hx rfl (hb hby at_285) rfl rfl ?_
    show Steps p.tables e below (T297.setTop (mkF m 286 #[.val (.int xa), .val (.ref b2), .unset, .unset, .unset] [(.ref b213), (.ref b213)])) _
    refine XS.bipush X297.here hx rfl (hb hby at_286) ?_
    show Steps p.tables e below (T297.setTop (mkF m 288 #[.val (.int xa), .val (.ref b2), .unset, .unset, .unset] [(.int (21 : Int32)), (.ref b213), (.ref b213)])) _
    refine XS.iconst X297.here hx rfl (hb hby at_288) ?_
    show Steps p.tables e below (T297.setTop (mkF m 289 #[.val (.int xa), .val (.ref b2), .unset, .unset, .unset] [(.int (0 : Int32)), (.int (21 : Int32)), (.ref b213), (.ref b213)])) _
    exact k
  obtain ⟨c300, a300, q300, s300, m300, i300, u300⟩ := id V297
  obtain ⟨T301, h301, X301, e301, W301, st301⟩ := stZ X297 hx hZ e297 a300 (j := (21 : Int32)) (inb_of s300 ⟨by decide, by decide⟩) (g := (mkF m 289 #[.val (.int xa), .val (.ref b2), .unset, .unset, .unset] [(.int (0 : Int32)), (.int (21 : Int32)), (.ref b213), (.ref b213)])) rfl rfl (hb hby at_289)
  have K301 : Keep h0 h301 ([] : List Addr) := K297.wr W301 (Or.inr sz_b213)
  have z301 : n0 ≤ h301.size := Nat.le_trans Z0 K301.1
  have N301 := Fr.snoc X301 N297 g_b213
  have V301 : Arv Z h301 b213 k213 .boolean (26 : Int32) [(.int (nar .boolean (0 : Int32))), (.int (nar .boolean (0 : Int32))), (.int (nar .boolean (0 : Int32))), (.int (nar .boolean (0 : Int32))), (.int (nar .boolean (1 : Int32))), (.int (nar .boolean (1 : Int32))), (.int (nar .boolean (1 : Int32))), (.int (nar .boolean (1 : Int32))), (.int (nar .boolean (1 : Int32))), (.int (nar .boolean (1 : Int32))), (.int (nar .boolean (1 : Int32))), (.int (nar .boolean (1 : Int32))), (.int (nar .boolean (1 : Int32))), (.int (nar .boolean (1 : Int32))), (.int (nar .boolean (1 : Int32))), (.int (nar .boolean (1 : Int32))), (.int (nar .boolean (1 : Int32))), (.int (nar .boolean (1 : Int32))), (.int (nar .boolean (1 : Int32))), (.int (nar .boolean (1 : Int32))), (.int (nar .boolean (0 : Int32))), (.int (nar .boolean (0 : Int32))), (.int (0 : Int32)), (.int (0 : Int32)), (.int (0 : Int32)), (.int (0 : Int32))] (.int (0 : Int32)) := Arv.set a300 q300 s300 m300 i300 u300 (fits_nar_bool _) W301 21 rfl (Nat.le_of_ble_eq_true rfl)
  have pre302 : ∀ t, Steps p.tables e below (T301.setTop (mkF m 290 #[.val (.int xa), .val (.ref b2), .unset, .unset, .unset] [(.ref b213)])) t → Steps p.tables e below (s₁.setTop (entryFrame m #[(.int xa)] maxLocals)) t := fun t k => pre299 t (st301 t k)
  have pre303 : ∀ t, Steps p.tables e below (T301.setTop (mkF m 294 #[.val (.int xa), .val (.ref b2), .unset, .unset, .unset] [(.int (0 : Int32)), (.int (22 : Int32)), (.ref b213), (.ref b213)])) t → Steps p.tables e below (s₁.setTop (entryFrame m #[(.int xa)] maxLocals)) t := by
    intro t k
    refine pre302 t ?_
    refine XS.dup X301.here hx rfl (hb hby at_290) rfl rfl ?_
    show Steps p.tables e below (T301.setTop (mkF m 291 #[.val (.int xa), .val (.ref b2), .unset, .unset, .unset] [(.ref b213), (.ref b213)])) _
    refine XS.bipush X301.here hx rfl (hb hby at_291) ?_
    show Steps p.tables e below (T301.setTop (mkF m 293 #[.val (.int xa), .val (.ref b2), .unset, .unset, .unset] [(.int (22 : Int32)), (.ref b213), (.ref b213)])) _
    refine XS.iconst X301.here hx rfl (hb hby at_293) ?_
    show Steps p.tables e below (T301.setTop (mkF m 294 #[.val (.int xa), .val (.ref b2), .unset, .unset, .unset] [(.int (0 : Int32)), (.int (22 : Int32)), (.ref b213), (.ref b213)])) _
    exact k
  obtain ⟨c304, a304, q304, s304, m304, i304, u304⟩ := id V301
  obtain ⟨T305, h305, X305, e305, W305, st305⟩ := stZ X301 hx hZ e301 a304 (j := (22 : Int32)) (inb_of s304 ⟨by decide, by decide⟩) (g := (mkF m 294 #[.val (.int xa), .val (.ref b2), .unset, .unset, .unset] [(.int (0 : Int32)), (.int (22 : Int32)), (.ref b213), (.ref b213)])) rfl rfl (hb hby at_294)
  have K305 : Keep h0 h305 ([] : List Addr) := K301.wr W305 (Or.inr sz_b213)
  have z305 : n0 ≤ h305.size := Nat.le_trans Z0 K305.1
  have N305 := Fr.snoc X305 N301 g_b213
  have V305 : Arv Z h305 b213 k213 .boolean (26 : Int32) [(.int (nar .boolean (0 : Int32))), (.int (nar .boolean (0 : Int32))), (.int (nar .boolean (0 : Int32))), (.int (nar .boolean (0 : Int32))), (.int (nar .boolean (1 : Int32))), (.int (nar .boolean (1 : Int32))), (.int (nar .boolean (1 : Int32))), (.int (nar .boolean (1 : Int32))), (.int (nar .boolean (1 : Int32))), (.int (nar .boolean (1 : Int32))), (.int (nar .boolean (1 : Int32))), (.int (nar .boolean (1 : Int32))), (.int (nar .boolean (1 : Int32))), (.int (nar .boolean (1 : Int32))), (.int (nar .boolean (1 : Int32))), (.int (nar .boolean (1 : Int32))), (.int (nar .boolean (1 : Int32))), (.int (nar .boolean (1 : Int32))), (.int (nar .boolean (1 : Int32))), (.int (nar .boolean (1 : Int32))), (.int (nar .boolean (0 : Int32))), (.int (nar .boolean (0 : Int32))), (.int (nar .boolean (0 : Int32))), (.int (0 : Int32)), (.int (0 : Int32)), (.int (0 : Int32))] (.int (0 : Int32)) := Arv.set a304 q304 s304 m304 i304 u304 (fits_nar_bool _) W305 22 rfl (Nat.le_of_ble_eq_true rfl)
  have pre306 : ∀ t, Steps p.tables e below (T305.setTop (mkF m 295 #[.val (.int xa), .val (.ref b2), .unset, .unset, .unset] [(.ref b213)])) t → Steps p.tables e below (s₁.setTop (entryFrame m #[(.int xa)] maxLocals)) t := fun t k => pre303 t (st305 t k)
  have pre307 : ∀ t, Steps p.tables e below (T305.setTop (mkF m 299 #[.val (.int xa), .val (.ref b2), .unset, .unset, .unset] [(.int (0 : Int32)), (.int (23 : Int32)), (.ref b213), (.ref b213)])) t → Steps p.tables e below (s₁.setTop (entryFrame m #[(.int xa)] maxLocals)) t := by
    intro t k
    refine pre306 t ?_
    refine XS.dup X305.here hx rfl (hb hby at_295) rfl rfl ?_
    show Steps p.tables e below (T305.setTop (mkF m 296 #[.val (.int xa), .val (.ref b2), .unset, .unset, .unset] [(.ref b213), (.ref b213)])) _
    refine XS.bipush X305.here hx rfl (hb hby at_296) ?_
    show Steps p.tables e below (T305.setTop (mkF m 298 #[.val (.int xa), .val (.ref b2), .unset, .unset, .unset] [(.int (23 : Int32)), (.ref b213), (.ref b213)])) _
    refine XS.iconst X305.here hx rfl (hb hby at_298) ?_
    show Steps p.tables e below (T305.setTop (mkF m 299 #[.val (.int xa), .val (.ref b2), .unset, .unset, .unset] [(.int (0 : Int32)), (.int (23 : Int32)), (.ref b213), (.ref b213)])) _
    exact k
  obtain ⟨c308, a308, q308, s308, m308, i308, u308⟩ := id V305
  obtain ⟨T309, h309, X309, e309, W309, st309⟩ := stZ X305 hx hZ e305 a308 (j := (23 : Int32)) (inb_of s308 ⟨by decide, by decide⟩) (g := (mkF m 299 #[.val (.int xa), .val (.ref b2), .unset, .unset, .unset] [(.int (0 : Int32)), (.int (23 : Int32)), (.ref b213), (.ref b213)])) rfl rfl (hb hby at_299)
  have K309 : Keep h0 h309 ([] : List Addr) := K305.wr W309 (Or.inr sz_b213)
  have z309 : n0 ≤ h309.size := Nat.le_trans Z0 K309.1
  have N309 := Fr.snoc X309 N305 g_b213
  have V309 : Arv Z h309 b213 k213 .boolean (26 : Int32) [(.int (nar .boolean (0 : Int32))), (.int (nar .boolean (0 : Int32))), (.int (nar .boolean (0 : Int32))), (.int (nar .boolean (0 : Int32))), (.int (nar .boolean (1 : Int32))), (.int (nar .boolean (1 : Int32))), (.int (nar .boolean (1 : Int32))), (.int (nar .boolean (1 : Int32))), (.int (nar .boolean (1 : Int32))), (.int (nar .boolean (1 : Int32))), (.int (nar .boolean (1 : Int32))), (.int (nar .boolean (1 : Int32))), (.int (nar .boolean (1 : Int32))), (.int (nar .boolean (1 : Int32))), (.int (nar .boolean (1 : Int32))), (.int (nar .boolean (1 : Int32))), (.int (nar .boolean (1 : Int32))), (.int (nar .boolean (1 : Int32))), (.int (nar .boolean (1 : Int32))), (.int (nar .boolean (1 : Int32))), (.int (nar .boolean (0 : Int32))), (.int (nar .boolean (0 : Int32))), (.int (nar .boolean (0 : Int32))), (.int (nar .boolean (0 : Int32))), (.int (0 : Int32)), (.int (0 : Int32))] (.int (0 : Int32)) := Arv.set a308 q308 s308 m308 i308 u308 (fits_nar_bool _) W309 23 rfl (Nat.le_of_ble_eq_true rfl)
  have pre310 : ∀ t, Steps p.tables e below (T309.setTop (mkF m 300 #[.val (.int xa), .val (.ref b2), .unset, .unset, .unset] [(.ref b213)])) t → Steps p.tables e below (s₁.setTop (entryFrame m #[(.int xa)] maxLocals)) t := fun t k => pre307 t (st309 t k)
  have pre311 : ∀ t, Steps p.tables e below (T309.setTop (mkF m 304 #[.val (.int xa), .val (.ref b2), .unset, .unset, .unset] [(.int (0 : Int32)), (.int (24 : Int32)), (.ref b213), (.ref b213)])) t → Steps p.tables e below (s₁.setTop (entryFrame m #[(.int xa)] maxLocals)) t := by
    intro t k
    refine pre310 t ?_
    refine XS.dup X309.here hx rfl (hb hby at_300) rfl rfl ?_
    show Steps p.tables e below (T309.setTop (mkF m 301 #[.val (.int xa), .val (.ref b2), .unset, .unset, .unset] [(.ref b213), (.ref b213)])) _
    refine XS.bipush X309.here hx rfl (hb hby at_301) ?_
    show Steps p.tables e below (T309.setTop (mkF m 303 #[.val (.int xa), .val (.ref b2), .unset, .unset, .unset] [(.int (24 : Int32)), (.ref b213), (.ref b213)])) _
    refine XS.iconst X309.here hx rfl (hb hby at_303) ?_
    show Steps p.tables e below (T309.setTop (mkF m 304 #[.val (.int xa), .val (.ref b2), .unset, .unset, .unset] [(.int (0 : Int32)), (.int (24 : Int32)), (.ref b213), (.ref b213)])) _
    exact k
  obtain ⟨c312, a312, q312, s312, m312, i312, u312⟩ := id V309
  obtain ⟨T313, h313, X313, e313, W313, st313⟩ := stZ X309 hx hZ e309 a312 (j := (24 : Int32)) (inb_of s312 ⟨by decide, by decide⟩) (g := (mkF m 304 #[.val (.int xa), .val (.ref b2), .unset, .unset, .unset] [(.int (0 : Int32)), (.int (24 : Int32)), (.ref b213), (.ref b213)])) rfl rfl (hb hby at_304)
  have K313 : Keep h0 h313 ([] : List Addr) := K309.wr W313 (Or.inr sz_b213)
  have z313 : n0 ≤ h313.size := Nat.le_trans Z0 K313.1
  have N313 := Fr.snoc X313 N309 g_b213
  have V313 : Arv Z h313 b213 k213 .boolean (26 : Int32) [(.int (nar .boolean (0 : Int32))), (.int (nar .boolean (0 : Int32))), (.int (nar .boolean (0 : Int32))), (.int (nar .boolean (0 : Int32))), (.int (nar .boolean (1 : Int32))), (.int (nar .boolean (1 : Int32))), (.int (nar .boolean (1 : Int32))), (.int (nar .boolean (1 : Int32))), (.int (nar .boolean (1 : Int32))), (.int (nar .boolean (1 : Int32))), (.int (nar .boolean (1 : Int32))), (.int (nar .boolean (1 : Int32))), (.int (nar .boolean (1 : Int32))), (.int (nar .boolean (1 : Int32))), (.int (nar .boolean (1 : Int32))), (.int (nar .boolean (1 : Int32))), (.int (nar .boolean (1 : Int32))), (.int (nar .boolean (1 : Int32))), (.int (nar .boolean (1 : Int32))), (.int (nar .boolean (1 : Int32))), (.int (nar .boolean (0 : Int32))), (.int (nar .boolean (0 : Int32))), (.int (nar .boolean (0 : Int32))), (.int (nar .boolean (0 : Int32))), (.int (nar .boolean (0 : Int32))), (.int (0 : Int32))] (.int (0 : Int32)) := Arv.set a312 q312 s312 m312 i312 u312 (fits_nar_bool _) W313 24 rfl (Nat.le_of_ble_eq_true rfl)
  have pre314 : ∀ t, Steps p.tables e below (T313.setTop (mkF m 305 #[.val (.int xa), .val (.ref b2), .unset, .unset, .unset] [(.ref b213)])) t → Steps p.tables e below (s₁.setTop (entryFrame m #[(.int xa)] maxLocals)) t := fun t k => pre311 t (st313 t k)
  have pre315 : ∀ t, Steps p.tables e below (T313.setTop (mkF m 309 #[.val (.int xa), .val (.ref b2), .unset, .unset, .unset] [(.int (0 : Int32)), (.int (25 : Int32)), (.ref b213), (.ref b213)])) t → Steps p.tables e below (s₁.setTop (entryFrame m #[(.int xa)] maxLocals)) t := by
    intro t k
    refine pre314 t ?_
    refine XS.dup X313.here hx rfl (hb hby at_305) rfl rfl ?_
    show Steps p.tables e below (T313.setTop (mkF m 306 #[.val (.int xa), .val (.ref b2), .unset, .unset, .unset] [(.ref b213), (.ref b213)])) _
    refine XS.bipush X313.here hx rfl (hb hby at_306) ?_
    show Steps p.tables e below (T313.setTop (mkF m 308 #[.val (.int xa), .val (.ref b2), .unset, .unset, .unset] [(.int (25 : Int32)), (.ref b213), (.ref b213)])) _
    refine XS.iconst X313.here hx rfl (hb hby at_308) ?_
    show Steps p.tables e below (T313.setTop (mkF m 309 #[.val (.int xa), .val (.ref b2), .unset, .unset, .unset] [(.int (0 : Int32)), (.int (25 : Int32)), (.ref b213), (.ref b213)])) _
    exact k
  obtain ⟨c316, a316, q316, s316, m316, i316, u316⟩ := id V313
  obtain ⟨T317, h317, X317, e317, W317, st317⟩ := stZ X313 hx hZ e313 a316 (j := (25 : Int32)) (inb_of s316 ⟨by decide, by decide⟩) (g := (mkF m 309 #[.val (.int xa), .val (.ref b2), .unset, .unset, .unset] [(.int (0 : Int32)), (.int (25 : Int32)), (.ref b213), (.ref b213)])) rfl rfl (hb hby at_309)
  have K317 : Keep h0 h317 ([] : List Addr) := K313.wr W317 (Or.inr sz_b213)
  have z317 : n0 ≤ h317.size := Nat.le_trans Z0 K317.1
  have N317 := Fr.snoc X317 N313 g_b213
  have V317 : Arv Z h317 b213 k213 .boolean (26 : Int32) [(.int (nar .boolean (0 : Int32))), (.int (nar .boolean (0 : Int32))), (.int (nar .boolean (0 : Int32))), (.int (nar .boolean (0 : Int32))), (.int (nar .boolean (1 : Int32))), (.int (nar .boolean (1 : Int32))), (.int (nar .boolean (1 : Int32))), (.int (nar .boolean (1 : Int32))), (.int (nar .boolean (1 : Int32))), (.int (nar .boolean (1 : Int32))), (.int (nar .boolean (1 : Int32))), (.int (nar .boolean (1 : Int32))), (.int (nar .boolean (1 : Int32))), (.int (nar .boolean (1 : Int32))), (.int (nar .boolean (1 : Int32))), (.int (nar .boolean (1 : Int32))), (.int (nar .boolean (1 : Int32))), (.int (nar .boolean (1 : Int32))), (.int (nar .boolean (1 : Int32))), (.int (nar .boolean (1 : Int32))), (.int (nar .boolean (0 : Int32))), (.int (nar .boolean (0 : Int32))), (.int (nar .boolean (0 : Int32))), (.int (nar .boolean (0 : Int32))), (.int (nar .boolean (0 : Int32))), (.int (nar .boolean (0 : Int32)))] (.int (0 : Int32)) := Arv.set a316 q316 s316 m316 i316 u316 (fits_nar_bool _) W317 25 rfl (Nat.le_of_ble_eq_true rfl)
  have pre318 : ∀ t, Steps p.tables e below (T317.setTop (mkF m 310 #[.val (.int xa), .val (.ref b2), .unset, .unset, .unset] [(.ref b213)])) t → Steps p.tables e below (s₁.setTop (entryFrame m #[(.int xa)] maxLocals)) t := fun t k => pre315 t (st317 t k)
  have pre319 : ∀ t, Steps p.tables e below (T317.setTop (mkF m 319 #[.val (.int xa), .val (.ref b2), .val (.ref b213), .val (.int ((xa &&& (2147483647 : Int32)) % (26 : Int32))), .unset] [])) t → Steps p.tables e below (s₁.setTop (entryFrame m #[(.int xa)] maxLocals)) t := by
    intro t k
    refine pre318 t ?_
    refine XS.astoreN X317.here hx rfl (hb hby at_310) rfl rfl (l' := #[.val (.int xa), .val (.ref b2), .val (.ref b213), .unset, .unset]) rfl ?_
    show Steps p.tables e below (T317.setTop (mkF m 311 #[.val (.int xa), .val (.ref b2), .val (.ref b213), .unset, .unset] [])) _
    refine XS.iloadN X317.here hx rfl (hb hby at_311) rfl ?_
    show Steps p.tables e below (T317.setTop (mkF m 312 #[.val (.int xa), .val (.ref b2), .val (.ref b213), .unset, .unset] [(.int xa)])) _
    refine X317.ldcInt hx hown (mvT hZ (hw _ (List.mem_of_getElem? (i := 57) rfl))) (g := (mkF m 312 #[.val (.int xa), .val (.ref b2), .val (.ref b213), .unset, .unset] [(.int xa)])) rfl (hb hby at_312) _ ?_
    show Steps p.tables e below (T317.setTop (mkF m 314 #[.val (.int xa), .val (.ref b2), .val (.ref b213), .unset, .unset] [(.int (2147483647 : Int32)), (.int xa)])) _
    refine XS.iand X317.here hx rfl (hb hby at_314) rfl ?_
    show Steps p.tables e below (T317.setTop (mkF m 315 #[.val (.int xa), .val (.ref b2), .val (.ref b213), .unset, .unset] [(.int (xa &&& (2147483647 : Int32)))])) _
    refine XS.bipush X317.here hx rfl (hb hby at_315) ?_
    show Steps p.tables e below (T317.setTop (mkF m 317 #[.val (.int xa), .val (.ref b2), .val (.ref b213), .unset, .unset] [(.int (26 : Int32)), (.int (xa &&& (2147483647 : Int32)))])) _
    refine iremM X317 hx rfl (hb hby at_317) rfl (by decide) ?_
    show Steps p.tables e below (T317.setTop (mkF m 318 #[.val (.int xa), .val (.ref b2), .val (.ref b213), .unset, .unset] [(.int ((xa &&& (2147483647 : Int32)) % (26 : Int32)))])) _
    refine XS.istoreN X317.here hx rfl (hb hby at_318) rfl (l' := #[.val (.int xa), .val (.ref b2), .val (.ref b213), .val (.int ((xa &&& (2147483647 : Int32)) % (26 : Int32))), .unset]) rfl ?_
    show Steps p.tables e below (T317.setTop (mkF m 319 #[.val (.int xa), .val (.ref b2), .val (.ref b213), .val (.int ((xa &&& (2147483647 : Int32)) % (26 : Int32))), .unset] [])) _
    exact k
  obtain ⟨ii, hii⟩ : ∃ z : Int32, z = ((xa &&& (2147483647 : Int32)) % (26 : Int32)) := ⟨_, rfl⟩
  rw [← hii] at pre319
  rcases own_i xa ii hii with hk | hk | hk | hk | hk | hk | hk | hk | hk | hk | hk | hk | hk | hk | hk | hk | hk | hk | hk | hk | hk | hk | hk | hk | hk | hk
  · subst hk
    have pre321 : ∀ t, Steps p.tables e below (T317.setTop (mkF m 326 #[.val (.int xa), .val (.ref b2), .val (.ref b213), .val (.int (0 : Int32)), .val (.ref w_ANY_ATOMIC_TYPE)] [(.ref w_ANY_ATOMIC_TYPE)])) t → Steps p.tables e below (s₁.setTop (entryFrame m #[(.int xa)] maxLocals)) t := by
      intro t k
      refine pre319 t ?_
      refine XS.aloadN X317.here hx rfl (hb hby at_319) rfl rfl ?_
      show Steps p.tables e below (T317.setTop (mkF m 320 #[.val (.int xa), .val (.ref b2), .val (.ref b213), .val (.int (0 : Int32)), .unset] [(.ref b2)])) _
      refine XS.iloadN X317.here hx rfl (hb hby at_320) rfl ?_
      show Steps p.tables e below (T317.setTop (mkF m 321 #[.val (.int xa), .val (.ref b2), .val (.ref b213), .val (.int (0 : Int32)), .unset] [(.int (0 : Int32)), (.ref b2)])) _
      obtain ⟨c320, a320, q320, s320, m320, i320, u320⟩ := id (((((((((((((((((((((((((((V210.ext E213).other W217 (Nat.ne_of_lt (Nat.lt_of_lt_of_le V210.lt (Nat.le_of_eq g213.symm)))).other W221 (Nat.ne_of_lt (Nat.lt_of_lt_of_le V210.lt (Nat.le_of_eq g213.symm)))).other W225 (Nat.ne_of_lt (Nat.lt_of_lt_of_le V210.lt (Nat.le_of_eq g213.symm)))).other W229 (Nat.ne_of_lt (Nat.lt_of_lt_of_le V210.lt (Nat.le_of_eq g213.symm)))).other W233 (Nat.ne_of_lt (Nat.lt_of_lt_of_le V210.lt (Nat.le_of_eq g213.symm)))).other W237 (Nat.ne_of_lt (Nat.lt_of_lt_of_le V210.lt (Nat.le_of_eq g213.symm)))).other W241 (Nat.ne_of_lt (Nat.lt_of_lt_of_le V210.lt (Nat.le_of_eq g213.symm)))).other W245 (Nat.ne_of_lt (Nat.lt_of_lt_of_le V210.lt (Nat.le_of_eq g213.symm)))).other W249 (Nat.ne_of_lt (Nat.lt_of_lt_of_le V210.lt (Nat.le_of_eq g213.symm)))).other W253 (Nat.ne_of_lt (Nat.lt_of_lt_of_le V210.lt (Nat.le_of_eq g213.symm)))).other W257 (Nat.ne_of_lt (Nat.lt_of_lt_of_le V210.lt (Nat.le_of_eq g213.symm)))).other W261 (Nat.ne_of_lt (Nat.lt_of_lt_of_le V210.lt (Nat.le_of_eq g213.symm)))).other W265 (Nat.ne_of_lt (Nat.lt_of_lt_of_le V210.lt (Nat.le_of_eq g213.symm)))).other W269 (Nat.ne_of_lt (Nat.lt_of_lt_of_le V210.lt (Nat.le_of_eq g213.symm)))).other W273 (Nat.ne_of_lt (Nat.lt_of_lt_of_le V210.lt (Nat.le_of_eq g213.symm)))).other W277 (Nat.ne_of_lt (Nat.lt_of_lt_of_le V210.lt (Nat.le_of_eq g213.symm)))).other W281 (Nat.ne_of_lt (Nat.lt_of_lt_of_le V210.lt (Nat.le_of_eq g213.symm)))).other W285 (Nat.ne_of_lt (Nat.lt_of_lt_of_le V210.lt (Nat.le_of_eq g213.symm)))).other W289 (Nat.ne_of_lt (Nat.lt_of_lt_of_le V210.lt (Nat.le_of_eq g213.symm)))).other W293 (Nat.ne_of_lt (Nat.lt_of_lt_of_le V210.lt (Nat.le_of_eq g213.symm)))).other W297 (Nat.ne_of_lt (Nat.lt_of_lt_of_le V210.lt (Nat.le_of_eq g213.symm)))).other W301 (Nat.ne_of_lt (Nat.lt_of_lt_of_le V210.lt (Nat.le_of_eq g213.symm)))).other W305 (Nat.ne_of_lt (Nat.lt_of_lt_of_le V210.lt (Nat.le_of_eq g213.symm)))).other W309 (Nat.ne_of_lt (Nat.lt_of_lt_of_le V210.lt (Nat.le_of_eq g213.symm)))).other W313 (Nat.ne_of_lt (Nat.lt_of_lt_of_le V210.lt (Nat.le_of_eq g213.symm)))).other W317 (Nat.ne_of_lt (Nat.lt_of_lt_of_le V210.lt (Nat.le_of_eq g213.symm))))
      have hin320 := inb_of (j := (0 : Int32)) s320 ⟨by decide, by decide⟩
      refine X317.aaload hx (j := (0 : Int32)) (v := (.ref w_ANY_ATOMIC_TYPE)) (by rw [e317]; exact a320.1) (State.isArrayOf_alike hZ.alike a320.2.1) rfl a320.2.2 hin320 (i320.at hin320 rfl) (g := (mkF m 321 #[.val (.int xa), .val (.ref b2), .val (.ref b213), .val (.int (0 : Int32)), .unset] [(.int (0 : Int32)), (.ref b2)])) rfl rfl (hb hby at_321) _ ?_
      show Steps p.tables e below (T317.setTop (mkF m 322 #[.val (.int xa), .val (.ref b2), .val (.ref b213), .val (.int (0 : Int32)), .unset] [(.ref w_ANY_ATOMIC_TYPE)])) _
      refine XS.astore X317.here hx rfl (hb hby at_322) rfl rfl (l' := #[.val (.int xa), .val (.ref b2), .val (.ref b213), .val (.int (0 : Int32)), .val (.ref w_ANY_ATOMIC_TYPE)]) rfl ?_
      show Steps p.tables e below (T317.setTop (mkF m 324 #[.val (.int xa), .val (.ref b2), .val (.ref b213), .val (.int (0 : Int32)), .val (.ref w_ANY_ATOMIC_TYPE)] [])) _
      refine XS.aload X317.here hx rfl (hb hby at_324) rfl rfl ?_
      show Steps p.tables e below (T317.setTop (mkF m 326 #[.val (.int xa), .val (.ref b2), .val (.ref b213), .val (.int (0 : Int32)), .val (.ref w_ANY_ATOMIC_TYPE)] [(.ref w_ANY_ATOMIC_TYPE)])) _
      exact k
    have f322 := (P_ANY_ATOMIC_TYPE.ext (own_keep_ext K317))
    have f323 := (((((((((((((((((((((((((((((((((((((((((((((((((f36.wr W42).wr W50).wr W58).wr W66).wr W74).wr W82).wr W90).wr W98).wr W106).wr W114).wr W122).wr W130).wr W138).wr W146).wr W154).wr W162).wr W170).wr W178).wr W186).wr W194).wr W202).wr W210).ext E213).wr W217).wr W221).wr W225).wr W229).wr W233).wr W237).wr W241).wr W245).wr W249).wr W253).wr W257).wr W261).wr W265).wr W269).wr W273).wr W277).wr W281).wr W285).wr W289).wr W293).wr W297).wr W301).wr W305).wr W309).wr W313).wr W317)
    have f324 := ((((((((((((((((((((((((((((((((((((((((((((((((f44.wr W50).wr W58).wr W66).wr W74).wr W82).wr W90).wr W98).wr W106).wr W114).wr W122).wr W130).wr W138).wr W146).wr W154).wr W162).wr W170).wr W178).wr W186).wr W194).wr W202).wr W210).ext E213).wr W217).wr W221).wr W225).wr W229).wr W233).wr W237).wr W241).wr W245).wr W249).wr W253).wr W257).wr W261).wr W265).wr W269).wr W273).wr W277).wr W281).wr W285).wr W289).wr W293).wr W297).wr W301).wr W305).wr W309).wr W313).wr W317)
    have f325 := (((((((((((((((((((((((((((((((((((f148.wr W154).wr W162).wr W170).wr W178).wr W186).wr W194).wr W202).wr W210).ext E213).wr W217).wr W221).wr W225).wr W229).wr W233).wr W237).wr W241).wr W245).wr W249).wr W253).wr W257).wr W261).wr W265).wr W269).wr W273).wr W277).wr W281).wr W285).wr W289).wr W293).wr W297).wr W301).wr W305).wr W309).wr W313).wr W317)
    have f326 := ((((((((((((((((((((((((((((((((((f156.wr W162).wr W170).wr W178).wr W186).wr W194).wr W202).wr W210).ext E213).wr W217).wr W221).wr W225).wr W229).wr W233).wr W237).wr W241).wr W245).wr W249).wr W253).wr W257).wr W261).wr W265).wr W269).wr W273).wr W277).wr W281).wr W285).wr W289).wr W293).wr W297).wr W301).wr W305).wr W309).wr W313).wr W317)
    have f328 := (((((((((((((((((((((((((((((((((((((((((((((((((((((f9.wr W10).wr W18).wr W26).wr W34).wr W42).wr W50).wr W58).wr W66).wr W74).wr W82).wr W90).wr W98).wr W106).wr W114).wr W122).wr W130).wr W138).wr W146).wr W154).wr W162).wr W170).wr W178).wr W186).wr W194).wr W202).wr W210).ext E213).wr W217).wr W221).wr W225).wr W229).wr W233).wr W237).wr W241).wr W245).wr W249).wr W253).wr W257).wr W261).wr W265).wr W269).wr W273).wr W277).wr W281).wr W285).wr W289).wr W293).wr W297).wr W301).wr W305).wr W309).wr W313).wr W317)
    obtain ⟨cq327, kq327, q327a, q327b, q327c⟩ := isOf hZ e317 f328
    obtain ⟨_, _, ⟨T327, L327, k327, n327⟩, -, X327, ⟨Lc327, hQ327, l327, y327, z327⟩, st327⟩ := X317.virtualBack hx (y := (⟨"com/example/xidr/xidr/xpath/values/AtomicType", "isNumeric", "()Z"⟩ : MethodName)) (z := (⟨"com/example/xidr/xidr/xpath/values/AtomicType", "isNumeric", "()Z"⟩ : MethodName)) hown (mvT hZ (hw _ (List.mem_of_getElem? (i := 58) rfl))) (mvT hZ (hw _ (List.mem_of_getElem? (i := 59) rfl))) (notFace_of_selects (args := #[]) (mvT hZ (hw _ (List.mem_of_getElem? (i := 61) rfl)))) (mvT hZ (hw _ (List.mem_of_getElem? (i := 61) rfl))) (mvT hZ (hw _ (List.mem_of_getElem? (i := 60) rfl))) (by decide) (backOf (W := 0) (rm_num4 l Z a0 hw [] w_ANY_ATOMIC_TYPE w_ANY_ATOMIC_TYPE w_DECIMAL w_INTEGER w_FLOAT w_DOUBLE h317 n0 z317 f322 f323 f324 f325 f326 (hne_ANY_ATOMIC_TYPE_DECIMAL) (hne_ANY_ATOMIC_TYPE_INTEGER) (hne_ANY_ATOMIC_TYPE_FLOAT) (hne_ANY_ATOMIC_TYPE_DOUBLE)) hZ (hw _ (List.mem_of_getElem? (i := 62) rfl)) (hw _ (List.mem_of_getElem? (i := 3) rfl)) (by decide) (by decide)) q327a q327c (g := (mkF m 326 #[.val (.int xa), .val (.ref b2), .val (.ref b213), .val (.int (0 : Int32)), .val (.ref w_ANY_ATOMIC_TYPE)] [(.ref w_ANY_ATOMIC_TYPE)])) rfl (by rw [hml]; rfl) (Steps.refl _) (argsL := []) (rest := []) (lenOf pd0 rfl) rfl (by show 2 * 0 + _ ≤ _; exact Nat.le_of_eq rfl) (hb hby at_326) (fun _ _ => ⟨rfl, e317, (by decide : 2 + 0 ≤ _), (by decide : 52 + 0 ≤ _)⟩)
    dsimp only [Pt.U, Pt.locs, Pt.cells, Pt.slots] at X327 l327 y327 z327 st327 hQ327
    subst y327 z327
    obtain ⟨rfl, M327, e327⟩ := hQ327
    have N327 : Fr n0 L327 := by rw [l327]; exact Fr.app N317 M327
    clear l327
    have X327 : Stand p l e _ s m _ below meth c T327 _ 2 52 := X327
    have pre329 : ∀ t, Steps p.tables e below (T327.setTop (mkF m 329 #[.val (.int xa), .val (.ref b2), .val (.ref b213), .val (.int (0 : Int32)), .val (.ref w_ANY_ATOMIC_TYPE)] [(.int (0 : Int32))])) t → Steps p.tables e below (s₁.setTop (entryFrame m #[(.int xa)] maxLocals)) t := fun t k => pre321 t (st327.trans k)
    have pre331 : ∀ t, Steps p.tables e below (T327.setTop (mkF m 340 #[.val (.int xa), .val (.ref b2), .val (.ref b213), .val (.int (0 : Int32)), .val (.ref w_ANY_ATOMIC_TYPE)] [(.int (1 : Int32))])) t → Steps p.tables e below (s₁.setTop (entryFrame m #[(.int xa)] maxLocals)) t := by
      intro t k
      refine pre329 t ?_
      refine XS.aloadN X327.here hx rfl (hb hby at_329) rfl rfl ?_
      show Steps p.tables e below (T327.setTop (mkF m 330 #[.val (.int xa), .val (.ref b2), .val (.ref b213), .val (.int (0 : Int32)), .val (.ref w_ANY_ATOMIC_TYPE)] [(.ref b213), (.int (0 : Int32))])) _
      refine XS.iloadN X327.here hx rfl (hb hby at_330) rfl ?_
      show Steps p.tables e below (T327.setTop (mkF m 331 #[.val (.int xa), .val (.ref b2), .val (.ref b213), .val (.int (0 : Int32)), .val (.ref w_ANY_ATOMIC_TYPE)] [(.int (0 : Int32)), (.ref b213), (.int (0 : Int32))])) _
      obtain ⟨c330, a330, q330, s330, m330, i330, u330⟩ := id V317
      have hin330 := inb_of (j := (0 : Int32)) s330 ⟨by decide, by decide⟩
      refine X327.baloadBooleans hx (j := (0 : Int32)) (v := (.int (nar .boolean (0 : Int32)))) (by rw [e327]; exact a330.1) (State.isArrayOf_alike hZ.alike a330.2.1) a330.2.2 hin330 (i330.at hin330 rfl) (g := (mkF m 331 #[.val (.int xa), .val (.ref b2), .val (.ref b213), .val (.int (0 : Int32)), .val (.ref w_ANY_ATOMIC_TYPE)] [(.int (0 : Int32)), (.ref b213), (.int (0 : Int32))])) rfl rfl (hb hby at_331) _ ?_
      show Steps p.tables e below (T327.setTop (mkF m 332 #[.val (.int xa), .val (.ref b2), .val (.ref b213), .val (.int (0 : Int32)), .val (.ref w_ANY_ATOMIC_TYPE)] [(.int (nar .boolean (0 : Int32))), (.int (0 : Int32))])) _
      refine XS.icmpNo X327.here hx rfl (hb hby at_332) rfl (teq (show (0 : Int32) = (nar .boolean (0 : Int32)) from rfl)).2 ?_
      show Steps p.tables e below (T327.setTop (mkF m 335 #[.val (.int xa), .val (.ref b2), .val (.ref b213), .val (.int (0 : Int32)), .val (.ref w_ANY_ATOMIC_TYPE)] [])) _
      refine XS.iconst X327.here hx rfl (hb hby at_335) ?_
      show Steps p.tables e below (T327.setTop (mkF m 336 #[.val (.int xa), .val (.ref b2), .val (.ref b213), .val (.int (0 : Int32)), .val (.ref w_ANY_ATOMIC_TYPE)] [(.int (1 : Int32))])) _
      refine XS.goto X327.here hx rfl (pc0 := 336) (pc' := 340) rfl (hb hby at_336) (by decide) (by decide) ?_
      show Steps p.tables e below (T327.setTop (mkF m 340 #[.val (.int xa), .val (.ref b2), .val (.ref b213), .val (.int (0 : Int32)), .val (.ref w_ANY_ATOMIC_TYPE)] [(.int (1 : Int32))])) _
      exact k
    obtain ⟨fs, hr, hrun, hended, hW, hsame⟩ := X327.leave (v := some (.int (1 : Int32))) (fun h => by rw [Bd.returns] at h; cases h)
    refine ⟨_, _, pre331 _ ?_, hrun, hended, _, _, rfl, ?_, ⟨_, rfl⟩, hW, hsame.mono (by decide) (by decide)⟩
    · exact retN X327 hx (t := .boolean) Bd.returns (by simp) (hb hby at_340) hr
    · show Q_rm0 Z xa w_ANY_ATOMIC_TYPE w_UNTYPED_ATOMIC w_STRING w_BOOLEAN w_DECIMAL w_INTEGER w_NON_POSITIVE_INTEGER w_NEGATIVE_INTEGER w_LONG w_INT w_SHORT w_BYTE w_NON_NEGATIVE_INTEGER w_UNSIGNED_LONG w_UNSIGNED_INT w_UNSIGNED_SHORT w_UNSIGNED_BYTE w_POSITIVE_INTEGER w_FLOAT w_DOUBLE w_ANY_URI w_DATE w_TIME w_HEX_BINARY w_QNAME w_NOTATION h0 n0 _ T327.heap _
      rw [e327]
      exact ⟨rfl, N327⟩
  · subst hk
    have pre333 : ∀ t, Steps p.tables e below (T317.setTop (mkF m 326 #[.val (.int xa), .val (.ref b2), .val (.ref b213), .val (.int (1 : Int32)), .val (.ref w_UNTYPED_ATOMIC)] [(.ref w_UNTYPED_ATOMIC)])) t → Steps p.tables e below (s₁.setTop (entryFrame m #[(.int xa)] maxLocals)) t := by
      intro t k
      refine pre319 t ?_
      refine XS.aloadN X317.here hx rfl (hb hby at_319) rfl rfl ?_
      show Steps p.tables e below (T317.setTop (mkF m 320 #[.val (.int xa), .val (.ref b2), .val (.ref b213), .val (.int (1 : Int32)), .unset] [(.ref b2)])) _
      refine XS.iloadN X317.here hx rfl (hb hby at_320) rfl ?_
      show Steps p.tables e below (T317.setTop (mkF m 321 #[.val (.int xa), .val (.ref b2), .val (.ref b213), .val (.int (1 : Int32)), .unset] [(.int (1 : Int32)), (.ref b2)])) _
      obtain ⟨c332, a332, q332, s332, m332, i332, u332⟩ := id (((((((((((((((((((((((((((V210.ext E213).other W217 (Nat.ne_of_lt (Nat.lt_of_lt_of_le V210.lt (Nat.le_of_eq g213.symm)))).other W221 (Nat.ne_of_lt (Nat.lt_of_lt_of_le V210.lt (Nat.le_of_eq g213.symm)))).other W225 (Nat.ne_of_lt (Nat.lt_of_lt_of_le V210.lt (Nat.le_of_eq g213.symm)))).other W229 (Nat.ne_of_lt (Nat.lt_of_lt_of_le V210.lt (Nat.le_of_eq g213.symm)))).other W233 (Nat.ne_of_lt (Nat.lt_of_lt_of_le V210.lt (Nat.le_of_eq g213.symm)))).other W237 (Nat.ne_of_lt (Nat.lt_of_lt_of_le V210.lt (Nat.le_of_eq g213.symm)))).other W241 (Nat.ne_of_lt (Nat.lt_of_lt_of_le V210.lt (Nat.le_of_eq g213.symm)))).other W245 (Nat.ne_of_lt (Nat.lt_of_lt_of_le V210.lt (Nat.le_of_eq g213.symm)))).other W249 (Nat.ne_of_lt (Nat.lt_of_lt_of_le V210.lt (Nat.le_of_eq g213.symm)))).other W253 (Nat.ne_of_lt (Nat.lt_of_lt_of_le V210.lt (Nat.le_of_eq g213.symm)))).other W257 (Nat.ne_of_lt (Nat.lt_of_lt_of_le V210.lt (Nat.le_of_eq g213.symm)))).other W261 (Nat.ne_of_lt (Nat.lt_of_lt_of_le V210.lt (Nat.le_of_eq g213.symm)))).other W265 (Nat.ne_of_lt (Nat.lt_of_lt_of_le V210.lt (Nat.le_of_eq g213.symm)))).other W269 (Nat.ne_of_lt (Nat.lt_of_lt_of_le V210.lt (Nat.le_of_eq g213.symm)))).other W273 (Nat.ne_of_lt (Nat.lt_of_lt_of_le V210.lt (Nat.le_of_eq g213.symm)))).other W277 (Nat.ne_of_lt (Nat.lt_of_lt_of_le V210.lt (Nat.le_of_eq g213.symm)))).other W281 (Nat.ne_of_lt (Nat.lt_of_lt_of_le V210.lt (Nat.le_of_eq g213.symm)))).other W285 (Nat.ne_of_lt (Nat.lt_of_lt_of_le V210.lt (Nat.le_of_eq g213.symm)))).other W289 (Nat.ne_of_lt (Nat.lt_of_lt_of_le V210.lt (Nat.le_of_eq g213.symm)))).other W293 (Nat.ne_of_lt (Nat.lt_of_lt_of_le V210.lt (Nat.le_of_eq g213.symm)))).other W297 (Nat.ne_of_lt (Nat.lt_of_lt_of_le V210.lt (Nat.le_of_eq g213.symm)))).other W301 (Nat.ne_of_lt (Nat.lt_of_lt_of_le V210.lt (Nat.le_of_eq g213.symm)))).other W305 (Nat.ne_of_lt (Nat.lt_of_lt_of_le V210.lt (Nat.le_of_eq g213.symm)))).other W309 (Nat.ne_of_lt (Nat.lt_of_lt_of_le V210.lt (Nat.le_of_eq g213.symm)))).other W313 (Nat.ne_of_lt (Nat.lt_of_lt_of_le V210.lt (Nat.le_of_eq g213.symm)))).other W317 (Nat.ne_of_lt (Nat.lt_of_lt_of_le V210.lt (Nat.le_of_eq g213.symm))))
      have hin332 := inb_of (j := (1 : Int32)) s332 ⟨by decide, by decide⟩
      refine X317.aaload hx (j := (1 : Int32)) (v := (.ref w_UNTYPED_ATOMIC)) (by rw [e317]; exact a332.1) (State.isArrayOf_alike hZ.alike a332.2.1) rfl a332.2.2 hin332 (i332.at hin332 rfl) (g := (mkF m 321 #[.val (.int xa), .val (.ref b2), .val (.ref b213), .val (.int (1 : Int32)), .unset] [(.int (1 : Int32)), (.ref b2)])) rfl rfl (hb hby at_321) _ ?_
      show Steps p.tables e below (T317.setTop (mkF m 322 #[.val (.int xa), .val (.ref b2), .val (.ref b213), .val (.int (1 : Int32)), .unset] [(.ref w_UNTYPED_ATOMIC)])) _
      refine XS.astore X317.here hx rfl (hb hby at_322) rfl rfl (l' := #[.val (.int xa), .val (.ref b2), .val (.ref b213), .val (.int (1 : Int32)), .val (.ref w_UNTYPED_ATOMIC)]) rfl ?_
      show Steps p.tables e below (T317.setTop (mkF m 324 #[.val (.int xa), .val (.ref b2), .val (.ref b213), .val (.int (1 : Int32)), .val (.ref w_UNTYPED_ATOMIC)] [])) _
      refine XS.aload X317.here hx rfl (hb hby at_324) rfl rfl ?_
      show Steps p.tables e below (T317.setTop (mkF m 326 #[.val (.int xa), .val (.ref b2), .val (.ref b213), .val (.int (1 : Int32)), .val (.ref w_UNTYPED_ATOMIC)] [(.ref w_UNTYPED_ATOMIC)])) _
      exact k
    have f334 := (P_UNTYPED_ATOMIC.ext (own_keep_ext K317))
    have f335 := (((((((((((((((((((((((((((((((((((((((((((((((((f36.wr W42).wr W50).wr W58).wr W66).wr W74).wr W82).wr W90).wr W98).wr W106).wr W114).wr W122).wr W130).wr W138).wr W146).wr W154).wr W162).wr W170).wr W178).wr W186).wr W194).wr W202).wr W210).ext E213).wr W217).wr W221).wr W225).wr W229).wr W233).wr W237).wr W241).wr W245).wr W249).wr W253).wr W257).wr W261).wr W265).wr W269).wr W273).wr W277).wr W281).wr W285).wr W289).wr W293).wr W297).wr W301).wr W305).wr W309).wr W313).wr W317)
    have f336 := ((((((((((((((((((((((((((((((((((((((((((((((((f44.wr W50).wr W58).wr W66).wr W74).wr W82).wr W90).wr W98).wr W106).wr W114).wr W122).wr W130).wr W138).wr W146).wr W154).wr W162).wr W170).wr W178).wr W186).wr W194).wr W202).wr W210).ext E213).wr W217).wr W221).wr W225).wr W229).wr W233).wr W237).wr W241).wr W245).wr W249).wr W253).wr W257).wr W261).wr W265).wr W269).wr W273).wr W277).wr W281).wr W285).wr W289).wr W293).wr W297).wr W301).wr W305).wr W309).wr W313).wr W317)
    have f337 := (((((((((((((((((((((((((((((((((((f148.wr W154).wr W162).wr W170).wr W178).wr W186).wr W194).wr W202).wr W210).ext E213).wr W217).wr W221).wr W225).wr W229).wr W233).wr W237).wr W241).wr W245).wr W249).wr W253).wr W257).wr W261).wr W265).wr W269).wr W273).wr W277).wr W281).wr W285).wr W289).wr W293).wr W297).wr W301).wr W305).wr W309).wr W313).wr W317)
    have f338 := ((((((((((((((((((((((((((((((((((f156.wr W162).wr W170).wr W178).wr W186).wr W194).wr W202).wr W210).ext E213).wr W217).wr W221).wr W225).wr W229).wr W233).wr W237).wr W241).wr W245).wr W249).wr W253).wr W257).wr W261).wr W265).wr W269).wr W273).wr W277).wr W281).wr W285).wr W289).wr W293).wr W297).wr W301).wr W305).wr W309).wr W313).wr W317)
    have f340 := ((((((((((((((((((((((((((((((((((((((((((((((((((((f17.wr W18).wr W26).wr W34).wr W42).wr W50).wr W58).wr W66).wr W74).wr W82).wr W90).wr W98).wr W106).wr W114).wr W122).wr W130).wr W138).wr W146).wr W154).wr W162).wr W170).wr W178).wr W186).wr W194).wr W202).wr W210).ext E213).wr W217).wr W221).wr W225).wr W229).wr W233).wr W237).wr W241).wr W245).wr W249).wr W253).wr W257).wr W261).wr W265).wr W269).wr W273).wr W277).wr W281).wr W285).wr W289).wr W293).wr W297).wr W301).wr W305).wr W309).wr W313).wr W317)
    obtain ⟨cq339, kq339, q339a, q339b, q339c⟩ := isOf hZ e317 f340
    obtain ⟨_, _, ⟨T339, L339, k339, n339⟩, -, X339, ⟨Lc339, hQ339, l339, y339, z339⟩, st339⟩ := X317.virtualBack hx (y := (⟨"com/example/xidr/xidr/xpath/values/AtomicType", "isNumeric", "()Z"⟩ : MethodName)) (z := (⟨"com/example/xidr/xidr/xpath/values/AtomicType", "isNumeric", "()Z"⟩ : MethodName)) hown (mvT hZ (hw _ (List.mem_of_getElem? (i := 58) rfl))) (mvT hZ (hw _ (List.mem_of_getElem? (i := 59) rfl))) (notFace_of_selects (args := #[]) (mvT hZ (hw _ (List.mem_of_getElem? (i := 61) rfl)))) (mvT hZ (hw _ (List.mem_of_getElem? (i := 61) rfl))) (mvT hZ (hw _ (List.mem_of_getElem? (i := 60) rfl))) (by decide) (backOf (W := 0) (rm_num4 l Z a0 hw [] w_UNTYPED_ATOMIC w_UNTYPED_ATOMIC w_DECIMAL w_INTEGER w_FLOAT w_DOUBLE h317 n0 z317 f334 f335 f336 f337 f338 (hne_UNTYPED_ATOMIC_DECIMAL) (hne_UNTYPED_ATOMIC_INTEGER) (hne_UNTYPED_ATOMIC_FLOAT) (hne_UNTYPED_ATOMIC_DOUBLE)) hZ (hw _ (List.mem_of_getElem? (i := 62) rfl)) (hw _ (List.mem_of_getElem? (i := 3) rfl)) (by decide) (by decide)) q339a q339c (g := (mkF m 326 #[.val (.int xa), .val (.ref b2), .val (.ref b213), .val (.int (1 : Int32)), .val (.ref w_UNTYPED_ATOMIC)] [(.ref w_UNTYPED_ATOMIC)])) rfl (by rw [hml]; rfl) (Steps.refl _) (argsL := []) (rest := []) (lenOf pd0 rfl) rfl (by show 2 * 0 + _ ≤ _; exact Nat.le_of_eq rfl) (hb hby at_326) (fun _ _ => ⟨rfl, e317, (by decide : 2 + 0 ≤ _), (by decide : 52 + 0 ≤ _)⟩)
    dsimp only [Pt.U, Pt.locs, Pt.cells, Pt.slots] at X339 l339 y339 z339 st339 hQ339
    subst y339 z339
    obtain ⟨rfl, M339, e339⟩ := hQ339
    have N339 : Fr n0 L339 := by rw [l339]; exact Fr.app N317 M339
    clear l339
    have X339 : Stand p l e _ s m _ below meth c T339 _ 2 52 := X339
    have pre341 : ∀ t, Steps p.tables e below (T339.setTop (mkF m 329 #[.val (.int xa), .val (.ref b2), .val (.ref b213), .val (.int (1 : Int32)), .val (.ref w_UNTYPED_ATOMIC)] [(.int (0 : Int32))])) t → Steps p.tables e below (s₁.setTop (entryFrame m #[(.int xa)] maxLocals)) t := fun t k => pre333 t (st339.trans k)
    have pre343 : ∀ t, Steps p.tables e below (T339.setTop (mkF m 340 #[.val (.int xa), .val (.ref b2), .val (.ref b213), .val (.int (1 : Int32)), .val (.ref w_UNTYPED_ATOMIC)] [(.int (1 : Int32))])) t → Steps p.tables e below (s₁.setTop (entryFrame m #[(.int xa)] maxLocals)) t := by
      intro t k
      refine pre341 t ?_
      refine XS.aloadN X339.here hx rfl (hb hby at_329) rfl rfl ?_
      show Steps p.tables e below (T339.setTop (mkF m 330 #[.val (.int xa), .val (.ref b2), .val (.ref b213), .val (.int (1 : Int32)), .val (.ref w_UNTYPED_ATOMIC)] [(.ref b213), (.int (0 : Int32))])) _
      refine XS.iloadN X339.here hx rfl (hb hby at_330) rfl ?_
      show Steps p.tables e below (T339.setTop (mkF m 331 #[.val (.int xa), .val (.ref b2), .val (.ref b213), .val (.int (1 : Int32)), .val (.ref w_UNTYPED_ATOMIC)] [(.int (1 : Int32)), (.ref b213), (.int (0 : Int32))])) _
      obtain ⟨c342, a342, q342, s342, m342, i342, u342⟩ := id V317
      have hin342 := inb_of (j := (1 : Int32)) s342 ⟨by decide, by decide⟩
      refine X339.baloadBooleans hx (j := (1 : Int32)) (v := (.int (nar .boolean (0 : Int32)))) (by rw [e339]; exact a342.1) (State.isArrayOf_alike hZ.alike a342.2.1) a342.2.2 hin342 (i342.at hin342 rfl) (g := (mkF m 331 #[.val (.int xa), .val (.ref b2), .val (.ref b213), .val (.int (1 : Int32)), .val (.ref w_UNTYPED_ATOMIC)] [(.int (1 : Int32)), (.ref b213), (.int (0 : Int32))])) rfl rfl (hb hby at_331) _ ?_
      show Steps p.tables e below (T339.setTop (mkF m 332 #[.val (.int xa), .val (.ref b2), .val (.ref b213), .val (.int (1 : Int32)), .val (.ref w_UNTYPED_ATOMIC)] [(.int (nar .boolean (0 : Int32))), (.int (0 : Int32))])) _
      refine XS.icmpNo X339.here hx rfl (hb hby at_332) rfl (teq (show (0 : Int32) = (nar .boolean (0 : Int32)) from rfl)).2 ?_
      show Steps p.tables e below (T339.setTop (mkF m 335 #[.val (.int xa), .val (.ref b2), .val (.ref b213), .val (.int (1 : Int32)), .val (.ref w_UNTYPED_ATOMIC)] [])) _
      refine XS.iconst X339.here hx rfl (hb hby at_335) ?_
      show Steps p.tables e below (T339.setTop (mkF m 336 #[.val (.int xa), .val (.ref b2), .val (.ref b213), .val (.int (1 : Int32)), .val (.ref w_UNTYPED_ATOMIC)] [(.int (1 : Int32))])) _
      refine XS.goto X339.here hx rfl (pc0 := 336) (pc' := 340) rfl (hb hby at_336) (by decide) (by decide) ?_
      show Steps p.tables e below (T339.setTop (mkF m 340 #[.val (.int xa), .val (.ref b2), .val (.ref b213), .val (.int (1 : Int32)), .val (.ref w_UNTYPED_ATOMIC)] [(.int (1 : Int32))])) _
      exact k
    obtain ⟨fs, hr, hrun, hended, hW, hsame⟩ := X339.leave (v := some (.int (1 : Int32))) (fun h => by rw [Bd.returns] at h; cases h)
    refine ⟨_, _, pre343 _ ?_, hrun, hended, _, _, rfl, ?_, ⟨_, rfl⟩, hW, hsame.mono (by decide) (by decide)⟩
    · exact retN X339 hx (t := .boolean) Bd.returns (by simp) (hb hby at_340) hr
    · show Q_rm0 Z xa w_ANY_ATOMIC_TYPE w_UNTYPED_ATOMIC w_STRING w_BOOLEAN w_DECIMAL w_INTEGER w_NON_POSITIVE_INTEGER w_NEGATIVE_INTEGER w_LONG w_INT w_SHORT w_BYTE w_NON_NEGATIVE_INTEGER w_UNSIGNED_LONG w_UNSIGNED_INT w_UNSIGNED_SHORT w_UNSIGNED_BYTE w_POSITIVE_INTEGER w_FLOAT w_DOUBLE w_ANY_URI w_DATE w_TIME w_HEX_BINARY w_QNAME w_NOTATION h0 n0 _ T339.heap _
      rw [e339]
      exact ⟨rfl, N339⟩
  · subst hk
    have pre345 : ∀ t, Steps p.tables e below (T317.setTop (mkF m 326 #[.val (.int xa), .val (.ref b2), .val (.ref b213), .val (.int (2 : Int32)), .val (.ref w_STRING)] [(.ref w_STRING)])) t → Steps p.tables e below (s₁.setTop (entryFrame m #[(.int xa)] maxLocals)) t := by
      intro t k
      refine pre319 t ?_
      refine XS.aloadN X317.here hx rfl (hb hby at_319) rfl rfl ?_
      show Steps p.tables e below (T317.setTop (mkF m 320 #[.val (.int xa), .val (.ref b2), .val (.ref b213), .val (.int (2 : Int32)), .unset] [(.ref b2)])) _
      refine XS.iloadN X317.here hx rfl (hb hby at_320) rfl ?_
      show Steps p.tables e below (T317.setTop (mkF m 321 #[.val (.int xa), .val (.ref b2), .val (.ref b213), .val (.int (2 : Int32)), .unset] [(.int (2 : Int32)), (.ref b2)])) _
      obtain ⟨c344, a344, q344, s344, m344, i344, u344⟩ := id (((((((((((((((((((((((((((V210.ext E213).other W217 (Nat.ne_of_lt (Nat.lt_of_lt_of_le V210.lt (Nat.le_of_eq g213.symm)))).other W221 (Nat.ne_of_lt (Nat.lt_of_lt_of_le V210.lt (Nat.le_of_eq g213.symm)))).other W225 (Nat.ne_of_lt (Nat.lt_of_lt_of_le V210.lt (Nat.le_of_eq g213.symm)))).other W229 (Nat.ne_of_lt (Nat.lt_of_lt_of_le V210.lt (Nat.le_of_eq g213.symm)))).other W233 (Nat.ne_of_lt (Nat.lt_of_lt_of_le V210.lt (Nat.le_of_eq g213.symm)))).other W237 (Nat.ne_of_lt (Nat.lt_of_lt_of_le V210.lt (Nat.le_of_eq g213.symm)))).other W241 (Nat.ne_of_lt (Nat.lt_of_lt_of_le V210.lt (Nat.le_of_eq g213.symm)))).other W245 (Nat.ne_of_lt (Nat.lt_of_lt_of_le V210.lt (Nat.le_of_eq g213.symm)))).other W249 (Nat.ne_of_lt (Nat.lt_of_lt_of_le V210.lt (Nat.le_of_eq g213.symm)))).other W253 (Nat.ne_of_lt (Nat.lt_of_lt_of_le V210.lt (Nat.le_of_eq g213.symm)))).other W257 (Nat.ne_of_lt (Nat.lt_of_lt_of_le V210.lt (Nat.le_of_eq g213.symm)))).other W261 (Nat.ne_of_lt (Nat.lt_of_lt_of_le V210.lt (Nat.le_of_eq g213.symm)))).other W265 (Nat.ne_of_lt (Nat.lt_of_lt_of_le V210.lt (Nat.le_of_eq g213.symm)))).other W269 (Nat.ne_of_lt (Nat.lt_of_lt_of_le V210.lt (Nat.le_of_eq g213.symm)))).other W273 (Nat.ne_of_lt (Nat.lt_of_lt_of_le V210.lt (Nat.le_of_eq g213.symm)))).other W277 (Nat.ne_of_lt (Nat.lt_of_lt_of_le V210.lt (Nat.le_of_eq g213.symm)))).other W281 (Nat.ne_of_lt (Nat.lt_of_lt_of_le V210.lt (Nat.le_of_eq g213.symm)))).other W285 (Nat.ne_of_lt (Nat.lt_of_lt_of_le V210.lt (Nat.le_of_eq g213.symm)))).other W289 (Nat.ne_of_lt (Nat.lt_of_lt_of_le V210.lt (Nat.le_of_eq g213.symm)))).other W293 (Nat.ne_of_lt (Nat.lt_of_lt_of_le V210.lt (Nat.le_of_eq g213.symm)))).other W297 (Nat.ne_of_lt (Nat.lt_of_lt_of_le V210.lt (Nat.le_of_eq g213.symm)))).other W301 (Nat.ne_of_lt (Nat.lt_of_lt_of_le V210.lt (Nat.le_of_eq g213.symm)))).other W305 (Nat.ne_of_lt (Nat.lt_of_lt_of_le V210.lt (Nat.le_of_eq g213.symm)))).other W309 (Nat.ne_of_lt (Nat.lt_of_lt_of_le V210.lt (Nat.le_of_eq g213.symm)))).other W313 (Nat.ne_of_lt (Nat.lt_of_lt_of_le V210.lt (Nat.le_of_eq g213.symm)))).other W317 (Nat.ne_of_lt (Nat.lt_of_lt_of_le V210.lt (Nat.le_of_eq g213.symm))))
      have hin344 := inb_of (j := (2 : Int32)) s344 ⟨by decide, by decide⟩
      refine X317.aaload hx (j := (2 : Int32)) (v := (.ref w_STRING)) (by rw [e317]; exact a344.1) (State.isArrayOf_alike hZ.alike a344.2.1) rfl a344.2.2 hin344 (i344.at hin344 rfl) (g := (mkF m 321 #[.val (.int xa), .val (.ref b2), .val (.ref b213), .val (.int (2 : Int32)), .unset] [(.int (2 : Int32)), (.ref b2)])) rfl rfl (hb hby at_321) _ ?_
      show Steps p.tables e below (T317.setTop (mkF m 322 #[.val (.int xa), .val (.ref b2), .val (.ref b213), .val (.int (2 : Int32)), .unset] [(.ref w_STRING)])) _
      refine XS.astore X317.here hx rfl (hb hby at_322) rfl rfl (l' := #[.val (.int xa), .val (.ref b2), .val (.ref b213), .val (.int (2 : Int32)), .val (.ref w_STRING)]) rfl ?_
      show Steps p.tables e below (T317.setTop (mkF m 324 #[.val (.int xa), .val (.ref b2), .val (.ref b213), .val (.int (2 : Int32)), .val (.ref w_STRING)] [])) _
      refine XS.aload X317.here hx rfl (hb hby at_324) rfl rfl ?_
      show Steps p.tables e below (T317.setTop (mkF m 326 #[.val (.int xa), .val (.ref b2), .val (.ref b213), .val (.int (2 : Int32)), .val (.ref w_STRING)] [(.ref w_STRING)])) _
      exact k
    have f346 := (P_STRING.ext (own_keep_ext K317))
    have f347 := (((((((((((((((((((((((((((((((((((((((((((((((((f36.wr W42).wr W50).wr W58).wr W66).wr W74).wr W82).wr W90).wr W98).wr W106).wr W114).wr W122).wr W130).wr W138).wr W146).wr W154).wr W162).wr W170).wr W178).wr W186).wr W194).wr W202).wr W210).ext E213).wr W217).wr W221).wr W225).wr W229).wr W233).wr W237).wr W241).wr W245).wr W249).wr W253).wr W257).wr W261).wr W265).wr W269).wr W273).wr W277).wr W281).wr W285).wr W289).wr W293).wr W297).wr W301).wr W305).wr W309).wr W313).wr W317)
    have f348 := ((((((((((((((((((((((((((((((((((((((((((((((((f44.wr W50).wr W58).wr W66).wr W74).wr W82).wr W90).wr W98).wr W106).wr W114).wr W122).wr W130).wr W138).wr W146).wr W154).wr W162).wr W170).wr W178).wr W186).wr W194).wr W202).wr W210).ext E213).wr W217).wr W221).wr W225).wr W229).wr W233).wr W237).wr W241).wr W245).wr W249).wr W253).wr W257).wr W261).wr W265).wr W269).wr W273).wr W277).wr W281).wr W285).wr W289).wr W293).wr W297).wr W301).wr W305).wr W309).wr W313).wr W317)
    have f349 := (((((((((((((((((((((((((((((((((((f148.wr W154).wr W162).wr W170).wr W178).wr W186).wr W194).wr W202).wr W210).ext E213).wr W217).wr W221).wr W225).wr W229).wr W233).wr W237).wr W241).wr W245).wr W249).wr W253).wr W257).wr W261).wr W265).wr W269).wr W273).wr W277).wr W281).wr W285).wr W289).wr W293).wr W297).wr W301).wr W305).wr W309).wr W313).wr W317)
    have f350 := ((((((((((((((((((((((((((((((((((f156.wr W162).wr W170).wr W178).wr W186).wr W194).wr W202).wr W210).ext E213).wr W217).wr W221).wr W225).wr W229).wr W233).wr W237).wr W241).wr W245).wr W249).wr W253).wr W257).wr W261).wr W265).wr W269).wr W273).wr W277).wr W281).wr W285).wr W289).wr W293).wr W297).wr W301).wr W305).wr W309).wr W313).wr W317)
    have f352 := (((((((((((((((((((((((((((((((((((((((((((((((((((f25.wr W26).wr W34).wr W42).wr W50).wr W58).wr W66).wr W74).wr W82).wr W90).wr W98).wr W106).wr W114).wr W122).wr W130).wr W138).wr W146).wr W154).wr W162).wr W170).wr W178).wr W186).wr W194).wr W202).wr W210).ext E213).wr W217).wr W221).wr W225).wr W229).wr W233).wr W237).wr W241).wr W245).wr W249).wr W253).wr W257).wr W261).wr W265).wr W269).wr W273).wr W277).wr W281).wr W285).wr W289).wr W293).wr W297).wr W301).wr W305).wr W309).wr W313).wr W317)
    obtain ⟨cq351, kq351, q351a, q351b, q351c⟩ := isOf hZ e317 f352
    obtain ⟨_, _, ⟨T351, L351, k351, n351⟩, -, X351, ⟨Lc351, hQ351, l351, y351, z351⟩, st351⟩ := X317.virtualBack hx (y := (⟨"com/example/xidr/xidr/xpath/values/AtomicType", "isNumeric", "()Z"⟩ : MethodName)) (z := (⟨"com/example/xidr/xidr/xpath/values/AtomicType", "isNumeric", "()Z"⟩ : MethodName)) hown (mvT hZ (hw _ (List.mem_of_getElem? (i := 58) rfl))) (mvT hZ (hw _ (List.mem_of_getElem? (i := 59) rfl))) (notFace_of_selects (args := #[]) (mvT hZ (hw _ (List.mem_of_getElem? (i := 61) rfl)))) (mvT hZ (hw _ (List.mem_of_getElem? (i := 61) rfl))) (mvT hZ (hw _ (List.mem_of_getElem? (i := 60) rfl))) (by decide) (backOf (W := 0) (rm_num4 l Z a0 hw [] w_STRING w_STRING w_DECIMAL w_INTEGER w_FLOAT w_DOUBLE h317 n0 z317 f346 f347 f348 f349 f350 (hne_STRING_DECIMAL) (hne_STRING_INTEGER) (hne_STRING_FLOAT) (hne_STRING_DOUBLE)) hZ (hw _ (List.mem_of_getElem? (i := 62) rfl)) (hw _ (List.mem_of_getElem? (i := 3) rfl)) (by decide) (by decide)) q351a q351c (g := (mkF m 326 #[.val (.int xa), .val (.ref b2), .val (.ref b213), .val (.int (2 : Int32)), .val (.ref w_STRING)] [(.ref w_STRING)])) rfl (by rw [hml]; rfl) (Steps.refl _) (argsL := []) (rest := []) (lenOf pd0 rfl) rfl (by show 2 * 0 + _ ≤ _; exact Nat.le_of_eq rfl) (hb hby at_326) (fun _ _ => ⟨rfl, e317, (by decide : 2 + 0 ≤ _), (by decide : 52 + 0 ≤ _)⟩)
    dsimp only [Pt.U, Pt.locs, Pt.cells, Pt.slots] at X351 l351 y351 z351 st351 hQ351
    subst y351 z351
    obtain ⟨rfl, M351, e351⟩ := hQ351
    have N351 : Fr n0 L351 := by rw [l351]; exact Fr.app N317 M351
    clear l351
    have X351 : Stand p l e _ s m _ below meth c T351 _ 2 52 := X351
    have pre353 : ∀ t, Steps p.tables e below (T351.setTop (mkF m 329 #[.val (.int xa), .val (.ref b2), .val (.ref b213), .val (.int (2 : Int32)), .val (.ref w_STRING)] [(.int (0 : Int32))])) t → Steps p.tables e below (s₁.setTop (entryFrame m #[(.int xa)] maxLocals)) t := fun t k => pre345 t (st351.trans k)
    have pre355 : ∀ t, Steps p.tables e below (T351.setTop (mkF m 340 #[.val (.int xa), .val (.ref b2), .val (.ref b213), .val (.int (2 : Int32)), .val (.ref w_STRING)] [(.int (1 : Int32))])) t → Steps p.tables e below (s₁.setTop (entryFrame m #[(.int xa)] maxLocals)) t := by
      intro t k
      refine pre353 t ?_
      refine XS.aloadN X351.here hx rfl (hb hby at_329) rfl rfl ?_
      show Steps p.tables e below (T351.setTop (mkF m 330 #[.val (.int xa), .val (.ref b2), .val (.ref b213), .val (.int (2 : Int32)), .val (.ref w_STRING)] [(.ref b213), (.int (0 : Int32))])) _
      refine XS.iloadN X351.here hx rfl (hb hby at_330) rfl ?_
      show Steps p.tables e below (T351.setTop (mkF m 331 #[.val (.int xa), .val (.ref b2), .val (.ref b213), .val (.int (2 : Int32)), .val (.ref w_STRING)] [(.int (2 : Int32)), (.ref b213), (.int (0 : Int32))])) _
      obtain ⟨c354, a354, q354, s354, m354, i354, u354⟩ := id V317
      have hin354 := inb_of (j := (2 : Int32)) s354 ⟨by decide, by decide⟩
      refine X351.baloadBooleans hx (j := (2 : Int32)) (v := (.int (nar .boolean (0 : Int32)))) (by rw [e351]; exact a354.1) (State.isArrayOf_alike hZ.alike a354.2.1) a354.2.2 hin354 (i354.at hin354 rfl) (g := (mkF m 331 #[.val (.int xa), .val (.ref b2), .val (.ref b213), .val (.int (2 : Int32)), .val (.ref w_STRING)] [(.int (2 : Int32)), (.ref b213), (.int (0 : Int32))])) rfl rfl (hb hby at_331) _ ?_
      show Steps p.tables e below (T351.setTop (mkF m 332 #[.val (.int xa), .val (.ref b2), .val (.ref b213), .val (.int (2 : Int32)), .val (.ref w_STRING)] [(.int (nar .boolean (0 : Int32))), (.int (0 : Int32))])) _
      refine XS.icmpNo X351.here hx rfl (hb hby at_332) rfl (teq (show (0 : Int32) = (nar .boolean (0 : Int32)) from rfl)).2 ?_
      show Steps p.tables e below (T351.setTop (mkF m 335 #[.val (.int xa), .val (.ref b2), .val (.ref b213), .val (.int (2 : Int32)), .val (.ref w_STRING)] [])) _
      refine XS.iconst X351.here hx rfl (hb hby at_335) ?_
      show Steps p.tables e below (T351.setTop (mkF m 336 #[.val (.int xa), .val (.ref b2), .val (.ref b213), .val (.int (2 : Int32)), .val (.ref w_STRING)] [(.int (1 : Int32))])) _
      refine XS.goto X351.here hx rfl (pc0 := 336) (pc' := 340) rfl (hb hby at_336) (by decide) (by decide) ?_
      show Steps p.tables e below (T351.setTop (mkF m 340 #[.val (.int xa), .val (.ref b2), .val (.ref b213), .val (.int (2 : Int32)), .val (.ref w_STRING)] [(.int (1 : Int32))])) _
      exact k
    obtain ⟨fs, hr, hrun, hended, hW, hsame⟩ := X351.leave (v := some (.int (1 : Int32))) (fun h => by rw [Bd.returns] at h; cases h)
    refine ⟨_, _, pre355 _ ?_, hrun, hended, _, _, rfl, ?_, ⟨_, rfl⟩, hW, hsame.mono (by decide) (by decide)⟩
    · exact retN X351 hx (t := .boolean) Bd.returns (by simp) (hb hby at_340) hr
    · show Q_rm0 Z xa w_ANY_ATOMIC_TYPE w_UNTYPED_ATOMIC w_STRING w_BOOLEAN w_DECIMAL w_INTEGER w_NON_POSITIVE_INTEGER w_NEGATIVE_INTEGER w_LONG w_INT w_SHORT w_BYTE w_NON_NEGATIVE_INTEGER w_UNSIGNED_LONG w_UNSIGNED_INT w_UNSIGNED_SHORT w_UNSIGNED_BYTE w_POSITIVE_INTEGER w_FLOAT w_DOUBLE w_ANY_URI w_DATE w_TIME w_HEX_BINARY w_QNAME w_NOTATION h0 n0 _ T351.heap _
      rw [e351]
      exact ⟨rfl, N351⟩
  · subst hk
    have pre357 : ∀ t, Steps p.tables e below (T317.setTop (mkF m 326 #[.val (.int xa), .val (.ref b2), .val (.ref b213), .val (.int (3 : Int32)), .val (.ref w_BOOLEAN)] [(.ref w_BOOLEAN)])) t → Steps p.tables e below (s₁.setTop (entryFrame m #[(.int xa)] maxLocals)) t := by
      intro t k
      refine pre319 t ?_
      refine XS.aloadN X317.here hx rfl (hb hby at_319) rfl rfl ?_
      show Steps p.tables e below (T317.setTop (mkF m 320 #[.val (.int xa), .val (.ref b2), .val (.ref b213), .val (.int (3 : Int32)), .unset] [(.ref b2)])) _
      refine XS.iloadN X317.here hx rfl (hb hby at_320) rfl ?_
      show Steps p.tables e below (T317.setTop (mkF m 321 #[.val (.int xa), .val (.ref b2), .val (.ref b213), .val (.int (3 : Int32)), .unset] [(.int (3 : Int32)), (.ref b2)])) _
      obtain ⟨c356, a356, q356, s356, m356, i356, u356⟩ := id (((((((((((((((((((((((((((V210.ext E213).other W217 (Nat.ne_of_lt (Nat.lt_of_lt_of_le V210.lt (Nat.le_of_eq g213.symm)))).other W221 (Nat.ne_of_lt (Nat.lt_of_lt_of_le V210.lt (Nat.le_of_eq g213.symm)))).other W225 (Nat.ne_of_lt (Nat.lt_of_lt_of_le V210.lt (Nat.le_of_eq g213.symm)))).other W229 (Nat.ne_of_lt (Nat.lt_of_lt_of_le V210.lt (Nat.le_of_eq g213.symm)))).other W233 (Nat.ne_of_lt (Nat.lt_of_lt_of_le V210.lt (Nat.le_of_eq g213.symm)))).other W237 (Nat.ne_of_lt (Nat.lt_of_lt_of_le V210.lt (Nat.le_of_eq g213.symm)))).other W241 (Nat.ne_of_lt (Nat.lt_of_lt_of_le V210.lt (Nat.le_of_eq g213.symm)))).other W245 (Nat.ne_of_lt (Nat.lt_of_lt_of_le V210.lt (Nat.le_of_eq g213.symm)))).other W249 (Nat.ne_of_lt (Nat.lt_of_lt_of_le V210.lt (Nat.le_of_eq g213.symm)))).other W253 (Nat.ne_of_lt (Nat.lt_of_lt_of_le V210.lt (Nat.le_of_eq g213.symm)))).other W257 (Nat.ne_of_lt (Nat.lt_of_lt_of_le V210.lt (Nat.le_of_eq g213.symm)))).other W261 (Nat.ne_of_lt (Nat.lt_of_lt_of_le V210.lt (Nat.le_of_eq g213.symm)))).other W265 (Nat.ne_of_lt (Nat.lt_of_lt_of_le V210.lt (Nat.le_of_eq g213.symm)))).other W269 (Nat.ne_of_lt (Nat.lt_of_lt_of_le V210.lt (Nat.le_of_eq g213.symm)))).other W273 (Nat.ne_of_lt (Nat.lt_of_lt_of_le V210.lt (Nat.le_of_eq g213.symm)))).other W277 (Nat.ne_of_lt (Nat.lt_of_lt_of_le V210.lt (Nat.le_of_eq g213.symm)))).other W281 (Nat.ne_of_lt (Nat.lt_of_lt_of_le V210.lt (Nat.le_of_eq g213.symm)))).other W285 (Nat.ne_of_lt (Nat.lt_of_lt_of_le V210.lt (Nat.le_of_eq g213.symm)))).other W289 (Nat.ne_of_lt (Nat.lt_of_lt_of_le V210.lt (Nat.le_of_eq g213.symm)))).other W293 (Nat.ne_of_lt (Nat.lt_of_lt_of_le V210.lt (Nat.le_of_eq g213.symm)))).other W297 (Nat.ne_of_lt (Nat.lt_of_lt_of_le V210.lt (Nat.le_of_eq g213.symm)))).other W301 (Nat.ne_of_lt (Nat.lt_of_lt_of_le V210.lt (Nat.le_of_eq g213.symm)))).other W305 (Nat.ne_of_lt (Nat.lt_of_lt_of_le V210.lt (Nat.le_of_eq g213.symm)))).other W309 (Nat.ne_of_lt (Nat.lt_of_lt_of_le V210.lt (Nat.le_of_eq g213.symm)))).other W313 (Nat.ne_of_lt (Nat.lt_of_lt_of_le V210.lt (Nat.le_of_eq g213.symm)))).other W317 (Nat.ne_of_lt (Nat.lt_of_lt_of_le V210.lt (Nat.le_of_eq g213.symm))))
      have hin356 := inb_of (j := (3 : Int32)) s356 ⟨by decide, by decide⟩
      refine X317.aaload hx (j := (3 : Int32)) (v := (.ref w_BOOLEAN)) (by rw [e317]; exact a356.1) (State.isArrayOf_alike hZ.alike a356.2.1) rfl a356.2.2 hin356 (i356.at hin356 rfl) (g := (mkF m 321 #[.val (.int xa), .val (.ref b2), .val (.ref b213), .val (.int (3 : Int32)), .unset] [(.int (3 : Int32)), (.ref b2)])) rfl rfl (hb hby at_321) _ ?_
      show Steps p.tables e below (T317.setTop (mkF m 322 #[.val (.int xa), .val (.ref b2), .val (.ref b213), .val (.int (3 : Int32)), .unset] [(.ref w_BOOLEAN)])) _
      refine XS.astore X317.here hx rfl (hb hby at_322) rfl rfl (l' := #[.val (.int xa), .val (.ref b2), .val (.ref b213), .val (.int (3 : Int32)), .val (.ref w_BOOLEAN)]) rfl ?_
      show Steps p.tables e below (T317.setTop (mkF m 324 #[.val (.int xa), .val (.ref b2), .val (.ref b213), .val (.int (3 : Int32)), .val (.ref w_BOOLEAN)] [])) _
      refine XS.aload X317.here hx rfl (hb hby at_324) rfl rfl ?_
      show Steps p.tables e below (T317.setTop (mkF m 326 #[.val (.int xa), .val (.ref b2), .val (.ref b213), .val (.int (3 : Int32)), .val (.ref w_BOOLEAN)] [(.ref w_BOOLEAN)])) _
      exact k
    have f358 := (P_BOOLEAN.ext (own_keep_ext K317))
    have f359 := (((((((((((((((((((((((((((((((((((((((((((((((((f36.wr W42).wr W50).wr W58).wr W66).wr W74).wr W82).wr W90).wr W98).wr W106).wr W114).wr W122).wr W130).wr W138).wr W146).wr W154).wr W162).wr W170).wr W178).wr W186).wr W194).wr W202).wr W210).ext E213).wr W217).wr W221).wr W225).wr W229).wr W233).wr W237).wr W241).wr W245).wr W249).wr W253).wr W257).wr W261).wr W265).wr W269).wr W273).wr W277).wr W281).wr W285).wr W289).wr W293).wr W297).wr W301).wr W305).wr W309).wr W313).wr W317)
    have f360 := ((((((((((((((((((((((((((((((((((((((((((((((((f44.wr W50).wr W58).wr W66).wr W74).wr W82).wr W90).wr W98).wr W106).wr W114).wr W122).wr W130).wr W138).wr W146).wr W154).wr W162).wr W170).wr W178).wr W186).wr W194).wr W202).wr W210).ext E213).wr W217).wr W221).wr W225).wr W229).wr W233).wr W237).wr W241).wr W245).wr W249).wr W253).wr W257).wr W261).wr W265).wr W269).wr W273).wr W277).wr W281).wr W285).wr W289).wr W293).wr W297).wr W301).wr W305).wr W309).wr W313).wr W317)
    have f361 := (((((((((((((((((((((((((((((((((((f148.wr W154).wr W162).wr W170).wr W178).wr W186).wr W194).wr W202).wr W210).ext E213).wr W217).wr W221).wr W225).wr W229).wr W233).wr W237).wr W241).wr W245).wr W249).wr W253).wr W257).wr W261).wr W265).wr W269).wr W273).wr W277).wr W281).wr W285).wr W289).wr W293).wr W297).wr W301).wr W305).wr W309).wr W313).wr W317)
    have f362 := ((((((((((((((((((((((((((((((((((f156.wr W162).wr W170).wr W178).wr W186).wr W194).wr W202).wr W210).ext E213).wr W217).wr W221).wr W225).wr W229).wr W233).wr W237).wr W241).wr W245).wr W249).wr W253).wr W257).wr W261).wr W265).wr W269).wr W273).wr W277).wr W281).wr W285).wr W289).wr W293).wr W297).wr W301).wr W305).wr W309).wr W313).wr W317)
    have f364 := ((((((((((((((((((((((((((((((((((((((((((((((((((f33.wr W34).wr W42).wr W50).wr W58).wr W66).wr W74).wr W82).wr W90).wr W98).wr W106).wr W114).wr W122).wr W130).wr W138).wr W146).wr W154).wr W162).wr W170).wr W178).wr W186).wr W194).wr W202).wr W210).ext E213).wr W217).wr W221).wr W225).wr W229).wr W233).wr W237).wr W241).wr W245).wr W249).wr W253).wr W257).wr W261).wr W265).wr W269).wr W273).wr W277).wr W281).wr W285).wr W289).wr W293).wr W297).wr W301).wr W305).wr W309).wr W313).wr W317)
    obtain ⟨cq363, kq363, q363a, q363b, q363c⟩ := isOf hZ e317 f364
    obtain ⟨_, _, ⟨T363, L363, k363, n363⟩, -, X363, ⟨Lc363, hQ363, l363, y363, z363⟩, st363⟩ := X317.virtualBack hx (y := (⟨"com/example/xidr/xidr/xpath/values/AtomicType", "isNumeric", "()Z"⟩ : MethodName)) (z := (⟨"com/example/xidr/xidr/xpath/values/AtomicType", "isNumeric", "()Z"⟩ : MethodName)) hown (mvT hZ (hw _ (List.mem_of_getElem? (i := 58) rfl))) (mvT hZ (hw _ (List.mem_of_getElem? (i := 59) rfl))) (notFace_of_selects (args := #[]) (mvT hZ (hw _ (List.mem_of_getElem? (i := 61) rfl)))) (mvT hZ (hw _ (List.mem_of_getElem? (i := 61) rfl))) (mvT hZ (hw _ (List.mem_of_getElem? (i := 60) rfl))) (by decide) (backOf (W := 0) (rm_num4 l Z a0 hw [] w_BOOLEAN w_BOOLEAN w_DECIMAL w_INTEGER w_FLOAT w_DOUBLE h317 n0 z317 f358 f359 f360 f361 f362 (hne_BOOLEAN_DECIMAL) (hne_BOOLEAN_INTEGER) (hne_BOOLEAN_FLOAT) (hne_BOOLEAN_DOUBLE)) hZ (hw _ (List.mem_of_getElem? (i := 62) rfl)) (hw _ (List.mem_of_getElem? (i := 3) rfl)) (by decide) (by decide)) q363a q363c (g := (mkF m 326 #[.val (.int xa), .val (.ref b2), .val (.ref b213), .val (.int (3 : Int32)), .val (.ref w_BOOLEAN)] [(.ref w_BOOLEAN)])) rfl (by rw [hml]; rfl) (Steps.refl _) (argsL := []) (rest := []) (lenOf pd0 rfl) rfl (by show 2 * 0 + _ ≤ _; exact Nat.le_of_eq rfl) (hb hby at_326) (fun _ _ => ⟨rfl, e317, (by decide : 2 + 0 ≤ _), (by decide : 52 + 0 ≤ _)⟩)
    dsimp only [Pt.U, Pt.locs, Pt.cells, Pt.slots] at X363 l363 y363 z363 st363 hQ363
    subst y363 z363
    obtain ⟨rfl, M363, e363⟩ := hQ363
    have N363 : Fr n0 L363 := by rw [l363]; exact Fr.app N317 M363
    clear l363
    have X363 : Stand p l e _ s m _ below meth c T363 _ 2 52 := X363
    have pre365 : ∀ t, Steps p.tables e below (T363.setTop (mkF m 329 #[.val (.int xa), .val (.ref b2), .val (.ref b213), .val (.int (3 : Int32)), .val (.ref w_BOOLEAN)] [(.int (0 : Int32))])) t → Steps p.tables e below (s₁.setTop (entryFrame m #[(.int xa)] maxLocals)) t := fun t k => pre357 t (st363.trans k)
    have pre367 : ∀ t, Steps p.tables e below (T363.setTop (mkF m 340 #[.val (.int xa), .val (.ref b2), .val (.ref b213), .val (.int (3 : Int32)), .val (.ref w_BOOLEAN)] [(.int (1 : Int32))])) t → Steps p.tables e below (s₁.setTop (entryFrame m #[(.int xa)] maxLocals)) t := by
      intro t k
      refine pre365 t ?_
      refine XS.aloadN X363.here hx rfl (hb hby at_329) rfl rfl ?_
      show Steps p.tables e below (T363.setTop (mkF m 330 #[.val (.int xa), .val (.ref b2), .val (.ref b213), .val (.int (3 : Int32)), .val (.ref w_BOOLEAN)] [(.ref b213), (.int (0 : Int32))])) _
      refine XS.iloadN X363.here hx rfl (hb hby at_330) rfl ?_
      show Steps p.tables e below (T363.setTop (mkF m 331 #[.val (.int xa), .val (.ref b2), .val (.ref b213), .val (.int (3 : Int32)), .val (.ref w_BOOLEAN)] [(.int (3 : Int32)), (.ref b213), (.int (0 : Int32))])) _
      obtain ⟨c366, a366, q366, s366, m366, i366, u366⟩ := id V317
      have hin366 := inb_of (j := (3 : Int32)) s366 ⟨by decide, by decide⟩
      refine X363.baloadBooleans hx (j := (3 : Int32)) (v := (.int (nar .boolean (0 : Int32)))) (by rw [e363]; exact a366.1) (State.isArrayOf_alike hZ.alike a366.2.1) a366.2.2 hin366 (i366.at hin366 rfl) (g := (mkF m 331 #[.val (.int xa), .val (.ref b2), .val (.ref b213), .val (.int (3 : Int32)), .val (.ref w_BOOLEAN)] [(.int (3 : Int32)), (.ref b213), (.int (0 : Int32))])) rfl rfl (hb hby at_331) _ ?_
      show Steps p.tables e below (T363.setTop (mkF m 332 #[.val (.int xa), .val (.ref b2), .val (.ref b213), .val (.int (3 : Int32)), .val (.ref w_BOOLEAN)] [(.int (nar .boolean (0 : Int32))), (.int (0 : Int32))])) _
      refine XS.icmpNo X363.here hx rfl (hb hby at_332) rfl (teq (show (0 : Int32) = (nar .boolean (0 : Int32)) from rfl)).2 ?_
      show Steps p.tables e below (T363.setTop (mkF m 335 #[.val (.int xa), .val (.ref b2), .val (.ref b213), .val (.int (3 : Int32)), .val (.ref w_BOOLEAN)] [])) _
      refine XS.iconst X363.here hx rfl (hb hby at_335) ?_
      show Steps p.tables e below (T363.setTop (mkF m 336 #[.val (.int xa), .val (.ref b2), .val (.ref b213), .val (.int (3 : Int32)), .val (.ref w_BOOLEAN)] [(.int (1 : Int32))])) _
      refine XS.goto X363.here hx rfl (pc0 := 336) (pc' := 340) rfl (hb hby at_336) (by decide) (by decide) ?_
      show Steps p.tables e below (T363.setTop (mkF m 340 #[.val (.int xa), .val (.ref b2), .val (.ref b213), .val (.int (3 : Int32)), .val (.ref w_BOOLEAN)] [(.int (1 : Int32))])) _
      exact k
    obtain ⟨fs, hr, hrun, hended, hW, hsame⟩ := X363.leave (v := some (.int (1 : Int32))) (fun h => by rw [Bd.returns] at h; cases h)
    refine ⟨_, _, pre367 _ ?_, hrun, hended, _, _, rfl, ?_, ⟨_, rfl⟩, hW, hsame.mono (by decide) (by decide)⟩
    · exact retN X363 hx (t := .boolean) Bd.returns (by simp) (hb hby at_340) hr
    · show Q_rm0 Z xa w_ANY_ATOMIC_TYPE w_UNTYPED_ATOMIC w_STRING w_BOOLEAN w_DECIMAL w_INTEGER w_NON_POSITIVE_INTEGER w_NEGATIVE_INTEGER w_LONG w_INT w_SHORT w_BYTE w_NON_NEGATIVE_INTEGER w_UNSIGNED_LONG w_UNSIGNED_INT w_UNSIGNED_SHORT w_UNSIGNED_BYTE w_POSITIVE_INTEGER w_FLOAT w_DOUBLE w_ANY_URI w_DATE w_TIME w_HEX_BINARY w_QNAME w_NOTATION h0 n0 _ T363.heap _
      rw [e363]
      exact ⟨rfl, N363⟩
  · subst hk
    have pre369 : ∀ t, Steps p.tables e below (T317.setTop (mkF m 326 #[.val (.int xa), .val (.ref b2), .val (.ref b213), .val (.int (4 : Int32)), .val (.ref w_DECIMAL)] [(.ref w_DECIMAL)])) t → Steps p.tables e below (s₁.setTop (entryFrame m #[(.int xa)] maxLocals)) t := by
      intro t k
      refine pre319 t ?_
      refine XS.aloadN X317.here hx rfl (hb hby at_319) rfl rfl ?_
      show Steps p.tables e below (T317.setTop (mkF m 320 #[.val (.int xa), .val (.ref b2), .val (.ref b213), .val (.int (4 : Int32)), .unset] [(.ref b2)])) _
      refine XS.iloadN X317.here hx rfl (hb hby at_320) rfl ?_
      show Steps p.tables e below (T317.setTop (mkF m 321 #[.val (.int xa), .val (.ref b2), .val (.ref b213), .val (.int (4 : Int32)), .unset] [(.int (4 : Int32)), (.ref b2)])) _
      obtain ⟨c368, a368, q368, s368, m368, i368, u368⟩ := id (((((((((((((((((((((((((((V210.ext E213).other W217 (Nat.ne_of_lt (Nat.lt_of_lt_of_le V210.lt (Nat.le_of_eq g213.symm)))).other W221 (Nat.ne_of_lt (Nat.lt_of_lt_of_le V210.lt (Nat.le_of_eq g213.symm)))).other W225 (Nat.ne_of_lt (Nat.lt_of_lt_of_le V210.lt (Nat.le_of_eq g213.symm)))).other W229 (Nat.ne_of_lt (Nat.lt_of_lt_of_le V210.lt (Nat.le_of_eq g213.symm)))).other W233 (Nat.ne_of_lt (Nat.lt_of_lt_of_le V210.lt (Nat.le_of_eq g213.symm)))).other W237 (Nat.ne_of_lt (Nat.lt_of_lt_of_le V210.lt (Nat.le_of_eq g213.symm)))).other W241 (Nat.ne_of_lt (Nat.lt_of_lt_of_le V210.lt (Nat.le_of_eq g213.symm)))).other W245 (Nat.ne_of_lt (Nat.lt_of_lt_of_le V210.lt (Nat.le_of_eq g213.symm)))).other W249 (Nat.ne_of_lt (Nat.lt_of_lt_of_le V210.lt (Nat.le_of_eq g213.symm)))).other W253 (Nat.ne_of_lt (Nat.lt_of_lt_of_le V210.lt (Nat.le_of_eq g213.symm)))).other W257 (Nat.ne_of_lt (Nat.lt_of_lt_of_le V210.lt (Nat.le_of_eq g213.symm)))).other W261 (Nat.ne_of_lt (Nat.lt_of_lt_of_le V210.lt (Nat.le_of_eq g213.symm)))).other W265 (Nat.ne_of_lt (Nat.lt_of_lt_of_le V210.lt (Nat.le_of_eq g213.symm)))).other W269 (Nat.ne_of_lt (Nat.lt_of_lt_of_le V210.lt (Nat.le_of_eq g213.symm)))).other W273 (Nat.ne_of_lt (Nat.lt_of_lt_of_le V210.lt (Nat.le_of_eq g213.symm)))).other W277 (Nat.ne_of_lt (Nat.lt_of_lt_of_le V210.lt (Nat.le_of_eq g213.symm)))).other W281 (Nat.ne_of_lt (Nat.lt_of_lt_of_le V210.lt (Nat.le_of_eq g213.symm)))).other W285 (Nat.ne_of_lt (Nat.lt_of_lt_of_le V210.lt (Nat.le_of_eq g213.symm)))).other W289 (Nat.ne_of_lt (Nat.lt_of_lt_of_le V210.lt (Nat.le_of_eq g213.symm)))).other W293 (Nat.ne_of_lt (Nat.lt_of_lt_of_le V210.lt (Nat.le_of_eq g213.symm)))).other W297 (Nat.ne_of_lt (Nat.lt_of_lt_of_le V210.lt (Nat.le_of_eq g213.symm)))).other W301 (Nat.ne_of_lt (Nat.lt_of_lt_of_le V210.lt (Nat.le_of_eq g213.symm)))).other W305 (Nat.ne_of_lt (Nat.lt_of_lt_of_le V210.lt (Nat.le_of_eq g213.symm)))).other W309 (Nat.ne_of_lt (Nat.lt_of_lt_of_le V210.lt (Nat.le_of_eq g213.symm)))).other W313 (Nat.ne_of_lt (Nat.lt_of_lt_of_le V210.lt (Nat.le_of_eq g213.symm)))).other W317 (Nat.ne_of_lt (Nat.lt_of_lt_of_le V210.lt (Nat.le_of_eq g213.symm))))
      have hin368 := inb_of (j := (4 : Int32)) s368 ⟨by decide, by decide⟩
      refine X317.aaload hx (j := (4 : Int32)) (v := (.ref w_DECIMAL)) (by rw [e317]; exact a368.1) (State.isArrayOf_alike hZ.alike a368.2.1) rfl a368.2.2 hin368 (i368.at hin368 rfl) (g := (mkF m 321 #[.val (.int xa), .val (.ref b2), .val (.ref b213), .val (.int (4 : Int32)), .unset] [(.int (4 : Int32)), (.ref b2)])) rfl rfl (hb hby at_321) _ ?_
      show Steps p.tables e below (T317.setTop (mkF m 322 #[.val (.int xa), .val (.ref b2), .val (.ref b213), .val (.int (4 : Int32)), .unset] [(.ref w_DECIMAL)])) _
      refine XS.astore X317.here hx rfl (hb hby at_322) rfl rfl (l' := #[.val (.int xa), .val (.ref b2), .val (.ref b213), .val (.int (4 : Int32)), .val (.ref w_DECIMAL)]) rfl ?_
      show Steps p.tables e below (T317.setTop (mkF m 324 #[.val (.int xa), .val (.ref b2), .val (.ref b213), .val (.int (4 : Int32)), .val (.ref w_DECIMAL)] [])) _
      refine XS.aload X317.here hx rfl (hb hby at_324) rfl rfl ?_
      show Steps p.tables e below (T317.setTop (mkF m 326 #[.val (.int xa), .val (.ref b2), .val (.ref b213), .val (.int (4 : Int32)), .val (.ref w_DECIMAL)] [(.ref w_DECIMAL)])) _
      exact k
    have f370 := (P_DECIMAL.ext (own_keep_ext K317))
    have f371 := (((((((((((((((((((((((((((((((((((((((((((((((((f36.wr W42).wr W50).wr W58).wr W66).wr W74).wr W82).wr W90).wr W98).wr W106).wr W114).wr W122).wr W130).wr W138).wr W146).wr W154).wr W162).wr W170).wr W178).wr W186).wr W194).wr W202).wr W210).ext E213).wr W217).wr W221).wr W225).wr W229).wr W233).wr W237).wr W241).wr W245).wr W249).wr W253).wr W257).wr W261).wr W265).wr W269).wr W273).wr W277).wr W281).wr W285).wr W289).wr W293).wr W297).wr W301).wr W305).wr W309).wr W313).wr W317)
    have f373 := (((((((((((((((((((((((((((((((((((((((((((((((((f41.wr W42).wr W50).wr W58).wr W66).wr W74).wr W82).wr W90).wr W98).wr W106).wr W114).wr W122).wr W130).wr W138).wr W146).wr W154).wr W162).wr W170).wr W178).wr W186).wr W194).wr W202).wr W210).ext E213).wr W217).wr W221).wr W225).wr W229).wr W233).wr W237).wr W241).wr W245).wr W249).wr W253).wr W257).wr W261).wr W265).wr W269).wr W273).wr W277).wr W281).wr W285).wr W289).wr W293).wr W297).wr W301).wr W305).wr W309).wr W313).wr W317)
    obtain ⟨cq372, kq372, q372a, q372b, q372c⟩ := isOf hZ e317 f373
    obtain ⟨_, _, ⟨T372, L372, k372, n372⟩, -, X372, ⟨Lc372, hQ372, l372, y372, z372⟩, st372⟩ := X317.virtualBack hx (y := (⟨"com/example/xidr/xidr/xpath/values/AtomicType", "isNumeric", "()Z"⟩ : MethodName)) (z := (⟨"com/example/xidr/xidr/xpath/values/AtomicType", "isNumeric", "()Z"⟩ : MethodName)) hown (mvT hZ (hw _ (List.mem_of_getElem? (i := 58) rfl))) (mvT hZ (hw _ (List.mem_of_getElem? (i := 59) rfl))) (notFace_of_selects (args := #[]) (mvT hZ (hw _ (List.mem_of_getElem? (i := 61) rfl)))) (mvT hZ (hw _ (List.mem_of_getElem? (i := 61) rfl))) (mvT hZ (hw _ (List.mem_of_getElem? (i := 60) rfl))) (by decide) (backOf (W := 0) (rm_num0 l Z a0 hw [] w_DECIMAL w_DECIMAL h317 n0 z317 f370 f371) hZ (hw _ (List.mem_of_getElem? (i := 62) rfl)) (hw _ (List.mem_of_getElem? (i := 3) rfl)) (by decide) (by decide)) q372a q372c (g := (mkF m 326 #[.val (.int xa), .val (.ref b2), .val (.ref b213), .val (.int (4 : Int32)), .val (.ref w_DECIMAL)] [(.ref w_DECIMAL)])) rfl (by rw [hml]; rfl) (Steps.refl _) (argsL := []) (rest := []) (lenOf pd0 rfl) rfl (by show 2 * 0 + _ ≤ _; exact Nat.le_of_eq rfl) (hb hby at_326) (fun _ _ => ⟨rfl, e317, (by decide : 2 + 0 ≤ _), (by decide : 52 + 0 ≤ _)⟩)
    dsimp only [Pt.U, Pt.locs, Pt.cells, Pt.slots] at X372 l372 y372 z372 st372 hQ372
    subst y372 z372
    obtain ⟨rfl, M372, e372⟩ := hQ372
    have N372 : Fr n0 L372 := by rw [l372]; exact Fr.app N317 M372
    clear l372
    have X372 : Stand p l e _ s m _ below meth c T372 _ 2 52 := X372
    have pre374 : ∀ t, Steps p.tables e below (T372.setTop (mkF m 329 #[.val (.int xa), .val (.ref b2), .val (.ref b213), .val (.int (4 : Int32)), .val (.ref w_DECIMAL)] [(.int (1 : Int32))])) t → Steps p.tables e below (s₁.setTop (entryFrame m #[(.int xa)] maxLocals)) t := fun t k => pre369 t (st372.trans k)
    have pre376 : ∀ t, Steps p.tables e below (T372.setTop (mkF m 340 #[.val (.int xa), .val (.ref b2), .val (.ref b213), .val (.int (4 : Int32)), .val (.ref w_DECIMAL)] [(.int (1 : Int32))])) t → Steps p.tables e below (s₁.setTop (entryFrame m #[(.int xa)] maxLocals)) t := by
      intro t k
      refine pre374 t ?_
      refine XS.aloadN X372.here hx rfl (hb hby at_329) rfl rfl ?_
      show Steps p.tables e below (T372.setTop (mkF m 330 #[.val (.int xa), .val (.ref b2), .val (.ref b213), .val (.int (4 : Int32)), .val (.ref w_DECIMAL)] [(.ref b213), (.int (1 : Int32))])) _
      refine XS.iloadN X372.here hx rfl (hb hby at_330) rfl ?_
      show Steps p.tables e below (T372.setTop (mkF m 331 #[.val (.int xa), .val (.ref b2), .val (.ref b213), .val (.int (4 : Int32)), .val (.ref w_DECIMAL)] [(.int (4 : Int32)), (.ref b213), (.int (1 : Int32))])) _
      obtain ⟨c375, a375, q375, s375, m375, i375, u375⟩ := id V317
      have hin375 := inb_of (j := (4 : Int32)) s375 ⟨by decide, by decide⟩
      refine X372.baloadBooleans hx (j := (4 : Int32)) (v := (.int (nar .boolean (1 : Int32)))) (by rw [e372]; exact a375.1) (State.isArrayOf_alike hZ.alike a375.2.1) a375.2.2 hin375 (i375.at hin375 rfl) (g := (mkF m 331 #[.val (.int xa), .val (.ref b2), .val (.ref b213), .val (.int (4 : Int32)), .val (.ref w_DECIMAL)] [(.int (4 : Int32)), (.ref b213), (.int (1 : Int32))])) rfl rfl (hb hby at_331) _ ?_
      show Steps p.tables e below (T372.setTop (mkF m 332 #[.val (.int xa), .val (.ref b2), .val (.ref b213), .val (.int (4 : Int32)), .val (.ref w_DECIMAL)] [(.int (nar .boolean (1 : Int32))), (.int (1 : Int32))])) _
      refine XS.icmpNo X372.here hx rfl (hb hby at_332) rfl (teq (show (1 : Int32) = (nar .boolean (1 : Int32)) from rfl)).2 ?_
      show Steps p.tables e below (T372.setTop (mkF m 335 #[.val (.int xa), .val (.ref b2), .val (.ref b213), .val (.int (4 : Int32)), .val (.ref w_DECIMAL)] [])) _
      refine XS.iconst X372.here hx rfl (hb hby at_335) ?_
      show Steps p.tables e below (T372.setTop (mkF m 336 #[.val (.int xa), .val (.ref b2), .val (.ref b213), .val (.int (4 : Int32)), .val (.ref w_DECIMAL)] [(.int (1 : Int32))])) _
      refine XS.goto X372.here hx rfl (pc0 := 336) (pc' := 340) rfl (hb hby at_336) (by decide) (by decide) ?_
      show Steps p.tables e below (T372.setTop (mkF m 340 #[.val (.int xa), .val (.ref b2), .val (.ref b213), .val (.int (4 : Int32)), .val (.ref w_DECIMAL)] [(.int (1 : Int32))])) _
      exact k
    obtain ⟨fs, hr, hrun, hended, hW, hsame⟩ := X372.leave (v := some (.int (1 : Int32))) (fun h => by rw [Bd.returns] at h; cases h)
    refine ⟨_, _, pre376 _ ?_, hrun, hended, _, _, rfl, ?_, ⟨_, rfl⟩, hW, hsame.mono (by decide) (by decide)⟩
    · exact retN X372 hx (t := .boolean) Bd.returns (by simp) (hb hby at_340) hr
    · show Q_rm0 Z xa w_ANY_ATOMIC_TYPE w_UNTYPED_ATOMIC w_STRING w_BOOLEAN w_DECIMAL w_INTEGER w_NON_POSITIVE_INTEGER w_NEGATIVE_INTEGER w_LONG w_INT w_SHORT w_BYTE w_NON_NEGATIVE_INTEGER w_UNSIGNED_LONG w_UNSIGNED_INT w_UNSIGNED_SHORT w_UNSIGNED_BYTE w_POSITIVE_INTEGER w_FLOAT w_DOUBLE w_ANY_URI w_DATE w_TIME w_HEX_BINARY w_QNAME w_NOTATION h0 n0 _ T372.heap _
      rw [e372]
      exact ⟨rfl, N372⟩
  · subst hk
    have pre378 : ∀ t, Steps p.tables e below (T317.setTop (mkF m 326 #[.val (.int xa), .val (.ref b2), .val (.ref b213), .val (.int (5 : Int32)), .val (.ref w_INTEGER)] [(.ref w_INTEGER)])) t → Steps p.tables e below (s₁.setTop (entryFrame m #[(.int xa)] maxLocals)) t := by
      intro t k
      refine pre319 t ?_
      refine XS.aloadN X317.here hx rfl (hb hby at_319) rfl rfl ?_
      show Steps p.tables e below (T317.setTop (mkF m 320 #[.val (.int xa), .val (.ref b2), .val (.ref b213), .val (.int (5 : Int32)), .unset] [(.ref b2)])) _
      refine XS.iloadN X317.here hx rfl (hb hby at_320) rfl ?_
      show Steps p.tables e below (T317.setTop (mkF m 321 #[.val (.int xa), .val (.ref b2), .val (.ref b213), .val (.int (5 : Int32)), .unset] [(.int (5 : Int32)), (.ref b2)])) _
      obtain ⟨c377, a377, q377, s377, m377, i377, u377⟩ := id (((((((((((((((((((((((((((V210.ext E213).other W217 (Nat.ne_of_lt (Nat.lt_of_lt_of_le V210.lt (Nat.le_of_eq g213.symm)))).other W221 (Nat.ne_of_lt (Nat.lt_of_lt_of_le V210.lt (Nat.le_of_eq g213.symm)))).other W225 (Nat.ne_of_lt (Nat.lt_of_lt_of_le V210.lt (Nat.le_of_eq g213.symm)))).other W229 (Nat.ne_of_lt (Nat.lt_of_lt_of_le V210.lt (Nat.le_of_eq g213.symm)))).other W233 (Nat.ne_of_lt (Nat.lt_of_lt_of_le V210.lt (Nat.le_of_eq g213.symm)))).other W237 (Nat.ne_of_lt (Nat.lt_of_lt_of_le V210.lt (Nat.le_of_eq g213.symm)))).other W241 (Nat.ne_of_lt (Nat.lt_of_lt_of_le V210.lt (Nat.le_of_eq g213.symm)))).other W245 (Nat.ne_of_lt (Nat.lt_of_lt_of_le V210.lt (Nat.le_of_eq g213.symm)))).other W249 (Nat.ne_of_lt (Nat.lt_of_lt_of_le V210.lt (Nat.le_of_eq g213.symm)))).other W253 (Nat.ne_of_lt (Nat.lt_of_lt_of_le V210.lt (Nat.le_of_eq g213.symm)))).other W257 (Nat.ne_of_lt (Nat.lt_of_lt_of_le V210.lt (Nat.le_of_eq g213.symm)))).other W261 (Nat.ne_of_lt (Nat.lt_of_lt_of_le V210.lt (Nat.le_of_eq g213.symm)))).other W265 (Nat.ne_of_lt (Nat.lt_of_lt_of_le V210.lt (Nat.le_of_eq g213.symm)))).other W269 (Nat.ne_of_lt (Nat.lt_of_lt_of_le V210.lt (Nat.le_of_eq g213.symm)))).other W273 (Nat.ne_of_lt (Nat.lt_of_lt_of_le V210.lt (Nat.le_of_eq g213.symm)))).other W277 (Nat.ne_of_lt (Nat.lt_of_lt_of_le V210.lt (Nat.le_of_eq g213.symm)))).other W281 (Nat.ne_of_lt (Nat.lt_of_lt_of_le V210.lt (Nat.le_of_eq g213.symm)))).other W285 (Nat.ne_of_lt (Nat.lt_of_lt_of_le V210.lt (Nat.le_of_eq g213.symm)))).other W289 (Nat.ne_of_lt (Nat.lt_of_lt_of_le V210.lt (Nat.le_of_eq g213.symm)))).other W293 (Nat.ne_of_lt (Nat.lt_of_lt_of_le V210.lt (Nat.le_of_eq g213.symm)))).other W297 (Nat.ne_of_lt (Nat.lt_of_lt_of_le V210.lt (Nat.le_of_eq g213.symm)))).other W301 (Nat.ne_of_lt (Nat.lt_of_lt_of_le V210.lt (Nat.le_of_eq g213.symm)))).other W305 (Nat.ne_of_lt (Nat.lt_of_lt_of_le V210.lt (Nat.le_of_eq g213.symm)))).other W309 (Nat.ne_of_lt (Nat.lt_of_lt_of_le V210.lt (Nat.le_of_eq g213.symm)))).other W313 (Nat.ne_of_lt (Nat.lt_of_lt_of_le V210.lt (Nat.le_of_eq g213.symm)))).other W317 (Nat.ne_of_lt (Nat.lt_of_lt_of_le V210.lt (Nat.le_of_eq g213.symm))))
      have hin377 := inb_of (j := (5 : Int32)) s377 ⟨by decide, by decide⟩
      refine X317.aaload hx (j := (5 : Int32)) (v := (.ref w_INTEGER)) (by rw [e317]; exact a377.1) (State.isArrayOf_alike hZ.alike a377.2.1) rfl a377.2.2 hin377 (i377.at hin377 rfl) (g := (mkF m 321 #[.val (.int xa), .val (.ref b2), .val (.ref b213), .val (.int (5 : Int32)), .unset] [(.int (5 : Int32)), (.ref b2)])) rfl rfl (hb hby at_321) _ ?_
      show Steps p.tables e below (T317.setTop (mkF m 322 #[.val (.int xa), .val (.ref b2), .val (.ref b213), .val (.int (5 : Int32)), .unset] [(.ref w_INTEGER)])) _
      refine XS.astore X317.here hx rfl (hb hby at_322) rfl rfl (l' := #[.val (.int xa), .val (.ref b2), .val (.ref b213), .val (.int (5 : Int32)), .val (.ref w_INTEGER)]) rfl ?_
      show Steps p.tables e below (T317.setTop (mkF m 324 #[.val (.int xa), .val (.ref b2), .val (.ref b213), .val (.int (5 : Int32)), .val (.ref w_INTEGER)] [])) _
      refine XS.aload X317.here hx rfl (hb hby at_324) rfl rfl ?_
      show Steps p.tables e below (T317.setTop (mkF m 326 #[.val (.int xa), .val (.ref b2), .val (.ref b213), .val (.int (5 : Int32)), .val (.ref w_INTEGER)] [(.ref w_INTEGER)])) _
      exact k
    have f379 := (P_INTEGER.ext (own_keep_ext K317))
    have f380 := (((((((((((((((((((((((((((((((((((((((((((((((((f36.wr W42).wr W50).wr W58).wr W66).wr W74).wr W82).wr W90).wr W98).wr W106).wr W114).wr W122).wr W130).wr W138).wr W146).wr W154).wr W162).wr W170).wr W178).wr W186).wr W194).wr W202).wr W210).ext E213).wr W217).wr W221).wr W225).wr W229).wr W233).wr W237).wr W241).wr W245).wr W249).wr W253).wr W257).wr W261).wr W265).wr W269).wr W273).wr W277).wr W281).wr W285).wr W289).wr W293).wr W297).wr W301).wr W305).wr W309).wr W313).wr W317)
    have f381 := ((((((((((((((((((((((((((((((((((((((((((((((((f44.wr W50).wr W58).wr W66).wr W74).wr W82).wr W90).wr W98).wr W106).wr W114).wr W122).wr W130).wr W138).wr W146).wr W154).wr W162).wr W170).wr W178).wr W186).wr W194).wr W202).wr W210).ext E213).wr W217).wr W221).wr W225).wr W229).wr W233).wr W237).wr W241).wr W245).wr W249).wr W253).wr W257).wr W261).wr W265).wr W269).wr W273).wr W277).wr W281).wr W285).wr W289).wr W293).wr W297).wr W301).wr W305).wr W309).wr W313).wr W317)
    have f383 := ((((((((((((((((((((((((((((((((((((((((((((((((f49.wr W50).wr W58).wr W66).wr W74).wr W82).wr W90).wr W98).wr W106).wr W114).wr W122).wr W130).wr W138).wr W146).wr W154).wr W162).wr W170).wr W178).wr W186).wr W194).wr W202).wr W210).ext E213).wr W217).wr W221).wr W225).wr W229).wr W233).wr W237).wr W241).wr W245).wr W249).wr W253).wr W257).wr W261).wr W265).wr W269).wr W273).wr W277).wr W281).wr W285).wr W289).wr W293).wr W297).wr W301).wr W305).wr W309).wr W313).wr W317)
    obtain ⟨cq382, kq382, q382a, q382b, q382c⟩ := isOf hZ e317 f383
    obtain ⟨_, _, ⟨T382, L382, k382, n382⟩, -, X382, ⟨Lc382, hQ382, l382, y382, z382⟩, st382⟩ := X317.virtualBack hx (y := (⟨"com/example/xidr/xidr/xpath/values/AtomicType", "isNumeric", "()Z"⟩ : MethodName)) (z := (⟨"com/example/xidr/xidr/xpath/values/AtomicType", "isNumeric", "()Z"⟩ : MethodName)) hown (mvT hZ (hw _ (List.mem_of_getElem? (i := 58) rfl))) (mvT hZ (hw _ (List.mem_of_getElem? (i := 59) rfl))) (notFace_of_selects (args := #[]) (mvT hZ (hw _ (List.mem_of_getElem? (i := 61) rfl)))) (mvT hZ (hw _ (List.mem_of_getElem? (i := 61) rfl))) (mvT hZ (hw _ (List.mem_of_getElem? (i := 60) rfl))) (by decide) (backOf (W := 0) (rm_num1 l Z a0 hw [] w_INTEGER w_INTEGER w_DECIMAL h317 n0 z317 f379 f380 f381 (hne_INTEGER_DECIMAL)) hZ (hw _ (List.mem_of_getElem? (i := 62) rfl)) (hw _ (List.mem_of_getElem? (i := 3) rfl)) (by decide) (by decide)) q382a q382c (g := (mkF m 326 #[.val (.int xa), .val (.ref b2), .val (.ref b213), .val (.int (5 : Int32)), .val (.ref w_INTEGER)] [(.ref w_INTEGER)])) rfl (by rw [hml]; rfl) (Steps.refl _) (argsL := []) (rest := []) (lenOf pd0 rfl) rfl (by show 2 * 0 + _ ≤ _; exact Nat.le_of_eq rfl) (hb hby at_326) (fun _ _ => ⟨rfl, e317, (by decide : 2 + 0 ≤ _), (by decide : 52 + 0 ≤ _)⟩)
    dsimp only [Pt.U, Pt.locs, Pt.cells, Pt.slots] at X382 l382 y382 z382 st382 hQ382
    subst y382 z382
    obtain ⟨rfl, M382, e382⟩ := hQ382
    have N382 : Fr n0 L382 := by rw [l382]; exact Fr.app N317 M382
    clear l382
    have X382 : Stand p l e _ s m _ below meth c T382 _ 2 52 := X382
    have pre384 : ∀ t, Steps p.tables e below (T382.setTop (mkF m 329 #[.val (.int xa), .val (.ref b2), .val (.ref b213), .val (.int (5 : Int32)), .val (.ref w_INTEGER)] [(.int (1 : Int32))])) t → Steps p.tables e below (s₁.setTop (entryFrame m #[(.int xa)] maxLocals)) t := fun t k => pre378 t (st382.trans k)
    have pre386 : ∀ t, Steps p.tables e below (T382.setTop (mkF m 340 #[.val (.int xa), .val (.ref b2), .val (.ref b213), .val (.int (5 : Int32)), .val (.ref w_INTEGER)] [(.int (1 : Int32))])) t → Steps p.tables e below (s₁.setTop (entryFrame m #[(.int xa)] maxLocals)) t := by
      intro t k
      refine pre384 t ?_
      refine XS.aloadN X382.here hx rfl (hb hby at_329) rfl rfl ?_
      show Steps p.tables e below (T382.setTop (mkF m 330 #[.val (.int xa), .val (.ref b2), .val (.ref b213), .val (.int (5 : Int32)), .val (.ref w_INTEGER)] [(.ref b213), (.int (1 : Int32))])) _
      refine XS.iloadN X382.here hx rfl (hb hby at_330) rfl ?_
      show Steps p.tables e below (T382.setTop (mkF m 331 #[.val (.int xa), .val (.ref b2), .val (.ref b213), .val (.int (5 : Int32)), .val (.ref w_INTEGER)] [(.int (5 : Int32)), (.ref b213), (.int (1 : Int32))])) _
      obtain ⟨c385, a385, q385, s385, m385, i385, u385⟩ := id V317
      have hin385 := inb_of (j := (5 : Int32)) s385 ⟨by decide, by decide⟩
      refine X382.baloadBooleans hx (j := (5 : Int32)) (v := (.int (nar .boolean (1 : Int32)))) (by rw [e382]; exact a385.1) (State.isArrayOf_alike hZ.alike a385.2.1) a385.2.2 hin385 (i385.at hin385 rfl) (g := (mkF m 331 #[.val (.int xa), .val (.ref b2), .val (.ref b213), .val (.int (5 : Int32)), .val (.ref w_INTEGER)] [(.int (5 : Int32)), (.ref b213), (.int (1 : Int32))])) rfl rfl (hb hby at_331) _ ?_
      show Steps p.tables e below (T382.setTop (mkF m 332 #[.val (.int xa), .val (.ref b2), .val (.ref b213), .val (.int (5 : Int32)), .val (.ref w_INTEGER)] [(.int (nar .boolean (1 : Int32))), (.int (1 : Int32))])) _
      refine XS.icmpNo X382.here hx rfl (hb hby at_332) rfl (teq (show (1 : Int32) = (nar .boolean (1 : Int32)) from rfl)).2 ?_
      show Steps p.tables e below (T382.setTop (mkF m 335 #[.val (.int xa), .val (.ref b2), .val (.ref b213), .val (.int (5 : Int32)), .val (.ref w_INTEGER)] [])) _
      refine XS.iconst X382.here hx rfl (hb hby at_335) ?_
      show Steps p.tables e below (T382.setTop (mkF m 336 #[.val (.int xa), .val (.ref b2), .val (.ref b213), .val (.int (5 : Int32)), .val (.ref w_INTEGER)] [(.int (1 : Int32))])) _
      refine XS.goto X382.here hx rfl (pc0 := 336) (pc' := 340) rfl (hb hby at_336) (by decide) (by decide) ?_
      show Steps p.tables e below (T382.setTop (mkF m 340 #[.val (.int xa), .val (.ref b2), .val (.ref b213), .val (.int (5 : Int32)), .val (.ref w_INTEGER)] [(.int (1 : Int32))])) _
      exact k
    obtain ⟨fs, hr, hrun, hended, hW, hsame⟩ := X382.leave (v := some (.int (1 : Int32))) (fun h => by rw [Bd.returns] at h; cases h)
    refine ⟨_, _, pre386 _ ?_, hrun, hended, _, _, rfl, ?_, ⟨_, rfl⟩, hW, hsame.mono (by decide) (by decide)⟩
    · exact retN X382 hx (t := .boolean) Bd.returns (by simp) (hb hby at_340) hr
    · show Q_rm0 Z xa w_ANY_ATOMIC_TYPE w_UNTYPED_ATOMIC w_STRING w_BOOLEAN w_DECIMAL w_INTEGER w_NON_POSITIVE_INTEGER w_NEGATIVE_INTEGER w_LONG w_INT w_SHORT w_BYTE w_NON_NEGATIVE_INTEGER w_UNSIGNED_LONG w_UNSIGNED_INT w_UNSIGNED_SHORT w_UNSIGNED_BYTE w_POSITIVE_INTEGER w_FLOAT w_DOUBLE w_ANY_URI w_DATE w_TIME w_HEX_BINARY w_QNAME w_NOTATION h0 n0 _ T382.heap _
      rw [e382]
      exact ⟨rfl, N382⟩
  · subst hk
    have pre388 : ∀ t, Steps p.tables e below (T317.setTop (mkF m 326 #[.val (.int xa), .val (.ref b2), .val (.ref b213), .val (.int (6 : Int32)), .val (.ref w_NON_POSITIVE_INTEGER)] [(.ref w_NON_POSITIVE_INTEGER)])) t → Steps p.tables e below (s₁.setTop (entryFrame m #[(.int xa)] maxLocals)) t := by
      intro t k
      refine pre319 t ?_
      refine XS.aloadN X317.here hx rfl (hb hby at_319) rfl rfl ?_
      show Steps p.tables e below (T317.setTop (mkF m 320 #[.val (.int xa), .val (.ref b2), .val (.ref b213), .val (.int (6 : Int32)), .unset] [(.ref b2)])) _
      refine XS.iloadN X317.here hx rfl (hb hby at_320) rfl ?_
      show Steps p.tables e below (T317.setTop (mkF m 321 #[.val (.int xa), .val (.ref b2), .val (.ref b213), .val (.int (6 : Int32)), .unset] [(.int (6 : Int32)), (.ref b2)])) _
      obtain ⟨c387, a387, q387, s387, m387, i387, u387⟩ := id (((((((((((((((((((((((((((V210.ext E213).other W217 (Nat.ne_of_lt (Nat.lt_of_lt_of_le V210.lt (Nat.le_of_eq g213.symm)))).other W221 (Nat.ne_of_lt (Nat.lt_of_lt_of_le V210.lt (Nat.le_of_eq g213.symm)))).other W225 (Nat.ne_of_lt (Nat.lt_of_lt_of_le V210.lt (Nat.le_of_eq g213.symm)))).other W229 (Nat.ne_of_lt (Nat.lt_of_lt_of_le V210.lt (Nat.le_of_eq g213.symm)))).other W233 (Nat.ne_of_lt (Nat.lt_of_lt_of_le V210.lt (Nat.le_of_eq g213.symm)))).other W237 (Nat.ne_of_lt (Nat.lt_of_lt_of_le V210.lt (Nat.le_of_eq g213.symm)))).other W241 (Nat.ne_of_lt (Nat.lt_of_lt_of_le V210.lt (Nat.le_of_eq g213.symm)))).other W245 (Nat.ne_of_lt (Nat.lt_of_lt_of_le V210.lt (Nat.le_of_eq g213.symm)))).other W249 (Nat.ne_of_lt (Nat.lt_of_lt_of_le V210.lt (Nat.le_of_eq g213.symm)))).other W253 (Nat.ne_of_lt (Nat.lt_of_lt_of_le V210.lt (Nat.le_of_eq g213.symm)))).other W257 (Nat.ne_of_lt (Nat.lt_of_lt_of_le V210.lt (Nat.le_of_eq g213.symm)))).other W261 (Nat.ne_of_lt (Nat.lt_of_lt_of_le V210.lt (Nat.le_of_eq g213.symm)))).other W265 (Nat.ne_of_lt (Nat.lt_of_lt_of_le V210.lt (Nat.le_of_eq g213.symm)))).other W269 (Nat.ne_of_lt (Nat.lt_of_lt_of_le V210.lt (Nat.le_of_eq g213.symm)))).other W273 (Nat.ne_of_lt (Nat.lt_of_lt_of_le V210.lt (Nat.le_of_eq g213.symm)))).other W277 (Nat.ne_of_lt (Nat.lt_of_lt_of_le V210.lt (Nat.le_of_eq g213.symm)))).other W281 (Nat.ne_of_lt (Nat.lt_of_lt_of_le V210.lt (Nat.le_of_eq g213.symm)))).other W285 (Nat.ne_of_lt (Nat.lt_of_lt_of_le V210.lt (Nat.le_of_eq g213.symm)))).other W289 (Nat.ne_of_lt (Nat.lt_of_lt_of_le V210.lt (Nat.le_of_eq g213.symm)))).other W293 (Nat.ne_of_lt (Nat.lt_of_lt_of_le V210.lt (Nat.le_of_eq g213.symm)))).other W297 (Nat.ne_of_lt (Nat.lt_of_lt_of_le V210.lt (Nat.le_of_eq g213.symm)))).other W301 (Nat.ne_of_lt (Nat.lt_of_lt_of_le V210.lt (Nat.le_of_eq g213.symm)))).other W305 (Nat.ne_of_lt (Nat.lt_of_lt_of_le V210.lt (Nat.le_of_eq g213.symm)))).other W309 (Nat.ne_of_lt (Nat.lt_of_lt_of_le V210.lt (Nat.le_of_eq g213.symm)))).other W313 (Nat.ne_of_lt (Nat.lt_of_lt_of_le V210.lt (Nat.le_of_eq g213.symm)))).other W317 (Nat.ne_of_lt (Nat.lt_of_lt_of_le V210.lt (Nat.le_of_eq g213.symm))))
      have hin387 := inb_of (j := (6 : Int32)) s387 ⟨by decide, by decide⟩
      refine X317.aaload hx (j := (6 : Int32)) (v := (.ref w_NON_POSITIVE_INTEGER)) (by rw [e317]; exact a387.1) (State.isArrayOf_alike hZ.alike a387.2.1) rfl a387.2.2 hin387 (i387.at hin387 rfl) (g := (mkF m 321 #[.val (.int xa), .val (.ref b2), .val (.ref b213), .val (.int (6 : Int32)), .unset] [(.int (6 : Int32)), (.ref b2)])) rfl rfl (hb hby at_321) _ ?_
      show Steps p.tables e below (T317.setTop (mkF m 322 #[.val (.int xa), .val (.ref b2), .val (.ref b213), .val (.int (6 : Int32)), .unset] [(.ref w_NON_POSITIVE_INTEGER)])) _
      refine XS.astore X317.here hx rfl (hb hby at_322) rfl rfl (l' := #[.val (.int xa), .val (.ref b2), .val (.ref b213), .val (.int (6 : Int32)), .val (.ref w_NON_POSITIVE_INTEGER)]) rfl ?_
      show Steps p.tables e below (T317.setTop (mkF m 324 #[.val (.int xa), .val (.ref b2), .val (.ref b213), .val (.int (6 : Int32)), .val (.ref w_NON_POSITIVE_INTEGER)] [])) _
      refine XS.aload X317.here hx rfl (hb hby at_324) rfl rfl ?_
      show Steps p.tables e below (T317.setTop (mkF m 326 #[.val (.int xa), .val (.ref b2), .val (.ref b213), .val (.int (6 : Int32)), .val (.ref w_NON_POSITIVE_INTEGER)] [(.ref w_NON_POSITIVE_INTEGER)])) _
      exact k
    have f389 := (P_NON_POSITIVE_INTEGER.ext (own_keep_ext K317))
    have f390 := (((((((((((((((((((((((((((((((((((((((((((((((((f36.wr W42).wr W50).wr W58).wr W66).wr W74).wr W82).wr W90).wr W98).wr W106).wr W114).wr W122).wr W130).wr W138).wr W146).wr W154).wr W162).wr W170).wr W178).wr W186).wr W194).wr W202).wr W210).ext E213).wr W217).wr W221).wr W225).wr W229).wr W233).wr W237).wr W241).wr W245).wr W249).wr W253).wr W257).wr W261).wr W265).wr W269).wr W273).wr W277).wr W281).wr W285).wr W289).wr W293).wr W297).wr W301).wr W305).wr W309).wr W313).wr W317)
    have f391 := ((((((((((((((((((((((((((((((((((((((((((((((((f44.wr W50).wr W58).wr W66).wr W74).wr W82).wr W90).wr W98).wr W106).wr W114).wr W122).wr W130).wr W138).wr W146).wr W154).wr W162).wr W170).wr W178).wr W186).wr W194).wr W202).wr W210).ext E213).wr W217).wr W221).wr W225).wr W229).wr W233).wr W237).wr W241).wr W245).wr W249).wr W253).wr W257).wr W261).wr W265).wr W269).wr W273).wr W277).wr W281).wr W285).wr W289).wr W293).wr W297).wr W301).wr W305).wr W309).wr W313).wr W317)
    have f393 := (((((((((((((((((((((((((((((((((((((((((((((((f57.wr W58).wr W66).wr W74).wr W82).wr W90).wr W98).wr W106).wr W114).wr W122).wr W130).wr W138).wr W146).wr W154).wr W162).wr W170).wr W178).wr W186).wr W194).wr W202).wr W210).ext E213).wr W217).wr W221).wr W225).wr W229).wr W233).wr W237).wr W241).wr W245).wr W249).wr W253).wr W257).wr W261).wr W265).wr W269).wr W273).wr W277).wr W281).wr W285).wr W289).wr W293).wr W297).wr W301).wr W305).wr W309).wr W313).wr W317)
    obtain ⟨cq392, kq392, q392a, q392b, q392c⟩ := isOf hZ e317 f393
    obtain ⟨_, _, ⟨T392, L392, k392, n392⟩, -, X392, ⟨Lc392, hQ392, l392, y392, z392⟩, st392⟩ := X317.virtualBack hx (y := (⟨"com/example/xidr/xidr/xpath/values/AtomicType", "isNumeric", "()Z"⟩ : MethodName)) (z := (⟨"com/example/xidr/xidr/xpath/values/AtomicType", "isNumeric", "()Z"⟩ : MethodName)) hown (mvT hZ (hw _ (List.mem_of_getElem? (i := 58) rfl))) (mvT hZ (hw _ (List.mem_of_getElem? (i := 59) rfl))) (notFace_of_selects (args := #[]) (mvT hZ (hw _ (List.mem_of_getElem? (i := 61) rfl)))) (mvT hZ (hw _ (List.mem_of_getElem? (i := 61) rfl))) (mvT hZ (hw _ (List.mem_of_getElem? (i := 60) rfl))) (by decide) (backOf (W := 0) (rm_num1 l Z a0 hw [] w_NON_POSITIVE_INTEGER w_INTEGER w_DECIMAL h317 n0 z317 f389 f390 f391 (hne_INTEGER_DECIMAL)) hZ (hw _ (List.mem_of_getElem? (i := 62) rfl)) (hw _ (List.mem_of_getElem? (i := 3) rfl)) (by decide) (by decide)) q392a q392c (g := (mkF m 326 #[.val (.int xa), .val (.ref b2), .val (.ref b213), .val (.int (6 : Int32)), .val (.ref w_NON_POSITIVE_INTEGER)] [(.ref w_NON_POSITIVE_INTEGER)])) rfl (by rw [hml]; rfl) (Steps.refl _) (argsL := []) (rest := []) (lenOf pd0 rfl) rfl (by show 2 * 0 + _ ≤ _; exact Nat.le_of_eq rfl) (hb hby at_326) (fun _ _ => ⟨rfl, e317, (by decide : 2 + 0 ≤ _), (by decide : 52 + 0 ≤ _)⟩)
    dsimp only [Pt.U, Pt.locs, Pt.cells, Pt.slots] at X392 l392 y392 z392 st392 hQ392
    subst y392 z392
    obtain ⟨rfl, M392, e392⟩ := hQ392
    have N392 : Fr n0 L392 := by rw [l392]; exact Fr.app N317 M392
    clear l392
    have X392 : Stand p l e _ s m _ below meth c T392 _ 2 52 := X392
    have pre394 : ∀ t, Steps p.tables e below (T392.setTop (mkF m 329 #[.val (.int xa), .val (.ref b2), .val (.ref b213), .val (.int (6 : Int32)), .val (.ref w_NON_POSITIVE_INTEGER)] [(.int (1 : Int32))])) t → Steps p.tables e below (s₁.setTop (entryFrame m #[(.int xa)] maxLocals)) t := fun t k => pre388 t (st392.trans k)
    have pre396 : ∀ t, Steps p.tables e below (T392.setTop (mkF m 340 #[.val (.int xa), .val (.ref b2), .val (.ref b213), .val (.int (6 : Int32)), .val (.ref w_NON_POSITIVE_INTEGER)] [(.int (1 : Int32))])) t → Steps p.tables e below (s₁.setTop (entryFrame m #[(.int xa)] maxLocals)) t := by
      intro t k
      refine pre394 t ?_
      refine XS.aloadN X392.here hx rfl (hb hby at_329) rfl rfl ?_
      show Steps p.tables e below (T392.setTop (mkF m 330 #[.val (.int xa), .val (.ref b2), .val (.ref b213), .val (.int (6 : Int32)), .val (.ref w_NON_POSITIVE_INTEGER)] [(.ref b213), (.int (1 : Int32))])) _
      refine XS.iloadN X392.here hx rfl (hb hby at_330) rfl ?_
      show Steps p.tables e below (T392.setTop (mkF m 331 #[.val (.int xa), .val (.ref b2), .val (.ref b213), .val (.int (6 : Int32)), .val (.ref w_NON_POSITIVE_INTEGER)] [(.int (6 : Int32)), (.ref b213), (.int (1 : Int32))])) _
      obtain ⟨c395, a395, q395, s395, m395, i395, u395⟩ := id V317
      have hin395 := inb_of (j := (6 : Int32)) s395 ⟨by decide, by decide⟩
      refine X392.baloadBooleans hx (j := (6 : Int32)) (v := (.int (nar .boolean (1 : Int32)))) (by rw [e392]; exact a395.1) (State.isArrayOf_alike hZ.alike a395.2.1) a395.2.2 hin395 (i395.at hin395 rfl) (g := (mkF m 331 #[.val (.int xa), .val (.ref b2), .val (.ref b213), .val (.int (6 : Int32)), .val (.ref w_NON_POSITIVE_INTEGER)] [(.int (6 : Int32)), (.ref b213), (.int (1 : Int32))])) rfl rfl (hb hby at_331) _ ?_
      show Steps p.tables e below (T392.setTop (mkF m 332 #[.val (.int xa), .val (.ref b2), .val (.ref b213), .val (.int (6 : Int32)), .val (.ref w_NON_POSITIVE_INTEGER)] [(.int (nar .boolean (1 : Int32))), (.int (1 : Int32))])) _
      refine XS.icmpNo X392.here hx rfl (hb hby at_332) rfl (teq (show (1 : Int32) = (nar .boolean (1 : Int32)) from rfl)).2 ?_
      show Steps p.tables e below (T392.setTop (mkF m 335 #[.val (.int xa), .val (.ref b2), .val (.ref b213), .val (.int (6 : Int32)), .val (.ref w_NON_POSITIVE_INTEGER)] [])) _
      refine XS.iconst X392.here hx rfl (hb hby at_335) ?_
      show Steps p.tables e below (T392.setTop (mkF m 336 #[.val (.int xa), .val (.ref b2), .val (.ref b213), .val (.int (6 : Int32)), .val (.ref w_NON_POSITIVE_INTEGER)] [(.int (1 : Int32))])) _
      refine XS.goto X392.here hx rfl (pc0 := 336) (pc' := 340) rfl (hb hby at_336) (by decide) (by decide) ?_
      show Steps p.tables e below (T392.setTop (mkF m 340 #[.val (.int xa), .val (.ref b2), .val (.ref b213), .val (.int (6 : Int32)), .val (.ref w_NON_POSITIVE_INTEGER)] [(.int (1 : Int32))])) _
      exact k
    obtain ⟨fs, hr, hrun, hended, hW, hsame⟩ := X392.leave (v := some (.int (1 : Int32))) (fun h => by rw [Bd.returns] at h; cases h)
    refine ⟨_, _, pre396 _ ?_, hrun, hended, _, _, rfl, ?_, ⟨_, rfl⟩, hW, hsame.mono (by decide) (by decide)⟩
    · exact retN X392 hx (t := .boolean) Bd.returns (by simp) (hb hby at_340) hr
    · show Q_rm0 Z xa w_ANY_ATOMIC_TYPE w_UNTYPED_ATOMIC w_STRING w_BOOLEAN w_DECIMAL w_INTEGER w_NON_POSITIVE_INTEGER w_NEGATIVE_INTEGER w_LONG w_INT w_SHORT w_BYTE w_NON_NEGATIVE_INTEGER w_UNSIGNED_LONG w_UNSIGNED_INT w_UNSIGNED_SHORT w_UNSIGNED_BYTE w_POSITIVE_INTEGER w_FLOAT w_DOUBLE w_ANY_URI w_DATE w_TIME w_HEX_BINARY w_QNAME w_NOTATION h0 n0 _ T392.heap _
      rw [e392]
      exact ⟨rfl, N392⟩
  · subst hk
    have pre398 : ∀ t, Steps p.tables e below (T317.setTop (mkF m 326 #[.val (.int xa), .val (.ref b2), .val (.ref b213), .val (.int (7 : Int32)), .val (.ref w_NEGATIVE_INTEGER)] [(.ref w_NEGATIVE_INTEGER)])) t → Steps p.tables e below (s₁.setTop (entryFrame m #[(.int xa)] maxLocals)) t := by
      intro t k
      refine pre319 t ?_
      refine XS.aloadN X317.here hx rfl (hb hby at_319) rfl rfl ?_
      show Steps p.tables e below (T317.setTop (mkF m 320 #[.val (.int xa), .val (.ref b2), .val (.ref b213), .val (.int (7 : Int32)), .unset] [(.ref b2)])) _
      refine XS.iloadN X317.here hx rfl (hb hby at_320) rfl ?_
      show Steps p.tables e below (T317.setTop (mkF m 321 #[.val (.int xa), .val (.ref b2), .val (.ref b213), .val (.int (7 : Int32)), .unset] [(.int (7 : Int32)), (.ref b2)])) _
      obtain ⟨c397, a397, q397, s397, m397, i397, u397⟩ := id (((((((((((((((((((((((((((V210.ext E213).other W217 (Nat.ne_of_lt (Nat.lt_of_lt_of_le V210.lt (Nat.le_of_eq g213.symm)))).other W221 (Nat.ne_of_lt (Nat.lt_of_lt_of_le V210.lt (Nat.le_of_eq g213.symm)))).other W225 (Nat.ne_of_lt (Nat.lt_of_lt_of_le V210.lt (Nat.le_of_eq g213.symm)))).other W229 (Nat.ne_of_lt (Nat.lt_of_lt_of_le V210.lt (Nat.le_of_eq g213.symm)))).other W233 (Nat.ne_of_lt (Nat.lt_of_lt_of_le V210.lt (Nat.le_of_eq g213.symm)))).other W237 (Nat.ne_of_lt (Nat.lt_of_lt_of_le V210.lt (Nat.le_of_eq g213.symm)))).other W241 (Nat.ne_of_lt (Nat.lt_of_lt_of_le V210.lt (Nat.le_of_eq g213.symm)))).other W245 (Nat.ne_of_lt (Nat.lt_of_lt_of_le V210.lt (Nat.le_of_eq g213.symm)))).other W249 (Nat.ne_of_lt (Nat.lt_of_lt_of_le V210.lt (Nat.le_of_eq g213.symm)))).other W253 (Nat.ne_of_lt (Nat.lt_of_lt_of_le V210.lt (Nat.le_of_eq g213.symm)))).other W257 (Nat.ne_of_lt (Nat.lt_of_lt_of_le V210.lt (Nat.le_of_eq g213.symm)))).other W261 (Nat.ne_of_lt (Nat.lt_of_lt_of_le V210.lt (Nat.le_of_eq g213.symm)))).other W265 (Nat.ne_of_lt (Nat.lt_of_lt_of_le V210.lt (Nat.le_of_eq g213.symm)))).other W269 (Nat.ne_of_lt (Nat.lt_of_lt_of_le V210.lt (Nat.le_of_eq g213.symm)))).other W273 (Nat.ne_of_lt (Nat.lt_of_lt_of_le V210.lt (Nat.le_of_eq g213.symm)))).other W277 (Nat.ne_of_lt (Nat.lt_of_lt_of_le V210.lt (Nat.le_of_eq g213.symm)))).other W281 (Nat.ne_of_lt (Nat.lt_of_lt_of_le V210.lt (Nat.le_of_eq g213.symm)))).other W285 (Nat.ne_of_lt (Nat.lt_of_lt_of_le V210.lt (Nat.le_of_eq g213.symm)))).other W289 (Nat.ne_of_lt (Nat.lt_of_lt_of_le V210.lt (Nat.le_of_eq g213.symm)))).other W293 (Nat.ne_of_lt (Nat.lt_of_lt_of_le V210.lt (Nat.le_of_eq g213.symm)))).other W297 (Nat.ne_of_lt (Nat.lt_of_lt_of_le V210.lt (Nat.le_of_eq g213.symm)))).other W301 (Nat.ne_of_lt (Nat.lt_of_lt_of_le V210.lt (Nat.le_of_eq g213.symm)))).other W305 (Nat.ne_of_lt (Nat.lt_of_lt_of_le V210.lt (Nat.le_of_eq g213.symm)))).other W309 (Nat.ne_of_lt (Nat.lt_of_lt_of_le V210.lt (Nat.le_of_eq g213.symm)))).other W313 (Nat.ne_of_lt (Nat.lt_of_lt_of_le V210.lt (Nat.le_of_eq g213.symm)))).other W317 (Nat.ne_of_lt (Nat.lt_of_lt_of_le V210.lt (Nat.le_of_eq g213.symm))))
      have hin397 := inb_of (j := (7 : Int32)) s397 ⟨by decide, by decide⟩
      refine X317.aaload hx (j := (7 : Int32)) (v := (.ref w_NEGATIVE_INTEGER)) (by rw [e317]; exact a397.1) (State.isArrayOf_alike hZ.alike a397.2.1) rfl a397.2.2 hin397 (i397.at hin397 rfl) (g := (mkF m 321 #[.val (.int xa), .val (.ref b2), .val (.ref b213), .val (.int (7 : Int32)), .unset] [(.int (7 : Int32)), (.ref b2)])) rfl rfl (hb hby at_321) _ ?_
      show Steps p.tables e below (T317.setTop (mkF m 322 #[.val (.int xa), .val (.ref b2), .val (.ref b213), .val (.int (7 : Int32)), .unset] [(.ref w_NEGATIVE_INTEGER)])) _
      refine XS.astore X317.here hx rfl (hb hby at_322) rfl rfl (l' := #[.val (.int xa), .val (.ref b2), .val (.ref b213), .val (.int (7 : Int32)), .val (.ref w_NEGATIVE_INTEGER)]) rfl ?_
      show Steps p.tables e below (T317.setTop (mkF m 324 #[.val (.int xa), .val (.ref b2), .val (.ref b213), .val (.int (7 : Int32)), .val (.ref w_NEGATIVE_INTEGER)] [])) _
      refine XS.aload X317.here hx rfl (hb hby at_324) rfl rfl ?_
      show Steps p.tables e below (T317.setTop (mkF m 326 #[.val (.int xa), .val (.ref b2), .val (.ref b213), .val (.int (7 : Int32)), .val (.ref w_NEGATIVE_INTEGER)] [(.ref w_NEGATIVE_INTEGER)])) _
      exact k
    have f399 := (P_NEGATIVE_INTEGER.ext (own_keep_ext K317))
    have f400 := (((((((((((((((((((((((((((((((((((((((((((((((((f36.wr W42).wr W50).wr W58).wr W66).wr W74).wr W82).wr W90).wr W98).wr W106).wr W114).wr W122).wr W130).wr W138).wr W146).wr W154).wr W162).wr W170).wr W178).wr W186).wr W194).wr W202).wr W210).ext E213).wr W217).wr W221).wr W225).wr W229).wr W233).wr W237).wr W241).wr W245).wr W249).wr W253).wr W257).wr W261).wr W265).wr W269).wr W273).wr W277).wr W281).wr W285).wr W289).wr W293).wr W297).wr W301).wr W305).wr W309).wr W313).wr W317)
    have f401 := ((((((((((((((((((((((((((((((((((((((((((((((((f44.wr W50).wr W58).wr W66).wr W74).wr W82).wr W90).wr W98).wr W106).wr W114).wr W122).wr W130).wr W138).wr W146).wr W154).wr W162).wr W170).wr W178).wr W186).wr W194).wr W202).wr W210).ext E213).wr W217).wr W221).wr W225).wr W229).wr W233).wr W237).wr W241).wr W245).wr W249).wr W253).wr W257).wr W261).wr W265).wr W269).wr W273).wr W277).wr W281).wr W285).wr W289).wr W293).wr W297).wr W301).wr W305).wr W309).wr W313).wr W317)
    have f403 := ((((((((((((((((((((((((((((((((((((((((((((((f65.wr W66).wr W74).wr W82).wr W90).wr W98).wr W106).wr W114).wr W122).wr W130).wr W138).wr W146).wr W154).wr W162).wr W170).wr W178).wr W186).wr W194).wr W202).wr W210).ext E213).wr W217).wr W221).wr W225).wr W229).wr W233).wr W237).wr W241).wr W245).wr W249).wr W253).wr W257).wr W261).wr W265).wr W269).wr W273).wr W277).wr W281).wr W285).wr W289).wr W293).wr W297).wr W301).wr W305).wr W309).wr W313).wr W317)
    obtain ⟨cq402, kq402, q402a, q402b, q402c⟩ := isOf hZ e317 f403
    obtain ⟨_, _, ⟨T402, L402, k402, n402⟩, -, X402, ⟨Lc402, hQ402, l402, y402, z402⟩, st402⟩ := X317.virtualBack hx (y := (⟨"com/example/xidr/xidr/xpath/values/AtomicType", "isNumeric", "()Z"⟩ : MethodName)) (z := (⟨"com/example/xidr/xidr/xpath/values/AtomicType", "isNumeric", "()Z"⟩ : MethodName)) hown (mvT hZ (hw _ (List.mem_of_getElem? (i := 58) rfl))) (mvT hZ (hw _ (List.mem_of_getElem? (i := 59) rfl))) (notFace_of_selects (args := #[]) (mvT hZ (hw _ (List.mem_of_getElem? (i := 61) rfl)))) (mvT hZ (hw _ (List.mem_of_getElem? (i := 61) rfl))) (mvT hZ (hw _ (List.mem_of_getElem? (i := 60) rfl))) (by decide) (backOf (W := 0) (rm_num1 l Z a0 hw [] w_NEGATIVE_INTEGER w_INTEGER w_DECIMAL h317 n0 z317 f399 f400 f401 (hne_INTEGER_DECIMAL)) hZ (hw _ (List.mem_of_getElem? (i := 62) rfl)) (hw _ (List.mem_of_getElem? (i := 3) rfl)) (by decide) (by decide)) q402a q402c (g := (mkF m 326 #[.val (.int xa), .val (.ref b2), .val (.ref b213), .val (.int (7 : Int32)), .val (.ref w_NEGATIVE_INTEGER)] [(.ref w_NEGATIVE_INTEGER)])) rfl (by rw [hml]; rfl) (Steps.refl _) (argsL := []) (rest := []) (lenOf pd0 rfl) rfl (by show 2 * 0 + _ ≤ _; exact Nat.le_of_eq rfl) (hb hby at_326) (fun _ _ => ⟨rfl, e317, (by decide : 2 + 0 ≤ _), (by decide : 52 + 0 ≤ _)⟩)
    dsimp only [Pt.U, Pt.locs, Pt.cells, Pt.slots] at X402 l402 y402 z402 st402 hQ402
    subst y402 z402
    obtain ⟨rfl, M402, e402⟩ := hQ402
    have N402 : Fr n0 L402 := by rw [l402]; exact Fr.app N317 M402
    clear l402
    have X402 : Stand p l e _ s m _ below meth c T402 _ 2 52 := X402
    have pre404 : ∀ t, Steps p.tables e below (T402.setTop (mkF m 329 #[.val (.int xa), .val (.ref b2), .val (.ref b213), .val (.int (7 : Int32)), .val (.ref w_NEGATIVE_INTEGER)] [(.int (1 : Int32))])) t → Steps p.tables e below (s₁.setTop (entryFrame m #[(.int xa)] maxLocals)) t := fun t k => pre398 t (st402.trans k)
    have pre406 : ∀ t, Steps p.tables e below (T402.setTop (mkF m 340 #[.val (.int xa), .val (.ref b2), .val (.ref b213), .val (.int (7 : Int32)), .val (.ref w_NEGATIVE_INTEGER)] [(.int (1 : Int32))])) t → Steps p.tables e below (s₁.setTop (entryFrame m #[(.int xa)] maxLocals)) t := by
      intro t k
      refine pre404 t ?_
      refine XS.aloadN X402.here hx rfl (hb hby at_329) rfl rfl ?_
      show Steps p.tables e below (T402.setTop (mkF m 330 #[.val (.int xa), .val (.ref b2), .val (.ref b213), .val (.int (7 : Int32)), .val (.ref w_NEGATIVE_INTEGER)] [(.ref b213), (.int (1 : Int32))])) _
      refine XS.iloadN X402.here hx rfl (hb hby at_330) rfl ?_
      show Steps p.tables e below (T402.setTop (mkF m 331 #[.val (.int xa), .val (.ref b2), .val (.ref b213), .val (.int (7 : Int32)), .val (.ref w_NEGATIVE_INTEGER)] [(.int (7 : Int32)), (.ref b213), (.int (1 : Int32))])) _
      obtain ⟨c405, a405, q405, s405, m405, i405, u405⟩ := id V317
      have hin405 := inb_of (j := (7 : Int32)) s405 ⟨by decide, by decide⟩
      refine X402.baloadBooleans hx (j := (7 : Int32)) (v := (.int (nar .boolean (1 : Int32)))) (by rw [e402]; exact a405.1) (State.isArrayOf_alike hZ.alike a405.2.1) a405.2.2 hin405 (i405.at hin405 rfl) (g := (mkF m 331 #[.val (.int xa), .val (.ref b2), .val (.ref b213), .val (.int (7 : Int32)), .val (.ref w_NEGATIVE_INTEGER)] [(.int (7 : Int32)), (.ref b213), (.int (1 : Int32))])) rfl rfl (hb hby at_331) _ ?_
      show Steps p.tables e below (T402.setTop (mkF m 332 #[.val (.int xa), .val (.ref b2), .val (.ref b213), .val (.int (7 : Int32)), .val (.ref w_NEGATIVE_INTEGER)] [(.int (nar .boolean (1 : Int32))), (.int (1 : Int32))])) _
      refine XS.icmpNo X402.here hx rfl (hb hby at_332) rfl (teq (show (1 : Int32) = (nar .boolean (1 : Int32)) from rfl)).2 ?_
      show Steps p.tables e below (T402.setTop (mkF m 335 #[.val (.int xa), .val (.ref b2), .val (.ref b213), .val (.int (7 : Int32)), .val (.ref w_NEGATIVE_INTEGER)] [])) _
      refine XS.iconst X402.here hx rfl (hb hby at_335) ?_
      show Steps p.tables e below (T402.setTop (mkF m 336 #[.val (.int xa), .val (.ref b2), .val (.ref b213), .val (.int (7 : Int32)), .val (.ref w_NEGATIVE_INTEGER)] [(.int (1 : Int32))])) _
      refine XS.goto X402.here hx rfl (pc0 := 336) (pc' := 340) rfl (hb hby at_336) (by decide) (by decide) ?_
      show Steps p.tables e below (T402.setTop (mkF m 340 #[.val (.int xa), .val (.ref b2), .val (.ref b213), .val (.int (7 : Int32)), .val (.ref w_NEGATIVE_INTEGER)] [(.int (1 : Int32))])) _
      exact k
    obtain ⟨fs, hr, hrun, hended, hW, hsame⟩ := X402.leave (v := some (.int (1 : Int32))) (fun h => by rw [Bd.returns] at h; cases h)
    refine ⟨_, _, pre406 _ ?_, hrun, hended, _, _, rfl, ?_, ⟨_, rfl⟩, hW, hsame.mono (by decide) (by decide)⟩
    · exact retN X402 hx (t := .boolean) Bd.returns (by simp) (hb hby at_340) hr
    · show Q_rm0 Z xa w_ANY_ATOMIC_TYPE w_UNTYPED_ATOMIC w_STRING w_BOOLEAN w_DECIMAL w_INTEGER w_NON_POSITIVE_INTEGER w_NEGATIVE_INTEGER w_LONG w_INT w_SHORT w_BYTE w_NON_NEGATIVE_INTEGER w_UNSIGNED_LONG w_UNSIGNED_INT w_UNSIGNED_SHORT w_UNSIGNED_BYTE w_POSITIVE_INTEGER w_FLOAT w_DOUBLE w_ANY_URI w_DATE w_TIME w_HEX_BINARY w_QNAME w_NOTATION h0 n0 _ T402.heap _
      rw [e402]
      exact ⟨rfl, N402⟩
  · subst hk
    have pre408 : ∀ t, Steps p.tables e below (T317.setTop (mkF m 326 #[.val (.int xa), .val (.ref b2), .val (.ref b213), .val (.int (8 : Int32)), .val (.ref w_LONG)] [(.ref w_LONG)])) t → Steps p.tables e below (s₁.setTop (entryFrame m #[(.int xa)] maxLocals)) t := by
      intro t k
      refine pre319 t ?_
      refine XS.aloadN X317.here hx rfl (hb hby at_319) rfl rfl ?_
      show Steps p.tables e below (T317.setTop (mkF m 320 #[.val (.int xa), .val (.ref b2), .val (.ref b213), .val (.int (8 : Int32)), .unset] [(.ref b2)])) _
      refine XS.iloadN X317.here hx rfl (hb hby at_320) rfl ?_
      show Steps p.tables e below (T317.setTop (mkF m 321 #[.val (.int xa), .val (.ref b2), .val (.ref b213), .val (.int (8 : Int32)), .unset] [(.int (8 : Int32)), (.ref b2)])) _
      obtain ⟨c407, a407, q407, s407, m407, i407, u407⟩ := id (((((((((((((((((((((((((((V210.ext E213).other W217 (Nat.ne_of_lt (Nat.lt_of_lt_of_le V210.lt (Nat.le_of_eq g213.symm)))).other W221 (Nat.ne_of_lt (Nat.lt_of_lt_of_le V210.lt (Nat.le_of_eq g213.symm)))).other W225 (Nat.ne_of_lt (Nat.lt_of_lt_of_le V210.lt (Nat.le_of_eq g213.symm)))).other W229 (Nat.ne_of_lt (Nat.lt_of_lt_of_le V210.lt (Nat.le_of_eq g213.symm)))).other W233 (Nat.ne_of_lt (Nat.lt_of_lt_of_le V210.lt (Nat.le_of_eq g213.symm)))).other W237 (Nat.ne_of_lt (Nat.lt_of_lt_of_le V210.lt (Nat.le_of_eq g213.symm)))).other W241 (Nat.ne_of_lt (Nat.lt_of_lt_of_le V210.lt (Nat.le_of_eq g213.symm)))).other W245 (Nat.ne_of_lt (Nat.lt_of_lt_of_le V210.lt (Nat.le_of_eq g213.symm)))).other W249 (Nat.ne_of_lt (Nat.lt_of_lt_of_le V210.lt (Nat.le_of_eq g213.symm)))).other W253 (Nat.ne_of_lt (Nat.lt_of_lt_of_le V210.lt (Nat.le_of_eq g213.symm)))).other W257 (Nat.ne_of_lt (Nat.lt_of_lt_of_le V210.lt (Nat.le_of_eq g213.symm)))).other W261 (Nat.ne_of_lt (Nat.lt_of_lt_of_le V210.lt (Nat.le_of_eq g213.symm)))).other W265 (Nat.ne_of_lt (Nat.lt_of_lt_of_le V210.lt (Nat.le_of_eq g213.symm)))).other W269 (Nat.ne_of_lt (Nat.lt_of_lt_of_le V210.lt (Nat.le_of_eq g213.symm)))).other W273 (Nat.ne_of_lt (Nat.lt_of_lt_of_le V210.lt (Nat.le_of_eq g213.symm)))).other W277 (Nat.ne_of_lt (Nat.lt_of_lt_of_le V210.lt (Nat.le_of_eq g213.symm)))).other W281 (Nat.ne_of_lt (Nat.lt_of_lt_of_le V210.lt (Nat.le_of_eq g213.symm)))).other W285 (Nat.ne_of_lt (Nat.lt_of_lt_of_le V210.lt (Nat.le_of_eq g213.symm)))).other W289 (Nat.ne_of_lt (Nat.lt_of_lt_of_le V210.lt (Nat.le_of_eq g213.symm)))).other W293 (Nat.ne_of_lt (Nat.lt_of_lt_of_le V210.lt (Nat.le_of_eq g213.symm)))).other W297 (Nat.ne_of_lt (Nat.lt_of_lt_of_le V210.lt (Nat.le_of_eq g213.symm)))).other W301 (Nat.ne_of_lt (Nat.lt_of_lt_of_le V210.lt (Nat.le_of_eq g213.symm)))).other W305 (Nat.ne_of_lt (Nat.lt_of_lt_of_le V210.lt (Nat.le_of_eq g213.symm)))).other W309 (Nat.ne_of_lt (Nat.lt_of_lt_of_le V210.lt (Nat.le_of_eq g213.symm)))).other W313 (Nat.ne_of_lt (Nat.lt_of_lt_of_le V210.lt (Nat.le_of_eq g213.symm)))).other W317 (Nat.ne_of_lt (Nat.lt_of_lt_of_le V210.lt (Nat.le_of_eq g213.symm))))
      have hin407 := inb_of (j := (8 : Int32)) s407 ⟨by decide, by decide⟩
      refine X317.aaload hx (j := (8 : Int32)) (v := (.ref w_LONG)) (by rw [e317]; exact a407.1) (State.isArrayOf_alike hZ.alike a407.2.1) rfl a407.2.2 hin407 (i407.at hin407 rfl) (g := (mkF m 321 #[.val (.int xa), .val (.ref b2), .val (.ref b213), .val (.int (8 : Int32)), .unset] [(.int (8 : Int32)), (.ref b2)])) rfl rfl (hb hby at_321) _ ?_
      show Steps p.tables e below (T317.setTop (mkF m 322 #[.val (.int xa), .val (.ref b2), .val (.ref b213), .val (.int (8 : Int32)), .unset] [(.ref w_LONG)])) _
      refine XS.astore X317.here hx rfl (hb hby at_322) rfl rfl (l' := #[.val (.int xa), .val (.ref b2), .val (.ref b213), .val (.int (8 : Int32)), .val (.ref w_LONG)]) rfl ?_
      show Steps p.tables e below (T317.setTop (mkF m 324 #[.val (.int xa), .val (.ref b2), .val (.ref b213), .val (.int (8 : Int32)), .val (.ref w_LONG)] [])) _
      refine XS.aload X317.here hx rfl (hb hby at_324) rfl rfl ?_
      show Steps p.tables e below (T317.setTop (mkF m 326 #[.val (.int xa), .val (.ref b2), .val (.ref b213), .val (.int (8 : Int32)), .val (.ref w_LONG)] [(.ref w_LONG)])) _
      exact k
    have f409 := (P_LONG.ext (own_keep_ext K317))
    have f410 := (((((((((((((((((((((((((((((((((((((((((((((((((f36.wr W42).wr W50).wr W58).wr W66).wr W74).wr W82).wr W90).wr W98).wr W106).wr W114).wr W122).wr W130).wr W138).wr W146).wr W154).wr W162).wr W170).wr W178).wr W186).wr W194).wr W202).wr W210).ext E213).wr W217).wr W221).wr W225).wr W229).wr W233).wr W237).wr W241).wr W245).wr W249).wr W253).wr W257).wr W261).wr W265).wr W269).wr W273).wr W277).wr W281).wr W285).wr W289).wr W293).wr W297).wr W301).wr W305).wr W309).wr W313).wr W317)
    have f411 := ((((((((((((((((((((((((((((((((((((((((((((((((f44.wr W50).wr W58).wr W66).wr W74).wr W82).wr W90).wr W98).wr W106).wr W114).wr W122).wr W130).wr W138).wr W146).wr W154).wr W162).wr W170).wr W178).wr W186).wr W194).wr W202).wr W210).ext E213).wr W217).wr W221).wr W225).wr W229).wr W233).wr W237).wr W241).wr W245).wr W249).wr W253).wr W257).wr W261).wr W265).wr W269).wr W273).wr W277).wr W281).wr W285).wr W289).wr W293).wr W297).wr W301).wr W305).wr W309).wr W313).wr W317)
    have f413 := (((((((((((((((((((((((((((((((((((((((((((((f73.wr W74).wr W82).wr W90).wr W98).wr W106).wr W114).wr W122).wr W130).wr W138).wr W146).wr W154).wr W162).wr W170).wr W178).wr W186).wr W194).wr W202).wr W210).ext E213).wr W217).wr W221).wr W225).wr W229).wr W233).wr W237).wr W241).wr W245).wr W249).wr W253).wr W257).wr W261).wr W265).wr W269).wr W273).wr W277).wr W281).wr W285).wr W289).wr W293).wr W297).wr W301).wr W305).wr W309).wr W313).wr W317)
    obtain ⟨cq412, kq412, q412a, q412b, q412c⟩ := isOf hZ e317 f413
    obtain ⟨_, _, ⟨T412, L412, k412, n412⟩, -, X412, ⟨Lc412, hQ412, l412, y412, z412⟩, st412⟩ := X317.virtualBack hx (y := (⟨"com/example/xidr/xidr/xpath/values/AtomicType", "isNumeric", "()Z"⟩ : MethodName)) (z := (⟨"com/example/xidr/xidr/xpath/values/AtomicType", "isNumeric", "()Z"⟩ : MethodName)) hown (mvT hZ (hw _ (List.mem_of_getElem? (i := 58) rfl))) (mvT hZ (hw _ (List.mem_of_getElem? (i := 59) rfl))) (notFace_of_selects (args := #[]) (mvT hZ (hw _ (List.mem_of_getElem? (i := 61) rfl)))) (mvT hZ (hw _ (List.mem_of_getElem? (i := 61) rfl))) (mvT hZ (hw _ (List.mem_of_getElem? (i := 60) rfl))) (by decide) (backOf (W := 0) (rm_num1 l Z a0 hw [] w_LONG w_INTEGER w_DECIMAL h317 n0 z317 f409 f410 f411 (hne_INTEGER_DECIMAL)) hZ (hw _ (List.mem_of_getElem? (i := 62) rfl)) (hw _ (List.mem_of_getElem? (i := 3) rfl)) (by decide) (by decide)) q412a q412c (g := (mkF m 326 #[.val (.int xa), .val (.ref b2), .val (.ref b213), .val (.int (8 : Int32)), .val (.ref w_LONG)] [(.ref w_LONG)])) rfl (by rw [hml]; rfl) (Steps.refl _) (argsL := []) (rest := []) (lenOf pd0 rfl) rfl (by show 2 * 0 + _ ≤ _; exact Nat.le_of_eq rfl) (hb hby at_326) (fun _ _ => ⟨rfl, e317, (by decide : 2 + 0 ≤ _), (by decide : 52 + 0 ≤ _)⟩)
    dsimp only [Pt.U, Pt.locs, Pt.cells, Pt.slots] at X412 l412 y412 z412 st412 hQ412
    subst y412 z412
    obtain ⟨rfl, M412, e412⟩ := hQ412
    have N412 : Fr n0 L412 := by rw [l412]; exact Fr.app N317 M412
    clear l412
    have X412 : Stand p l e _ s m _ below meth c T412 _ 2 52 := X412
    have pre414 : ∀ t, Steps p.tables e below (T412.setTop (mkF m 329 #[.val (.int xa), .val (.ref b2), .val (.ref b213), .val (.int (8 : Int32)), .val (.ref w_LONG)] [(.int (1 : Int32))])) t → Steps p.tables e below (s₁.setTop (entryFrame m #[(.int xa)] maxLocals)) t := fun t k => pre408 t (st412.trans k)
    have pre416 : ∀ t, Steps p.tables e below (T412.setTop (mkF m 340 #[.val (.int xa), .val (.ref b2), .val (.ref b213), .val (.int (8 : Int32)), .val (.ref w_LONG)] [(.int (1 : Int32))])) t → Steps p.tables e below (s₁.setTop (entryFrame m #[(.int xa)] maxLocals)) t := by
      intro t k
      refine pre414 t ?_
      refine XS.aloadN X412.here hx rfl (hb hby at_329) rfl rfl ?_
      show Steps p.tables e below (T412.setTop (mkF m 330 #[.val (.int xa), .val (.ref b2), .val (.ref b213), .val (.int (8 : Int32)), .val (.ref w_LONG)] [(.ref b213), (.int (1 : Int32))])) _
      refine XS.iloadN X412.here hx rfl (hb hby at_330) rfl ?_
      show Steps p.tables e below (T412.setTop (mkF m 331 #[.val (.int xa), .val (.ref b2), .val (.ref b213), .val (.int (8 : Int32)), .val (.ref w_LONG)] [(.int (8 : Int32)), (.ref b213), (.int (1 : Int32))])) _
      obtain ⟨c415, a415, q415, s415, m415, i415, u415⟩ := id V317
      have hin415 := inb_of (j := (8 : Int32)) s415 ⟨by decide, by decide⟩
      refine X412.baloadBooleans hx (j := (8 : Int32)) (v := (.int (nar .boolean (1 : Int32)))) (by rw [e412]; exact a415.1) (State.isArrayOf_alike hZ.alike a415.2.1) a415.2.2 hin415 (i415.at hin415 rfl) (g := (mkF m 331 #[.val (.int xa), .val (.ref b2), .val (.ref b213), .val (.int (8 : Int32)), .val (.ref w_LONG)] [(.int (8 : Int32)), (.ref b213), (.int (1 : Int32))])) rfl rfl (hb hby at_331) _ ?_
      show Steps p.tables e below (T412.setTop (mkF m 332 #[.val (.int xa), .val (.ref b2), .val (.ref b213), .val (.int (8 : Int32)), .val (.ref w_LONG)] [(.int (nar .boolean (1 : Int32))), (.int (1 : Int32))])) _
      refine XS.icmpNo X412.here hx rfl (hb hby at_332) rfl (teq (show (1 : Int32) = (nar .boolean (1 : Int32)) from rfl)).2 ?_
      show Steps p.tables e below (T412.setTop (mkF m 335 #[.val (.int xa), .val (.ref b2), .val (.ref b213), .val (.int (8 : Int32)), .val (.ref w_LONG)] [])) _
      refine XS.iconst X412.here hx rfl (hb hby at_335) ?_
      show Steps p.tables e below (T412.setTop (mkF m 336 #[.val (.int xa), .val (.ref b2), .val (.ref b213), .val (.int (8 : Int32)), .val (.ref w_LONG)] [(.int (1 : Int32))])) _
      refine XS.goto X412.here hx rfl (pc0 := 336) (pc' := 340) rfl (hb hby at_336) (by decide) (by decide) ?_
      show Steps p.tables e below (T412.setTop (mkF m 340 #[.val (.int xa), .val (.ref b2), .val (.ref b213), .val (.int (8 : Int32)), .val (.ref w_LONG)] [(.int (1 : Int32))])) _
      exact k
    obtain ⟨fs, hr, hrun, hended, hW, hsame⟩ := X412.leave (v := some (.int (1 : Int32))) (fun h => by rw [Bd.returns] at h; cases h)
    refine ⟨_, _, pre416 _ ?_, hrun, hended, _, _, rfl, ?_, ⟨_, rfl⟩, hW, hsame.mono (by decide) (by decide)⟩
    · exact retN X412 hx (t := .boolean) Bd.returns (by simp) (hb hby at_340) hr
    · show Q_rm0 Z xa w_ANY_ATOMIC_TYPE w_UNTYPED_ATOMIC w_STRING w_BOOLEAN w_DECIMAL w_INTEGER w_NON_POSITIVE_INTEGER w_NEGATIVE_INTEGER w_LONG w_INT w_SHORT w_BYTE w_NON_NEGATIVE_INTEGER w_UNSIGNED_LONG w_UNSIGNED_INT w_UNSIGNED_SHORT w_UNSIGNED_BYTE w_POSITIVE_INTEGER w_FLOAT w_DOUBLE w_ANY_URI w_DATE w_TIME w_HEX_BINARY w_QNAME w_NOTATION h0 n0 _ T412.heap _
      rw [e412]
      exact ⟨rfl, N412⟩
  · subst hk
    have pre418 : ∀ t, Steps p.tables e below (T317.setTop (mkF m 326 #[.val (.int xa), .val (.ref b2), .val (.ref b213), .val (.int (9 : Int32)), .val (.ref w_INT)] [(.ref w_INT)])) t → Steps p.tables e below (s₁.setTop (entryFrame m #[(.int xa)] maxLocals)) t := by
      intro t k
      refine pre319 t ?_
      refine XS.aloadN X317.here hx rfl (hb hby at_319) rfl rfl ?_
      show Steps p.tables e below (T317.setTop (mkF m 320 #[.val (.int xa), .val (.ref b2), .val (.ref b213), .val (.int (9 : Int32)), .unset] [(.ref b2)])) _
      refine XS.iloadN X317.here hx rfl (hb hby at_320) rfl ?_
      show Steps p.tables e below (T317.setTop (mkF m 321 #[.val (.int xa), .val (.ref b2), .val (.ref b213), .val (.int (9 : Int32)), .unset] [(.int (9 : Int32)), (.ref b2)])) _
      obtain ⟨c417, a417, q417, s417, m417, i417, u417⟩ := id (((((((((((((((((((((((((((V210.ext E213).other W217 (Nat.ne_of_lt (Nat.lt_of_lt_of_le V210.lt (Nat.le_of_eq g213.symm)))).other W221 (Nat.ne_of_lt (Nat.lt_of_lt_of_le V210.lt (Nat.le_of_eq g213.symm)))).other W225 (Nat.ne_of_lt (Nat.lt_of_lt_of_le V210.lt (Nat.le_of_eq g213.symm)))).other W229 (Nat.ne_of_lt (Nat.lt_of_lt_of_le V210.lt (Nat.le_of_eq g213.symm)))).other W233 (Nat.ne_of_lt (Nat.lt_of_lt_of_le V210.lt (Nat.le_of_eq g213.symm)))).other W237 (Nat.ne_of_lt (Nat.lt_of_lt_of_le V210.lt (Nat.le_of_eq g213.symm)))).other W241 (Nat.ne_of_lt (Nat.lt_of_lt_of_le V210.lt (Nat.le_of_eq g213.symm)))).other W245 (Nat.ne_of_lt (Nat.lt_of_lt_of_le V210.lt (Nat.le_of_eq g213.symm)))).other W249 (Nat.ne_of_lt (Nat.lt_of_lt_of_le V210.lt (Nat.le_of_eq g213.symm)))).other W253 (Nat.ne_of_lt (Nat.lt_of_lt_of_le V210.lt (Nat.le_of_eq g213.symm)))).other W257 (Nat.ne_of_lt (Nat.lt_of_lt_of_le V210.lt (Nat.le_of_eq g213.symm)))).other W261 (Nat.ne_of_lt (Nat.lt_of_lt_of_le V210.lt (Nat.le_of_eq g213.symm)))).other W265 (Nat.ne_of_lt (Nat.lt_of_lt_of_le V210.lt (Nat.le_of_eq g213.symm)))).other W269 (Nat.ne_of_lt (Nat.lt_of_lt_of_le V210.lt (Nat.le_of_eq g213.symm)))).other W273 (Nat.ne_of_lt (Nat.lt_of_lt_of_le V210.lt (Nat.le_of_eq g213.symm)))).other W277 (Nat.ne_of_lt (Nat.lt_of_lt_of_le V210.lt (Nat.le_of_eq g213.symm)))).other W281 (Nat.ne_of_lt (Nat.lt_of_lt_of_le V210.lt (Nat.le_of_eq g213.symm)))).other W285 (Nat.ne_of_lt (Nat.lt_of_lt_of_le V210.lt (Nat.le_of_eq g213.symm)))).other W289 (Nat.ne_of_lt (Nat.lt_of_lt_of_le V210.lt (Nat.le_of_eq g213.symm)))).other W293 (Nat.ne_of_lt (Nat.lt_of_lt_of_le V210.lt (Nat.le_of_eq g213.symm)))).other W297 (Nat.ne_of_lt (Nat.lt_of_lt_of_le V210.lt (Nat.le_of_eq g213.symm)))).other W301 (Nat.ne_of_lt (Nat.lt_of_lt_of_le V210.lt (Nat.le_of_eq g213.symm)))).other W305 (Nat.ne_of_lt (Nat.lt_of_lt_of_le V210.lt (Nat.le_of_eq g213.symm)))).other W309 (Nat.ne_of_lt (Nat.lt_of_lt_of_le V210.lt (Nat.le_of_eq g213.symm)))).other W313 (Nat.ne_of_lt (Nat.lt_of_lt_of_le V210.lt (Nat.le_of_eq g213.symm)))).other W317 (Nat.ne_of_lt (Nat.lt_of_lt_of_le V210.lt (Nat.le_of_eq g213.symm))))
      have hin417 := inb_of (j := (9 : Int32)) s417 ⟨by decide, by decide⟩
      refine X317.aaload hx (j := (9 : Int32)) (v := (.ref w_INT)) (by rw [e317]; exact a417.1) (State.isArrayOf_alike hZ.alike a417.2.1) rfl a417.2.2 hin417 (i417.at hin417 rfl) (g := (mkF m 321 #[.val (.int xa), .val (.ref b2), .val (.ref b213), .val (.int (9 : Int32)), .unset] [(.int (9 : Int32)), (.ref b2)])) rfl rfl (hb hby at_321) _ ?_
      show Steps p.tables e below (T317.setTop (mkF m 322 #[.val (.int xa), .val (.ref b2), .val (.ref b213), .val (.int (9 : Int32)), .unset] [(.ref w_INT)])) _
      refine XS.astore X317.here hx rfl (hb hby at_322) rfl rfl (l' := #[.val (.int xa), .val (.ref b2), .val (.ref b213), .val (.int (9 : Int32)), .val (.ref w_INT)]) rfl ?_
      show Steps p.tables e below (T317.setTop (mkF m 324 #[.val (.int xa), .val (.ref b2), .val (.ref b213), .val (.int (9 : Int32)), .val (.ref w_INT)] [])) _
      refine XS.aload X317.here hx rfl (hb hby at_324) rfl rfl ?_
      show Steps p.tables e below (T317.setTop (mkF m 326 #[.val (.int xa), .val (.ref b2), .val (.ref b213), .val (.int (9 : Int32)), .val (.ref w_INT)] [(.ref w_INT)])) _
      exact k
    have f419 := (P_INT.ext (own_keep_ext K317))
    have f420 := (((((((((((((((((((((((((((((((((((((((((((((((((f36.wr W42).wr W50).wr W58).wr W66).wr W74).wr W82).wr W90).wr W98).wr W106).wr W114).wr W122).wr W130).wr W138).wr W146).wr W154).wr W162).wr W170).wr W178).wr W186).wr W194).wr W202).wr W210).ext E213).wr W217).wr W221).wr W225).wr W229).wr W233).wr W237).wr W241).wr W245).wr W249).wr W253).wr W257).wr W261).wr W265).wr W269).wr W273).wr W277).wr W281).wr W285).wr W289).wr W293).wr W297).wr W301).wr W305).wr W309).wr W313).wr W317)
    have f421 := ((((((((((((((((((((((((((((((((((((((((((((((((f44.wr W50).wr W58).wr W66).wr W74).wr W82).wr W90).wr W98).wr W106).wr W114).wr W122).wr W130).wr W138).wr W146).wr W154).wr W162).wr W170).wr W178).wr W186).wr W194).wr W202).wr W210).ext E213).wr W217).wr W221).wr W225).wr W229).wr W233).wr W237).wr W241).wr W245).wr W249).wr W253).wr W257).wr W261).wr W265).wr W269).wr W273).wr W277).wr W281).wr W285).wr W289).wr W293).wr W297).wr W301).wr W305).wr W309).wr W313).wr W317)
    have f423 := ((((((((((((((((((((((((((((((((((((((((((((f81.wr W82).wr W90).wr W98).wr W106).wr W114).wr W122).wr W130).wr W138).wr W146).wr W154).wr W162).wr W170).wr W178).wr W186).wr W194).wr W202).wr W210).ext E213).wr W217).wr W221).wr W225).wr W229).wr W233).wr W237).wr W241).wr W245).wr W249).wr W253).wr W257).wr W261).wr W265).wr W269).wr W273).wr W277).wr W281).wr W285).wr W289).wr W293).wr W297).wr W301).wr W305).wr W309).wr W313).wr W317)
    obtain ⟨cq422, kq422, q422a, q422b, q422c⟩ := isOf hZ e317 f423
    obtain ⟨_, _, ⟨T422, L422, k422, n422⟩, -, X422, ⟨Lc422, hQ422, l422, y422, z422⟩, st422⟩ := X317.virtualBack hx (y := (⟨"com/example/xidr/xidr/xpath/values/AtomicType", "isNumeric", "()Z"⟩ : MethodName)) (z := (⟨"com/example/xidr/xidr/xpath/values/AtomicType", "isNumeric", "()Z"⟩ : MethodName)) hown (mvT hZ (hw _ (List.mem_of_getElem? (i := 58) rfl))) (mvT hZ (hw _ (List.mem_of_getElem? (i := 59) rfl))) (notFace_of_selects (args := #[]) (mvT hZ (hw _ (List.mem_of_getElem? (i := 61) rfl)))) (mvT hZ (hw _ (List.mem_of_getElem? (i := 61) rfl))) (mvT hZ (hw _ (List.mem_of_getElem? (i := 60) rfl))) (by decide) (backOf (W := 0) (rm_num1 l Z a0 hw [] w_INT w_INTEGER w_DECIMAL h317 n0 z317 f419 f420 f421 (hne_INTEGER_DECIMAL)) hZ (hw _ (List.mem_of_getElem? (i := 62) rfl)) (hw _ (List.mem_of_getElem? (i := 3) rfl)) (by decide) (by decide)) q422a q422c (g := (mkF m 326 #[.val (.int xa), .val (.ref b2), .val (.ref b213), .val (.int (9 : Int32)), .val (.ref w_INT)] [(.ref w_INT)])) rfl (by rw [hml]; rfl) (Steps.refl _) (argsL := []) (rest := []) (lenOf pd0 rfl) rfl (by show 2 * 0 + _ ≤ _; exact Nat.le_of_eq rfl) (hb hby at_326) (fun _ _ => ⟨rfl, e317, (by decide : 2 + 0 ≤ _), (by decide : 52 + 0 ≤ _)⟩)
    dsimp only [Pt.U, Pt.locs, Pt.cells, Pt.slots] at X422 l422 y422 z422 st422 hQ422
    subst y422 z422
    obtain ⟨rfl, M422, e422⟩ := hQ422
    have N422 : Fr n0 L422 := by rw [l422]; exact Fr.app N317 M422
    clear l422
    have X422 : Stand p l e _ s m _ below meth c T422 _ 2 52 := X422
    have pre424 : ∀ t, Steps p.tables e below (T422.setTop (mkF m 329 #[.val (.int xa), .val (.ref b2), .val (.ref b213), .val (.int (9 : Int32)), .val (.ref w_INT)] [(.int (1 : Int32))])) t → Steps p.tables e below (s₁.setTop (entryFrame m #[(.int xa)] maxLocals)) t := fun t k => pre418 t (st422.trans k)
    have pre426 : ∀ t, Steps p.tables e below (T422.setTop (mkF m 340 #[.val (.int xa), .val (.ref b2), .val (.ref b213), .val (.int (9 : Int32)), .val (.ref w_INT)] [(.int (1 : Int32))])) t → Steps p.tables e below (s₁.setTop (entryFrame m #[(.int xa)] maxLocals)) t := by
      intro t k
      refine pre424 t ?_
      refine XS.aloadN X422.here hx rfl (hb hby at_329) rfl rfl ?_
      show Steps p.tables e below (T422.setTop (mkF m 330 #[.val (.int xa), .val (.ref b2), .val (.ref b213), .val (.int (9 : Int32)), .val (.ref w_INT)] [(.ref b213), (.int (1 : Int32))])) _
      refine XS.iloadN X422.here hx rfl (hb hby at_330) rfl ?_
      show Steps p.tables e below (T422.setTop (mkF m 331 #[.val (.int xa), .val (.ref b2), .val (.ref b213), .val (.int (9 : Int32)), .val (.ref w_INT)] [(.int (9 : Int32)), (.ref b213), (.int (1 : Int32))])) _
      obtain ⟨c425, a425, q425, s425, m425, i425, u425⟩ := id V317
      have hin425 := inb_of (j := (9 : Int32)) s425 ⟨by decide, by decide⟩
      refine X422.baloadBooleans hx (j := (9 : Int32)) (v := (.int (nar .boolean (1 : Int32)))) (by rw [e422]; exact a425.1) (State.isArrayOf_alike hZ.alike a425.2.1) a425.2.2 hin425 (i425.at hin425 rfl) (g := (mkF m 331 #[.val (.int xa), .val (.ref b2), .val (.ref b213), .val (.int (9 : Int32)), .val (.ref w_INT)] [(.int (9 : Int32)), (.ref b213), (.int (1 : Int32))])) rfl rfl (hb hby at_331) _ ?_
      show Steps p.tables e below (T422.setTop (mkF m 332 #[.val (.int xa), .val (.ref b2), .val (.ref b213), .val (.int (9 : Int32)), .val (.ref w_INT)] [(.int (nar .boolean (1 : Int32))), (.int (1 : Int32))])) _
      refine XS.icmpNo X422.here hx rfl (hb hby at_332) rfl (teq (show (1 : Int32) = (nar .boolean (1 : Int32)) from rfl)).2 ?_
      show Steps p.tables e below (T422.setTop (mkF m 335 #[.val (.int xa), .val (.ref b2), .val (.ref b213), .val (.int (9 : Int32)), .val (.ref w_INT)] [])) _
      refine XS.iconst X422.here hx rfl (hb hby at_335) ?_
      show Steps p.tables e below (T422.setTop (mkF m 336 #[.val (.int xa), .val (.ref b2), .val (.ref b213), .val (.int (9 : Int32)), .val (.ref w_INT)] [(.int (1 : Int32))])) _
      refine XS.goto X422.here hx rfl (pc0 := 336) (pc' := 340) rfl (hb hby at_336) (by decide) (by decide) ?_
      show Steps p.tables e below (T422.setTop (mkF m 340 #[.val (.int xa), .val (.ref b2), .val (.ref b213), .val (.int (9 : Int32)), .val (.ref w_INT)] [(.int (1 : Int32))])) _
      exact k
    obtain ⟨fs, hr, hrun, hended, hW, hsame⟩ := X422.leave (v := some (.int (1 : Int32))) (fun h => by rw [Bd.returns] at h; cases h)
    refine ⟨_, _, pre426 _ ?_, hrun, hended, _, _, rfl, ?_, ⟨_, rfl⟩, hW, hsame.mono (by decide) (by decide)⟩
    · exact retN X422 hx (t := .boolean) Bd.returns (by simp) (hb hby at_340) hr
    · show Q_rm0 Z xa w_ANY_ATOMIC_TYPE w_UNTYPED_ATOMIC w_STRING w_BOOLEAN w_DECIMAL w_INTEGER w_NON_POSITIVE_INTEGER w_NEGATIVE_INTEGER w_LONG w_INT w_SHORT w_BYTE w_NON_NEGATIVE_INTEGER w_UNSIGNED_LONG w_UNSIGNED_INT w_UNSIGNED_SHORT w_UNSIGNED_BYTE w_POSITIVE_INTEGER w_FLOAT w_DOUBLE w_ANY_URI w_DATE w_TIME w_HEX_BINARY w_QNAME w_NOTATION h0 n0 _ T422.heap _
      rw [e422]
      exact ⟨rfl, N422⟩
  · subst hk
    have pre428 : ∀ t, Steps p.tables e below (T317.setTop (mkF m 326 #[.val (.int xa), .val (.ref b2), .val (.ref b213), .val (.int (10 : Int32)), .val (.ref w_SHORT)] [(.ref w_SHORT)])) t → Steps p.tables e below (s₁.setTop (entryFrame m #[(.int xa)] maxLocals)) t := by
      intro t k
      refine pre319 t ?_
      refine XS.aloadN X317.here hx rfl (hb hby at_319) rfl rfl ?_
      show Steps p.tables e below (T317.setTop (mkF m 320 #[.val (.int xa), .val (.ref b2), .val (.ref b213), .val (.int (10 : Int32)), .unset] [(.ref b2)])) _
      refine XS.iloadN X317.here hx rfl (hb hby at_320) rfl ?_
      show Steps p.tables e below (T317.setTop (mkF m 321 #[.val (.int xa), .val (.ref b2), .val (.ref b213), .val (.int (10 : Int32)), .unset] [(.int (10 : Int32)), (.ref b2)])) _
      obtain ⟨c427, a427, q427, s427, m427, i427, u427⟩ := id (((((((((((((((((((((((((((V210.ext E213).other W217 (Nat.ne_of_lt (Nat.lt_of_lt_of_le V210.lt (Nat.le_of_eq g213.symm)))).other W221 (Nat.ne_of_lt (Nat.lt_of_lt_of_le V210.lt (Nat.le_of_eq g213.symm)))).other W225 (Nat.ne_of_lt (Nat.lt_of_lt_of_le V210.lt (Nat.le_of_eq g213.symm)))).other W229 (Nat.ne_of_lt (Nat.lt_of_lt_of_le V210.lt (Nat.le_of_eq g213.symm)))).other W233 (Nat.ne_of_lt (Nat.lt_of_lt_of_le V210.lt (Nat.le_of_eq g213.symm)))).other W237 (Nat.ne_of_lt (Nat.lt_of_lt_of_le V210.lt (Nat.le_of_eq g213.symm)))).other W241 (Nat.ne_of_lt (Nat.lt_of_lt_of_le V210.lt (Nat.le_of_eq g213.symm)))).other W245 (Nat.ne_of_lt (Nat.lt_of_lt_of_le V210.lt (Nat.le_of_eq g213.symm)))).other W249 (Nat.ne_of_lt (Nat.lt_of_lt_of_le V210.lt (Nat.le_of_eq g213.symm)))).other W253 (Nat.ne_of_lt (Nat.lt_of_lt_of_le V210.lt (Nat.le_of_eq g213.symm)))).other W257 (Nat.ne_of_lt (Nat.lt_of_lt_of_le V210.lt (Nat.le_of_eq g213.symm)))).other W261 (Nat.ne_of_lt (Nat.lt_of_lt_of_le V210.lt (Nat.le_of_eq g213.symm)))).other W265 (Nat.ne_of_lt (Nat.lt_of_lt_of_le V210.lt (Nat.le_of_eq g213.symm)))).other W269 (Nat.ne_of_lt (Nat.lt_of_lt_of_le V210.lt (Nat.le_of_eq g213.symm)))).other W273 (Nat.ne_of_lt (Nat.lt_of_lt_of_le V210.lt (Nat.le_of_eq g213.symm)))).other W277 (Nat.ne_of_lt (Nat.lt_of_lt_of_le V210.lt (Nat.le_of_eq g213.symm)))).other W281 (Nat.ne_of_lt (Nat.lt_of_lt_of_le V210.lt (Nat.le_of_eq g213.symm)))).other W285 (Nat.ne_of_lt (Nat.lt_of_lt_of_le V210.lt (Nat.le_of_eq g213.symm)))).other W289 (Nat.ne_of_lt (Nat.lt_of_lt_of_le V210.lt (Nat.le_of_eq g213.symm)))).other W293 (Nat.ne_of_lt (Nat.lt_of_lt_of_le V210.lt (Nat.le_of_eq g213.symm)))).other W297 (Nat.ne_of_lt (Nat.lt_of_lt_of_le V210.lt (Nat.le_of_eq g213.symm)))).other W301 (Nat.ne_of_lt (Nat.lt_of_lt_of_le V210.lt (Nat.le_of_eq g213.symm)))).other W305 (Nat.ne_of_lt (Nat.lt_of_lt_of_le V210.lt (Nat.le_of_eq g213.symm)))).other W309 (Nat.ne_of_lt (Nat.lt_of_lt_of_le V210.lt (Nat.le_of_eq g213.symm)))).other W313 (Nat.ne_of_lt (Nat.lt_of_lt_of_le V210.lt (Nat.le_of_eq g213.symm)))).other W317 (Nat.ne_of_lt (Nat.lt_of_lt_of_le V210.lt (Nat.le_of_eq g213.symm))))
      have hin427 := inb_of (j := (10 : Int32)) s427 ⟨by decide, by decide⟩
      refine X317.aaload hx (j := (10 : Int32)) (v := (.ref w_SHORT)) (by rw [e317]; exact a427.1) (State.isArrayOf_alike hZ.alike a427.2.1) rfl a427.2.2 hin427 (i427.at hin427 rfl) (g := (mkF m 321 #[.val (.int xa), .val (.ref b2), .val (.ref b213), .val (.int (10 : Int32)), .unset] [(.int (10 : Int32)), (.ref b2)])) rfl rfl (hb hby at_321) _ ?_
      show Steps p.tables e below (T317.setTop (mkF m 322 #[.val (.int xa), .val (.ref b2), .val (.ref b213), .val (.int (10 : Int32)), .unset] [(.ref w_SHORT)])) _
      refine XS.astore X317.here hx rfl (hb hby at_322) rfl rfl (l' := #[.val (.int xa), .val (.ref b2), .val (.ref b213), .val (.int (10 : Int32)), .val (.ref w_SHORT)]) rfl ?_
      show Steps p.tables e below (T317.setTop (mkF m 324 #[.val (.int xa), .val (.ref b2), .val (.ref b213), .val (.int (10 : Int32)), .val (.ref w_SHORT)] [])) _
      refine XS.aload X317.here hx rfl (hb hby at_324) rfl rfl ?_
      show Steps p.tables e below (T317.setTop (mkF m 326 #[.val (.int xa), .val (.ref b2), .val (.ref b213), .val (.int (10 : Int32)), .val (.ref w_SHORT)] [(.ref w_SHORT)])) _
      exact k
    have f429 := (P_SHORT.ext (own_keep_ext K317))
    have f430 := (((((((((((((((((((((((((((((((((((((((((((((((((f36.wr W42).wr W50).wr W58).wr W66).wr W74).wr W82).wr W90).wr W98).wr W106).wr W114).wr W122).wr W130).wr W138).wr W146).wr W154).wr W162).wr W170).wr W178).wr W186).wr W194).wr W202).wr W210).ext E213).wr W217).wr W221).wr W225).wr W229).wr W233).wr W237).wr W241).wr W245).wr W249).wr W253).wr W257).wr W261).wr W265).wr W269).wr W273).wr W277).wr W281).wr W285).wr W289).wr W293).wr W297).wr W301).wr W305).wr W309).wr W313).wr W317)
    have f431 := ((((((((((((((((((((((((((((((((((((((((((((((((f44.wr W50).wr W58).wr W66).wr W74).wr W82).wr W90).wr W98).wr W106).wr W114).wr W122).wr W130).wr W138).wr W146).wr W154).wr W162).wr W170).wr W178).wr W186).wr W194).wr W202).wr W210).ext E213).wr W217).wr W221).wr W225).wr W229).wr W233).wr W237).wr W241).wr W245).wr W249).wr W253).wr W257).wr W261).wr W265).wr W269).wr W273).wr W277).wr W281).wr W285).wr W289).wr W293).wr W297).wr W301).wr W305).wr W309).wr W313).wr W317)
    have f433 := (((((((((((((((((((((((((((((((((((((((((((f89.wr W90).wr W98).wr W106).wr W114).wr W122).wr W130).wr W138).wr W146).wr W154).wr W162).wr W170).wr W178).wr W186).wr W194).wr W202).wr W210).ext E213).wr W217).wr W221).wr W225).wr W229).wr W233).wr W237).wr W241).wr W245).wr W249).wr W253).wr W257).wr W261).wr W265).wr W269).wr W273).wr W277).wr W281).wr W285).wr W289).wr W293).wr W297).wr W301).wr W305).wr W309).wr W313).wr W317)
    obtain ⟨cq432, kq432, q432a, q432b, q432c⟩ := isOf hZ e317 f433
    obtain ⟨_, _, ⟨T432, L432, k432, n432⟩, -, X432, ⟨Lc432, hQ432, l432, y432, z432⟩, st432⟩ := X317.virtualBack hx (y := (⟨"com/example/xidr/xidr/xpath/values/AtomicType", "isNumeric", "()Z"⟩ : MethodName)) (z := (⟨"com/example/xidr/xidr/xpath/values/AtomicType", "isNumeric", "()Z"⟩ : MethodName)) hown (mvT hZ (hw _ (List.mem_of_getElem? (i := 58) rfl))) (mvT hZ (hw _ (List.mem_of_getElem? (i := 59) rfl))) (notFace_of_selects (args := #[]) (mvT hZ (hw _ (List.mem_of_getElem? (i := 61) rfl)))) (mvT hZ (hw _ (List.mem_of_getElem? (i := 61) rfl))) (mvT hZ (hw _ (List.mem_of_getElem? (i := 60) rfl))) (by decide) (backOf (W := 0) (rm_num1 l Z a0 hw [] w_SHORT w_INTEGER w_DECIMAL h317 n0 z317 f429 f430 f431 (hne_INTEGER_DECIMAL)) hZ (hw _ (List.mem_of_getElem? (i := 62) rfl)) (hw _ (List.mem_of_getElem? (i := 3) rfl)) (by decide) (by decide)) q432a q432c (g := (mkF m 326 #[.val (.int xa), .val (.ref b2), .val (.ref b213), .val (.int (10 : Int32)), .val (.ref w_SHORT)] [(.ref w_SHORT)])) rfl (by rw [hml]; rfl) (Steps.refl _) (argsL := []) (rest := []) (lenOf pd0 rfl) rfl (by show 2 * 0 + _ ≤ _; exact Nat.le_of_eq rfl) (hb hby at_326) (fun _ _ => ⟨rfl, e317, (by decide : 2 + 0 ≤ _), (by decide : 52 + 0 ≤ _)⟩)
    dsimp only [Pt.U, Pt.locs, Pt.cells, Pt.slots] at X432 l432 y432 z432 st432 hQ432
    subst y432 z432
    obtain ⟨rfl, M432, e432⟩ := hQ432
    have N432 : Fr n0 L432 := by rw [l432]; exact Fr.app N317 M432
    clear l432
    have X432 : Stand p l e _ s m _ below meth c T432 _ 2 52 := X432
    have pre434 : ∀ t, Steps p.tables e below (T432.setTop (mkF m 329 #[.val (.int xa), .val (.ref b2), .val (.ref b213), .val (.int (10 : Int32)), .val (.ref w_SHORT)] [(.int (1 : Int32))])) t → Steps p.tables e below (s₁.setTop (entryFrame m #[(.int xa)] maxLocals)) t := fun t k => pre428 t (st432.trans k)
    have pre436 : ∀ t, Steps p.tables e below (T432.setTop (mkF m 340 #[.val (.int xa), .val (.ref b2), .val (.ref b213), .val (.int (10 : Int32)), .val (.ref w_SHORT)] [(.int (1 : Int32))])) t → Steps p.tables e below (s₁.setTop (entryFrame m #[(.int xa)] maxLocals)) t := by
      intro t k
      refine pre434 t ?_
      refine XS.aloadN X432.here hx rfl (hb hby at_329) rfl rfl ?_
      show Steps p.tables e below (T432.setTop (mkF m 330 #[.val (.int xa), .val (.ref b2), .val (.ref b213), .val (.int (10 : Int32)), .val (.ref w_SHORT)] [(.ref b213), (.int (1 : Int32))])) _
      refine XS.iloadN X432.here hx rfl (hb hby at_330) rfl ?_
      show Steps p.tables e below (T432.setTop (mkF m 331 #[.val (.int xa), .val (.ref b2), .val (.ref b213), .val (.int (10 : Int32)), .val (.ref w_SHORT)] [(.int (10 : Int32)), (.ref b213), (.int (1 : Int32))])) _
      obtain ⟨c435, a435, q435, s435, m435, i435, u435⟩ := id V317
      have hin435 := inb_of (j := (10 : Int32)) s435 ⟨by decide, by decide⟩
      refine X432.baloadBooleans hx (j := (10 : Int32)) (v := (.int (nar .boolean (1 : Int32)))) (by rw [e432]; exact a435.1) (State.isArrayOf_alike hZ.alike a435.2.1) a435.2.2 hin435 (i435.at hin435 rfl) (g := (mkF m 331 #[.val (.int xa), .val (.ref b2), .val (.ref b213), .val (.int (10 : Int32)), .val (.ref w_SHORT)] [(.int (10 : Int32)), (.ref b213), (.int (1 : Int32))])) rfl rfl (hb hby at_331) _ ?_
      show Steps p.tables e below (T432.setTop (mkF m 332 #[.val (.int xa), .val (.ref b2), .val (.ref b213), .val (.int (10 : Int32)), .val (.ref w_SHORT)] [(.int (nar .boolean (1 : Int32))), (.int (1 : Int32))])) _
      refine XS.icmpNo X432.here hx rfl (hb hby at_332) rfl (teq (show (1 : Int32) = (nar .boolean (1 : Int32)) from rfl)).2 ?_
      show Steps p.tables e below (T432.setTop (mkF m 335 #[.val (.int xa), .val (.ref b2), .val (.ref b213), .val (.int (10 : Int32)), .val (.ref w_SHORT)] [])) _
      refine XS.iconst X432.here hx rfl (hb hby at_335) ?_
      show Steps p.tables e below (T432.setTop (mkF m 336 #[.val (.int xa), .val (.ref b2), .val (.ref b213), .val (.int (10 : Int32)), .val (.ref w_SHORT)] [(.int (1 : Int32))])) _
      refine XS.goto X432.here hx rfl (pc0 := 336) (pc' := 340) rfl (hb hby at_336) (by decide) (by decide) ?_
      show Steps p.tables e below (T432.setTop (mkF m 340 #[.val (.int xa), .val (.ref b2), .val (.ref b213), .val (.int (10 : Int32)), .val (.ref w_SHORT)] [(.int (1 : Int32))])) _
      exact k
    obtain ⟨fs, hr, hrun, hended, hW, hsame⟩ := X432.leave (v := some (.int (1 : Int32))) (fun h => by rw [Bd.returns] at h; cases h)
    refine ⟨_, _, pre436 _ ?_, hrun, hended, _, _, rfl, ?_, ⟨_, rfl⟩, hW, hsame.mono (by decide) (by decide)⟩
    · exact retN X432 hx (t := .boolean) Bd.returns (by simp) (hb hby at_340) hr
    · show Q_rm0 Z xa w_ANY_ATOMIC_TYPE w_UNTYPED_ATOMIC w_STRING w_BOOLEAN w_DECIMAL w_INTEGER w_NON_POSITIVE_INTEGER w_NEGATIVE_INTEGER w_LONG w_INT w_SHORT w_BYTE w_NON_NEGATIVE_INTEGER w_UNSIGNED_LONG w_UNSIGNED_INT w_UNSIGNED_SHORT w_UNSIGNED_BYTE w_POSITIVE_INTEGER w_FLOAT w_DOUBLE w_ANY_URI w_DATE w_TIME w_HEX_BINARY w_QNAME w_NOTATION h0 n0 _ T432.heap _
      rw [e432]
      exact ⟨rfl, N432⟩
  · subst hk
    have pre438 : ∀ t, Steps p.tables e below (T317.setTop (mkF m 326 #[.val (.int xa), .val (.ref b2), .val (.ref b213), .val (.int (11 : Int32)), .val (.ref w_BYTE)] [(.ref w_BYTE)])) t → Steps p.tables e below (s₁.setTop (entryFrame m #[(.int xa)] maxLocals)) t := by
      intro t k
      refine pre319 t ?_
      refine XS.aloadN X317.here hx rfl (hb hby at_319) rfl rfl ?_
      show Steps p.tables e below (T317.setTop (mkF m 320 #[.val (.int xa), .val (.ref b2), .val (.ref b213), .val (.int (11 : Int32)), .unset] [(.ref b2)])) _
      refine XS.iloadN X317.here hx rfl (hb hby at_320) rfl ?_
      show Steps p.tables e below (T317.setTop (mkF m 321 #[.val (.int xa), .val (.ref b2), .val (.ref b213), .val (.int (11 : Int32)), .unset] [(.int (11 : Int32)), (.ref b2)])) _
      obtain ⟨c437, a437, q437, s437, m437, i437, u437⟩ := id (((((((((((((((((((((((((((V210.ext E213).other W217 (Nat.ne_of_lt (Nat.lt_of_lt_of_le V210.lt (Nat.le_of_eq g213.symm)))).other W221 (Nat.ne_of_lt (Nat.lt_of_lt_of_le V210.lt (Nat.le_of_eq g213.symm)))).other W225 (Nat.ne_of_lt (Nat.lt_of_lt_of_le V210.lt (Nat.le_of_eq g213.symm)))).other W229 (Nat.ne_of_lt (Nat.lt_of_lt_of_le V210.lt (Nat.le_of_eq g213.symm)))).other W233 (Nat.ne_of_lt (Nat.lt_of_lt_of_le V210.lt (Nat.le_of_eq g213.symm)))).other W237 (Nat.ne_of_lt (Nat.lt_of_lt_of_le V210.lt (Nat.le_of_eq g213.symm)))).other W241 (Nat.ne_of_lt (Nat.lt_of_lt_of_le V210.lt (Nat.le_of_eq g213.symm)))).other W245 (Nat.ne_of_lt (Nat.lt_of_lt_of_le V210.lt (Nat.le_of_eq g213.symm)))).other W249 (Nat.ne_of_lt (Nat.lt_of_lt_of_le V210.lt (Nat.le_of_eq g213.symm)))).other W253 (Nat.ne_of_lt (Nat.lt_of_lt_of_le V210.lt (Nat.le_of_eq g213.symm)))).other W257 (Nat.ne_of_lt (Nat.lt_of_lt_of_le V210.lt (Nat.le_of_eq g213.symm)))).other W261 (Nat.ne_of_lt (Nat.lt_of_lt_of_le V210.lt (Nat.le_of_eq g213.symm)))).other W265 (Nat.ne_of_lt (Nat.lt_of_lt_of_le V210.lt (Nat.le_of_eq g213.symm)))).other W269 (Nat.ne_of_lt (Nat.lt_of_lt_of_le V210.lt (Nat.le_of_eq g213.symm)))).other W273 (Nat.ne_of_lt (Nat.lt_of_lt_of_le V210.lt (Nat.le_of_eq g213.symm)))).other W277 (Nat.ne_of_lt (Nat.lt_of_lt_of_le V210.lt (Nat.le_of_eq g213.symm)))).other W281 (Nat.ne_of_lt (Nat.lt_of_lt_of_le V210.lt (Nat.le_of_eq g213.symm)))).other W285 (Nat.ne_of_lt (Nat.lt_of_lt_of_le V210.lt (Nat.le_of_eq g213.symm)))).other W289 (Nat.ne_of_lt (Nat.lt_of_lt_of_le V210.lt (Nat.le_of_eq g213.symm)))).other W293 (Nat.ne_of_lt (Nat.lt_of_lt_of_le V210.lt (Nat.le_of_eq g213.symm)))).other W297 (Nat.ne_of_lt (Nat.lt_of_lt_of_le V210.lt (Nat.le_of_eq g213.symm)))).other W301 (Nat.ne_of_lt (Nat.lt_of_lt_of_le V210.lt (Nat.le_of_eq g213.symm)))).other W305 (Nat.ne_of_lt (Nat.lt_of_lt_of_le V210.lt (Nat.le_of_eq g213.symm)))).other W309 (Nat.ne_of_lt (Nat.lt_of_lt_of_le V210.lt (Nat.le_of_eq g213.symm)))).other W313 (Nat.ne_of_lt (Nat.lt_of_lt_of_le V210.lt (Nat.le_of_eq g213.symm)))).other W317 (Nat.ne_of_lt (Nat.lt_of_lt_of_le V210.lt (Nat.le_of_eq g213.symm))))
      have hin437 := inb_of (j := (11 : Int32)) s437 ⟨by decide, by decide⟩
      refine X317.aaload hx (j := (11 : Int32)) (v := (.ref w_BYTE)) (by rw [e317]; exact a437.1) (State.isArrayOf_alike hZ.alike a437.2.1) rfl a437.2.2 hin437 (i437.at hin437 rfl) (g := (mkF m 321 #[.val (.int xa), .val (.ref b2), .val (.ref b213), .val (.int (11 : Int32)), .unset] [(.int (11 : Int32)), (.ref b2)])) rfl rfl (hb hby at_321) _ ?_
      show Steps p.tables e below (T317.setTop (mkF m 322 #[.val (.int xa), .val (.ref b2), .val (.ref b213), .val (.int (11 : Int32)), .unset] [(.ref w_BYTE)])) _
      refine XS.astore X317.here hx rfl (hb hby at_322) rfl rfl (l' := #[.val (.int xa), .val (.ref b2), .val (.ref b213), .val (.int (11 : Int32)), .val (.ref w_BYTE)]) rfl ?_
      show Steps p.tables e below (T317.setTop (mkF m 324 #[.val (.int xa), .val (.ref b2), .val (.ref b213), .val (.int (11 : Int32)), .val (.ref w_BYTE)] [])) _
      refine XS.aload X317.here hx rfl (hb hby at_324) rfl rfl ?_
      show Steps p.tables e below (T317.setTop (mkF m 326 #[.val (.int xa), .val (.ref b2), .val (.ref b213), .val (.int (11 : Int32)), .val (.ref w_BYTE)] [(.ref w_BYTE)])) _
      exact k
    have f439 := (P_BYTE.ext (own_keep_ext K317))
    have f440 := (((((((((((((((((((((((((((((((((((((((((((((((((f36.wr W42).wr W50).wr W58).wr W66).wr W74).wr W82).wr W90).wr W98).wr W106).wr W114).wr W122).wr W130).wr W138).wr W146).wr W154).wr W162).wr W170).wr W178).wr W186).wr W194).wr W202).wr W210).ext E213).wr W217).wr W221).wr W225).wr W229).wr W233).wr W237).wr W241).wr W245).wr W249).wr W253).wr W257).wr W261).wr W265).wr W269).wr W273).wr W277).wr W281).wr W285).wr W289).wr W293).wr W297).wr W301).wr W305).wr W309).wr W313).wr W317)
    have f441 := ((((((((((((((((((((((((((((((((((((((((((((((((f44.wr W50).wr W58).wr W66).wr W74).wr W82).wr W90).wr W98).wr W106).wr W114).wr W122).wr W130).wr W138).wr W146).wr W154).wr W162).wr W170).wr W178).wr W186).wr W194).wr W202).wr W210).ext E213).wr W217).wr W221).wr W225).wr W229).wr W233).wr W237).wr W241).wr W245).wr W249).wr W253).wr W257).wr W261).wr W265).wr W269).wr W273).wr W277).wr W281).wr W285).wr W289).wr W293).wr W297).wr W301).wr W305).wr W309).wr W313).wr W317)
    have f443 := ((((((((((((((((((((((((((((((((((((((((((f97.wr W98).wr W106).wr W114).wr W122).wr W130).wr W138).wr W146).wr W154).wr W162).wr W170).wr W178).wr W186).wr W194).wr W202).wr W210).ext E213).wr W217).wr W221).wr W225).wr W229).wr W233).wr W237).wr W241).wr W245).wr W249).wr W253).wr W257).wr W261).wr W265).wr W269).wr W273).wr W277).wr W281).wr W285).wr W289).wr W293).wr W297).wr W301).wr W305).wr W309).wr W313).wr W317)
    obtain ⟨cq442, kq442, q442a, q442b, q442c⟩ := isOf hZ e317 f443
    obtain ⟨_, _, ⟨T442, L442, k442, n442⟩, -, X442, ⟨Lc442, hQ442, l442, y442, z442⟩, st442⟩ := X317.virtualBack hx (y := (⟨"com/example/xidr/xidr/xpath/values/AtomicType", "isNumeric", "()Z"⟩ : MethodName)) (z := (⟨"com/example/xidr/xidr/xpath/values/AtomicType", "isNumeric", "()Z"⟩ : MethodName)) hown (mvT hZ (hw _ (List.mem_of_getElem? (i := 58) rfl))) (mvT hZ (hw _ (List.mem_of_getElem? (i := 59) rfl))) (notFace_of_selects (args := #[]) (mvT hZ (hw _ (List.mem_of_getElem? (i := 61) rfl)))) (mvT hZ (hw _ (List.mem_of_getElem? (i := 61) rfl))) (mvT hZ (hw _ (List.mem_of_getElem? (i := 60) rfl))) (by decide) (backOf (W := 0) (rm_num1 l Z a0 hw [] w_BYTE w_INTEGER w_DECIMAL h317 n0 z317 f439 f440 f441 (hne_INTEGER_DECIMAL)) hZ (hw _ (List.mem_of_getElem? (i := 62) rfl)) (hw _ (List.mem_of_getElem? (i := 3) rfl)) (by decide) (by decide)) q442a q442c (g := (mkF m 326 #[.val (.int xa), .val (.ref b2), .val (.ref b213), .val (.int (11 : Int32)), .val (.ref w_BYTE)] [(.ref w_BYTE)])) rfl (by rw [hml]; rfl) (Steps.refl _) (argsL := []) (rest := []) (lenOf pd0 rfl) rfl (by show 2 * 0 + _ ≤ _; exact Nat.le_of_eq rfl) (hb hby at_326) (fun _ _ => ⟨rfl, e317, (by decide : 2 + 0 ≤ _), (by decide : 52 + 0 ≤ _)⟩)
    dsimp only [Pt.U, Pt.locs, Pt.cells, Pt.slots] at X442 l442 y442 z442 st442 hQ442
    subst y442 z442
    obtain ⟨rfl, M442, e442⟩ := hQ442
    have N442 : Fr n0 L442 := by rw [l442]; exact Fr.app N317 M442
    clear l442
    have X442 : Stand p l e _ s m _ below meth c T442 _ 2 52 := X442
    have pre444 : ∀ t, Steps p.tables e below (T442.setTop (mkF m 329 #[.val (.int xa), .val (.ref b2), .val (.ref b213), .val (.int (11 : Int32)), .val (.ref w_BYTE)] [(.int (1 : Int32))])) t → Steps p.tables e below (s₁.setTop (entryFrame m #[(.int xa)] maxLocals)) t := fun t k => pre438 t (st442.trans k)
    have pre446 : ∀ t, Steps p.tables e below (T442.setTop (mkF m 340 #[.val (.int xa), .val (.ref b2), .val (.ref b213), .val (.int (11 : Int32)), .val (.ref w_BYTE)] [(.int (1 : Int32))])) t → Steps p.tables e below (s₁.setTop (entryFrame m #[(.int xa)] maxLocals)) t := by
      intro t k
      refine pre444 t ?_
      refine XS.aloadN X442.here hx rfl (hb hby at_329) rfl rfl ?_
      show Steps p.tables e below (T442.setTop (mkF m 330 #[.val (.int xa), .val (.ref b2), .val (.ref b213), .val (.int (11 : Int32)), .val (.ref w_BYTE)] [(.ref b213), (.int (1 : Int32))])) _
      refine XS.iloadN X442.here hx rfl (hb hby at_330) rfl ?_
      show Steps p.tables e below (T442.setTop (mkF m 331 #[.val (.int xa), .val (.ref b2), .val (.ref b213), .val (.int (11 : Int32)), .val (.ref w_BYTE)] [(.int (11 : Int32)), (.ref b213), (.int (1 : Int32))])) _
      obtain ⟨c445, a445, q445, s445, m445, i445, u445⟩ := id V317
      have hin445 := inb_of (j := (11 : Int32)) s445 ⟨by decide, by decide⟩
      refine X442.baloadBooleans hx (j := (11 : Int32)) (v := (.int (nar .boolean (1 : Int32)))) (by rw [e442]; exact a445.1) (State.isArrayOf_alike hZ.alike a445.2.1) a445.2.2 hin445 (i445.at hin445 rfl) (g := (mkF m 331 #[.val (.int xa), .val (.ref b2), .val (.ref b213), .val (.int (11 : Int32)), .val (.ref w_BYTE)] [(.int (11 : Int32)), (.ref b213), (.int (1 : Int32))])) rfl rfl (hb hby at_331) _ ?_
      show Steps p.tables e below (T442.setTop (mkF m 332 #[.val (.int xa), .val (.ref b2), .val (.ref b213), .val (.int (11 : Int32)), .val (.ref w_BYTE)] [(.int (nar .boolean (1 : Int32))), (.int (1 : Int32))])) _
      refine XS.icmpNo X442.here hx rfl (hb hby at_332) rfl (teq (show (1 : Int32) = (nar .boolean (1 : Int32)) from rfl)).2 ?_
      show Steps p.tables e below (T442.setTop (mkF m 335 #[.val (.int xa), .val (.ref b2), .val (.ref b213), .val (.int (11 : Int32)), .val (.ref w_BYTE)] [])) _
      refine XS.iconst X442.here hx rfl (hb hby at_335) ?_
      show Steps p.tables e below (T442.setTop (mkF m 336 #[.val (.int xa), .val (.ref b2), .val (.ref b213), .val (.int (11 : Int32)), .val (.ref w_BYTE)] [(.int (1 : Int32))])) _
      refine XS.goto X442.here hx rfl (pc0 := 336) (pc' := 340) rfl (hb hby at_336) (by decide) (by decide) ?_
      show Steps p.tables e below (T442.setTop (mkF m 340 #[.val (.int xa), .val (.ref b2), .val (.ref b213), .val (.int (11 : Int32)), .val (.ref w_BYTE)] [(.int (1 : Int32))])) _
      exact k
    obtain ⟨fs, hr, hrun, hended, hW, hsame⟩ := X442.leave (v := some (.int (1 : Int32))) (fun h => by rw [Bd.returns] at h; cases h)
    refine ⟨_, _, pre446 _ ?_, hrun, hended, _, _, rfl, ?_, ⟨_, rfl⟩, hW, hsame.mono (by decide) (by decide)⟩
    · exact retN X442 hx (t := .boolean) Bd.returns (by simp) (hb hby at_340) hr
    · show Q_rm0 Z xa w_ANY_ATOMIC_TYPE w_UNTYPED_ATOMIC w_STRING w_BOOLEAN w_DECIMAL w_INTEGER w_NON_POSITIVE_INTEGER w_NEGATIVE_INTEGER w_LONG w_INT w_SHORT w_BYTE w_NON_NEGATIVE_INTEGER w_UNSIGNED_LONG w_UNSIGNED_INT w_UNSIGNED_SHORT w_UNSIGNED_BYTE w_POSITIVE_INTEGER w_FLOAT w_DOUBLE w_ANY_URI w_DATE w_TIME w_HEX_BINARY w_QNAME w_NOTATION h0 n0 _ T442.heap _
      rw [e442]
      exact ⟨rfl, N442⟩
  · subst hk
    have pre448 : ∀ t, Steps p.tables e below (T317.setTop (mkF m 326 #[.val (.int xa), .val (.ref b2), .val (.ref b213), .val (.int (12 : Int32)), .val (.ref w_NON_NEGATIVE_INTEGER)] [(.ref w_NON_NEGATIVE_INTEGER)])) t → Steps p.tables e below (s₁.setTop (entryFrame m #[(.int xa)] maxLocals)) t := by
      intro t k
      refine pre319 t ?_
      refine XS.aloadN X317.here hx rfl (hb hby at_319) rfl rfl ?_
      show Steps p.tables e below (T317.setTop (mkF m 320 #[.val (.int xa), .val (.ref b2), .val (.ref b213), .val (.int (12 : Int32)), .unset] [(.ref b2)])) _
      refine XS.iloadN X317.here hx rfl (hb hby at_320) rfl ?_
      show Steps p.tables e below (T317.setTop (mkF m 321 #[.val (.int xa), .val (.ref b2), .val (.ref b213), .val (.int (12 : Int32)), .unset] [(.int (12 : Int32)), (.ref b2)])) _
      obtain ⟨c447, a447, q447, s447, m447, i447, u447⟩ := id (((((((((((((((((((((((((((V210.ext E213).other W217 (Nat.ne_of_lt (Nat.lt_of_lt_of_le V210.lt (Nat.le_of_eq g213.symm)))).other W221 (Nat.ne_of_lt (Nat.lt_of_lt_of_le V210.lt (Nat.le_of_eq g213.symm)))).other W225 (Nat.ne_of_lt (Nat.lt_of_lt_of_le V210.lt (Nat.le_of_eq g213.symm)))).other W229 (Nat.ne_of_lt (Nat.lt_of_lt_of_le V210.lt (Nat.le_of_eq g213.symm)))).other W233 (Nat.ne_of_lt (Nat.lt_of_lt_of_le V210.lt (Nat.le_of_eq g213.symm)))).other W237 (Nat.ne_of_lt (Nat.lt_of_lt_of_le V210.lt (Nat.le_of_eq g213.symm)))).other W241 (Nat.ne_of_lt (Nat.lt_of_lt_of_le V210.lt (Nat.le_of_eq g213.symm)))).other W245 (Nat.ne_of_lt (Nat.lt_of_lt_of_le V210.lt (Nat.le_of_eq g213.symm)))).other W249 (Nat.ne_of_lt (Nat.lt_of_lt_of_le V210.lt (Nat.le_of_eq g213.symm)))).other W253 (Nat.ne_of_lt (Nat.lt_of_lt_of_le V210.lt (Nat.le_of_eq g213.symm)))).other W257 (Nat.ne_of_lt (Nat.lt_of_lt_of_le V210.lt (Nat.le_of_eq g213.symm)))).other W261 (Nat.ne_of_lt (Nat.lt_of_lt_of_le V210.lt (Nat.le_of_eq g213.symm)))).other W265 (Nat.ne_of_lt (Nat.lt_of_lt_of_le V210.lt (Nat.le_of_eq g213.symm)))).other W269 (Nat.ne_of_lt (Nat.lt_of_lt_of_le V210.lt (Nat.le_of_eq g213.symm)))).other W273 (Nat.ne_of_lt (Nat.lt_of_lt_of_le V210.lt (Nat.le_of_eq g213.symm)))).other W277 (Nat.ne_of_lt (Nat.lt_of_lt_of_le V210.lt (Nat.le_of_eq g213.symm)))).other W281 (Nat.ne_of_lt (Nat.lt_of_lt_of_le V210.lt (Nat.le_of_eq g213.symm)))).other W285 (Nat.ne_of_lt (Nat.lt_of_lt_of_le V210.lt (Nat.le_of_eq g213.symm)))).other W289 (Nat.ne_of_lt (Nat.lt_of_lt_of_le V210.lt (Nat.le_of_eq g213.symm)))).other W293 (Nat.ne_of_lt (Nat.lt_of_lt_of_le V210.lt (Nat.le_of_eq g213.symm)))).other W297 (Nat.ne_of_lt (Nat.lt_of_lt_of_le V210.lt (Nat.le_of_eq g213.symm)))).other W301 (Nat.ne_of_lt (Nat.lt_of_lt_of_le V210.lt (Nat.le_of_eq g213.symm)))).other W305 (Nat.ne_of_lt (Nat.lt_of_lt_of_le V210.lt (Nat.le_of_eq g213.symm)))).other W309 (Nat.ne_of_lt (Nat.lt_of_lt_of_le V210.lt (Nat.le_of_eq g213.symm)))).other W313 (Nat.ne_of_lt (Nat.lt_of_lt_of_le V210.lt (Nat.le_of_eq g213.symm)))).other W317 (Nat.ne_of_lt (Nat.lt_of_lt_of_le V210.lt (Nat.le_of_eq g213.symm))))
      have hin447 := inb_of (j := (12 : Int32)) s447 ⟨by decide, by decide⟩
      refine X317.aaload hx (j := (12 : Int32)) (v := (.ref w_NON_NEGATIVE_INTEGER)) (by rw [e317]; exact a447.1) (State.isArrayOf_alike hZ.alike a447.2.1) rfl a447.2.2 hin447 (i447.at hin447 rfl) (g := (mkF m 321 #[.val (.int xa), .val (.ref b2), .val (.ref b213), .val (.int (12 : Int32)), .unset] [(.int (12 : Int32)), (.ref b2)])) rfl rfl (hb hby at_321) _ ?_
      show Steps p.tables e below (T317.setTop (mkF m 322 #[.val (.int xa), .val (.ref b2), .val (.ref b213), .val (.int (12 : Int32)), .unset] [(.ref w_NON_NEGATIVE_INTEGER)])) _
      refine XS.astore X317.here hx rfl (hb hby at_322) rfl rfl (l' := #[.val (.int xa), .val (.ref b2), .val (.ref b213), .val (.int (12 : Int32)), .val (.ref w_NON_NEGATIVE_INTEGER)]) rfl ?_
      show Steps p.tables e below (T317.setTop (mkF m 324 #[.val (.int xa), .val (.ref b2), .val (.ref b213), .val (.int (12 : Int32)), .val (.ref w_NON_NEGATIVE_INTEGER)] [])) _
      refine XS.aload X317.here hx rfl (hb hby at_324) rfl rfl ?_
      show Steps p.tables e below (T317.setTop (mkF m 326 #[.val (.int xa), .val (.ref b2), .val (.ref b213), .val (.int (12 : Int32)), .val (.ref w_NON_NEGATIVE_INTEGER)] [(.ref w_NON_NEGATIVE_INTEGER)])) _
      exact k
    have f449 := (P_NON_NEGATIVE_INTEGER.ext (own_keep_ext K317))
    have f450 := (((((((((((((((((((((((((((((((((((((((((((((((((f36.wr W42).wr W50).wr W58).wr W66).wr W74).wr W82).wr W90).wr W98).wr W106).wr W114).wr W122).wr W130).wr W138).wr W146).wr W154).wr W162).wr W170).wr W178).wr W186).wr W194).wr W202).wr W210).ext E213).wr W217).wr W221).wr W225).wr W229).wr W233).wr W237).wr W241).wr W245).wr W249).wr W253).wr W257).wr W261).wr W265).wr W269).wr W273).wr W277).wr W281).wr W285).wr W289).wr W293).wr W297).wr W301).wr W305).wr W309).wr W313).wr W317)
    have f451 := ((((((((((((((((((((((((((((((((((((((((((((((((f44.wr W50).wr W58).wr W66).wr W74).wr W82).wr W90).wr W98).wr W106).wr W114).wr W122).wr W130).wr W138).wr W146).wr W154).wr W162).wr W170).wr W178).wr W186).wr W194).wr W202).wr W210).ext E213).wr W217).wr W221).wr W225).wr W229).wr W233).wr W237).wr W241).wr W245).wr W249).wr W253).wr W257).wr W261).wr W265).wr W269).wr W273).wr W277).wr W281).wr W285).wr W289).wr W293).wr W297).wr W301).wr W305).wr W309).wr W313).wr W317)
    have f453 := (((((((((((((((((((((((((((((((((((((((((f105.wr W106).wr W114).wr W122).wr W130).wr W138).wr W146).wr W154).wr W162).wr W170).wr W178).wr W186).wr W194).wr W202).wr W210).ext E213).wr W217).wr W221).wr W225).wr W229).wr W233).wr W237).wr W241).wr W245).wr W249).wr W253).wr W257).wr W261).wr W265).wr W269).wr W273).wr W277).wr W281).wr W285).wr W289).wr W293).wr W297).wr W301).wr W305).wr W309).wr W313).wr W317)
    obtain ⟨cq452, kq452, q452a, q452b, q452c⟩ := isOf hZ e317 f453
    obtain ⟨_, _, ⟨T452, L452, k452, n452⟩, -, X452, ⟨Lc452, hQ452, l452, y452, z452⟩, st452⟩ := X317.virtualBack hx (y := (⟨"com/example/xidr/xidr/xpath/values/AtomicType", "isNumeric", "()Z"⟩ : MethodName)) (z := (⟨"com/example/xidr/xidr/xpath/values/AtomicType", "isNumeric", "()Z"⟩ : MethodName)) hown (mvT hZ (hw _ (List.mem_of_getElem? (i := 58) rfl))) (mvT hZ (hw _ (List.mem_of_getElem? (i := 59) rfl))) (notFace_of_selects (args := #[]) (mvT hZ (hw _ (List.mem_of_getElem? (i := 61) rfl)))) (mvT hZ (hw _ (List.mem_of_getElem? (i := 61) rfl))) (mvT hZ (hw _ (List.mem_of_getElem? (i := 60) rfl))) (by decide) (backOf (W := 0) (rm_num1 l Z a0 hw [] w_NON_NEGATIVE_INTEGER w_INTEGER w_DECIMAL h317 n0 z317 f449 f450 f451 (hne_INTEGER_DECIMAL)) hZ (hw _ (List.mem_of_getElem? (i := 62) rfl)) (hw _ (List.mem_of_getElem? (i := 3) rfl)) (by decide) (by decide)) q452a q452c (g := (mkF m 326 #[.val (.int xa), .val (.ref b2), .val (.ref b213), .val (.int (12 : Int32)), .val (.ref w_NON_NEGATIVE_INTEGER)] [(.ref w_NON_NEGATIVE_INTEGER)])) rfl (by rw [hml]; rfl) (Steps.refl _) (argsL := []) (rest := []) (lenOf pd0 rfl) rfl (by show 2 * 0 + _ ≤ _; exact Nat.le_of_eq rfl) (hb hby at_326) (fun _ _ => ⟨rfl, e317, (by decide : 2 + 0 ≤ _), (by decide : 52 + 0 ≤ _)⟩)
    dsimp only [Pt.U, Pt.locs, Pt.cells, Pt.slots] at X452 l452 y452 z452 st452 hQ452
    subst y452 z452
    obtain ⟨rfl, M452, e452⟩ := hQ452
    have N452 : Fr n0 L452 := by rw [l452]; exact Fr.app N317 M452
    clear l452
    have X452 : Stand p l e _ s m _ below meth c T452 _ 2 52 := X452
    have pre454 : ∀ t, Steps p.tables e below (T452.setTop (mkF m 329 #[.val (.int xa), .val (.ref b2), .val (.ref b213), .val (.int (12 : Int32)), .val (.ref w_NON_NEGATIVE_INTEGER)] [(.int (1 : Int32))])) t → Steps p.tables e below (s₁.setTop (entryFrame m #[(.int xa)] maxLocals)) t := fun t k => pre448 t (st452.trans k)
    have pre456 : ∀ t, Steps p.tables e below (T452.setTop (mkF m 340 #[.val (.int xa), .val (.ref b2), .val (.ref b213), .val (.int (12 : Int32)), .val (.ref w_NON_NEGATIVE_INTEGER)] [(.int (1 : Int32))])) t → Steps p.tables e below (s₁.setTop (entryFrame m #[(.int xa)] maxLocals)) t := by
      intro t k
      refine pre454 t ?_
      refine XS.aloadN X452.here hx rfl (hb hby at_329) rfl rfl ?_
      show Steps p.tables e below (T452.setTop (mkF m 330 #[.val (.int xa), .val (.ref b2), .val (.ref b213), .val (.int (12 : Int32)), .val (.ref w_NON_NEGATIVE_INTEGER)] [(.ref b213), (.int (1 : Int32))])) _
      refine XS.iloadN X452.here hx rfl (hb hby at_330) rfl ?_
      show Steps p.tables e below (T452.setTop (mkF m 331 #[.val (.int xa), .val (.ref b2), .val (.ref b213), .val (.int (12 : Int32)), .val (.ref w_NON_NEGATIVE_INTEGER)] [(.int (12 : Int32)), (.ref b213), (.int (1 : Int32))])) _
      obtain ⟨c455, a455, q455, s455, m455, i455, u455⟩ := id V317
      have hin455 := inb_of (j := (12 : Int32)) s455 ⟨by decide, by decide⟩
      refine X452.baloadBooleans hx (j := (12 : Int32)) (v := (.int (nar .boolean (1 : Int32)))) (by rw [e452]; exact a455.1) (State.isArrayOf_alike hZ.alike a455.2.1) a455.2.2 hin455 (i455.at hin455 rfl) (g := (mkF m 331 #[.val (.int xa), .val (.ref b2), .val (.ref b213), .val (.int (12 : Int32)), .val (.ref w_NON_NEGATIVE_INTEGER)] [(.int (12 : Int32)), (.ref b213), (.int (1 : Int32))])) rfl rfl (hb hby at_331) _ ?_
      show Steps p.tables e below (T452.setTop (mkF m 332 #[.val (.int xa), .val (.ref b2), .val (.ref b213), .val (.int (12 : Int32)), .val (.ref w_NON_NEGATIVE_INTEGER)] [(.int (nar .boolean (1 : Int32))), (.int (1 : Int32))])) _
      refine XS.icmpNo X452.here hx rfl (hb hby at_332) rfl (teq (show (1 : Int32) = (nar .boolean (1 : Int32)) from rfl)).2 ?_
      show Steps p.tables e below (T452.setTop (mkF m 335 #[.val (.int xa), .val (.ref b2), .val (.ref b213), .val (.int (12 : Int32)), .val (.ref w_NON_NEGATIVE_INTEGER)] [])) _
      refine XS.iconst X452.here hx rfl (hb hby at_335) ?_
      show Steps p.tables e below (T452.setTop (mkF m 336 #[.val (.int xa), .val (.ref b2), .val (.ref b213), .val (.int (12 : Int32)), .val (.ref w_NON_NEGATIVE_INTEGER)] [(.int (1 : Int32))])) _
      refine XS.goto X452.here hx rfl (pc0 := 336) (pc' := 340) rfl (hb hby at_336) (by decide) (by decide) ?_
      show Steps p.tables e below (T452.setTop (mkF m 340 #[.val (.int xa), .val (.ref b2), .val (.ref b213), .val (.int (12 : Int32)), .val (.ref w_NON_NEGATIVE_INTEGER)] [(.int (1 : Int32))])) _
      exact k
    obtain ⟨fs, hr, hrun, hended, hW, hsame⟩ := X452.leave (v := some (.int (1 : Int32))) (fun h => by rw [Bd.returns] at h; cases h)
    refine ⟨_, _, pre456 _ ?_, hrun, hended, _, _, rfl, ?_, ⟨_, rfl⟩, hW, hsame.mono (by decide) (by decide)⟩
    · exact retN X452 hx (t := .boolean) Bd.returns (by simp) (hb hby at_340) hr
    · show Q_rm0 Z xa w_ANY_ATOMIC_TYPE w_UNTYPED_ATOMIC w_STRING w_BOOLEAN w_DECIMAL w_INTEGER w_NON_POSITIVE_INTEGER w_NEGATIVE_INTEGER w_LONG w_INT w_SHORT w_BYTE w_NON_NEGATIVE_INTEGER w_UNSIGNED_LONG w_UNSIGNED_INT w_UNSIGNED_SHORT w_UNSIGNED_BYTE w_POSITIVE_INTEGER w_FLOAT w_DOUBLE w_ANY_URI w_DATE w_TIME w_HEX_BINARY w_QNAME w_NOTATION h0 n0 _ T452.heap _
      rw [e452]
      exact ⟨rfl, N452⟩
  · subst hk
    have pre458 : ∀ t, Steps p.tables e below (T317.setTop (mkF m 326 #[.val (.int xa), .val (.ref b2), .val (.ref b213), .val (.int (13 : Int32)), .val (.ref w_UNSIGNED_LONG)] [(.ref w_UNSIGNED_LONG)])) t → Steps p.tables e below (s₁.setTop (entryFrame m #[(.int xa)] maxLocals)) t := by
      intro t k
      refine pre319 t ?_
      refine XS.aloadN X317.here hx rfl (hb hby at_319) rfl rfl ?_
      show Steps p.tables e below (T317.setTop (mkF m 320 #[.val (.int xa), .val (.ref b2), .val (.ref b213), .val (.int (13 : Int32)), .unset] [(.ref b2)])) _
      refine XS.iloadN X317.here hx rfl (hb hby at_320) rfl ?_
      show Steps p.tables e below (T317.setTop (mkF m 321 #[.val (.int xa), .val (.ref b2), .val (.ref b213), .val (.int (13 : Int32)), .unset] [(.int (13 : Int32)), (.ref b2)])) _
      obtain ⟨c457, a457, q457, s457, m457, i457, u457⟩ := id (((((((((((((((((((((((((((V210.ext E213).other W217 (Nat.ne_of_lt (Nat.lt_of_lt_of_le V210.lt (Nat.le_of_eq g213.symm)))).other W221 (Nat.ne_of_lt (Nat.lt_of_lt_of_le V210.lt (Nat.le_of_eq g213.symm)))).other W225 (Nat.ne_of_lt (Nat.lt_of_lt_of_le V210.lt (Nat.le_of_eq g213.symm)))).other W229 (Nat.ne_of_lt (Nat.lt_of_lt_of_le V210.lt (Nat.le_of_eq g213.symm)))).other W233 (Nat.ne_of_lt (Nat.lt_of_lt_of_le V210.lt (Nat.le_of_eq g213.symm)))).other W237 (Nat.ne_of_lt (Nat.lt_of_lt_of_le V210.lt (Nat.le_of_eq g213.symm)))).other W241 (Nat.ne_of_lt (Nat.lt_of_lt_of_le V210.lt (Nat.le_of_eq g213.symm)))).other W245 (Nat.ne_of_lt (Nat.lt_of_lt_of_le V210.lt (Nat.le_of_eq g213.symm)))).other W249 (Nat.ne_of_lt (Nat.lt_of_lt_of_le V210.lt (Nat.le_of_eq g213.symm)))).other W253 (Nat.ne_of_lt (Nat.lt_of_lt_of_le V210.lt (Nat.le_of_eq g213.symm)))).other W257 (Nat.ne_of_lt (Nat.lt_of_lt_of_le V210.lt (Nat.le_of_eq g213.symm)))).other W261 (Nat.ne_of_lt (Nat.lt_of_lt_of_le V210.lt (Nat.le_of_eq g213.symm)))).other W265 (Nat.ne_of_lt (Nat.lt_of_lt_of_le V210.lt (Nat.le_of_eq g213.symm)))).other W269 (Nat.ne_of_lt (Nat.lt_of_lt_of_le V210.lt (Nat.le_of_eq g213.symm)))).other W273 (Nat.ne_of_lt (Nat.lt_of_lt_of_le V210.lt (Nat.le_of_eq g213.symm)))).other W277 (Nat.ne_of_lt (Nat.lt_of_lt_of_le V210.lt (Nat.le_of_eq g213.symm)))).other W281 (Nat.ne_of_lt (Nat.lt_of_lt_of_le V210.lt (Nat.le_of_eq g213.symm)))).other W285 (Nat.ne_of_lt (Nat.lt_of_lt_of_le V210.lt (Nat.le_of_eq g213.symm)))).other W289 (Nat.ne_of_lt (Nat.lt_of_lt_of_le V210.lt (Nat.le_of_eq g213.symm)))).other W293 (Nat.ne_of_lt (Nat.lt_of_lt_of_le V210.lt (Nat.le_of_eq g213.symm)))).other W297 (Nat.ne_of_lt (Nat.lt_of_lt_of_le V210.lt (Nat.le_of_eq g213.symm)))).other W301 (Nat.ne_of_lt (Nat.lt_of_lt_of_le V210.lt (Nat.le_of_eq g213.symm)))).other W305 (Nat.ne_of_lt (Nat.lt_of_lt_of_le V210.lt (Nat.le_of_eq g213.symm)))).other W309 (Nat.ne_of_lt (Nat.lt_of_lt_of_le V210.lt (Nat.le_of_eq g213.symm)))).other W313 (Nat.ne_of_lt (Nat.lt_of_lt_of_le V210.lt (Nat.le_of_eq g213.symm)))).other W317 (Nat.ne_of_lt (Nat.lt_of_lt_of_le V210.lt (Nat.le_of_eq g213.symm))))
      have hin457 := inb_of (j := (13 : Int32)) s457 ⟨by decide, by decide⟩
      refine X317.aaload hx (j := (13 : Int32)) (v := (.ref w_UNSIGNED_LONG)) (by rw [e317]; exact a457.1) (State.isArrayOf_alike hZ.alike a457.2.1) rfl a457.2.2 hin457 (i457.at hin457 rfl) (g := (mkF m 321 #[.val (.int xa), .val (.ref b2), .val (.ref b213), .val (.int (13 : Int32)), .unset] [(.int (13 : Int32)), (.ref b2)])) rfl rfl (hb hby at_321) _ ?_
      show Steps p.tables e below (T317.setTop (mkF m 322 #[.val (.int xa), .val (.ref b2), .val (.ref b213), .val (.int (13 : Int32)), .unset] [(.ref w_UNSIGNED_LONG)])) _
      refine XS.astore X317.here hx rfl (hb hby at_322) rfl rfl (l' := #[.val (.int xa), .val (.ref b2), .val (.ref b213), .val (.int (13 : Int32)), .val (.ref w_UNSIGNED_LONG)]) rfl ?_
      show Steps p.tables e below (T317.setTop (mkF m 324 #[.val (.int xa), .val (.ref b2), .val (.ref b213), .val (.int (13 : Int32)), .val (.ref w_UNSIGNED_LONG)] [])) _
      refine XS.aload X317.here hx rfl (hb hby at_324) rfl rfl ?_
      show Steps p.tables e below (T317.setTop (mkF m 326 #[.val (.int xa), .val (.ref b2), .val (.ref b213), .val (.int (13 : Int32)), .val (.ref w_UNSIGNED_LONG)] [(.ref w_UNSIGNED_LONG)])) _
      exact k
    have f459 := (P_UNSIGNED_LONG.ext (own_keep_ext K317))
    have f460 := (((((((((((((((((((((((((((((((((((((((((((((((((f36.wr W42).wr W50).wr W58).wr W66).wr W74).wr W82).wr W90).wr W98).wr W106).wr W114).wr W122).wr W130).wr W138).wr W146).wr W154).wr W162).wr W170).wr W178).wr W186).wr W194).wr W202).wr W210).ext E213).wr W217).wr W221).wr W225).wr W229).wr W233).wr W237).wr W241).wr W245).wr W249).wr W253).wr W257).wr W261).wr W265).wr W269).wr W273).wr W277).wr W281).wr W285).wr W289).wr W293).wr W297).wr W301).wr W305).wr W309).wr W313).wr W317)
    have f461 := ((((((((((((((((((((((((((((((((((((((((((((((((f44.wr W50).wr W58).wr W66).wr W74).wr W82).wr W90).wr W98).wr W106).wr W114).wr W122).wr W130).wr W138).wr W146).wr W154).wr W162).wr W170).wr W178).wr W186).wr W194).wr W202).wr W210).ext E213).wr W217).wr W221).wr W225).wr W229).wr W233).wr W237).wr W241).wr W245).wr W249).wr W253).wr W257).wr W261).wr W265).wr W269).wr W273).wr W277).wr W281).wr W285).wr W289).wr W293).wr W297).wr W301).wr W305).wr W309).wr W313).wr W317)
    have f463 := ((((((((((((((((((((((((((((((((((((((((f113.wr W114).wr W122).wr W130).wr W138).wr W146).wr W154).wr W162).wr W170).wr W178).wr W186).wr W194).wr W202).wr W210).ext E213).wr W217).wr W221).wr W225).wr W229).wr W233).wr W237).wr W241).wr W245).wr W249).wr W253).wr W257).wr W261).wr W265).wr W269).wr W273).wr W277).wr W281).wr W285).wr W289).wr W293).wr W297).wr W301).wr W305).wr W309).wr W313).wr W317)
    obtain ⟨cq462, kq462, q462a, q462b, q462c⟩ := isOf hZ e317 f463
    obtain ⟨_, _, ⟨T462, L462, k462, n462⟩, -, X462, ⟨Lc462, hQ462, l462, y462, z462⟩, st462⟩ := X317.virtualBack hx (y := (⟨"com/example/xidr/xidr/xpath/values/AtomicType", "isNumeric", "()Z"⟩ : MethodName)) (z := (⟨"com/example/xidr/xidr/xpath/values/AtomicType", "isNumeric", "()Z"⟩ : MethodName)) hown (mvT hZ (hw _ (List.mem_of_getElem? (i := 58) rfl))) (mvT hZ (hw _ (List.mem_of_getElem? (i := 59) rfl))) (notFace_of_selects (args := #[]) (mvT hZ (hw _ (List.mem_of_getElem? (i := 61) rfl)))) (mvT hZ (hw _ (List.mem_of_getElem? (i := 61) rfl))) (mvT hZ (hw _ (List.mem_of_getElem? (i := 60) rfl))) (by decide) (backOf (W := 0) (rm_num1 l Z a0 hw [] w_UNSIGNED_LONG w_INTEGER w_DECIMAL h317 n0 z317 f459 f460 f461 (hne_INTEGER_DECIMAL)) hZ (hw _ (List.mem_of_getElem? (i := 62) rfl)) (hw _ (List.mem_of_getElem? (i := 3) rfl)) (by decide) (by decide)) q462a q462c (g := (mkF m 326 #[.val (.int xa), .val (.ref b2), .val (.ref b213), .val (.int (13 : Int32)), .val (.ref w_UNSIGNED_LONG)] [(.ref w_UNSIGNED_LONG)])) rfl (by rw [hml]; rfl) (Steps.refl _) (argsL := []) (rest := []) (lenOf pd0 rfl) rfl (by show 2 * 0 + _ ≤ _; exact Nat.le_of_eq rfl) (hb hby at_326) (fun _ _ => ⟨rfl, e317, (by decide : 2 + 0 ≤ _), (by decide : 52 + 0 ≤ _)⟩)
    dsimp only [Pt.U, Pt.locs, Pt.cells, Pt.slots] at X462 l462 y462 z462 st462 hQ462
    subst y462 z462
    obtain ⟨rfl, M462, e462⟩ := hQ462
    have N462 : Fr n0 L462 := by rw [l462]; exact Fr.app N317 M462
    clear l462
    have X462 : Stand p l e _ s m _ below meth c T462 _ 2 52 := X462
    have pre464 : ∀ t, Steps p.tables e below (T462.setTop (mkF m 329 #[.val (.int xa), .val (.ref b2), .val (.ref b213), .val (.int (13 : Int32)), .val (.ref w_UNSIGNED_LONG)] [(.int (1 : Int32))])) t → Steps p.tables e below (s₁.setTop (entryFrame m #[(.int xa)] maxLocals)) t := fun t k => pre458 t (st462.trans k)
    have pre466 : ∀ t, Steps p.tables e below (T462.setTop (mkF m 340 #[.val (.int xa), .val (.ref b2), .val (.ref b213), .val (.int (13 : Int32)), .val (.ref w_UNSIGNED_LONG)] [(.int (1 : Int32))])) t → Steps p.tables e below (s₁.setTop (entryFrame m #[(.int xa)] maxLocals)) t := by
      intro t k
      refine pre464 t ?_
      refine XS.aloadN X462.here hx rfl (hb hby at_329) rfl rfl ?_
      show Steps p.tables e below (T462.setTop (mkF m 330 #[.val (.int xa), .val (.ref b2), .val (.ref b213), .val (.int (13 : Int32)), .val (.ref w_UNSIGNED_LONG)] [(.ref b213), (.int (1 : Int32))])) _
      refine XS.iloadN X462.here hx rfl (hb hby at_330) rfl ?_
      show Steps p.tables e below (T462.setTop (mkF m 331 #[.val (.int xa), .val (.ref b2), .val (.ref b213), .val (.int (13 : Int32)), .val (.ref w_UNSIGNED_LONG)] [(.int (13 : Int32)), (.ref b213), (.int (1 : Int32))])) _
      obtain ⟨c465, a465, q465, s465, m465, i465, u465⟩ := id V317
      have hin465 := inb_of (j := (13 : Int32)) s465 ⟨by decide, by decide⟩
      refine X462.baloadBooleans hx (j := (13 : Int32)) (v := (.int (nar .boolean (1 : Int32)))) (by rw [e462]; exact a465.1) (State.isArrayOf_alike hZ.alike a465.2.1) a465.2.2 hin465 (i465.at hin465 rfl) (g := (mkF m 331 #[.val (.int xa), .val (.ref b2), .val (.ref b213), .val (.int (13 : Int32)), .val (.ref w_UNSIGNED_LONG)] [(.int (13 : Int32)), (.ref b213), (.int (1 : Int32))])) rfl rfl (hb hby at_331) _ ?_
      show Steps p.tables e below (T462.setTop (mkF m 332 #[.val (.int xa), .val (.ref b2), .val (.ref b213), .val (.int (13 : Int32)), .val (.ref w_UNSIGNED_LONG)] [(.int (nar .boolean (1 : Int32))), (.int (1 : Int32))])) _
      refine XS.icmpNo X462.here hx rfl (hb hby at_332) rfl (teq (show (1 : Int32) = (nar .boolean (1 : Int32)) from rfl)).2 ?_
      show Steps p.tables e below (T462.setTop (mkF m 335 #[.val (.int xa), .val (.ref b2), .val (.ref b213), .val (.int (13 : Int32)), .val (.ref w_UNSIGNED_LONG)] [])) _
      refine XS.iconst X462.here hx rfl (hb hby at_335) ?_
      show Steps p.tables e below (T462.setTop (mkF m 336 #[.val (.int xa), .val (.ref b2), .val (.ref b213), .val (.int (13 : Int32)), .val (.ref w_UNSIGNED_LONG)] [(.int (1 : Int32))])) _
      refine XS.goto X462.here hx rfl (pc0 := 336) (pc' := 340) rfl (hb hby at_336) (by decide) (by decide) ?_
      show Steps p.tables e below (T462.setTop (mkF m 340 #[.val (.int xa), .val (.ref b2), .val (.ref b213), .val (.int (13 : Int32)), .val (.ref w_UNSIGNED_LONG)] [(.int (1 : Int32))])) _
      exact k
    obtain ⟨fs, hr, hrun, hended, hW, hsame⟩ := X462.leave (v := some (.int (1 : Int32))) (fun h => by rw [Bd.returns] at h; cases h)
    refine ⟨_, _, pre466 _ ?_, hrun, hended, _, _, rfl, ?_, ⟨_, rfl⟩, hW, hsame.mono (by decide) (by decide)⟩
    · exact retN X462 hx (t := .boolean) Bd.returns (by simp) (hb hby at_340) hr
    · show Q_rm0 Z xa w_ANY_ATOMIC_TYPE w_UNTYPED_ATOMIC w_STRING w_BOOLEAN w_DECIMAL w_INTEGER w_NON_POSITIVE_INTEGER w_NEGATIVE_INTEGER w_LONG w_INT w_SHORT w_BYTE w_NON_NEGATIVE_INTEGER w_UNSIGNED_LONG w_UNSIGNED_INT w_UNSIGNED_SHORT w_UNSIGNED_BYTE w_POSITIVE_INTEGER w_FLOAT w_DOUBLE w_ANY_URI w_DATE w_TIME w_HEX_BINARY w_QNAME w_NOTATION h0 n0 _ T462.heap _
      rw [e462]
      exact ⟨rfl, N462⟩
  · subst hk
    have pre468 : ∀ t, Steps p.tables e below (T317.setTop (mkF m 326 #[.val (.int xa), .val (.ref b2), .val (.ref b213), .val (.int (14 : Int32)), .val (.ref w_UNSIGNED_INT)] [(.ref w_UNSIGNED_INT)])) t → Steps p.tables e below (s₁.setTop (entryFrame m #[(.int xa)] maxLocals)) t := by
      intro t k
      refine pre319 t ?_
      refine XS.aloadN X317.here hx rfl (hb hby at_319) rfl rfl ?_
      show Steps p.tables e below (T317.setTop (mkF m 320 #[.val (.int xa), .val (.ref b2), .val (.ref b213), .val (.int (14 : Int32)), .unset] [(.ref b2)])) _
      refine XS.iloadN X317.here hx rfl (hb hby at_320) rfl ?_
      show Steps p.tables e below (T317.setTop (mkF m 321 #[.val (.int xa), .val (.ref b2), .val (.ref b213), .val (.int (14 : Int32)), .unset] [(.int (14 : Int32)), (.ref b2)])) _
      obtain ⟨c467, a467, q467, s467, m467, i467, u467⟩ := id (((((((((((((((((((((((((((V210.ext E213).other W217 (Nat.ne_of_lt (Nat.lt_of_lt_of_le V210.lt (Nat.le_of_eq g213.symm)))).other W221 (Nat.ne_of_lt (Nat.lt_of_lt_of_le V210.lt (Nat.le_of_eq g213.symm)))).other W225 (Nat.ne_of_lt (Nat.lt_of_lt_of_le V210.lt (Nat.le_of_eq g213.symm)))).other W229 (Nat.ne_of_lt (Nat.lt_of_lt_of_le V210.lt (Nat.le_of_eq g213.symm)))).other W233 (Nat.ne_of_lt (Nat.lt_of_lt_of_le V210.lt (Nat.le_of_eq g213.symm)))).other W237 (Nat.ne_of_lt (Nat.lt_of_lt_of_le V210.lt (Nat.le_of_eq g213.symm)))).other W241 (Nat.ne_of_lt (Nat.lt_of_lt_of_le V210.lt (Nat.le_of_eq g213.symm)))).other W245 (Nat.ne_of_lt (Nat.lt_of_lt_of_le V210.lt (Nat.le_of_eq g213.symm)))).other W249 (Nat.ne_of_lt (Nat.lt_of_lt_of_le V210.lt (Nat.le_of_eq g213.symm)))).other W253 (Nat.ne_of_lt (Nat.lt_of_lt_of_le V210.lt (Nat.le_of_eq g213.symm)))).other W257 (Nat.ne_of_lt (Nat.lt_of_lt_of_le V210.lt (Nat.le_of_eq g213.symm)))).other W261 (Nat.ne_of_lt (Nat.lt_of_lt_of_le V210.lt (Nat.le_of_eq g213.symm)))).other W265 (Nat.ne_of_lt (Nat.lt_of_lt_of_le V210.lt (Nat.le_of_eq g213.symm)))).other W269 (Nat.ne_of_lt (Nat.lt_of_lt_of_le V210.lt (Nat.le_of_eq g213.symm)))).other W273 (Nat.ne_of_lt (Nat.lt_of_lt_of_le V210.lt (Nat.le_of_eq g213.symm)))).other W277 (Nat.ne_of_lt (Nat.lt_of_lt_of_le V210.lt (Nat.le_of_eq g213.symm)))).other W281 (Nat.ne_of_lt (Nat.lt_of_lt_of_le V210.lt (Nat.le_of_eq g213.symm)))).other W285 (Nat.ne_of_lt (Nat.lt_of_lt_of_le V210.lt (Nat.le_of_eq g213.symm)))).other W289 (Nat.ne_of_lt (Nat.lt_of_lt_of_le V210.lt (Nat.le_of_eq g213.symm)))).other W293 (Nat.ne_of_lt (Nat.lt_of_lt_of_le V210.lt (Nat.le_of_eq g213.symm)))).other W297 (Nat.ne_of_lt (Nat.lt_of_lt_of_le V210.lt (Nat.le_of_eq g213.symm)))).other W301 (Nat.ne_of_lt (Nat.lt_of_lt_of_le V210.lt (Nat.le_of_eq g213.symm)))).other W305 (Nat.ne_of_lt (Nat.lt_of_lt_of_le V210.lt (Nat.le_of_eq g213.symm)))).other W309 (Nat.ne_of_lt (Nat.lt_of_lt_of_le V210.lt (Nat.le_of_eq g213.symm)))).other W313 (Nat.ne_of_lt (Nat.lt_of_lt_of_le V210.lt (Nat.le_of_eq g213.symm)))).other W317 (Nat.ne_of_lt (Nat.lt_of_lt_of_le V210.lt (Nat.le_of_eq g213.symm))))
      have hin467 := inb_of (j := (14 : Int32)) s467 ⟨by decide, by decide⟩
      refine X317.aaload hx (j := (14 : Int32)) (v := (.ref w_UNSIGNED_INT)) (by rw [e317]; exact a467.1) (State.isArrayOf_alike hZ.alike a467.2.1) rfl a467.2.2 hin467 (i467.at hin467 rfl) (g := (mkF m 321 #[.val (.int xa), .val (.ref b2), .val (.ref b213), .val (.int (14 : Int32)), .unset] [(.int (14 : Int32)), (.ref b2)])) rfl rfl (hb hby at_321) _ ?_
      show Steps p.tables e below (T317.setTop (mkF m 322 #[.val (.int xa), .val (.ref b2), .val (.ref b213), .val (.int (14 : Int32)), .unset] [(.ref w_UNSIGNED_INT)])) _
      refine XS.astore X317.here hx rfl (hb hby at_322) rfl rfl (l' := #[.val (.int xa), .val (.ref b2), .val (.ref b213), .val (.int (14 : Int32)), .val (.ref w_UNSIGNED_INT)]) rfl ?_
      show Steps p.tables e below (T317.setTop (mkF m 324 #[.val (.int xa), .val (.ref b2), .val (.ref b213), .val (.int (14 : Int32)), .val (.ref w_UNSIGNED_INT)] [])) _
      refine XS.aload X317.here hx rfl (hb hby at_324) rfl rfl ?_
      show Steps p.tables e below (T317.setTop (mkF m 326 #[.val (.int xa), .val (.ref b2), .val (.ref b213), .val (.int (14 : Int32)), .val (.ref w_UNSIGNED_INT)] [(.ref w_UNSIGNED_INT)])) _
      exact k
    have f469 := (P_UNSIGNED_INT.ext (own_keep_ext K317))
    have f470 := (((((((((((((((((((((((((((((((((((((((((((((((((f36.wr W42).wr W50).wr W58).wr W66).wr W74).wr W82).wr W90).wr W98).wr W106).wr W114).wr W122).wr W130).wr W138).wr W146).wr W154).wr W162).wr W170).wr W178).wr W186).wr W194).wr W202).wr W210).ext E213).wr W217).wr W221).wr W225).wr W229).wr W233).wr W237).wr W241).wr W245).wr W249).wr W253).wr W257).wr W261).wr W265).wr W269).wr W273).wr W277).wr W281).wr W285).wr W289).wr W293).wr W297).wr W301).wr W305).wr W309).wr W313).wr W317)
    have f471 := ((((((((((((((((((((((((((((((((((((((((((((((((f44.wr W50).wr W58).wr W66).wr W74).wr W82).wr W90).wr W98).wr W106).wr W114).wr W122).wr W130).wr W138).wr W146).wr W154).wr W162).wr W170).wr W178).wr W186).wr W194).wr W202).wr W210).ext E213).wr W217).wr W221).wr W225).wr W229).wr W233).wr W237).wr W241).wr W245).wr W249).wr W253).wr W257).wr W261).wr W265).wr W269).wr W273).wr W277).wr W281).wr W285).wr W289).wr W293).wr W297).wr W301).wr W305).wr W309).wr W313).wr W317)
    have f473 := (((((((((((((((((((((((((((((((((((((((f121.wr W122).wr W130).wr W138).wr W146).wr W154).wr W162).wr W170).wr W178).wr W186).wr W194).wr W202).wr W210).ext E213).wr W217).wr W221).wr W225).wr W229).wr W233).wr W237).wr W241).wr W245).wr W249).wr W253).wr W257).wr W261).wr W265).wr W269).wr W273).wr W277).wr W281).wr W285).wr W289).wr W293).wr W297).wr W301).wr W305).wr W309).wr W313).wr W317)
    obtain ⟨cq472, kq472, q472a, q472b, q472c⟩ := isOf hZ e317 f473
    obtain ⟨_, _, ⟨T472, L472, k472, n472⟩, -, X472, ⟨Lc472, hQ472, l472, y472, z472⟩, st472⟩ := X317.virtualBack hx (y := (⟨"com/example/xidr/xidr/xpath/values/AtomicType", "isNumeric", "()Z"⟩ : MethodName)) (z := (⟨"com/example/xidr/xidr/xpath/values/AtomicType", "isNumeric", "()Z"⟩ : MethodName)) hown (mvT hZ (hw _ (List.mem_of_getElem? (i := 58) rfl))) (mvT hZ (hw _ (List.mem_of_getElem? (i := 59) rfl))) (notFace_of_selects (args := #[]) (mvT hZ (hw _ (List.mem_of_getElem? (i := 61) rfl)))) (mvT hZ (hw _ (List.mem_of_getElem? (i := 61) rfl))) (mvT hZ (hw _ (List.mem_of_getElem? (i := 60) rfl))) (by decide) (backOf (W := 0) (rm_num1 l Z a0 hw [] w_UNSIGNED_INT w_INTEGER w_DECIMAL h317 n0 z317 f469 f470 f471 (hne_INTEGER_DECIMAL)) hZ (hw _ (List.mem_of_getElem? (i := 62) rfl)) (hw _ (List.mem_of_getElem? (i := 3) rfl)) (by decide) (by decide)) q472a q472c (g := (mkF m 326 #[.val (.int xa), .val (.ref b2), .val (.ref b213), .val (.int (14 : Int32)), .val (.ref w_UNSIGNED_INT)] [(.ref w_UNSIGNED_INT)])) rfl (by rw [hml]; rfl) (Steps.refl _) (argsL := []) (rest := []) (lenOf pd0 rfl) rfl (by show 2 * 0 + _ ≤ _; exact Nat.le_of_eq rfl) (hb hby at_326) (fun _ _ => ⟨rfl, e317, (by decide : 2 + 0 ≤ _), (by decide : 52 + 0 ≤ _)⟩)
    dsimp only [Pt.U, Pt.locs, Pt.cells, Pt.slots] at X472 l472 y472 z472 st472 hQ472
    subst y472 z472
    obtain ⟨rfl, M472, e472⟩ := hQ472
    have N472 : Fr n0 L472 := by rw [l472]; exact Fr.app N317 M472
    clear l472
    have X472 : Stand p l e _ s m _ below meth c T472 _ 2 52 := X472
    have pre474 : ∀ t, Steps p.tables e below (T472.setTop (mkF m 329 #[.val (.int xa), .val (.ref b2), .val (.ref b213), .val (.int (14 : Int32)), .val (.ref w_UNSIGNED_INT)] [(.int (1 : Int32))])) t → Steps p.tables e below (s₁.setTop (entryFrame m #[(.int xa)] maxLocals)) t := fun t k => pre468 t (st472.trans k)
    have pre476 : ∀ t, Steps p.tables e below (T472.setTop (mkF m 340 #[.val (.int xa), .val (.ref b2), .val (.ref b213), .val (.int (14 : Int32)), .val (.ref w_UNSIGNED_INT)] [(.int (1 : Int32))])) t → Steps p.tables e below (s₁.setTop (entryFrame m #[(.int xa)] maxLocals)) t := by
      intro t k
      refine pre474 t ?_
      refine XS.aloadN X472.here hx rfl (hb hby at_329) rfl rfl ?_
      show Steps p.tables e below (T472.setTop (mkF m 330 #[.val (.int xa), .val (.ref b2), .val (.ref b213), .val (.int (14 : Int32)), .val (.ref w_UNSIGNED_INT)] [(.ref b213), (.int (1 : Int32))])) _
      refine XS.iloadN X472.here hx rfl (hb hby at_330) rfl ?_
      show Steps p.tables e below (T472.setTop (mkF m 331 #[.val (.int xa), .val (.ref b2), .val (.ref b213), .val (.int (14 : Int32)), .val (.ref w_UNSIGNED_INT)] [(.int (14 : Int32)), (.ref b213), (.int (1 : Int32))])) _
      obtain ⟨c475, a475, q475, s475, m475, i475, u475⟩ := id V317
      have hin475 := inb_of (j := (14 : Int32)) s475 ⟨by decide, by decide⟩
      refine X472.baloadBooleans hx (j := (14 : Int32)) (v := (.int (nar .boolean (1 : Int32)))) (by rw [e472]; exact a475.1) (State.isArrayOf_alike hZ.alike a475.2.1) a475.2.2 hin475 (i475.at hin475 rfl) (g := (mkF m 331 #[.val (.int xa), .val (.ref b2), .val (.ref b213), .val (.int (14 : Int32)), .val (.ref w_UNSIGNED_INT)] [(.int (14 : Int32)), (.ref b213), (.int (1 : Int32))])) rfl rfl (hb hby at_331) _ ?_
      show Steps p.tables e below (T472.setTop (mkF m 332 #[.val (.int xa), .val (.ref b2), .val (.ref b213), .val (.int (14 : Int32)), .val (.ref w_UNSIGNED_INT)] [(.int (nar .boolean (1 : Int32))), (.int (1 : Int32))])) _
      refine XS.icmpNo X472.here hx rfl (hb hby at_332) rfl (teq (show (1 : Int32) = (nar .boolean (1 : Int32)) from rfl)).2 ?_
      show Steps p.tables e below (T472.setTop (mkF m 335 #[.val (.int xa), .val (.ref b2), .val (.ref b213), .val (.int (14 : Int32)), .val (.ref w_UNSIGNED_INT)] [])) _
      refine XS.iconst X472.here hx rfl (hb hby at_335) ?_
      show Steps p.tables e below (T472.setTop (mkF m 336 #[.val (.int xa), .val (.ref b2), .val (.ref b213), .val (.int (14 : Int32)), .val (.ref w_UNSIGNED_INT)] [(.int (1 : Int32))])) _
      refine XS.goto X472.here hx rfl (pc0 := 336) (pc' := 340) rfl (hb hby at_336) (by decide) (by decide) ?_
      show Steps p.tables e below (T472.setTop (mkF m 340 #[.val (.int xa), .val (.ref b2), .val (.ref b213), .val (.int (14 : Int32)), .val (.ref w_UNSIGNED_INT)] [(.int (1 : Int32))])) _
      exact k
    obtain ⟨fs, hr, hrun, hended, hW, hsame⟩ := X472.leave (v := some (.int (1 : Int32))) (fun h => by rw [Bd.returns] at h; cases h)
    refine ⟨_, _, pre476 _ ?_, hrun, hended, _, _, rfl, ?_, ⟨_, rfl⟩, hW, hsame.mono (by decide) (by decide)⟩
    · exact retN X472 hx (t := .boolean) Bd.returns (by simp) (hb hby at_340) hr
    · show Q_rm0 Z xa w_ANY_ATOMIC_TYPE w_UNTYPED_ATOMIC w_STRING w_BOOLEAN w_DECIMAL w_INTEGER w_NON_POSITIVE_INTEGER w_NEGATIVE_INTEGER w_LONG w_INT w_SHORT w_BYTE w_NON_NEGATIVE_INTEGER w_UNSIGNED_LONG w_UNSIGNED_INT w_UNSIGNED_SHORT w_UNSIGNED_BYTE w_POSITIVE_INTEGER w_FLOAT w_DOUBLE w_ANY_URI w_DATE w_TIME w_HEX_BINARY w_QNAME w_NOTATION h0 n0 _ T472.heap _
      rw [e472]
      exact ⟨rfl, N472⟩
  · subst hk
    have pre478 : ∀ t, Steps p.tables e below (T317.setTop (mkF m 326 #[.val (.int xa), .val (.ref b2), .val (.ref b213), .val (.int (15 : Int32)), .val (.ref w_UNSIGNED_SHORT)] [(.ref w_UNSIGNED_SHORT)])) t → Steps p.tables e below (s₁.setTop (entryFrame m #[(.int xa)] maxLocals)) t := by
      intro t k
      refine pre319 t ?_
      refine XS.aloadN X317.here hx rfl (hb hby at_319) rfl rfl ?_
      show Steps p.tables e below (T317.setTop (mkF m 320 #[.val (.int xa), .val (.ref b2), .val (.ref b213), .val (.int (15 : Int32)), .unset] [(.ref b2)])) _
      refine XS.iloadN X317.here hx rfl (hb hby at_320) rfl ?_
      show Steps p.tables e below (T317.setTop (mkF m 321 #[.val (.int xa), .val (.ref b2), .val (.ref b213), .val (.int (15 : Int32)), .unset] [(.int (15 : Int32)), (.ref b2)])) _
      obtain ⟨c477, a477, q477, s477, m477, i477, u477⟩ := id (((((((((((((((((((((((((((V210.ext E213).other W217 (Nat.ne_of_lt (Nat.lt_of_lt_of_le V210.lt (Nat.le_of_eq g213.symm)))).other W221 (Nat.ne_of_lt (Nat.lt_of_lt_of_le V210.lt (Nat.le_of_eq g213.symm)))).other W225 (Nat.ne_of_lt (Nat.lt_of_lt_of_le V210.lt (Nat.le_of_eq g213.symm)))).other W229 (Nat.ne_of_lt (Nat.lt_of_lt_of_le V210.lt (Nat.le_of_eq g213.symm)))).other W233 (Nat.ne_of_lt (Nat.lt_of_lt_of_le V210.lt (Nat.le_of_eq g213.symm)))).other W237 (Nat.ne_of_lt (Nat.lt_of_lt_of_le V210.lt (Nat.le_of_eq g213.symm)))).other W241 (Nat.ne_of_lt (Nat.lt_of_lt_of_le V210.lt (Nat.le_of_eq g213.symm)))).other W245 (Nat.ne_of_lt (Nat.lt_of_lt_of_le V210.lt (Nat.le_of_eq g213.symm)))).other W249 (Nat.ne_of_lt (Nat.lt_of_lt_of_le V210.lt (Nat.le_of_eq g213.symm)))).other W253 (Nat.ne_of_lt (Nat.lt_of_lt_of_le V210.lt (Nat.le_of_eq g213.symm)))).other W257 (Nat.ne_of_lt (Nat.lt_of_lt_of_le V210.lt (Nat.le_of_eq g213.symm)))).other W261 (Nat.ne_of_lt (Nat.lt_of_lt_of_le V210.lt (Nat.le_of_eq g213.symm)))).other W265 (Nat.ne_of_lt (Nat.lt_of_lt_of_le V210.lt (Nat.le_of_eq g213.symm)))).other W269 (Nat.ne_of_lt (Nat.lt_of_lt_of_le V210.lt (Nat.le_of_eq g213.symm)))).other W273 (Nat.ne_of_lt (Nat.lt_of_lt_of_le V210.lt (Nat.le_of_eq g213.symm)))).other W277 (Nat.ne_of_lt (Nat.lt_of_lt_of_le V210.lt (Nat.le_of_eq g213.symm)))).other W281 (Nat.ne_of_lt (Nat.lt_of_lt_of_le V210.lt (Nat.le_of_eq g213.symm)))).other W285 (Nat.ne_of_lt (Nat.lt_of_lt_of_le V210.lt (Nat.le_of_eq g213.symm)))).other W289 (Nat.ne_of_lt (Nat.lt_of_lt_of_le V210.lt (Nat.le_of_eq g213.symm)))).other W293 (Nat.ne_of_lt (Nat.lt_of_lt_of_le V210.lt (Nat.le_of_eq g213.symm)))).other W297 (Nat.ne_of_lt (Nat.lt_of_lt_of_le V210.lt (Nat.le_of_eq g213.symm)))).other W301 (Nat.ne_of_lt (Nat.lt_of_lt_of_le V210.lt (Nat.le_of_eq g213.symm)))).other W305 (Nat.ne_of_lt (Nat.lt_of_lt_of_le V210.lt (Nat.le_of_eq g213.symm)))).other W309 (Nat.ne_of_lt (Nat.lt_of_lt_of_le V210.lt (Nat.le_of_eq g213.symm)))).other W313 (Nat.ne_of_lt (Nat.lt_of_lt_of_le V210.lt (Nat.le_of_eq g213.symm)))).other W317 (Nat.ne_of_lt (Nat.lt_of_lt_of_le V210.lt (Nat.le_of_eq g213.symm))))
      have hin477 := inb_of (j := (15 : Int32)) s477 ⟨by decide, by decide⟩
      refine X317.aaload hx (j := (15 : Int32)) (v := (.ref w_UNSIGNED_SHORT)) (by rw [e317]; exact a477.1) (State.isArrayOf_alike hZ.alike a477.2.1) rfl a477.2.2 hin477 (i477.at hin477 rfl) (g := (mkF m 321 #[.val (.int xa), .val (.ref b2), .val (.ref b213), .val (.int (15 : Int32)), .unset] [(.int (15 : Int32)), (.ref b2)])) rfl rfl (hb hby at_321) _ ?_
      show Steps p.tables e below (T317.setTop (mkF m 322 #[.val (.int xa), .val (.ref b2), .val (.ref b213), .val (.int (15 : Int32)), .unset] [(.ref w_UNSIGNED_SHORT)])) _
      refine XS.astore X317.here hx rfl (hb hby at_322) rfl rfl (l' := #[.val (.int xa), .val (.ref b2), .val (.ref b213), .val (.int (15 : Int32)), .val (.ref w_UNSIGNED_SHORT)]) rfl ?_
      show Steps p.tables e below (T317.setTop (mkF m 324 #[.val (.int xa), .val (.ref b2), .val (.ref b213), .val (.int (15 : Int32)), .val (.ref w_UNSIGNED_SHORT)] [])) _
      refine XS.aload X317.here hx rfl (hb hby at_324) rfl rfl ?_
      show Steps p.tables e below (T317.setTop (mkF m 326 #[.val (.int xa), .val (.ref b2), .val (.ref b213), .val (.int (15 : Int32)), .val (.ref w_UNSIGNED_SHORT)] [(.ref w_UNSIGNED_SHORT)])) _
      exact k
    have f479 := (P_UNSIGNED_SHORT.ext (own_keep_ext K317))
    have f480 := (((((((((((((((((((((((((((((((((((((((((((((((((f36.wr W42).wr W50).wr W58).wr W66).wr W74).wr W82).wr W90).wr W98).wr W106).wr W114).wr W122).wr W130).wr W138).wr W146).wr W154).wr W162).wr W170).wr W178).wr W186).wr W194).wr W202).wr W210).ext E213).wr W217).wr W221).wr W225).wr W229).wr W233).wr W237).wr W241).wr W245).wr W249).wr W253).wr W257).wr W261).wr W265).wr W269).wr W273).wr W277).wr W281).wr W285).wr W289).wr W293).wr W297).wr W301).wr W305).wr W309).wr W313).wr W317)
    have f481 := ((((((((((((((((((((((((((((((((((((((((((((((((f44.wr W50).wr W58).wr W66).wr W74).wr W82).wr W90).wr W98).wr W106).wr W114).wr W122).wr W130).wr W138).wr W146).wr W154).wr W162).wr W170).wr W178).wr W186).wr W194).wr W202).wr W210).ext E213).wr W217).wr W221).wr W225).wr W229).wr W233).wr W237).wr W241).wr W245).wr W249).wr W253).wr W257).wr W261).wr W265).wr W269).wr W273).wr W277).wr W281).wr W285).wr W289).wr W293).wr W297).wr W301).wr W305).wr W309).wr W313).wr W317)
    have f483 := ((((((((((((((((((((((((((((((((((((((f129.wr W130).wr W138).wr W146).wr W154).wr W162).wr W170).wr W178).wr W186).wr W194).wr W202).wr W210).ext E213).wr W217).wr W221).wr W225).wr W229).wr W233).wr W237).wr W241).wr W245).wr W249).wr W253).wr W257).wr W261).wr W265).wr W269).wr W273).wr W277).wr W281).wr W285).wr W289).wr W293).wr W297).wr W301).wr W305).wr W309).wr W313).wr W317)
    obtain ⟨cq482, kq482, q482a, q482b, q482c⟩ := isOf hZ e317 f483
    obtain ⟨_, _, ⟨T482, L482, k482, n482⟩, -, X482, ⟨Lc482, hQ482, l482, y482, z482⟩, st482⟩ := X317.virtualBack hx (y := (⟨"com/example/xidr/xidr/xpath/values/AtomicType", "isNumeric", "()Z"⟩ : MethodName)) (z := (⟨"com/example/xidr/xidr/xpath/values/AtomicType", "isNumeric", "()Z"⟩ : MethodName)) hown (mvT hZ (hw _ (List.mem_of_getElem? (i := 58) rfl))) (mvT hZ (hw _ (List.mem_of_getElem? (i := 59) rfl))) (notFace_of_selects (args := #[]) (mvT hZ (hw _ (List.mem_of_getElem? (i := 61) rfl)))) (mvT hZ (hw _ (List.mem_of_getElem? (i := 61) rfl))) (mvT hZ (hw _ (List.mem_of_getElem? (i := 60) rfl))) (by decide) (backOf (W := 0) (rm_num1 l Z a0 hw [] w_UNSIGNED_SHORT w_INTEGER w_DECIMAL h317 n0 z317 f479 f480 f481 (hne_INTEGER_DECIMAL)) hZ (hw _ (List.mem_of_getElem? (i := 62) rfl)) (hw _ (List.mem_of_getElem? (i := 3) rfl)) (by decide) (by decide)) q482a q482c (g := (mkF m 326 #[.val (.int xa), .val (.ref b2), .val (.ref b213), .val (.int (15 : Int32)), .val (.ref w_UNSIGNED_SHORT)] [(.ref w_UNSIGNED_SHORT)])) rfl (by rw [hml]; rfl) (Steps.refl _) (argsL := []) (rest := []) (lenOf pd0 rfl) rfl (by show 2 * 0 + _ ≤ _; exact Nat.le_of_eq rfl) (hb hby at_326) (fun _ _ => ⟨rfl, e317, (by decide : 2 + 0 ≤ _), (by decide : 52 + 0 ≤ _)⟩)
    dsimp only [Pt.U, Pt.locs, Pt.cells, Pt.slots] at X482 l482 y482 z482 st482 hQ482
    subst y482 z482
    obtain ⟨rfl, M482, e482⟩ := hQ482
    have N482 : Fr n0 L482 := by rw [l482]; exact Fr.app N317 M482
    clear l482
    have X482 : Stand p l e _ s m _ below meth c T482 _ 2 52 := X482
    have pre484 : ∀ t, Steps p.tables e below (T482.setTop (mkF m 329 #[.val (.int xa), .val (.ref b2), .val (.ref b213), .val (.int (15 : Int32)), .val (.ref w_UNSIGNED_SHORT)] [(.int (1 : Int32))])) t → Steps p.tables e below (s₁.setTop (entryFrame m #[(.int xa)] maxLocals)) t := fun t k => pre478 t (st482.trans k)
    have pre486 : ∀ t, Steps p.tables e below (T482.setTop (mkF m 340 #[.val (.int xa), .val (.ref b2), .val (.ref b213), .val (.int (15 : Int32)), .val (.ref w_UNSIGNED_SHORT)] [(.int (1 : Int32))])) t → Steps p.tables e below (s₁.setTop (entryFrame m #[(.int xa)] maxLocals)) t := by
      intro t k
      refine pre484 t ?_
      refine XS.aloadN X482.here hx rfl (hb hby at_329) rfl rfl ?_
      show Steps p.tables e below (T482.setTop (mkF m 330 #[.val (.int xa), .val (.ref b2), .val (.ref b213), .val (.int (15 : Int32)), .val (.ref w_UNSIGNED_SHORT)] [(.ref b213), (.int (1 : Int32))])) _
      refine XS.iloadN X482.here hx rfl (hb hby at_330) rfl ?_
      show Steps p.tables e below (T482.setTop (mkF m 331 #[.val (.int xa), .val (.ref b2), .val (.ref b213), .val (.int (15 : Int32)), .val (.ref w_UNSIGNED_SHORT)] [(.int (15 : Int32)), (.ref b213), (.int (1 : Int32))])) _
      obtain ⟨c485, a485, q485, s485, m485, i485, u485⟩ := id V317
      have hin485 := inb_of (j := (15 : Int32)) s485 ⟨by decide, by decide⟩
      refine X482.baloadBooleans hx (j := (15 : Int32)) (v := (.int (nar .boolean (1 : Int32)))) (by rw [e482]; exact a485.1) (State.isArrayOf_alike hZ.alike a485.2.1) a485.2.2 hin485 (i485.at hin485 rfl) (g := (mkF m 331 #[.val (.int xa), .val (.ref b2), .val (.ref b213), .val (.int (15 : Int32)), .val (.ref w_UNSIGNED_SHORT)] [(.int (15 : Int32)), (.ref b213), (.int (1 : Int32))])) rfl rfl (hb hby at_331) _ ?_
      show Steps p.tables e below (T482.setTop (mkF m 332 #[.val (.int xa), .val (.ref b2), .val (.ref b213), .val (.int (15 : Int32)), .val (.ref w_UNSIGNED_SHORT)] [(.int (nar .boolean (1 : Int32))), (.int (1 : Int32))])) _
      refine XS.icmpNo X482.here hx rfl (hb hby at_332) rfl (teq (show (1 : Int32) = (nar .boolean (1 : Int32)) from rfl)).2 ?_
      show Steps p.tables e below (T482.setTop (mkF m 335 #[.val (.int xa), .val (.ref b2), .val (.ref b213), .val (.int (15 : Int32)), .val (.ref w_UNSIGNED_SHORT)] [])) _
      refine XS.iconst X482.here hx rfl (hb hby at_335) ?_
      show Steps p.tables e below (T482.setTop (mkF m 336 #[.val (.int xa), .val (.ref b2), .val (.ref b213), .val (.int (15 : Int32)), .val (.ref w_UNSIGNED_SHORT)] [(.int (1 : Int32))])) _
      refine XS.goto X482.here hx rfl (pc0 := 336) (pc' := 340) rfl (hb hby at_336) (by decide) (by decide) ?_
      show Steps p.tables e below (T482.setTop (mkF m 340 #[.val (.int xa), .val (.ref b2), .val (.ref b213), .val (.int (15 : Int32)), .val (.ref w_UNSIGNED_SHORT)] [(.int (1 : Int32))])) _
      exact k
    obtain ⟨fs, hr, hrun, hended, hW, hsame⟩ := X482.leave (v := some (.int (1 : Int32))) (fun h => by rw [Bd.returns] at h; cases h)
    refine ⟨_, _, pre486 _ ?_, hrun, hended, _, _, rfl, ?_, ⟨_, rfl⟩, hW, hsame.mono (by decide) (by decide)⟩
    · exact retN X482 hx (t := .boolean) Bd.returns (by simp) (hb hby at_340) hr
    · show Q_rm0 Z xa w_ANY_ATOMIC_TYPE w_UNTYPED_ATOMIC w_STRING w_BOOLEAN w_DECIMAL w_INTEGER w_NON_POSITIVE_INTEGER w_NEGATIVE_INTEGER w_LONG w_INT w_SHORT w_BYTE w_NON_NEGATIVE_INTEGER w_UNSIGNED_LONG w_UNSIGNED_INT w_UNSIGNED_SHORT w_UNSIGNED_BYTE w_POSITIVE_INTEGER w_FLOAT w_DOUBLE w_ANY_URI w_DATE w_TIME w_HEX_BINARY w_QNAME w_NOTATION h0 n0 _ T482.heap _
      rw [e482]
      exact ⟨rfl, N482⟩
  · subst hk
    have pre488 : ∀ t, Steps p.tables e below (T317.setTop (mkF m 326 #[.val (.int xa), .val (.ref b2), .val (.ref b213), .val (.int (16 : Int32)), .val (.ref w_UNSIGNED_BYTE)] [(.ref w_UNSIGNED_BYTE)])) t → Steps p.tables e below (s₁.setTop (entryFrame m #[(.int xa)] maxLocals)) t := by
      intro t k
      refine pre319 t ?_
      refine XS.aloadN X317.here hx rfl (hb hby at_319) rfl rfl ?_
      show Steps p.tables e below (T317.setTop (mkF m 320 #[.val (.int xa), .val (.ref b2), .val (.ref b213), .val (.int (16 : Int32)), .unset] [(.ref b2)])) _
      refine XS.iloadN X317.here hx rfl (hb hby at_320) rfl ?_
      show Steps p.tables e below (T317.setTop (mkF m 321 #[.val (.int xa), .val (.ref b2), .val (.ref b213), .val (.int (16 : Int32)), .unset] [(.int (16 : Int32)), (.ref b2)])) _
      obtain ⟨c487, a487, q487, s487, m487, i487, u487⟩ := id (((((((((((((((((((((((((((V210.ext E213).other W217 (Nat.ne_of_lt (Nat.lt_of_lt_of_le V210.lt (Nat.le_of_eq g213.symm)))).other W221 (Nat.ne_of_lt (Nat.lt_of_lt_of_le V210.lt (Nat.le_of_eq g213.symm)))).other W225 (Nat.ne_of_lt (Nat.lt_of_lt_of_le V210.lt (Nat.le_of_eq g213.symm)))).other W229 (Nat.ne_of_lt (Nat.lt_of_lt_of_le V210.lt (Nat.le_of_eq g213.symm)))).other W233 (Nat.ne_of_lt (Nat.lt_of_lt_of_le V210.lt (Nat.le_of_eq g213.symm)))).other W237 (Nat.ne_of_lt (Nat.lt_of_lt_of_le V210.lt (Nat.le_of_eq g213.symm)))).other W241 (Nat.ne_of_lt (Nat.lt_of_lt_of_le V210.lt (Nat.le_of_eq g213.symm)))).other W245 (Nat.ne_of_lt (Nat.lt_of_lt_of_le V210.lt (Nat.le_of_eq g213.symm)))).other W249 (Nat.ne_of_lt (Nat.lt_of_lt_of_le V210.lt (Nat.le_of_eq g213.symm)))).other W253 (Nat.ne_of_lt (Nat.lt_of_lt_of_le V210.lt (Nat.le_of_eq g213.symm)))).other W257 (Nat.ne_of_lt (Nat.lt_of_lt_of_le V210.lt (Nat.le_of_eq g213.symm)))).other W261 (Nat.ne_of_lt (Nat.lt_of_lt_of_le V210.lt (Nat.le_of_eq g213.symm)))).other W265 (Nat.ne_of_lt (Nat.lt_of_lt_of_le V210.lt (Nat.le_of_eq g213.symm)))).other W269 (Nat.ne_of_lt (Nat.lt_of_lt_of_le V210.lt (Nat.le_of_eq g213.symm)))).other W273 (Nat.ne_of_lt (Nat.lt_of_lt_of_le V210.lt (Nat.le_of_eq g213.symm)))).other W277 (Nat.ne_of_lt (Nat.lt_of_lt_of_le V210.lt (Nat.le_of_eq g213.symm)))).other W281 (Nat.ne_of_lt (Nat.lt_of_lt_of_le V210.lt (Nat.le_of_eq g213.symm)))).other W285 (Nat.ne_of_lt (Nat.lt_of_lt_of_le V210.lt (Nat.le_of_eq g213.symm)))).other W289 (Nat.ne_of_lt (Nat.lt_of_lt_of_le V210.lt (Nat.le_of_eq g213.symm)))).other W293 (Nat.ne_of_lt (Nat.lt_of_lt_of_le V210.lt (Nat.le_of_eq g213.symm)))).other W297 (Nat.ne_of_lt (Nat.lt_of_lt_of_le V210.lt (Nat.le_of_eq g213.symm)))).other W301 (Nat.ne_of_lt (Nat.lt_of_lt_of_le V210.lt (Nat.le_of_eq g213.symm)))).other W305 (Nat.ne_of_lt (Nat.lt_of_lt_of_le V210.lt (Nat.le_of_eq g213.symm)))).other W309 (Nat.ne_of_lt (Nat.lt_of_lt_of_le V210.lt (Nat.le_of_eq g213.symm)))).other W313 (Nat.ne_of_lt (Nat.lt_of_lt_of_le V210.lt (Nat.le_of_eq g213.symm)))).other W317 (Nat.ne_of_lt (Nat.lt_of_lt_of_le V210.lt (Nat.le_of_eq g213.symm))))
      have hin487 := inb_of (j := (16 : Int32)) s487 ⟨by decide, by decide⟩
      refine X317.aaload hx (j := (16 : Int32)) (v := (.ref w_UNSIGNED_BYTE)) (by rw [e317]; exact a487.1) (State.isArrayOf_alike hZ.alike a487.2.1) rfl a487.2.2 hin487 (i487.at hin487 rfl) (g := (mkF m 321 #[.val (.int xa), .val (.ref b2), .val (.ref b213), .val (.int (16 : Int32)), .unset] [(.int (16 : Int32)), (.ref b2)])) rfl rfl (hb hby at_321) _ ?_
      show Steps p.tables e below (T317.setTop (mkF m 322 #[.val (.int xa), .val (.ref b2), .val (.ref b213), .val (.int (16 : Int32)), .unset] [(.ref w_UNSIGNED_BYTE)])) _
      refine XS.astore X317.here hx rfl (hb hby at_322) rfl rfl (l' := #[.val (.int xa), .val (.ref b2), .val (.ref b213), .val (.int (16 : Int32)), .val (.ref w_UNSIGNED_BYTE)]) rfl ?_
      show Steps p.tables e below (T317.setTop (mkF m 324 #[.val (.int xa), .val (.ref b2), .val (.ref b213), .val (.int (16 : Int32)), .val (.ref w_UNSIGNED_BYTE)] [])) _
      refine XS.aload X317.here hx rfl (hb hby at_324) rfl rfl ?_
      show Steps p.tables e below (T317.setTop (mkF m 326 #[.val (.int xa), .val (.ref b2), .val (.ref b213), .val (.int (16 : Int32)), .val (.ref w_UNSIGNED_BYTE)] [(.ref w_UNSIGNED_BYTE)])) _
      exact k
    have f489 := (P_UNSIGNED_BYTE.ext (own_keep_ext K317))
    have f490 := (((((((((((((((((((((((((((((((((((((((((((((((((f36.wr W42).wr W50).wr W58).wr W66).wr W74).wr W82).wr W90).wr W98).wr W106).wr W114).wr W122).wr W130).wr W138).wr W146).wr W154).wr W162).wr W170).wr W178).wr W186).wr W194).wr W202).wr W210).ext E213).wr W217).wr W221).wr W225).wr W229).wr W233).wr W237).wr W241).wr W245).wr W249).wr W253).wr W257).wr W261).wr W265).wr W269).wr W273).wr W277).wr W281).wr W285).wr W289).wr W293).wr W297).wr W301).wr W305).wr W309).wr W313).wr W317)
    have f491 := ((((((((((((((((((((((((((((((((((((((((((((((((f44.wr W50).wr W58).wr W66).wr W74).wr W82).wr W90).wr W98).wr W106).wr W114).wr W122).wr W130).wr W138).wr W146).wr W154).wr W162).wr W170).wr W178).wr W186).wr W194).wr W202).wr W210).ext E213).wr W217).wr W221).wr W225).wr W229).wr W233).wr W237).wr W241).wr W245).wr W249).wr W253).wr W257).wr W261).wr W265).wr W269).wr W273).wr W277).wr W281).wr W285).wr W289).wr W293).wr W297).wr W301).wr W305).wr W309).wr W313).wr W317)
    have f493 := (((((((((((((((((((((((((((((((((((((f137.wr W138).wr W146).wr W154).wr W162).wr W170).wr W178).wr W186).wr W194).wr W202).wr W210).ext E213).wr W217).wr W221).wr W225).wr W229).wr W233).wr W237).wr W241).wr W245).wr W249).wr W253).wr W257).wr W261).wr W265).wr W269).wr W273).wr W277).wr W281).wr W285).wr W289).wr W293).wr W297).wr W301).wr W305).wr W309).wr W313).wr W317)
    obtain ⟨cq492, kq492, q492a, q492b, q492c⟩ := isOf hZ e317 f493
    obtain ⟨_, _, ⟨T492, L492, k492, n492⟩, -, X492, ⟨Lc492, hQ492, l492, y492, z492⟩, st492⟩ := X317.virtualBack hx (y := (⟨"com/example/xidr/xidr/xpath/values/AtomicType", "isNumeric", "()Z"⟩ : MethodName)) (z := (⟨"com/example/xidr/xidr/xpath/values/AtomicType", "isNumeric", "()Z"⟩ : MethodName)) hown (mvT hZ (hw _ (List.mem_of_getElem? (i := 58) rfl))) (mvT hZ (hw _ (List.mem_of_getElem? (i := 59) rfl))) (notFace_of_selects (args := #[]) (mvT hZ (hw _ (List.mem_of_getElem? (i := 61) rfl)))) (mvT hZ (hw _ (List.mem_of_getElem? (i := 61) rfl))) (mvT hZ (hw _ (List.mem_of_getElem? (i := 60) rfl))) (by decide) (backOf (W := 0) (rm_num1 l Z a0 hw [] w_UNSIGNED_BYTE w_INTEGER w_DECIMAL h317 n0 z317 f489 f490 f491 (hne_INTEGER_DECIMAL)) hZ (hw _ (List.mem_of_getElem? (i := 62) rfl)) (hw _ (List.mem_of_getElem? (i := 3) rfl)) (by decide) (by decide)) q492a q492c (g := (mkF m 326 #[.val (.int xa), .val (.ref b2), .val (.ref b213), .val (.int (16 : Int32)), .val (.ref w_UNSIGNED_BYTE)] [(.ref w_UNSIGNED_BYTE)])) rfl (by rw [hml]; rfl) (Steps.refl _) (argsL := []) (rest := []) (lenOf pd0 rfl) rfl (by show 2 * 0 + _ ≤ _; exact Nat.le_of_eq rfl) (hb hby at_326) (fun _ _ => ⟨rfl, e317, (by decide : 2 + 0 ≤ _), (by decide : 52 + 0 ≤ _)⟩)
    dsimp only [Pt.U, Pt.locs, Pt.cells, Pt.slots] at X492 l492 y492 z492 st492 hQ492
    subst y492 z492
    obtain ⟨rfl, M492, e492⟩ := hQ492
    have N492 : Fr n0 L492 := by rw [l492]; exact Fr.app N317 M492
    clear l492
    have X492 : Stand p l e _ s m _ below meth c T492 _ 2 52 := X492
    have pre494 : ∀ t, Steps p.tables e below (T492.setTop (mkF m 329 #[.val (.int xa), .val (.ref b2), .val (.ref b213), .val (.int (16 : Int32)), .val (.ref w_UNSIGNED_BYTE)] [(.int (1 : Int32))])) t → Steps p.tables e below (s₁.setTop (entryFrame m #[(.int xa)] maxLocals)) t := fun t k => pre488 t (st492.trans k)
    have pre496 : ∀ t, Steps p.tables e below (T492.setTop (mkF m 340 #[.val (.int xa), .val (.ref b2), .val (.ref b213), .val (.int (16 : Int32)), .val (.ref w_UNSIGNED_BYTE)] [(.int (1 : Int32))])) t → Steps p.tables e below (s₁.setTop (entryFrame m #[(.int xa)] maxLocals)) t := by
      intro t k
      refine pre494 t ?_
      refine XS.aloadN X492.here hx rfl (hb hby at_329) rfl rfl ?_
      show Steps p.tables e below (T492.setTop (mkF m 330 #[.val (.int xa), .val (.ref b2), .val (.ref b213), .val (.int (16 : Int32)), .val (.ref w_UNSIGNED_BYTE)] [(.ref b213), (.int (1 : Int32))])) _
      refine XS.iloadN X492.here hx rfl (hb hby at_330) rfl ?_
      show Steps p.tables e below (T492.setTop (mkF m 331 #[.val (.int xa), .val (.ref b2), .val (.ref b213), .val (.int (16 : Int32)), .val (.ref w_UNSIGNED_BYTE)] [(.int (16 : Int32)), (.ref b213), (.int (1 : Int32))])) _
      obtain ⟨c495, a495, q495, s495, m495, i495, u495⟩ := id V317
      have hin495 := inb_of (j := (16 : Int32)) s495 ⟨by decide, by decide⟩
      refine X492.baloadBooleans hx (j := (16 : Int32)) (v := (.int (nar .boolean (1 : Int32)))) (by rw [e492]; exact a495.1) (State.isArrayOf_alike hZ.alike a495.2.1) a495.2.2 hin495 (i495.at hin495 rfl) (g := (mkF m 331 #[.val (.int xa), .val (.ref b2), .val (.ref b213), .val (.int (16 : Int32)), .val (.ref w_UNSIGNED_BYTE)] [(.int (16 : Int32)), (.ref b213), (.int (1 : Int32))])) rfl rfl (hb hby at_331) _ ?_
      show Steps p.tables e below (T492.setTop (mkF m 332 #[.val (.int xa), .val (.ref b2), .val (.ref b213), .val (.int (16 : Int32)), .val (.ref w_UNSIGNED_BYTE)] [(.int (nar .boolean (1 : Int32))), (.int (1 : Int32))])) _
      refine XS.icmpNo X492.here hx rfl (hb hby at_332) rfl (teq (show (1 : Int32) = (nar .boolean (1 : Int32)) from rfl)).2 ?_
      show Steps p.tables e below (T492.setTop (mkF m 335 #[.val (.int xa), .val (.ref b2), .val (.ref b213), .val (.int (16 : Int32)), .val (.ref w_UNSIGNED_BYTE)] [])) _
      refine XS.iconst X492.here hx rfl (hb hby at_335) ?_
      show Steps p.tables e below (T492.setTop (mkF m 336 #[.val (.int xa), .val (.ref b2), .val (.ref b213), .val (.int (16 : Int32)), .val (.ref w_UNSIGNED_BYTE)] [(.int (1 : Int32))])) _
      refine XS.goto X492.here hx rfl (pc0 := 336) (pc' := 340) rfl (hb hby at_336) (by decide) (by decide) ?_
      show Steps p.tables e below (T492.setTop (mkF m 340 #[.val (.int xa), .val (.ref b2), .val (.ref b213), .val (.int (16 : Int32)), .val (.ref w_UNSIGNED_BYTE)] [(.int (1 : Int32))])) _
      exact k
    obtain ⟨fs, hr, hrun, hended, hW, hsame⟩ := X492.leave (v := some (.int (1 : Int32))) (fun h => by rw [Bd.returns] at h; cases h)
    refine ⟨_, _, pre496 _ ?_, hrun, hended, _, _, rfl, ?_, ⟨_, rfl⟩, hW, hsame.mono (by decide) (by decide)⟩
    · exact retN X492 hx (t := .boolean) Bd.returns (by simp) (hb hby at_340) hr
    · show Q_rm0 Z xa w_ANY_ATOMIC_TYPE w_UNTYPED_ATOMIC w_STRING w_BOOLEAN w_DECIMAL w_INTEGER w_NON_POSITIVE_INTEGER w_NEGATIVE_INTEGER w_LONG w_INT w_SHORT w_BYTE w_NON_NEGATIVE_INTEGER w_UNSIGNED_LONG w_UNSIGNED_INT w_UNSIGNED_SHORT w_UNSIGNED_BYTE w_POSITIVE_INTEGER w_FLOAT w_DOUBLE w_ANY_URI w_DATE w_TIME w_HEX_BINARY w_QNAME w_NOTATION h0 n0 _ T492.heap _
      rw [e492]
      exact ⟨rfl, N492⟩
  · subst hk
    have pre498 : ∀ t, Steps p.tables e below (T317.setTop (mkF m 326 #[.val (.int xa), .val (.ref b2), .val (.ref b213), .val (.int (17 : Int32)), .val (.ref w_POSITIVE_INTEGER)] [(.ref w_POSITIVE_INTEGER)])) t → Steps p.tables e below (s₁.setTop (entryFrame m #[(.int xa)] maxLocals)) t := by
      intro t k
      refine pre319 t ?_
      refine XS.aloadN X317.here hx rfl (hb hby at_319) rfl rfl ?_
      show Steps p.tables e below (T317.setTop (mkF m 320 #[.val (.int xa), .val (.ref b2), .val (.ref b213), .val (.int (17 : Int32)), .unset] [(.ref b2)])) _
      refine XS.iloadN X317.here hx rfl (hb hby at_320) rfl ?_
      show Steps p.tables e below (T317.setTop (mkF m 321 #[.val (.int xa), .val (.ref b2), .val (.ref b213), .val (.int (17 : Int32)), .unset] [(.int (17 : Int32)), (.ref b2)])) _
      obtain ⟨c497, a497, q497, s497, m497, i497, u497⟩ := id (((((((((((((((((((((((((((V210.ext E213).other W217 (Nat.ne_of_lt (Nat.lt_of_lt_of_le V210.lt (Nat.le_of_eq g213.symm)))).other W221 (Nat.ne_of_lt (Nat.lt_of_lt_of_le V210.lt (Nat.le_of_eq g213.symm)))).other W225 (Nat.ne_of_lt (Nat.lt_of_lt_of_le V210.lt (Nat.le_of_eq g213.symm)))).other W229 (Nat.ne_of_lt (Nat.lt_of_lt_of_le V210.lt (Nat.le_of_eq g213.symm)))).other W233 (Nat.ne_of_lt (Nat.lt_of_lt_of_le V210.lt (Nat.le_of_eq g213.symm)))).other W237 (Nat.ne_of_lt (Nat.lt_of_lt_of_le V210.lt (Nat.le_of_eq g213.symm)))).other W241 (Nat.ne_of_lt (Nat.lt_of_lt_of_le V210.lt (Nat.le_of_eq g213.symm)))).other W245 (Nat.ne_of_lt (Nat.lt_of_lt_of_le V210.lt (Nat.le_of_eq g213.symm)))).other W249 (Nat.ne_of_lt (Nat.lt_of_lt_of_le V210.lt (Nat.le_of_eq g213.symm)))).other W253 (Nat.ne_of_lt (Nat.lt_of_lt_of_le V210.lt (Nat.le_of_eq g213.symm)))).other W257 (Nat.ne_of_lt (Nat.lt_of_lt_of_le V210.lt (Nat.le_of_eq g213.symm)))).other W261 (Nat.ne_of_lt (Nat.lt_of_lt_of_le V210.lt (Nat.le_of_eq g213.symm)))).other W265 (Nat.ne_of_lt (Nat.lt_of_lt_of_le V210.lt (Nat.le_of_eq g213.symm)))).other W269 (Nat.ne_of_lt (Nat.lt_of_lt_of_le V210.lt (Nat.le_of_eq g213.symm)))).other W273 (Nat.ne_of_lt (Nat.lt_of_lt_of_le V210.lt (Nat.le_of_eq g213.symm)))).other W277 (Nat.ne_of_lt (Nat.lt_of_lt_of_le V210.lt (Nat.le_of_eq g213.symm)))).other W281 (Nat.ne_of_lt (Nat.lt_of_lt_of_le V210.lt (Nat.le_of_eq g213.symm)))).other W285 (Nat.ne_of_lt (Nat.lt_of_lt_of_le V210.lt (Nat.le_of_eq g213.symm)))).other W289 (Nat.ne_of_lt (Nat.lt_of_lt_of_le V210.lt (Nat.le_of_eq g213.symm)))).other W293 (Nat.ne_of_lt (Nat.lt_of_lt_of_le V210.lt (Nat.le_of_eq g213.symm)))).other W297 (Nat.ne_of_lt (Nat.lt_of_lt_of_le V210.lt (Nat.le_of_eq g213.symm)))).other W301 (Nat.ne_of_lt (Nat.lt_of_lt_of_le V210.lt (Nat.le_of_eq g213.symm)))).other W305 (Nat.ne_of_lt (Nat.lt_of_lt_of_le V210.lt (Nat.le_of_eq g213.symm)))).other W309 (Nat.ne_of_lt (Nat.lt_of_lt_of_le V210.lt (Nat.le_of_eq g213.symm)))).other W313 (Nat.ne_of_lt (Nat.lt_of_lt_of_le V210.lt (Nat.le_of_eq g213.symm)))).other W317 (Nat.ne_of_lt (Nat.lt_of_lt_of_le V210.lt (Nat.le_of_eq g213.symm))))
      have hin497 := inb_of (j := (17 : Int32)) s497 ⟨by decide, by decide⟩
      refine X317.aaload hx (j := (17 : Int32)) (v := (.ref w_POSITIVE_INTEGER)) (by rw [e317]; exact a497.1) (State.isArrayOf_alike hZ.alike a497.2.1) rfl a497.2.2 hin497 (i497.at hin497 rfl) (g := (mkF m 321 #[.val (.int xa), .val (.ref b2), .val (.ref b213), .val (.int (17 : Int32)), .unset] [(.int (17 : Int32)), (.ref b2)])) rfl rfl (hb hby at_321) _ ?_
      show Steps p.tables e below (T317.setTop (mkF m 322 #[.val (.int xa), .val (.ref b2), .val (.ref b213), .val (.int (17 : Int32)), .unset] [(.ref w_POSITIVE_INTEGER)])) _
      refine XS.astore X317.here hx rfl (hb hby at_322) rfl rfl (l' := #[.val (.int xa), .val (.ref b2), .val (.ref b213), .val (.int (17 : Int32)), .val (.ref w_POSITIVE_INTEGER)]) rfl ?_
      show Steps p.tables e below (T317.setTop (mkF m 324 #[.val (.int xa), .val (.ref b2), .val (.ref b213), .val (.int (17 : Int32)), .val (.ref w_POSITIVE_INTEGER)] [])) _
      refine XS.aload X317.here hx rfl (hb hby at_324) rfl rfl ?_
      show Steps p.tables e below (T317.setTop (mkF m 326 #[.val (.int xa), .val (.ref b2), .val (.ref b213), .val (.int (17 : Int32)), .val (.ref w_POSITIVE_INTEGER)] [(.ref w_POSITIVE_INTEGER)])) _
      exact k
    have f499 := (P_POSITIVE_INTEGER.ext (own_keep_ext K317))
    have f500 := (((((((((((((((((((((((((((((((((((((((((((((((((f36.wr W42).wr W50).wr W58).wr W66).wr W74).wr W82).wr W90).wr W98).wr W106).wr W114).wr W122).wr W130).wr W138).wr W146).wr W154).wr W162).wr W170).wr W178).wr W186).wr W194).wr W202).wr W210).ext E213).wr W217).wr W221).wr W225).wr W229).wr W233).wr W237).wr W241).wr W245).wr W249).wr W253).wr W257).wr W261).wr W265).wr W269).wr W273).wr W277).wr W281).wr W285).wr W289).wr W293).wr W297).wr W301).wr W305).wr W309).wr W313).wr W317)
    have f501 := ((((((((((((((((((((((((((((((((((((((((((((((((f44.wr W50).wr W58).wr W66).wr W74).wr W82).wr W90).wr W98).wr W106).wr W114).wr W122).wr W130).wr W138).wr W146).wr W154).wr W162).wr W170).wr W178).wr W186).wr W194).wr W202).wr W210).ext E213).wr W217).wr W221).wr W225).wr W229).wr W233).wr W237).wr W241).wr W245).wr W249).wr W253).wr W257).wr W261).wr W265).wr W269).wr W273).wr W277).wr W281).wr W285).wr W289).wr W293).wr W297).wr W301).wr W305).wr W309).wr W313).wr W317)
    have f503 := ((((((((((((((((((((((((((((((((((((f145.wr W146).wr W154).wr W162).wr W170).wr W178).wr W186).wr W194).wr W202).wr W210).ext E213).wr W217).wr W221).wr W225).wr W229).wr W233).wr W237).wr W241).wr W245).wr W249).wr W253).wr W257).wr W261).wr W265).wr W269).wr W273).wr W277).wr W281).wr W285).wr W289).wr W293).wr W297).wr W301).wr W305).wr W309).wr W313).wr W317)
    obtain ⟨cq502, kq502, q502a, q502b, q502c⟩ := isOf hZ e317 f503
    obtain ⟨_, _, ⟨T502, L502, k502, n502⟩, -, X502, ⟨Lc502, hQ502, l502, y502, z502⟩, st502⟩ := X317.virtualBack hx (y := (⟨"com/example/xidr/xidr/xpath/values/AtomicType", "isNumeric", "()Z"⟩ : MethodName)) (z := (⟨"com/example/xidr/xidr/xpath/values/AtomicType", "isNumeric", "()Z"⟩ : MethodName)) hown (mvT hZ (hw _ (List.mem_of_getElem? (i := 58) rfl))) (mvT hZ (hw _ (List.mem_of_getElem? (i := 59) rfl))) (notFace_of_selects (args := #[]) (mvT hZ (hw _ (List.mem_of_getElem? (i := 61) rfl)))) (mvT hZ (hw _ (List.mem_of_getElem? (i := 61) rfl))) (mvT hZ (hw _ (List.mem_of_getElem? (i := 60) rfl))) (by decide) (backOf (W := 0) (rm_num1 l Z a0 hw [] w_POSITIVE_INTEGER w_INTEGER w_DECIMAL h317 n0 z317 f499 f500 f501 (hne_INTEGER_DECIMAL)) hZ (hw _ (List.mem_of_getElem? (i := 62) rfl)) (hw _ (List.mem_of_getElem? (i := 3) rfl)) (by decide) (by decide)) q502a q502c (g := (mkF m 326 #[.val (.int xa), .val (.ref b2), .val (.ref b213), .val (.int (17 : Int32)), .val (.ref w_POSITIVE_INTEGER)] [(.ref w_POSITIVE_INTEGER)])) rfl (by rw [hml]; rfl) (Steps.refl _) (argsL := []) (rest := []) (lenOf pd0 rfl) rfl (by show 2 * 0 + _ ≤ _; exact Nat.le_of_eq rfl) (hb hby at_326) (fun _ _ => ⟨rfl, e317, (by decide : 2 + 0 ≤ _), (by decide : 52 + 0 ≤ _)⟩)
    dsimp only [Pt.U, Pt.locs, Pt.cells, Pt.slots] at X502 l502 y502 z502 st502 hQ502
    subst y502 z502
    obtain ⟨rfl, M502, e502⟩ := hQ502
    have N502 : Fr n0 L502 := by rw [l502]; exact Fr.app N317 M502
    clear l502
    have X502 : Stand p l e _ s m _ below meth c T502 _ 2 52 := X502
    have pre504 : ∀ t, Steps p.tables e below (T502.setTop (mkF m 329 #[.val (.int xa), .val (.ref b2), .val (.ref b213), .val (.int (17 : Int32)), .val (.ref w_POSITIVE_INTEGER)] [(.int (1 : Int32))])) t → Steps p.tables e below (s₁.setTop (entryFrame m #[(.int xa)] maxLocals)) t := fun t k => pre498 t (st502.trans k)
    have pre506 : ∀ t, Steps p.tables e below (T502.setTop (mkF m 340 #[.val (.int xa), .val (.ref b2), .val (.ref b213), .val (.int (17 : Int32)), .val (.ref w_POSITIVE_INTEGER)] [(.int (1 : Int32))])) t → Steps p.tables e below (s₁.setTop (entryFrame m #[(.int xa)] maxLocals)) t := by
      intro t k
      refine pre504 t ?_
      refine XS.aloadN X502.here hx rfl (hb hby at_329) rfl rfl ?_
      show Steps p.tables e below (T502.setTop (mkF m 330 #[.val (.int xa), .val (.ref b2), .val (.ref b213), .val (.int (17 : Int32)), .val (.ref w_POSITIVE_INTEGER)] [(.ref b213), (.int (1 : Int32))])) _
      refine XS.iloadN X502.here hx rfl (hb hby at_330) rfl ?_
      show Steps p.tables e below (T502.setTop (mkF m 331 #[.val (.int xa), .val (.ref b2), .val (.ref b213), .val (.int (17 : Int32)), .val (.ref w_POSITIVE_INTEGER)] [(.int (17 : Int32)), (.ref b213), (.int (1 : Int32))])) _
      obtain ⟨c505, a505, q505, s505, m505, i505, u505⟩ := id V317
      have hin505 := inb_of (j := (17 : Int32)) s505 ⟨by decide, by decide⟩
      refine X502.baloadBooleans hx (j := (17 : Int32)) (v := (.int (nar .boolean (1 : Int32)))) (by rw [e502]; exact a505.1) (State.isArrayOf_alike hZ.alike a505.2.1) a505.2.2 hin505 (i505.at hin505 rfl) (g := (mkF m 331 #[.val (.int xa), .val (.ref b2), .val (.ref b213), .val (.int (17 : Int32)), .val (.ref w_POSITIVE_INTEGER)] [(.int (17 : Int32)), (.ref b213), (.int (1 : Int32))])) rfl rfl (hb hby at_331) _ ?_
      show Steps p.tables e below (T502.setTop (mkF m 332 #[.val (.int xa), .val (.ref b2), .val (.ref b213), .val (.int (17 : Int32)), .val (.ref w_POSITIVE_INTEGER)] [(.int (nar .boolean (1 : Int32))), (.int (1 : Int32))])) _
      refine XS.icmpNo X502.here hx rfl (hb hby at_332) rfl (teq (show (1 : Int32) = (nar .boolean (1 : Int32)) from rfl)).2 ?_
      show Steps p.tables e below (T502.setTop (mkF m 335 #[.val (.int xa), .val (.ref b2), .val (.ref b213), .val (.int (17 : Int32)), .val (.ref w_POSITIVE_INTEGER)] [])) _
      refine XS.iconst X502.here hx rfl (hb hby at_335) ?_
      show Steps p.tables e below (T502.setTop (mkF m 336 #[.val (.int xa), .val (.ref b2), .val (.ref b213), .val (.int (17 : Int32)), .val (.ref w_POSITIVE_INTEGER)] [(.int (1 : Int32))])) _
      refine XS.goto X502.here hx rfl (pc0 := 336) (pc' := 340) rfl (hb hby at_336) (by decide) (by decide) ?_
      show Steps p.tables e below (T502.setTop (mkF m 340 #[.val (.int xa), .val (.ref b2), .val (.ref b213), .val (.int (17 : Int32)), .val (.ref w_POSITIVE_INTEGER)] [(.int (1 : Int32))])) _
      exact k
    obtain ⟨fs, hr, hrun, hended, hW, hsame⟩ := X502.leave (v := some (.int (1 : Int32))) (fun h => by rw [Bd.returns] at h; cases h)
    refine ⟨_, _, pre506 _ ?_, hrun, hended, _, _, rfl, ?_, ⟨_, rfl⟩, hW, hsame.mono (by decide) (by decide)⟩
    · exact retN X502 hx (t := .boolean) Bd.returns (by simp) (hb hby at_340) hr
    · show Q_rm0 Z xa w_ANY_ATOMIC_TYPE w_UNTYPED_ATOMIC w_STRING w_BOOLEAN w_DECIMAL w_INTEGER w_NON_POSITIVE_INTEGER w_NEGATIVE_INTEGER w_LONG w_INT w_SHORT w_BYTE w_NON_NEGATIVE_INTEGER w_UNSIGNED_LONG w_UNSIGNED_INT w_UNSIGNED_SHORT w_UNSIGNED_BYTE w_POSITIVE_INTEGER w_FLOAT w_DOUBLE w_ANY_URI w_DATE w_TIME w_HEX_BINARY w_QNAME w_NOTATION h0 n0 _ T502.heap _
      rw [e502]
      exact ⟨rfl, N502⟩
  · subst hk
    have pre508 : ∀ t, Steps p.tables e below (T317.setTop (mkF m 326 #[.val (.int xa), .val (.ref b2), .val (.ref b213), .val (.int (18 : Int32)), .val (.ref w_FLOAT)] [(.ref w_FLOAT)])) t → Steps p.tables e below (s₁.setTop (entryFrame m #[(.int xa)] maxLocals)) t := by
      intro t k
      refine pre319 t ?_
      refine XS.aloadN X317.here hx rfl (hb hby at_319) rfl rfl ?_
      show Steps p.tables e below (T317.setTop (mkF m 320 #[.val (.int xa), .val (.ref b2), .val (.ref b213), .val (.int (18 : Int32)), .unset] [(.ref b2)])) _
      refine XS.iloadN X317.here hx rfl (hb hby at_320) rfl ?_
      show Steps p.tables e below (T317.setTop (mkF m 321 #[.val (.int xa), .val (.ref b2), .val (.ref b213), .val (.int (18 : Int32)), .unset] [(.int (18 : Int32)), (.ref b2)])) _
      obtain ⟨c507, a507, q507, s507, m507, i507, u507⟩ := id (((((((((((((((((((((((((((V210.ext E213).other W217 (Nat.ne_of_lt (Nat.lt_of_lt_of_le V210.lt (Nat.le_of_eq g213.symm)))).other W221 (Nat.ne_of_lt (Nat.lt_of_lt_of_le V210.lt (Nat.le_of_eq g213.symm)))).other W225 (Nat.ne_of_lt (Nat.lt_of_lt_of_le V210.lt (Nat.le_of_eq g213.symm)))).other W229 (Nat.ne_of_lt (Nat.lt_of_lt_of_le V210.lt (Nat.le_of_eq g213.symm)))).other W233 (Nat.ne_of_lt (Nat.lt_of_lt_of_le V210.lt (Nat.le_of_eq g213.symm)))).other W237 (Nat.ne_of_lt (Nat.lt_of_lt_of_le V210.lt (Nat.le_of_eq g213.symm)))).other W241 (Nat.ne_of_lt (Nat.lt_of_lt_of_le V210.lt (Nat.le_of_eq g213.symm)))).other W245 (Nat.ne_of_lt (Nat.lt_of_lt_of_le V210.lt (Nat.le_of_eq g213.symm)))).other W249 (Nat.ne_of_lt (Nat.lt_of_lt_of_le V210.lt (Nat.le_of_eq g213.symm)))).other W253 (Nat.ne_of_lt (Nat.lt_of_lt_of_le V210.lt (Nat.le_of_eq g213.symm)))).other W257 (Nat.ne_of_lt (Nat.lt_of_lt_of_le V210.lt (Nat.le_of_eq g213.symm)))).other W261 (Nat.ne_of_lt (Nat.lt_of_lt_of_le V210.lt (Nat.le_of_eq g213.symm)))).other W265 (Nat.ne_of_lt (Nat.lt_of_lt_of_le V210.lt (Nat.le_of_eq g213.symm)))).other W269 (Nat.ne_of_lt (Nat.lt_of_lt_of_le V210.lt (Nat.le_of_eq g213.symm)))).other W273 (Nat.ne_of_lt (Nat.lt_of_lt_of_le V210.lt (Nat.le_of_eq g213.symm)))).other W277 (Nat.ne_of_lt (Nat.lt_of_lt_of_le V210.lt (Nat.le_of_eq g213.symm)))).other W281 (Nat.ne_of_lt (Nat.lt_of_lt_of_le V210.lt (Nat.le_of_eq g213.symm)))).other W285 (Nat.ne_of_lt (Nat.lt_of_lt_of_le V210.lt (Nat.le_of_eq g213.symm)))).other W289 (Nat.ne_of_lt (Nat.lt_of_lt_of_le V210.lt (Nat.le_of_eq g213.symm)))).other W293 (Nat.ne_of_lt (Nat.lt_of_lt_of_le V210.lt (Nat.le_of_eq g213.symm)))).other W297 (Nat.ne_of_lt (Nat.lt_of_lt_of_le V210.lt (Nat.le_of_eq g213.symm)))).other W301 (Nat.ne_of_lt (Nat.lt_of_lt_of_le V210.lt (Nat.le_of_eq g213.symm)))).other W305 (Nat.ne_of_lt (Nat.lt_of_lt_of_le V210.lt (Nat.le_of_eq g213.symm)))).other W309 (Nat.ne_of_lt (Nat.lt_of_lt_of_le V210.lt (Nat.le_of_eq g213.symm)))).other W313 (Nat.ne_of_lt (Nat.lt_of_lt_of_le V210.lt (Nat.le_of_eq g213.symm)))).other W317 (Nat.ne_of_lt (Nat.lt_of_lt_of_le V210.lt (Nat.le_of_eq g213.symm))))
      have hin507 := inb_of (j := (18 : Int32)) s507 ⟨by decide, by decide⟩
      refine X317.aaload hx (j := (18 : Int32)) (v := (.ref w_FLOAT)) (by rw [e317]; exact a507.1) (State.isArrayOf_alike hZ.alike a507.2.1) rfl a507.2.2 hin507 (i507.at hin507 rfl) (g := (mkF m 321 #[.val (.int xa), .val (.ref b2), .val (.ref b213), .val (.int (18 : Int32)), .unset] [(.int (18 : Int32)), (.ref b2)])) rfl rfl (hb hby at_321) _ ?_
      show Steps p.tables e below (T317.setTop (mkF m 322 #[.val (.int xa), .val (.ref b2), .val (.ref b213), .val (.int (18 : Int32)), .unset] [(.ref w_FLOAT)])) _
      refine XS.astore X317.here hx rfl (hb hby at_322) rfl rfl (l' := #[.val (.int xa), .val (.ref b2), .val (.ref b213), .val (.int (18 : Int32)), .val (.ref w_FLOAT)]) rfl ?_
      show Steps p.tables e below (T317.setTop (mkF m 324 #[.val (.int xa), .val (.ref b2), .val (.ref b213), .val (.int (18 : Int32)), .val (.ref w_FLOAT)] [])) _
      refine XS.aload X317.here hx rfl (hb hby at_324) rfl rfl ?_
      show Steps p.tables e below (T317.setTop (mkF m 326 #[.val (.int xa), .val (.ref b2), .val (.ref b213), .val (.int (18 : Int32)), .val (.ref w_FLOAT)] [(.ref w_FLOAT)])) _
      exact k
    have f509 := (P_FLOAT.ext (own_keep_ext K317))
    have f510 := (((((((((((((((((((((((((((((((((((((((((((((((((f36.wr W42).wr W50).wr W58).wr W66).wr W74).wr W82).wr W90).wr W98).wr W106).wr W114).wr W122).wr W130).wr W138).wr W146).wr W154).wr W162).wr W170).wr W178).wr W186).wr W194).wr W202).wr W210).ext E213).wr W217).wr W221).wr W225).wr W229).wr W233).wr W237).wr W241).wr W245).wr W249).wr W253).wr W257).wr W261).wr W265).wr W269).wr W273).wr W277).wr W281).wr W285).wr W289).wr W293).wr W297).wr W301).wr W305).wr W309).wr W313).wr W317)
    have f511 := ((((((((((((((((((((((((((((((((((((((((((((((((f44.wr W50).wr W58).wr W66).wr W74).wr W82).wr W90).wr W98).wr W106).wr W114).wr W122).wr W130).wr W138).wr W146).wr W154).wr W162).wr W170).wr W178).wr W186).wr W194).wr W202).wr W210).ext E213).wr W217).wr W221).wr W225).wr W229).wr W233).wr W237).wr W241).wr W245).wr W249).wr W253).wr W257).wr W261).wr W265).wr W269).wr W273).wr W277).wr W281).wr W285).wr W289).wr W293).wr W297).wr W301).wr W305).wr W309).wr W313).wr W317)
    have f512 := (((((((((((((((((((((((((((((((((((f148.wr W154).wr W162).wr W170).wr W178).wr W186).wr W194).wr W202).wr W210).ext E213).wr W217).wr W221).wr W225).wr W229).wr W233).wr W237).wr W241).wr W245).wr W249).wr W253).wr W257).wr W261).wr W265).wr W269).wr W273).wr W277).wr W281).wr W285).wr W289).wr W293).wr W297).wr W301).wr W305).wr W309).wr W313).wr W317)
    have f514 := (((((((((((((((((((((((((((((((((((f153.wr W154).wr W162).wr W170).wr W178).wr W186).wr W194).wr W202).wr W210).ext E213).wr W217).wr W221).wr W225).wr W229).wr W233).wr W237).wr W241).wr W245).wr W249).wr W253).wr W257).wr W261).wr W265).wr W269).wr W273).wr W277).wr W281).wr W285).wr W289).wr W293).wr W297).wr W301).wr W305).wr W309).wr W313).wr W317)
    obtain ⟨cq513, kq513, q513a, q513b, q513c⟩ := isOf hZ e317 f514
    obtain ⟨_, _, ⟨T513, L513, k513, n513⟩, -, X513, ⟨Lc513, hQ513, l513, y513, z513⟩, st513⟩ := X317.virtualBack hx (y := (⟨"com/example/xidr/xidr/xpath/values/AtomicType", "isNumeric", "()Z"⟩ : MethodName)) (z := (⟨"com/example/xidr/xidr/xpath/values/AtomicType", "isNumeric", "()Z"⟩ : MethodName)) hown (mvT hZ (hw _ (List.mem_of_getElem? (i := 58) rfl))) (mvT hZ (hw _ (List.mem_of_getElem? (i := 59) rfl))) (notFace_of_selects (args := #[]) (mvT hZ (hw _ (List.mem_of_getElem? (i := 61) rfl)))) (mvT hZ (hw _ (List.mem_of_getElem? (i := 61) rfl))) (mvT hZ (hw _ (List.mem_of_getElem? (i := 60) rfl))) (by decide) (backOf (W := 0) (rm_num2 l Z a0 hw [] w_FLOAT w_FLOAT w_DECIMAL w_INTEGER h317 n0 z317 f509 f510 f511 f512 (hne_FLOAT_DECIMAL) (hne_FLOAT_INTEGER)) hZ (hw _ (List.mem_of_getElem? (i := 62) rfl)) (hw _ (List.mem_of_getElem? (i := 3) rfl)) (by decide) (by decide)) q513a q513c (g := (mkF m 326 #[.val (.int xa), .val (.ref b2), .val (.ref b213), .val (.int (18 : Int32)), .val (.ref w_FLOAT)] [(.ref w_FLOAT)])) rfl (by rw [hml]; rfl) (Steps.refl _) (argsL := []) (rest := []) (lenOf pd0 rfl) rfl (by show 2 * 0 + _ ≤ _; exact Nat.le_of_eq rfl) (hb hby at_326) (fun _ _ => ⟨rfl, e317, (by decide : 2 + 0 ≤ _), (by decide : 52 + 0 ≤ _)⟩)
    dsimp only [Pt.U, Pt.locs, Pt.cells, Pt.slots] at X513 l513 y513 z513 st513 hQ513
    subst y513 z513
    obtain ⟨rfl, M513, e513⟩ := hQ513
    have N513 : Fr n0 L513 := by rw [l513]; exact Fr.app N317 M513
    clear l513
    have X513 : Stand p l e _ s m _ below meth c T513 _ 2 52 := X513
    have pre515 : ∀ t, Steps p.tables e below (T513.setTop (mkF m 329 #[.val (.int xa), .val (.ref b2), .val (.ref b213), .val (.int (18 : Int32)), .val (.ref w_FLOAT)] [(.int (1 : Int32))])) t → Steps p.tables e below (s₁.setTop (entryFrame m #[(.int xa)] maxLocals)) t := fun t k => pre508 t (st513.trans k)
    have pre517 : ∀ t, Steps p.tables e below (T513.setTop (mkF m 340 #[.val (.int xa), .val (.ref b2), .val (.ref b213), .val (.int (18 : Int32)), .val (.ref w_FLOAT)] [(.int (1 : Int32))])) t → Steps p.tables e below (s₁.setTop (entryFrame m #[(.int xa)] maxLocals)) t := by
      intro t k
      refine pre515 t ?_
      refine XS.aloadN X513.here hx rfl (hb hby at_329) rfl rfl ?_
      show Steps p.tables e below (T513.setTop (mkF m 330 #[.val (.int xa), .val (.ref b2), .val (.ref b213), .val (.int (18 : Int32)), .val (.ref w_FLOAT)] [(.ref b213), (.int (1 : Int32))])) _
      refine XS.iloadN X513.here hx rfl (hb hby at_330) rfl ?_
      show Steps p.tables e below (T513.setTop (mkF m 331 #[.val (.int xa), .val (.ref b2), .val (.ref b213), .val (.int (18 : Int32)), .val (.ref w_FLOAT)] [(.int (18 : Int32)), (.ref b213), (.int (1 : Int32))])) _
      obtain ⟨c516, a516, q516, s516, m516, i516, u516⟩ := id V317
      have hin516 := inb_of (j := (18 : Int32)) s516 ⟨by decide, by decide⟩
      refine X513.baloadBooleans hx (j := (18 : Int32)) (v := (.int (nar .boolean (1 : Int32)))) (by rw [e513]; exact a516.1) (State.isArrayOf_alike hZ.alike a516.2.1) a516.2.2 hin516 (i516.at hin516 rfl) (g := (mkF m 331 #[.val (.int xa), .val (.ref b2), .val (.ref b213), .val (.int (18 : Int32)), .val (.ref w_FLOAT)] [(.int (18 : Int32)), (.ref b213), (.int (1 : Int32))])) rfl rfl (hb hby at_331) _ ?_
      show Steps p.tables e below (T513.setTop (mkF m 332 #[.val (.int xa), .val (.ref b2), .val (.ref b213), .val (.int (18 : Int32)), .val (.ref w_FLOAT)] [(.int (nar .boolean (1 : Int32))), (.int (1 : Int32))])) _
      refine XS.icmpNo X513.here hx rfl (hb hby at_332) rfl (teq (show (1 : Int32) = (nar .boolean (1 : Int32)) from rfl)).2 ?_
      show Steps p.tables e below (T513.setTop (mkF m 335 #[.val (.int xa), .val (.ref b2), .val (.ref b213), .val (.int (18 : Int32)), .val (.ref w_FLOAT)] [])) _
      refine XS.iconst X513.here hx rfl (hb hby at_335) ?_
      show Steps p.tables e below (T513.setTop (mkF m 336 #[.val (.int xa), .val (.ref b2), .val (.ref b213), .val (.int (18 : Int32)), .val (.ref w_FLOAT)] [(.int (1 : Int32))])) _
      refine XS.goto X513.here hx rfl (pc0 := 336) (pc' := 340) rfl (hb hby at_336) (by decide) (by decide) ?_
      show Steps p.tables e below (T513.setTop (mkF m 340 #[.val (.int xa), .val (.ref b2), .val (.ref b213), .val (.int (18 : Int32)), .val (.ref w_FLOAT)] [(.int (1 : Int32))])) _
      exact k
    obtain ⟨fs, hr, hrun, hended, hW, hsame⟩ := X513.leave (v := some (.int (1 : Int32))) (fun h => by rw [Bd.returns] at h; cases h)
    refine ⟨_, _, pre517 _ ?_, hrun, hended, _, _, rfl, ?_, ⟨_, rfl⟩, hW, hsame.mono (by decide) (by decide)⟩
    · exact retN X513 hx (t := .boolean) Bd.returns (by simp) (hb hby at_340) hr
    · show Q_rm0 Z xa w_ANY_ATOMIC_TYPE w_UNTYPED_ATOMIC w_STRING w_BOOLEAN w_DECIMAL w_INTEGER w_NON_POSITIVE_INTEGER w_NEGATIVE_INTEGER w_LONG w_INT w_SHORT w_BYTE w_NON_NEGATIVE_INTEGER w_UNSIGNED_LONG w_UNSIGNED_INT w_UNSIGNED_SHORT w_UNSIGNED_BYTE w_POSITIVE_INTEGER w_FLOAT w_DOUBLE w_ANY_URI w_DATE w_TIME w_HEX_BINARY w_QNAME w_NOTATION h0 n0 _ T513.heap _
      rw [e513]
      exact ⟨rfl, N513⟩
  · subst hk
    have pre519 : ∀ t, Steps p.tables e below (T317.setTop (mkF m 326 #[.val (.int xa), .val (.ref b2), .val (.ref b213), .val (.int (19 : Int32)), .val (.ref w_DOUBLE)] [(.ref w_DOUBLE)])) t → Steps p.tables e below (s₁.setTop (entryFrame m #[(.int xa)] maxLocals)) t := by
      intro t k
      refine pre319 t ?_
      refine XS.aloadN X317.here hx rfl (hb hby at_319) rfl rfl ?_
      show Steps p.tables e below (T317.setTop (mkF m 320 #[.val (.int xa), .val (.ref b2), .val (.ref b213), .val (.int (19 : Int32)), .unset] [(.ref b2)])) _
      refine XS.iloadN X317.here hx rfl (hb hby at_320) rfl ?_
      show Steps p.tables e below (T317.setTop (mkF m 321 #[.val (.int xa), .val (.ref b2), .val (.ref b213), .val (.int (19 : Int32)), .unset] [(.int (19 : Int32)), (.ref b2)])) _
      obtain ⟨c518, a518, q518, s518, m518, i518, u518⟩ := id (((((((((((((((((((((((((((V210.ext E213).other W217 (Nat.ne_of_lt (Nat.lt_of_lt_of_le V210.lt (Nat.le_of_eq g213.symm)))).other W221 (Nat.ne_of_lt (Nat.lt_of_lt_of_le V210.lt (Nat.le_of_eq g213.symm)))).other W225 (Nat.ne_of_lt (Nat.lt_of_lt_of_le V210.lt (Nat.le_of_eq g213.symm)))).other W229 (Nat.ne_of_lt (Nat.lt_of_lt_of_le V210.lt (Nat.le_of_eq g213.symm)))).other W233 (Nat.ne_of_lt (Nat.lt_of_lt_of_le V210.lt (Nat.le_of_eq g213.symm)))).other W237 (Nat.ne_of_lt (Nat.lt_of_lt_of_le V210.lt (Nat.le_of_eq g213.symm)))).other W241 (Nat.ne_of_lt (Nat.lt_of_lt_of_le V210.lt (Nat.le_of_eq g213.symm)))).other W245 (Nat.ne_of_lt (Nat.lt_of_lt_of_le V210.lt (Nat.le_of_eq g213.symm)))).other W249 (Nat.ne_of_lt (Nat.lt_of_lt_of_le V210.lt (Nat.le_of_eq g213.symm)))).other W253 (Nat.ne_of_lt (Nat.lt_of_lt_of_le V210.lt (Nat.le_of_eq g213.symm)))).other W257 (Nat.ne_of_lt (Nat.lt_of_lt_of_le V210.lt (Nat.le_of_eq g213.symm)))).other W261 (Nat.ne_of_lt (Nat.lt_of_lt_of_le V210.lt (Nat.le_of_eq g213.symm)))).other W265 (Nat.ne_of_lt (Nat.lt_of_lt_of_le V210.lt (Nat.le_of_eq g213.symm)))).other W269 (Nat.ne_of_lt (Nat.lt_of_lt_of_le V210.lt (Nat.le_of_eq g213.symm)))).other W273 (Nat.ne_of_lt (Nat.lt_of_lt_of_le V210.lt (Nat.le_of_eq g213.symm)))).other W277 (Nat.ne_of_lt (Nat.lt_of_lt_of_le V210.lt (Nat.le_of_eq g213.symm)))).other W281 (Nat.ne_of_lt (Nat.lt_of_lt_of_le V210.lt (Nat.le_of_eq g213.symm)))).other W285 (Nat.ne_of_lt (Nat.lt_of_lt_of_le V210.lt (Nat.le_of_eq g213.symm)))).other W289 (Nat.ne_of_lt (Nat.lt_of_lt_of_le V210.lt (Nat.le_of_eq g213.symm)))).other W293 (Nat.ne_of_lt (Nat.lt_of_lt_of_le V210.lt (Nat.le_of_eq g213.symm)))).other W297 (Nat.ne_of_lt (Nat.lt_of_lt_of_le V210.lt (Nat.le_of_eq g213.symm)))).other W301 (Nat.ne_of_lt (Nat.lt_of_lt_of_le V210.lt (Nat.le_of_eq g213.symm)))).other W305 (Nat.ne_of_lt (Nat.lt_of_lt_of_le V210.lt (Nat.le_of_eq g213.symm)))).other W309 (Nat.ne_of_lt (Nat.lt_of_lt_of_le V210.lt (Nat.le_of_eq g213.symm)))).other W313 (Nat.ne_of_lt (Nat.lt_of_lt_of_le V210.lt (Nat.le_of_eq g213.symm)))).other W317 (Nat.ne_of_lt (Nat.lt_of_lt_of_le V210.lt (Nat.le_of_eq g213.symm))))
      have hin518 := inb_of (j := (19 : Int32)) s518 ⟨by decide, by decide⟩
      refine X317.aaload hx (j := (19 : Int32)) (v := (.ref w_DOUBLE)) (by rw [e317]; exact a518.1) (State.isArrayOf_alike hZ.alike a518.2.1) rfl a518.2.2 hin518 (i518.at hin518 rfl) (g := (mkF m 321 #[.val (.int xa), .val (.ref b2), .val (.ref b213), .val (.int (19 : Int32)), .unset] [(.int (19 : Int32)), (.ref b2)])) rfl rfl (hb hby at_321) _ ?_
      show Steps p.tables e below (T317.setTop (mkF m 322 #[.val (.int xa), .val (.ref b2), .val (.ref b213), .val (.int (19 : Int32)), .unset] [(.ref w_DOUBLE)])) _
      refine XS.astore X317.here hx rfl (hb hby at_322) rfl rfl (l' := #[.val (.int xa), .val (.ref b2), .val (.ref b213), .val (.int (19 : Int32)), .val (.ref w_DOUBLE)]) rfl ?_
      show Steps p.tables e below (T317.setTop (mkF m 324 #[.val (.int xa), .val (.ref b2), .val (.ref b213), .val (.int (19 : Int32)), .val (.ref w_DOUBLE)] [])) _
      refine XS.aload X317.here hx rfl (hb hby at_324) rfl rfl ?_
      show Steps p.tables e below (T317.setTop (mkF m 326 #[.val (.int xa), .val (.ref b2), .val (.ref b213), .val (.int (19 : Int32)), .val (.ref w_DOUBLE)] [(.ref w_DOUBLE)])) _
      exact k
    have f520 := (P_DOUBLE.ext (own_keep_ext K317))
    have f521 := (((((((((((((((((((((((((((((((((((((((((((((((((f36.wr W42).wr W50).wr W58).wr W66).wr W74).wr W82).wr W90).wr W98).wr W106).wr W114).wr W122).wr W130).wr W138).wr W146).wr W154).wr W162).wr W170).wr W178).wr W186).wr W194).wr W202).wr W210).ext E213).wr W217).wr W221).wr W225).wr W229).wr W233).wr W237).wr W241).wr W245).wr W249).wr W253).wr W257).wr W261).wr W265).wr W269).wr W273).wr W277).wr W281).wr W285).wr W289).wr W293).wr W297).wr W301).wr W305).wr W309).wr W313).wr W317)
    have f522 := ((((((((((((((((((((((((((((((((((((((((((((((((f44.wr W50).wr W58).wr W66).wr W74).wr W82).wr W90).wr W98).wr W106).wr W114).wr W122).wr W130).wr W138).wr W146).wr W154).wr W162).wr W170).wr W178).wr W186).wr W194).wr W202).wr W210).ext E213).wr W217).wr W221).wr W225).wr W229).wr W233).wr W237).wr W241).wr W245).wr W249).wr W253).wr W257).wr W261).wr W265).wr W269).wr W273).wr W277).wr W281).wr W285).wr W289).wr W293).wr W297).wr W301).wr W305).wr W309).wr W313).wr W317)
    have f523 := (((((((((((((((((((((((((((((((((((f148.wr W154).wr W162).wr W170).wr W178).wr W186).wr W194).wr W202).wr W210).ext E213).wr W217).wr W221).wr W225).wr W229).wr W233).wr W237).wr W241).wr W245).wr W249).wr W253).wr W257).wr W261).wr W265).wr W269).wr W273).wr W277).wr W281).wr W285).wr W289).wr W293).wr W297).wr W301).wr W305).wr W309).wr W313).wr W317)
    have f524 := ((((((((((((((((((((((((((((((((((f156.wr W162).wr W170).wr W178).wr W186).wr W194).wr W202).wr W210).ext E213).wr W217).wr W221).wr W225).wr W229).wr W233).wr W237).wr W241).wr W245).wr W249).wr W253).wr W257).wr W261).wr W265).wr W269).wr W273).wr W277).wr W281).wr W285).wr W289).wr W293).wr W297).wr W301).wr W305).wr W309).wr W313).wr W317)
    have f526 := ((((((((((((((((((((((((((((((((((f161.wr W162).wr W170).wr W178).wr W186).wr W194).wr W202).wr W210).ext E213).wr W217).wr W221).wr W225).wr W229).wr W233).wr W237).wr W241).wr W245).wr W249).wr W253).wr W257).wr W261).wr W265).wr W269).wr W273).wr W277).wr W281).wr W285).wr W289).wr W293).wr W297).wr W301).wr W305).wr W309).wr W313).wr W317)
    obtain ⟨cq525, kq525, q525a, q525b, q525c⟩ := isOf hZ e317 f526
    obtain ⟨_, _, ⟨T525, L525, k525, n525⟩, -, X525, ⟨Lc525, hQ525, l525, y525, z525⟩, st525⟩ := X317.virtualBack hx (y := (⟨"com/example/xidr/xidr/xpath/values/AtomicType", "isNumeric", "()Z"⟩ : MethodName)) (z := (⟨"com/example/xidr/xidr/xpath/values/AtomicType", "isNumeric", "()Z"⟩ : MethodName)) hown (mvT hZ (hw _ (List.mem_of_getElem? (i := 58) rfl))) (mvT hZ (hw _ (List.mem_of_getElem? (i := 59) rfl))) (notFace_of_selects (args := #[]) (mvT hZ (hw _ (List.mem_of_getElem? (i := 61) rfl)))) (mvT hZ (hw _ (List.mem_of_getElem? (i := 61) rfl))) (mvT hZ (hw _ (List.mem_of_getElem? (i := 60) rfl))) (by decide) (backOf (W := 0) (rm_num3 l Z a0 hw [] w_DOUBLE w_DOUBLE w_DECIMAL w_INTEGER w_FLOAT h317 n0 z317 f520 f521 f522 f523 f524 (hne_DOUBLE_DECIMAL) (hne_DOUBLE_INTEGER) (hne_DOUBLE_FLOAT)) hZ (hw _ (List.mem_of_getElem? (i := 62) rfl)) (hw _ (List.mem_of_getElem? (i := 3) rfl)) (by decide) (by decide)) q525a q525c (g := (mkF m 326 #[.val (.int xa), .val (.ref b2), .val (.ref b213), .val (.int (19 : Int32)), .val (.ref w_DOUBLE)] [(.ref w_DOUBLE)])) rfl (by rw [hml]; rfl) (Steps.refl _) (argsL := []) (rest := []) (lenOf pd0 rfl) rfl (by show 2 * 0 + _ ≤ _; exact Nat.le_of_eq rfl) (hb hby at_326) (fun _ _ => ⟨rfl, e317, (by decide : 2 + 0 ≤ _), (by decide : 52 + 0 ≤ _)⟩)
    dsimp only [Pt.U, Pt.locs, Pt.cells, Pt.slots] at X525 l525 y525 z525 st525 hQ525
    subst y525 z525
    obtain ⟨rfl, M525, e525⟩ := hQ525
    have N525 : Fr n0 L525 := by rw [l525]; exact Fr.app N317 M525
    clear l525
    have X525 : Stand p l e _ s m _ below meth c T525 _ 2 52 := X525
    have pre527 : ∀ t, Steps p.tables e below (T525.setTop (mkF m 329 #[.val (.int xa), .val (.ref b2), .val (.ref b213), .val (.int (19 : Int32)), .val (.ref w_DOUBLE)] [(.int (1 : Int32))])) t → Steps p.tables e below (s₁.setTop (entryFrame m #[(.int xa)] maxLocals)) t := fun t k => pre519 t (st525.trans k)
    have pre529 : ∀ t, Steps p.tables e below (T525.setTop (mkF m 340 #[.val (.int xa), .val (.ref b2), .val (.ref b213), .val (.int (19 : Int32)), .val (.ref w_DOUBLE)] [(.int (1 : Int32))])) t → Steps p.tables e below (s₁.setTop (entryFrame m #[(.int xa)] maxLocals)) t := by
      intro t k
      refine pre527 t ?_
      refine XS.aloadN X525.here hx rfl (hb hby at_329) rfl rfl ?_
      show Steps p.tables e below (T525.setTop (mkF m 330 #[.val (.int xa), .val (.ref b2), .val (.ref b213), .val (.int (19 : Int32)), .val (.ref w_DOUBLE)] [(.ref b213), (.int (1 : Int32))])) _
      refine XS.iloadN X525.here hx rfl (hb hby at_330) rfl ?_
      show Steps p.tables e below (T525.setTop (mkF m 331 #[.val (.int xa), .val (.ref b2), .val (.ref b213), .val (.int (19 : Int32)), .val (.ref w_DOUBLE)] [(.int (19 : Int32)), (.ref b213), (.int (1 : Int32))])) _
      obtain ⟨c528, a528, q528, s528, m528, i528, u528⟩ := id V317
      have hin528 := inb_of (j := (19 : Int32)) s528 ⟨by decide, by decide⟩
      refine X525.baloadBooleans hx (j := (19 : Int32)) (v := (.int (nar .boolean (1 : Int32)))) (by rw [e525]; exact a528.1) (State.isArrayOf_alike hZ.alike a528.2.1) a528.2.2 hin528 (i528.at hin528 rfl) (g := (mkF m 331 #[.val (.int xa), .val (.ref b2), .val (.ref b213), .val (.int (19 : Int32)), .val (.ref w_DOUBLE)] [(.int (19 : Int32)), (.ref b213), (.int (1 : Int32))])) rfl rfl (hb hby at_331) _ ?_
      show Steps p.tables e below (T525.setTop (mkF m 332 #[.val (.int xa), .val (.ref b2), .val (.ref b213), .val (.int (19 : Int32)), .val (.ref w_DOUBLE)] [(.int (nar .boolean (1 : Int32))), (.int (1 : Int32))])) _
      refine XS.icmpNo X525.here hx rfl (hb hby at_332) rfl (teq (show (1 : Int32) = (nar .boolean (1 : Int32)) from rfl)).2 ?_
      show Steps p.tables e below (T525.setTop (mkF m 335 #[.val (.int xa), .val (.ref b2), .val (.ref b213), .val (.int (19 : Int32)), .val (.ref w_DOUBLE)] [])) _
      refine XS.iconst X525.here hx rfl (hb hby at_335) ?_
      show Steps p.tables e below (T525.setTop (mkF m 336 #[.val (.int xa), .val (.ref b2), .val (.ref b213), .val (.int (19 : Int32)), .val (.ref w_DOUBLE)] [(.int (1 : Int32))])) _
      refine XS.goto X525.here hx rfl (pc0 := 336) (pc' := 340) rfl (hb hby at_336) (by decide) (by decide) ?_
      show Steps p.tables e below (T525.setTop (mkF m 340 #[.val (.int xa), .val (.ref b2), .val (.ref b213), .val (.int (19 : Int32)), .val (.ref w_DOUBLE)] [(.int (1 : Int32))])) _
      exact k
    obtain ⟨fs, hr, hrun, hended, hW, hsame⟩ := X525.leave (v := some (.int (1 : Int32))) (fun h => by rw [Bd.returns] at h; cases h)
    refine ⟨_, _, pre529 _ ?_, hrun, hended, _, _, rfl, ?_, ⟨_, rfl⟩, hW, hsame.mono (by decide) (by decide)⟩
    · exact retN X525 hx (t := .boolean) Bd.returns (by simp) (hb hby at_340) hr
    · show Q_rm0 Z xa w_ANY_ATOMIC_TYPE w_UNTYPED_ATOMIC w_STRING w_BOOLEAN w_DECIMAL w_INTEGER w_NON_POSITIVE_INTEGER w_NEGATIVE_INTEGER w_LONG w_INT w_SHORT w_BYTE w_NON_NEGATIVE_INTEGER w_UNSIGNED_LONG w_UNSIGNED_INT w_UNSIGNED_SHORT w_UNSIGNED_BYTE w_POSITIVE_INTEGER w_FLOAT w_DOUBLE w_ANY_URI w_DATE w_TIME w_HEX_BINARY w_QNAME w_NOTATION h0 n0 _ T525.heap _
      rw [e525]
      exact ⟨rfl, N525⟩
  · subst hk
    have pre531 : ∀ t, Steps p.tables e below (T317.setTop (mkF m 326 #[.val (.int xa), .val (.ref b2), .val (.ref b213), .val (.int (20 : Int32)), .val (.ref w_ANY_URI)] [(.ref w_ANY_URI)])) t → Steps p.tables e below (s₁.setTop (entryFrame m #[(.int xa)] maxLocals)) t := by
      intro t k
      refine pre319 t ?_
      refine XS.aloadN X317.here hx rfl (hb hby at_319) rfl rfl ?_
      show Steps p.tables e below (T317.setTop (mkF m 320 #[.val (.int xa), .val (.ref b2), .val (.ref b213), .val (.int (20 : Int32)), .unset] [(.ref b2)])) _
      refine XS.iloadN X317.here hx rfl (hb hby at_320) rfl ?_
      show Steps p.tables e below (T317.setTop (mkF m 321 #[.val (.int xa), .val (.ref b2), .val (.ref b213), .val (.int (20 : Int32)), .unset] [(.int (20 : Int32)), (.ref b2)])) _
      obtain ⟨c530, a530, q530, s530, m530, i530, u530⟩ := id (((((((((((((((((((((((((((V210.ext E213).other W217 (Nat.ne_of_lt (Nat.lt_of_lt_of_le V210.lt (Nat.le_of_eq g213.symm)))).other W221 (Nat.ne_of_lt (Nat.lt_of_lt_of_le V210.lt (Nat.le_of_eq g213.symm)))).other W225 (Nat.ne_of_lt (Nat.lt_of_lt_of_le V210.lt (Nat.le_of_eq g213.symm)))).other W229 (Nat.ne_of_lt (Nat.lt_of_lt_of_le V210.lt (Nat.le_of_eq g213.symm)))).other W233 (Nat.ne_of_lt (Nat.lt_of_lt_of_le V210.lt (Nat.le_of_eq g213.symm)))).other W237 (Nat.ne_of_lt (Nat.lt_of_lt_of_le V210.lt (Nat.le_of_eq g213.symm)))).other W241 (Nat.ne_of_lt (Nat.lt_of_lt_of_le V210.lt (Nat.le_of_eq g213.symm)))).other W245 (Nat.ne_of_lt (Nat.lt_of_lt_of_le V210.lt (Nat.le_of_eq g213.symm)))).other W249 (Nat.ne_of_lt (Nat.lt_of_lt_of_le V210.lt (Nat.le_of_eq g213.symm)))).other W253 (Nat.ne_of_lt (Nat.lt_of_lt_of_le V210.lt (Nat.le_of_eq g213.symm)))).other W257 (Nat.ne_of_lt (Nat.lt_of_lt_of_le V210.lt (Nat.le_of_eq g213.symm)))).other W261 (Nat.ne_of_lt (Nat.lt_of_lt_of_le V210.lt (Nat.le_of_eq g213.symm)))).other W265 (Nat.ne_of_lt (Nat.lt_of_lt_of_le V210.lt (Nat.le_of_eq g213.symm)))).other W269 (Nat.ne_of_lt (Nat.lt_of_lt_of_le V210.lt (Nat.le_of_eq g213.symm)))).other W273 (Nat.ne_of_lt (Nat.lt_of_lt_of_le V210.lt (Nat.le_of_eq g213.symm)))).other W277 (Nat.ne_of_lt (Nat.lt_of_lt_of_le V210.lt (Nat.le_of_eq g213.symm)))).other W281 (Nat.ne_of_lt (Nat.lt_of_lt_of_le V210.lt (Nat.le_of_eq g213.symm)))).other W285 (Nat.ne_of_lt (Nat.lt_of_lt_of_le V210.lt (Nat.le_of_eq g213.symm)))).other W289 (Nat.ne_of_lt (Nat.lt_of_lt_of_le V210.lt (Nat.le_of_eq g213.symm)))).other W293 (Nat.ne_of_lt (Nat.lt_of_lt_of_le V210.lt (Nat.le_of_eq g213.symm)))).other W297 (Nat.ne_of_lt (Nat.lt_of_lt_of_le V210.lt (Nat.le_of_eq g213.symm)))).other W301 (Nat.ne_of_lt (Nat.lt_of_lt_of_le V210.lt (Nat.le_of_eq g213.symm)))).other W305 (Nat.ne_of_lt (Nat.lt_of_lt_of_le V210.lt (Nat.le_of_eq g213.symm)))).other W309 (Nat.ne_of_lt (Nat.lt_of_lt_of_le V210.lt (Nat.le_of_eq g213.symm)))).other W313 (Nat.ne_of_lt (Nat.lt_of_lt_of_le V210.lt (Nat.le_of_eq g213.symm)))).other W317 (Nat.ne_of_lt (Nat.lt_of_lt_of_le V210.lt (Nat.le_of_eq g213.symm))))
      have hin530 := inb_of (j := (20 : Int32)) s530 ⟨by decide, by decide⟩
      refine X317.aaload hx (j := (20 : Int32)) (v := (.ref w_ANY_URI)) (by rw [e317]; exact a530.1) (State.isArrayOf_alike hZ.alike a530.2.1) rfl a530.2.2 hin530 (i530.at hin530 rfl) (g := (mkF m 321 #[.val (.int xa), .val (.ref b2), .val (.ref b213), .val (.int (20 : Int32)), .unset] [(.int (20 : Int32)), (.ref b2)])) rfl rfl (hb hby at_321) _ ?_
      show Steps p.tables e below (T317.setTop (mkF m 322 #[.val (.int xa), .val (.ref b2), .val (.ref b213), .val (.int (20 : Int32)), .unset] [(.ref w_ANY_URI)])) _
      refine XS.astore X317.here hx rfl (hb hby at_322) rfl rfl (l' := #[.val (.int xa), .val (.ref b2), .val (.ref b213), .val (.int (20 : Int32)), .val (.ref w_ANY_URI)]) rfl ?_
      show Steps p.tables e below (T317.setTop (mkF m 324 #[.val (.int xa), .val (.ref b2), .val (.ref b213), .val (.int (20 : Int32)), .val (.ref w_ANY_URI)] [])) _
      refine XS.aload X317.here hx rfl (hb hby at_324) rfl rfl ?_
      show Steps p.tables e below (T317.setTop (mkF m 326 #[.val (.int xa), .val (.ref b2), .val (.ref b213), .val (.int (20 : Int32)), .val (.ref w_ANY_URI)] [(.ref w_ANY_URI)])) _
      exact k
    have f532 := (P_ANY_URI.ext (own_keep_ext K317))
    have f533 := (((((((((((((((((((((((((((((((((((((((((((((((((f36.wr W42).wr W50).wr W58).wr W66).wr W74).wr W82).wr W90).wr W98).wr W106).wr W114).wr W122).wr W130).wr W138).wr W146).wr W154).wr W162).wr W170).wr W178).wr W186).wr W194).wr W202).wr W210).ext E213).wr W217).wr W221).wr W225).wr W229).wr W233).wr W237).wr W241).wr W245).wr W249).wr W253).wr W257).wr W261).wr W265).wr W269).wr W273).wr W277).wr W281).wr W285).wr W289).wr W293).wr W297).wr W301).wr W305).wr W309).wr W313).wr W317)
    have f534 := ((((((((((((((((((((((((((((((((((((((((((((((((f44.wr W50).wr W58).wr W66).wr W74).wr W82).wr W90).wr W98).wr W106).wr W114).wr W122).wr W130).wr W138).wr W146).wr W154).wr W162).wr W170).wr W178).wr W186).wr W194).wr W202).wr W210).ext E213).wr W217).wr W221).wr W225).wr W229).wr W233).wr W237).wr W241).wr W245).wr W249).wr W253).wr W257).wr W261).wr W265).wr W269).wr W273).wr W277).wr W281).wr W285).wr W289).wr W293).wr W297).wr W301).wr W305).wr W309).wr W313).wr W317)
    have f535 := (((((((((((((((((((((((((((((((((((f148.wr W154).wr W162).wr W170).wr W178).wr W186).wr W194).wr W202).wr W210).ext E213).wr W217).wr W221).wr W225).wr W229).wr W233).wr W237).wr W241).wr W245).wr W249).wr W253).wr W257).wr W261).wr W265).wr W269).wr W273).wr W277).wr W281).wr W285).wr W289).wr W293).wr W297).wr W301).wr W305).wr W309).wr W313).wr W317)
    have f536 := ((((((((((((((((((((((((((((((((((f156.wr W162).wr W170).wr W178).wr W186).wr W194).wr W202).wr W210).ext E213).wr W217).wr W221).wr W225).wr W229).wr W233).wr W237).wr W241).wr W245).wr W249).wr W253).wr W257).wr W261).wr W265).wr W269).wr W273).wr W277).wr W281).wr W285).wr W289).wr W293).wr W297).wr W301).wr W305).wr W309).wr W313).wr W317)
    have f538 := (((((((((((((((((((((((((((((((((f169.wr W170).wr W178).wr W186).wr W194).wr W202).wr W210).ext E213).wr W217).wr W221).wr W225).wr W229).wr W233).wr W237).wr W241).wr W245).wr W249).wr W253).wr W257).wr W261).wr W265).wr W269).wr W273).wr W277).wr W281).wr W285).wr W289).wr W293).wr W297).wr W301).wr W305).wr W309).wr W313).wr W317)
    obtain ⟨cq537, kq537, q537a, q537b, q537c⟩ := isOf hZ e317 f538
    obtain ⟨_, _, ⟨T537, L537, k537, n537⟩, -, X537, ⟨Lc537, hQ537, l537, y537, z537⟩, st537⟩ := X317.virtualBack hx (y := (⟨"com/example/xidr/xidr/xpath/values/AtomicType", "isNumeric", "()Z"⟩ : MethodName)) (z := (⟨"com/example/xidr/xidr/xpath/values/AtomicType", "isNumeric", "()Z"⟩ : MethodName)) hown (mvT hZ (hw _ (List.mem_of_getElem? (i := 58) rfl))) (mvT hZ (hw _ (List.mem_of_getElem? (i := 59) rfl))) (notFace_of_selects (args := #[]) (mvT hZ (hw _ (List.mem_of_getElem? (i := 61) rfl)))) (mvT hZ (hw _ (List.mem_of_getElem? (i := 61) rfl))) (mvT hZ (hw _ (List.mem_of_getElem? (i := 60) rfl))) (by decide) (backOf (W := 0) (rm_num4 l Z a0 hw [] w_ANY_URI w_ANY_URI w_DECIMAL w_INTEGER w_FLOAT w_DOUBLE h317 n0 z317 f532 f533 f534 f535 f536 (hne_ANY_URI_DECIMAL) (hne_ANY_URI_INTEGER) (hne_ANY_URI_FLOAT) (hne_ANY_URI_DOUBLE)) hZ (hw _ (List.mem_of_getElem? (i := 62) rfl)) (hw _ (List.mem_of_getElem? (i := 3) rfl)) (by decide) (by decide)) q537a q537c (g := (mkF m 326 #[.val (.int xa), .val (.ref b2), .val (.ref b213), .val (.int (20 : Int32)), .val (.ref w_ANY_URI)] [(.ref w_ANY_URI)])) rfl (by rw [hml]; rfl) (Steps.refl _) (argsL := []) (rest := []) (lenOf pd0 rfl) rfl (by show 2 * 0 + _ ≤ _; exact Nat.le_of_eq rfl) (hb hby at_326) (fun _ _ => ⟨rfl, e317, (by decide : 2 + 0 ≤ _), (by decide : 52 + 0 ≤ _)⟩)
    dsimp only [Pt.U, Pt.locs, Pt.cells, Pt.slots] at X537 l537 y537 z537 st537 hQ537
    subst y537 z537
    obtain ⟨rfl, M537, e537⟩ := hQ537
    have N537 : Fr n0 L537 := by rw [l537]; exact Fr.app N317 M537
    clear l537
    have X537 : Stand p l e _ s m _ below meth c T537 _ 2 52 := X537
    have pre539 : ∀ t, Steps p.tables e below (T537.setTop (mkF m 329 #[.val (.int xa), .val (.ref b2), .val (.ref b213), .val (.int (20 : Int32)), .val (.ref w_ANY_URI)] [(.int (0 : Int32))])) t → Steps p.tables e below (s₁.setTop (entryFrame m #[(.int xa)] maxLocals)) t := fun t k => pre531 t (st537.trans k)
    have pre541 : ∀ t, Steps p.tables e below (T537.setTop (mkF m 340 #[.val (.int xa), .val (.ref b2), .val (.ref b213), .val (.int (20 : Int32)), .val (.ref w_ANY_URI)] [(.int (1 : Int32))])) t → Steps p.tables e below (s₁.setTop (entryFrame m #[(.int xa)] maxLocals)) t := by
      intro t k
      refine pre539 t ?_
      refine XS.aloadN X537.here hx rfl (hb hby at_329) rfl rfl ?_
      show Steps p.tables e below (T537.setTop (mkF m 330 #[.val (.int xa), .val (.ref b2), .val (.ref b213), .val (.int (20 : Int32)), .val (.ref w_ANY_URI)] [(.ref b213), (.int (0 : Int32))])) _
      refine XS.iloadN X537.here hx rfl (hb hby at_330) rfl ?_
      show Steps p.tables e below (T537.setTop (mkF m 331 #[.val (.int xa), .val (.ref b2), .val (.ref b213), .val (.int (20 : Int32)), .val (.ref w_ANY_URI)] [(.int (20 : Int32)), (.ref b213), (.int (0 : Int32))])) _
      obtain ⟨c540, a540, q540, s540, m540, i540, u540⟩ := id V317
      have hin540 := inb_of (j := (20 : Int32)) s540 ⟨by decide, by decide⟩
      refine X537.baloadBooleans hx (j := (20 : Int32)) (v := (.int (nar .boolean (0 : Int32)))) (by rw [e537]; exact a540.1) (State.isArrayOf_alike hZ.alike a540.2.1) a540.2.2 hin540 (i540.at hin540 rfl) (g := (mkF m 331 #[.val (.int xa), .val (.ref b2), .val (.ref b213), .val (.int (20 : Int32)), .val (.ref w_ANY_URI)] [(.int (20 : Int32)), (.ref b213), (.int (0 : Int32))])) rfl rfl (hb hby at_331) _ ?_
      show Steps p.tables e below (T537.setTop (mkF m 332 #[.val (.int xa), .val (.ref b2), .val (.ref b213), .val (.int (20 : Int32)), .val (.ref w_ANY_URI)] [(.int (nar .boolean (0 : Int32))), (.int (0 : Int32))])) _
      refine XS.icmpNo X537.here hx rfl (hb hby at_332) rfl (teq (show (0 : Int32) = (nar .boolean (0 : Int32)) from rfl)).2 ?_
      show Steps p.tables e below (T537.setTop (mkF m 335 #[.val (.int xa), .val (.ref b2), .val (.ref b213), .val (.int (20 : Int32)), .val (.ref w_ANY_URI)] [])) _
      refine XS.iconst X537.here hx rfl (hb hby at_335) ?_
      show Steps p.tables e below (T537.setTop (mkF m 336 #[.val (.int xa), .val (.ref b2), .val (.ref b213), .val (.int (20 : Int32)), .val (.ref w_ANY_URI)] [(.int (1 : Int32))])) _
      refine XS.goto X537.here hx rfl (pc0 := 336) (pc' := 340) rfl (hb hby at_336) (by decide) (by decide) ?_
      show Steps p.tables e below (T537.setTop (mkF m 340 #[.val (.int xa), .val (.ref b2), .val (.ref b213), .val (.int (20 : Int32)), .val (.ref w_ANY_URI)] [(.int (1 : Int32))])) _
      exact k
    obtain ⟨fs, hr, hrun, hended, hW, hsame⟩ := X537.leave (v := some (.int (1 : Int32))) (fun h => by rw [Bd.returns] at h; cases h)
    refine ⟨_, _, pre541 _ ?_, hrun, hended, _, _, rfl, ?_, ⟨_, rfl⟩, hW, hsame.mono (by decide) (by decide)⟩
    · exact retN X537 hx (t := .boolean) Bd.returns (by simp) (hb hby at_340) hr
    · show Q_rm0 Z xa w_ANY_ATOMIC_TYPE w_UNTYPED_ATOMIC w_STRING w_BOOLEAN w_DECIMAL w_INTEGER w_NON_POSITIVE_INTEGER w_NEGATIVE_INTEGER w_LONG w_INT w_SHORT w_BYTE w_NON_NEGATIVE_INTEGER w_UNSIGNED_LONG w_UNSIGNED_INT w_UNSIGNED_SHORT w_UNSIGNED_BYTE w_POSITIVE_INTEGER w_FLOAT w_DOUBLE w_ANY_URI w_DATE w_TIME w_HEX_BINARY w_QNAME w_NOTATION h0 n0 _ T537.heap _
      rw [e537]
      exact ⟨rfl, N537⟩
  · subst hk
    have pre543 : ∀ t, Steps p.tables e below (T317.setTop (mkF m 326 #[.val (.int xa), .val (.ref b2), .val (.ref b213), .val (.int (21 : Int32)), .val (.ref w_DATE)] [(.ref w_DATE)])) t → Steps p.tables e below (s₁.setTop (entryFrame m #[(.int xa)] maxLocals)) t := by
      intro t k
      refine pre319 t ?_
      refine XS.aloadN X317.here hx rfl (hb hby at_319) rfl rfl ?_
      show Steps p.tables e below (T317.setTop (mkF m 320 #[.val (.int xa), .val (.ref b2), .val (.ref b213), .val (.int (21 : Int32)), .unset] [(.ref b2)])) _
      refine XS.iloadN X317.here hx rfl (hb hby at_320) rfl ?_
      show Steps p.tables e below (T317.setTop (mkF m 321 #[.val (.int xa), .val (.ref b2), .val (.ref b213), .val (.int (21 : Int32)), .unset] [(.int (21 : Int32)), (.ref b2)])) _
      obtain ⟨c542, a542, q542, s542, m542, i542, u542⟩ := id (((((((((((((((((((((((((((V210.ext E213).other W217 (Nat.ne_of_lt (Nat.lt_of_lt_of_le V210.lt (Nat.le_of_eq g213.symm)))).other W221 (Nat.ne_of_lt (Nat.lt_of_lt_of_le V210.lt (Nat.le_of_eq g213.symm)))).other W225 (Nat.ne_of_lt (Nat.lt_of_lt_of_le V210.lt (Nat.le_of_eq g213.symm)))).other W229 (Nat.ne_of_lt (Nat.lt_of_lt_of_le V210.lt (Nat.le_of_eq g213.symm)))).other W233 (Nat.ne_of_lt (Nat.lt_of_lt_of_le V210.lt (Nat.le_of_eq g213.symm)))).other W237 (Nat.ne_of_lt (Nat.lt_of_lt_of_le V210.lt (Nat.le_of_eq g213.symm)))).other W241 (Nat.ne_of_lt (Nat.lt_of_lt_of_le V210.lt (Nat.le_of_eq g213.symm)))).other W245 (Nat.ne_of_lt (Nat.lt_of_lt_of_le V210.lt (Nat.le_of_eq g213.symm)))).other W249 (Nat.ne_of_lt (Nat.lt_of_lt_of_le V210.lt (Nat.le_of_eq g213.symm)))).other W253 (Nat.ne_of_lt (Nat.lt_of_lt_of_le V210.lt (Nat.le_of_eq g213.symm)))).other W257 (Nat.ne_of_lt (Nat.lt_of_lt_of_le V210.lt (Nat.le_of_eq g213.symm)))).other W261 (Nat.ne_of_lt (Nat.lt_of_lt_of_le V210.lt (Nat.le_of_eq g213.symm)))).other W265 (Nat.ne_of_lt (Nat.lt_of_lt_of_le V210.lt (Nat.le_of_eq g213.symm)))).other W269 (Nat.ne_of_lt (Nat.lt_of_lt_of_le V210.lt (Nat.le_of_eq g213.symm)))).other W273 (Nat.ne_of_lt (Nat.lt_of_lt_of_le V210.lt (Nat.le_of_eq g213.symm)))).other W277 (Nat.ne_of_lt (Nat.lt_of_lt_of_le V210.lt (Nat.le_of_eq g213.symm)))).other W281 (Nat.ne_of_lt (Nat.lt_of_lt_of_le V210.lt (Nat.le_of_eq g213.symm)))).other W285 (Nat.ne_of_lt (Nat.lt_of_lt_of_le V210.lt (Nat.le_of_eq g213.symm)))).other W289 (Nat.ne_of_lt (Nat.lt_of_lt_of_le V210.lt (Nat.le_of_eq g213.symm)))).other W293 (Nat.ne_of_lt (Nat.lt_of_lt_of_le V210.lt (Nat.le_of_eq g213.symm)))).other W297 (Nat.ne_of_lt (Nat.lt_of_lt_of_le V210.lt (Nat.le_of_eq g213.symm)))).other W301 (Nat.ne_of_lt (Nat.lt_of_lt_of_le V210.lt (Nat.le_of_eq g213.symm)))).other W305 (Nat.ne_of_lt (Nat.lt_of_lt_of_le V210.lt (Nat.le_of_eq g213.symm)))).other W309 (Nat.ne_of_lt (Nat.lt_of_lt_of_le V210.lt (Nat.le_of_eq g213.symm)))).other W313 (Nat.ne_of_lt (Nat.lt_of_lt_of_le V210.lt (Nat.le_of_eq g213.symm)))).other W317 (Nat.ne_of_lt (Nat.lt_of_lt_of_le V210.lt (Nat.le_of_eq g213.symm))))
      have hin542 := inb_of (j := (21 : Int32)) s542 ⟨by decide, by decide⟩
      refine X317.aaload hx (j := (21 : Int32)) (v := (.ref w_DATE)) (by rw [e317]; exact a542.1) (State.isArrayOf_alike hZ.alike a542.2.1) rfl a542.2.2 hin542 (i542.at hin542 rfl) (g := (mkF m 321 #[.val (.int xa), .val (.ref b2), .val (.ref b213), .val (.int (21 : Int32)), .unset] [(.int (21 : Int32)), (.ref b2)])) rfl rfl (hb hby at_321) _ ?_
      show Steps p.tables e below (T317.setTop (mkF m 322 #[.val (.int xa), .val (.ref b2), .val (.ref b213), .val (.int (21 : Int32)), .unset] [(.ref w_DATE)])) _
      refine XS.astore X317.here hx rfl (hb hby at_322) rfl rfl (l' := #[.val (.int xa), .val (.ref b2), .val (.ref b213), .val (.int (21 : Int32)), .val (.ref w_DATE)]) rfl ?_
      show Steps p.tables e below (T317.setTop (mkF m 324 #[.val (.int xa), .val (.ref b2), .val (.ref b213), .val (.int (21 : Int32)), .val (.ref w_DATE)] [])) _
      refine XS.aload X317.here hx rfl (hb hby at_324) rfl rfl ?_
      show Steps p.tables e below (T317.setTop (mkF m 326 #[.val (.int xa), .val (.ref b2), .val (.ref b213), .val (.int (21 : Int32)), .val (.ref w_DATE)] [(.ref w_DATE)])) _
      exact k
    have f544 := (P_DATE.ext (own_keep_ext K317))
    have f545 := (((((((((((((((((((((((((((((((((((((((((((((((((f36.wr W42).wr W50).wr W58).wr W66).wr W74).wr W82).wr W90).wr W98).wr W106).wr W114).wr W122).wr W130).wr W138).wr W146).wr W154).wr W162).wr W170).wr W178).wr W186).wr W194).wr W202).wr W210).ext E213).wr W217).wr W221).wr W225).wr W229).wr W233).wr W237).wr W241).wr W245).wr W249).wr W253).wr W257).wr W261).wr W265).wr W269).wr W273).wr W277).wr W281).wr W285).wr W289).wr W293).wr W297).wr W301).wr W305).wr W309).wr W313).wr W317)
    have f546 := ((((((((((((((((((((((((((((((((((((((((((((((((f44.wr W50).wr W58).wr W66).wr W74).wr W82).wr W90).wr W98).wr W106).wr W114).wr W122).wr W130).wr W138).wr W146).wr W154).wr W162).wr W170).wr W178).wr W186).wr W194).wr W202).wr W210).ext E213).wr W217).wr W221).wr W225).wr W229).wr W233).wr W237).wr W241).wr W245).wr W249).wr W253).wr W257).wr W261).wr W265).wr W269).wr W273).wr W277).wr W281).wr W285).wr W289).wr W293).wr W297).wr W301).wr W305).wr W309).wr W313).wr W317)
    have f547 := (((((((((((((((((((((((((((((((((((f148.wr W154).wr W162).wr W170).wr W178).wr W186).wr W194).wr W202).wr W210).ext E213).wr W217).wr W221).wr W225).wr W229).wr W233).wr W237).wr W241).wr W245).wr W249).wr W253).wr W257).wr W261).wr W265).wr W269).wr W273).wr W277).wr W281).wr W285).wr W289).wr W293).wr W297).wr W301).wr W305).wr W309).wr W313).wr W317)
    have f548 := ((((((((((((((((((((((((((((((((((f156.wr W162).wr W170).wr W178).wr W186).wr W194).wr W202).wr W210).ext E213).wr W217).wr W221).wr W225).wr W229).wr W233).wr W237).wr W241).wr W245).wr W249).wr W253).wr W257).wr W261).wr W265).wr W269).wr W273).wr W277).wr W281).wr W285).wr W289).wr W293).wr W297).wr W301).wr W305).wr W309).wr W313).wr W317)
    have f550 := ((((((((((((((((((((((((((((((((f177.wr W178).wr W186).wr W194).wr W202).wr W210).ext E213).wr W217).wr W221).wr W225).wr W229).wr W233).wr W237).wr W241).wr W245).wr W249).wr W253).wr W257).wr W261).wr W265).wr W269).wr W273).wr W277).wr W281).wr W285).wr W289).wr W293).wr W297).wr W301).wr W305).wr W309).wr W313).wr W317)
    obtain ⟨cq549, kq549, q549a, q549b, q549c⟩ := isOf hZ e317 f550
    obtain ⟨_, _, ⟨T549, L549, k549, n549⟩, -, X549, ⟨Lc549, hQ549, l549, y549, z549⟩, st549⟩ := X317.virtualBack hx (y := (⟨"com/example/xidr/xidr/xpath/values/AtomicType", "isNumeric", "()Z"⟩ : MethodName)) (z := (⟨"com/example/xidr/xidr/xpath/values/AtomicType", "isNumeric", "()Z"⟩ : MethodName)) hown (mvT hZ (hw _ (List.mem_of_getElem? (i := 58) rfl))) (mvT hZ (hw _ (List.mem_of_getElem? (i := 59) rfl))) (notFace_of_selects (args := #[]) (mvT hZ (hw _ (List.mem_of_getElem? (i := 61) rfl)))) (mvT hZ (hw _ (List.mem_of_getElem? (i := 61) rfl))) (mvT hZ (hw _ (List.mem_of_getElem? (i := 60) rfl))) (by decide) (backOf (W := 0) (rm_num4 l Z a0 hw [] w_DATE w_DATE w_DECIMAL w_INTEGER w_FLOAT w_DOUBLE h317 n0 z317 f544 f545 f546 f547 f548 (hne_DATE_DECIMAL) (hne_DATE_INTEGER) (hne_DATE_FLOAT) (hne_DATE_DOUBLE)) hZ (hw _ (List.mem_of_getElem? (i := 62) rfl)) (hw _ (List.mem_of_getElem? (i := 3) rfl)) (by decide) (by decide)) q549a q549c (g := (mkF m 326 #[.val (.int xa), .val (.ref b2), .val (.ref b213), .val (.int (21 : Int32)), .val (.ref w_DATE)] [(.ref w_DATE)])) rfl (by rw [hml]; rfl) (Steps.refl _) (argsL := []) (rest := []) (lenOf pd0 rfl) rfl (by show 2 * 0 + _ ≤ _; exact Nat.le_of_eq rfl) (hb hby at_326) (fun _ _ => ⟨rfl, e317, (by decide : 2 + 0 ≤ _), (by decide : 52 + 0 ≤ _)⟩)
    dsimp only [Pt.U, Pt.locs, Pt.cells, Pt.slots] at X549 l549 y549 z549 st549 hQ549
    subst y549 z549
    obtain ⟨rfl, M549, e549⟩ := hQ549
    have N549 : Fr n0 L549 := by rw [l549]; exact Fr.app N317 M549
    clear l549
    have X549 : Stand p l e _ s m _ below meth c T549 _ 2 52 := X549
    have pre551 : ∀ t, Steps p.tables e below (T549.setTop (mkF m 329 #[.val (.int xa), .val (.ref b2), .val (.ref b213), .val (.int (21 : Int32)), .val (.ref w_DATE)] [(.int (0 : Int32))])) t → Steps p.tables e below (s₁.setTop (entryFrame m #[(.int xa)] maxLocals)) t := fun t k => pre543 t (st549.trans k)
    have pre553 : ∀ t, Steps p.tables e below (T549.setTop (mkF m 340 #[.val (.int xa), .val (.ref b2), .val (.ref b213), .val (.int (21 : Int32)), .val (.ref w_DATE)] [(.int (1 : Int32))])) t → Steps p.tables e below (s₁.setTop (entryFrame m #[(.int xa)] maxLocals)) t := by
      intro t k
      refine pre551 t ?_
      refine XS.aloadN X549.here hx rfl (hb hby at_329) rfl rfl ?_
      show Steps p.tables e below (T549.setTop (mkF m 330 #[.val (.int xa), .val (.ref b2), .val (.ref b213), .val (.int (21 : Int32)), .val (.ref w_DATE)] [(.ref b213), (.int (0 : Int32))])) _
      refine XS.iloadN X549.here hx rfl (hb hby at_330) rfl ?_
      show Steps p.tables e below (T549.setTop (mkF m 331 #[.val (.int xa), .val (.ref b2), .val (.ref b213), .val (.int (21 : Int32)), .val (.ref w_DATE)] [(.int (21 : Int32)), (.ref b213), (.int (0 : Int32))])) _
      obtain ⟨c552, a552, q552, s552, m552, i552, u552⟩ := id V317
      have hin552 := inb_of (j := (21 : Int32)) s552 ⟨by decide, by decide⟩
      refine X549.baloadBooleans hx (j := (21 : Int32)) (v := (.int (nar .boolean (0 : Int32)))) (by rw [e549]; exact a552.1) (State.isArrayOf_alike hZ.alike a552.2.1) a552.2.2 hin552 (i552.at hin552 rfl) (g := (mkF m 331 #[.val (.int xa), .val (.ref b2), .val (.ref b213), .val (.int (21 : Int32)), .val (.ref w_DATE)] [(.int (21 : Int32)), (.ref b213), (.int (0 : Int32))])) rfl rfl (hb hby at_331) _ ?_
      show Steps p.tables e below (T549.setTop (mkF m 332 #[.val (.int xa), .val (.ref b2), .val (.ref b213), .val (.int (21 : Int32)), .val (.ref w_DATE)] [(.int (nar .boolean (0 : Int32))), (.int (0 : Int32))])) _
      refine XS.icmpNo X549.here hx rfl (hb hby at_332) rfl (teq (show (0 : Int32) = (nar .boolean (0 : Int32)) from rfl)).2 ?_
      show Steps p.tables e below (T549.setTop (mkF m 335 #[.val (.int xa), .val (.ref b2), .val (.ref b213), .val (.int (21 : Int32)), .val (.ref w_DATE)] [])) _
      refine XS.iconst X549.here hx rfl (hb hby at_335) ?_
      show Steps p.tables e below (T549.setTop (mkF m 336 #[.val (.int xa), .val (.ref b2), .val (.ref b213), .val (.int (21 : Int32)), .val (.ref w_DATE)] [(.int (1 : Int32))])) _
      refine XS.goto X549.here hx rfl (pc0 := 336) (pc' := 340) rfl (hb hby at_336) (by decide) (by decide) ?_
      show Steps p.tables e below (T549.setTop (mkF m 340 #[.val (.int xa), .val (.ref b2), .val (.ref b213), .val (.int (21 : Int32)), .val (.ref w_DATE)] [(.int (1 : Int32))])) _
      exact k
    obtain ⟨fs, hr, hrun, hended, hW, hsame⟩ := X549.leave (v := some (.int (1 : Int32))) (fun h => by rw [Bd.returns] at h; cases h)
    refine ⟨_, _, pre553 _ ?_, hrun, hended, _, _, rfl, ?_, ⟨_, rfl⟩, hW, hsame.mono (by decide) (by decide)⟩
    · exact retN X549 hx (t := .boolean) Bd.returns (by simp) (hb hby at_340) hr
    · show Q_rm0 Z xa w_ANY_ATOMIC_TYPE w_UNTYPED_ATOMIC w_STRING w_BOOLEAN w_DECIMAL w_INTEGER w_NON_POSITIVE_INTEGER w_NEGATIVE_INTEGER w_LONG w_INT w_SHORT w_BYTE w_NON_NEGATIVE_INTEGER w_UNSIGNED_LONG w_UNSIGNED_INT w_UNSIGNED_SHORT w_UNSIGNED_BYTE w_POSITIVE_INTEGER w_FLOAT w_DOUBLE w_ANY_URI w_DATE w_TIME w_HEX_BINARY w_QNAME w_NOTATION h0 n0 _ T549.heap _
      rw [e549]
      exact ⟨rfl, N549⟩
  · subst hk
    have pre555 : ∀ t, Steps p.tables e below (T317.setTop (mkF m 326 #[.val (.int xa), .val (.ref b2), .val (.ref b213), .val (.int (22 : Int32)), .val (.ref w_TIME)] [(.ref w_TIME)])) t → Steps p.tables e below (s₁.setTop (entryFrame m #[(.int xa)] maxLocals)) t := by
      intro t k
      refine pre319 t ?_
      refine XS.aloadN X317.here hx rfl (hb hby at_319) rfl rfl ?_
      show Steps p.tables e below (T317.setTop (mkF m 320 #[.val (.int xa), .val (.ref b2), .val (.ref b213), .val (.int (22 : Int32)), .unset] [(.ref b2)])) _
      refine XS.iloadN X317.here hx rfl (hb hby at_320) rfl ?_
      show Steps p.tables e below (T317.setTop (mkF m 321 #[.val (.int xa), .val (.ref b2), .val (.ref b213), .val (.int (22 : Int32)), .unset] [(.int (22 : Int32)), (.ref b2)])) _
      obtain ⟨c554, a554, q554, s554, m554, i554, u554⟩ := id (((((((((((((((((((((((((((V210.ext E213).other W217 (Nat.ne_of_lt (Nat.lt_of_lt_of_le V210.lt (Nat.le_of_eq g213.symm)))).other W221 (Nat.ne_of_lt (Nat.lt_of_lt_of_le V210.lt (Nat.le_of_eq g213.symm)))).other W225 (Nat.ne_of_lt (Nat.lt_of_lt_of_le V210.lt (Nat.le_of_eq g213.symm)))).other W229 (Nat.ne_of_lt (Nat.lt_of_lt_of_le V210.lt (Nat.le_of_eq g213.symm)))).other W233 (Nat.ne_of_lt (Nat.lt_of_lt_of_le V210.lt (Nat.le_of_eq g213.symm)))).other W237 (Nat.ne_of_lt (Nat.lt_of_lt_of_le V210.lt (Nat.le_of_eq g213.symm)))).other W241 (Nat.ne_of_lt (Nat.lt_of_lt_of_le V210.lt (Nat.le_of_eq g213.symm)))).other W245 (Nat.ne_of_lt (Nat.lt_of_lt_of_le V210.lt (Nat.le_of_eq g213.symm)))).other W249 (Nat.ne_of_lt (Nat.lt_of_lt_of_le V210.lt (Nat.le_of_eq g213.symm)))).other W253 (Nat.ne_of_lt (Nat.lt_of_lt_of_le V210.lt (Nat.le_of_eq g213.symm)))).other W257 (Nat.ne_of_lt (Nat.lt_of_lt_of_le V210.lt (Nat.le_of_eq g213.symm)))).other W261 (Nat.ne_of_lt (Nat.lt_of_lt_of_le V210.lt (Nat.le_of_eq g213.symm)))).other W265 (Nat.ne_of_lt (Nat.lt_of_lt_of_le V210.lt (Nat.le_of_eq g213.symm)))).other W269 (Nat.ne_of_lt (Nat.lt_of_lt_of_le V210.lt (Nat.le_of_eq g213.symm)))).other W273 (Nat.ne_of_lt (Nat.lt_of_lt_of_le V210.lt (Nat.le_of_eq g213.symm)))).other W277 (Nat.ne_of_lt (Nat.lt_of_lt_of_le V210.lt (Nat.le_of_eq g213.symm)))).other W281 (Nat.ne_of_lt (Nat.lt_of_lt_of_le V210.lt (Nat.le_of_eq g213.symm)))).other W285 (Nat.ne_of_lt (Nat.lt_of_lt_of_le V210.lt (Nat.le_of_eq g213.symm)))).other W289 (Nat.ne_of_lt (Nat.lt_of_lt_of_le V210.lt (Nat.le_of_eq g213.symm)))).other W293 (Nat.ne_of_lt (Nat.lt_of_lt_of_le V210.lt (Nat.le_of_eq g213.symm)))).other W297 (Nat.ne_of_lt (Nat.lt_of_lt_of_le V210.lt (Nat.le_of_eq g213.symm)))).other W301 (Nat.ne_of_lt (Nat.lt_of_lt_of_le V210.lt (Nat.le_of_eq g213.symm)))).other W305 (Nat.ne_of_lt (Nat.lt_of_lt_of_le V210.lt (Nat.le_of_eq g213.symm)))).other W309 (Nat.ne_of_lt (Nat.lt_of_lt_of_le V210.lt (Nat.le_of_eq g213.symm)))).other W313 (Nat.ne_of_lt (Nat.lt_of_lt_of_le V210.lt (Nat.le_of_eq g213.symm)))).other W317 (Nat.ne_of_lt (Nat.lt_of_lt_of_le V210.lt (Nat.le_of_eq g213.symm))))
      have hin554 := inb_of (j := (22 : Int32)) s554 ⟨by decide, by decide⟩
      refine X317.aaload hx (j := (22 : Int32)) (v := (.ref w_TIME)) (by rw [e317]; exact a554.1) (State.isArrayOf_alike hZ.alike a554.2.1) rfl a554.2.2 hin554 (i554.at hin554 rfl) (g := (mkF m 321 #[.val (.int xa), .val (.ref b2), .val (.ref b213), .val (.int (22 : Int32)), .unset] [(.int (22 : Int32)), (.ref b2)])) rfl rfl (hb hby at_321) _ ?_
      show Steps p.tables e below (T317.setTop (mkF m 322 #[.val (.int xa), .val (.ref b2), .val (.ref b213), .val (.int (22 : Int32)), .unset] [(.ref w_TIME)])) _
      refine XS.astore X317.here hx rfl (hb hby at_322) rfl rfl (l' := #[.val (.int xa), .val (.ref b2), .val (.ref b213), .val (.int (22 : Int32)), .val (.ref w_TIME)]) rfl ?_
      show Steps p.tables e below (T317.setTop (mkF m 324 #[.val (.int xa), .val (.ref b2), .val (.ref b213), .val (.int (22 : Int32)), .val (.ref w_TIME)] [])) _
      refine XS.aload X317.here hx rfl (hb hby at_324) rfl rfl ?_
      show Steps p.tables e below (T317.setTop (mkF m 326 #[.val (.int xa), .val (.ref b2), .val (.ref b213), .val (.int (22 : Int32)), .val (.ref w_TIME)] [(.ref w_TIME)])) _
      exact k
    have f556 := (P_TIME.ext (own_keep_ext K317))
    have f557 := (((((((((((((((((((((((((((((((((((((((((((((((((f36.wr W42).wr W50).wr W58).wr W66).wr W74).wr W82).wr W90).wr W98).wr W106).wr W114).wr W122).wr W130).wr W138).wr W146).wr W154).wr W162).wr W170).wr W178).wr W186).wr W194).wr W202).wr W210).ext E213).wr W217).wr W221).wr W225).wr W229).wr W233).wr W237).wr W241).wr W245).wr W249).wr W253).wr W257).wr W261).wr W265).wr W269).wr W273).wr W277).wr W281).wr W285).wr W289).wr W293).wr W297).wr W301).wr W305).wr W309).wr W313).wr W317)
    have f558 := ((((((((((((((((((((((((((((((((((((((((((((((((f44.wr W50).wr W58).wr W66).wr W74).wr W82).wr W90).wr W98).wr W106).wr W114).wr W122).wr W130).wr W138).wr W146).wr W154).wr W162).wr W170).wr W178).wr W186).wr W194).wr W202).wr W210).ext E213).wr W217).wr W221).wr W225).wr W229).wr W233).wr W237).wr W241).wr W245).wr W249).wr W253).wr W257).wr W261).wr W265).wr W269).wr W273).wr W277).wr W281).wr W285).wr W289).wr W293).wr W297).wr W301).wr W305).wr W309).wr W313).wr W317)
    have f559 := (((((((((((((((((((((((((((((((((((f148.wr W154).wr W162).wr W170).wr W178).wr W186).wr W194).wr W202).wr W210).ext E213).wr W217).wr W221).wr W225).wr W229).wr W233).wr W237).wr W241).wr W245).wr W249).wr W253).wr W257).wr W261).wr W265).wr W269).wr W273).wr W277).wr W281).wr W285).wr W289).wr W293).wr W297).wr W301).wr W305).wr W309).wr W313).wr W317)
    have f560 := ((((((((((((((((((((((((((((((((((f156.wr W162).wr W170).wr W178).wr W186).wr W194).wr W202).wr W210).ext E213).wr W217).wr W221).wr W225).wr W229).wr W233).wr W237).wr W241).wr W245).wr W249).wr W253).wr W257).wr W261).wr W265).wr W269).wr W273).wr W277).wr W281).wr W285).wr W289).wr W293).wr W297).wr W301).wr W305).wr W309).wr W313).wr W317)
    have f562 := (((((((((((((((((((((((((((((((f185.wr W186).wr W194).wr W202).wr W210).ext E213).wr W217).wr W221).wr W225).wr W229).wr W233).wr W237).wr W241).wr W245).wr W249).wr W253).wr W257).wr W261).wr W265).wr W269).wr W273).wr W277).wr W281).wr W285).wr W289).wr W293).wr W297).wr W301).wr W305).wr W309).wr W313).wr W317)
    obtain ⟨cq561, kq561, q561a, q561b, q561c⟩ := isOf hZ e317 f562
    obtain ⟨_, _, ⟨T561, L561, k561, n561⟩, -, X561, ⟨Lc561, hQ561, l561, y561, z561⟩, st561⟩ := X317.virtualBack hx (y := (⟨"com/example/xidr/xidr/xpath/values/AtomicType", "isNumeric", "()Z"⟩ : MethodName)) (z := (⟨"com/example/xidr/xidr/xpath/values/AtomicType", "isNumeric", "()Z"⟩ : MethodName)) hown (mvT hZ (hw _ (List.mem_of_getElem? (i := 58) rfl))) (mvT hZ (hw _ (List.mem_of_getElem? (i := 59) rfl))) (notFace_of_selects (args := #[]) (mvT hZ (hw _ (List.mem_of_getElem? (i := 61) rfl)))) (mvT hZ (hw _ (List.mem_of_getElem? (i := 61) rfl))) (mvT hZ (hw _ (List.mem_of_getElem? (i := 60) rfl))) (by decide) (backOf (W := 0) (rm_num4 l Z a0 hw [] w_TIME w_TIME w_DECIMAL w_INTEGER w_FLOAT w_DOUBLE h317 n0 z317 f556 f557 f558 f559 f560 (hne_TIME_DECIMAL) (hne_TIME_INTEGER) (hne_TIME_FLOAT) (hne_TIME_DOUBLE)) hZ (hw _ (List.mem_of_getElem? (i := 62) rfl)) (hw _ (List.mem_of_getElem? (i := 3) rfl)) (by decide) (by decide)) q561a q561c (g := (mkF m 326 #[.val (.int xa), .val (.ref b2), .val (.ref b213), .val (.int (22 : Int32)), .val (.ref w_TIME)] [(.ref w_TIME)])) rfl (by rw [hml]; rfl) (Steps.refl _) (argsL := []) (rest := []) (lenOf pd0 rfl) rfl (by show 2 * 0 + _ ≤ _; exact Nat.le_of_eq rfl) (hb hby at_326) (fun _ _ => ⟨rfl, e317, (by decide : 2 + 0 ≤ _), (by decide : 52 + 0 ≤ _)⟩)
    dsimp only [Pt.U, Pt.locs, Pt.cells, Pt.slots] at X561 l561 y561 z561 st561 hQ561
    subst y561 z561
    obtain ⟨rfl, M561, e561⟩ := hQ561
    have N561 : Fr n0 L561 := by rw [l561]; exact Fr.app N317 M561
    clear l561
    have X561 : Stand p l e _ s m _ below meth c T561 _ 2 52 := X561
    have pre563 : ∀ t, Steps p.tables e below (T561.setTop (mkF m 329 #[.val (.int xa), .val (.ref b2), .val (.ref b213), .val (.int (22 : Int32)), .val (.ref w_TIME)] [(.int (0 : Int32))])) t → Steps p.tables e below (s₁.setTop (entryFrame m #[(.int xa)] maxLocals)) t := fun t k => pre555 t (st561.trans k)
    have pre565 : ∀ t, Steps p.tables e below (T561.setTop (mkF m 340 #[.val (.int xa), .val (.ref b2), .val (.ref b213), .val (.int (22 : Int32)), .val (.ref w_TIME)] [(.int (1 : Int32))])) t → Steps p.tables e below (s₁.setTop (entryFrame m #[(.int xa)] maxLocals)) t := by
      intro t k
      refine pre563 t ?_
      refine XS.aloadN X561.here hx rfl (hb hby at_329) rfl rfl ?_
      show Steps p.tables e below (T561.setTop (mkF m 330 #[.val (.int xa), .val (.ref b2), .val (.ref b213), .val (.int (22 : Int32)), .val (.ref w_TIME)] [(.ref b213), (.int (0 : Int32))])) _
      refine XS.iloadN X561.here hx rfl (hb hby at_330) rfl ?_
      show Steps p.tables e below (T561.setTop (mkF m 331 #[.val (.int xa), .val (.ref b2), .val (.ref b213), .val (.int (22 : Int32)), .val (.ref w_TIME)] [(.int (22 : Int32)), (.ref b213), (.int (0 : Int32))])) _
      obtain ⟨c564, a564, q564, s564, m564, i564, u564⟩ := id V317
      have hin564 := inb_of (j := (22 : Int32)) s564 ⟨by decide, by decide⟩
      refine X561.baloadBooleans hx (j := (22 : Int32)) (v := (.int (nar .boolean (0 : Int32)))) (by rw [e561]; exact a564.1) (State.isArrayOf_alike hZ.alike a564.2.1) a564.2.2 hin564 (i564.at hin564 rfl) (g := (mkF m 331 #[.val (.int xa), .val (.ref b2), .val (.ref b213), .val (.int (22 : Int32)), .val (.ref w_TIME)] [(.int (22 : Int32)), (.ref b213), (.int (0 : Int32))])) rfl rfl (hb hby at_331) _ ?_
      show Steps p.tables e below (T561.setTop (mkF m 332 #[.val (.int xa), .val (.ref b2), .val (.ref b213), .val (.int (22 : Int32)), .val (.ref w_TIME)] [(.int (nar .boolean (0 : Int32))), (.int (0 : Int32))])) _
      refine XS.icmpNo X561.here hx rfl (hb hby at_332) rfl (teq (show (0 : Int32) = (nar .boolean (0 : Int32)) from rfl)).2 ?_
      show Steps p.tables e below (T561.setTop (mkF m 335 #[.val (.int xa), .val (.ref b2), .val (.ref b213), .val (.int (22 : Int32)), .val (.ref w_TIME)] [])) _
      refine XS.iconst X561.here hx rfl (hb hby at_335) ?_
      show Steps p.tables e below (T561.setTop (mkF m 336 #[.val (.int xa), .val (.ref b2), .val (.ref b213), .val (.int (22 : Int32)), .val (.ref w_TIME)] [(.int (1 : Int32))])) _
      refine XS.goto X561.here hx rfl (pc0 := 336) (pc' := 340) rfl (hb hby at_336) (by decide) (by decide) ?_
      show Steps p.tables e below (T561.setTop (mkF m 340 #[.val (.int xa), .val (.ref b2), .val (.ref b213), .val (.int (22 : Int32)), .val (.ref w_TIME)] [(.int (1 : Int32))])) _
      exact k
    obtain ⟨fs, hr, hrun, hended, hW, hsame⟩ := X561.leave (v := some (.int (1 : Int32))) (fun h => by rw [Bd.returns] at h; cases h)
    refine ⟨_, _, pre565 _ ?_, hrun, hended, _, _, rfl, ?_, ⟨_, rfl⟩, hW, hsame.mono (by decide) (by decide)⟩
    · exact retN X561 hx (t := .boolean) Bd.returns (by simp) (hb hby at_340) hr
    · show Q_rm0 Z xa w_ANY_ATOMIC_TYPE w_UNTYPED_ATOMIC w_STRING w_BOOLEAN w_DECIMAL w_INTEGER w_NON_POSITIVE_INTEGER w_NEGATIVE_INTEGER w_LONG w_INT w_SHORT w_BYTE w_NON_NEGATIVE_INTEGER w_UNSIGNED_LONG w_UNSIGNED_INT w_UNSIGNED_SHORT w_UNSIGNED_BYTE w_POSITIVE_INTEGER w_FLOAT w_DOUBLE w_ANY_URI w_DATE w_TIME w_HEX_BINARY w_QNAME w_NOTATION h0 n0 _ T561.heap _
      rw [e561]
      exact ⟨rfl, N561⟩
  · subst hk
    have pre567 : ∀ t, Steps p.tables e below (T317.setTop (mkF m 326 #[.val (.int xa), .val (.ref b2), .val (.ref b213), .val (.int (23 : Int32)), .val (.ref w_HEX_BINARY)] [(.ref w_HEX_BINARY)])) t → Steps p.tables e below (s₁.setTop (entryFrame m #[(.int xa)] maxLocals)) t := by
      intro t k
      refine pre319 t ?_
      refine XS.aloadN X317.here hx rfl (hb hby at_319) rfl rfl ?_
      show Steps p.tables e below (T317.setTop (mkF m 320 #[.val (.int xa), .val (.ref b2), .val (.ref b213), .val (.int (23 : Int32)), .unset] [(.ref b2)])) _
      refine XS.iloadN X317.here hx rfl (hb hby at_320) rfl ?_
      show Steps p.tables e below (T317.setTop (mkF m 321 #[.val (.int xa), .val (.ref b2), .val (.ref b213), .val (.int (23 : Int32)), .unset] [(.int (23 : Int32)), (.ref b2)])) _
      obtain ⟨c566, a566, q566, s566, m566, i566, u566⟩ := id (((((((((((((((((((((((((((V210.ext E213).other W217 (Nat.ne_of_lt (Nat.lt_of_lt_of_le V210.lt (Nat.le_of_eq g213.symm)))).other W221 (Nat.ne_of_lt (Nat.lt_of_lt_of_le V210.lt (Nat.le_of_eq g213.symm)))).other W225 (Nat.ne_of_lt (Nat.lt_of_lt_of_le V210.lt (Nat.le_of_eq g213.symm)))).other W229 (Nat.ne_of_lt (Nat.lt_of_lt_of_le V210.lt (Nat.le_of_eq g213.symm)))).other W233 (Nat.ne_of_lt (Nat.lt_of_lt_of_le V210.lt (Nat.le_of_eq g213.symm)))).other W237 (Nat.ne_of_lt (Nat.lt_of_lt_of_le V210.lt (Nat.le_of_eq g213.symm)))).other W241 (Nat.ne_of_lt (Nat.lt_of_lt_of_le V210.lt (Nat.le_of_eq g213.symm)))).other W245 (Nat.ne_of_lt (Nat.lt_of_lt_of_le V210.lt (Nat.le_of_eq g213.symm)))).other W249 (Nat.ne_of_lt (Nat.lt_of_lt_of_le V210.lt (Nat.le_of_eq g213.symm)))).other W253 (Nat.ne_of_lt (Nat.lt_of_lt_of_le V210.lt (Nat.le_of_eq g213.symm)))).other W257 (Nat.ne_of_lt (Nat.lt_of_lt_of_le V210.lt (Nat.le_of_eq g213.symm)))).other W261 (Nat.ne_of_lt (Nat.lt_of_lt_of_le V210.lt (Nat.le_of_eq g213.symm)))).other W265 (Nat.ne_of_lt (Nat.lt_of_lt_of_le V210.lt (Nat.le_of_eq g213.symm)))).other W269 (Nat.ne_of_lt (Nat.lt_of_lt_of_le V210.lt (Nat.le_of_eq g213.symm)))).other W273 (Nat.ne_of_lt (Nat.lt_of_lt_of_le V210.lt (Nat.le_of_eq g213.symm)))).other W277 (Nat.ne_of_lt (Nat.lt_of_lt_of_le V210.lt (Nat.le_of_eq g213.symm)))).other W281 (Nat.ne_of_lt (Nat.lt_of_lt_of_le V210.lt (Nat.le_of_eq g213.symm)))).other W285 (Nat.ne_of_lt (Nat.lt_of_lt_of_le V210.lt (Nat.le_of_eq g213.symm)))).other W289 (Nat.ne_of_lt (Nat.lt_of_lt_of_le V210.lt (Nat.le_of_eq g213.symm)))).other W293 (Nat.ne_of_lt (Nat.lt_of_lt_of_le V210.lt (Nat.le_of_eq g213.symm)))).other W297 (Nat.ne_of_lt (Nat.lt_of_lt_of_le V210.lt (Nat.le_of_eq g213.symm)))).other W301 (Nat.ne_of_lt (Nat.lt_of_lt_of_le V210.lt (Nat.le_of_eq g213.symm)))).other W305 (Nat.ne_of_lt (Nat.lt_of_lt_of_le V210.lt (Nat.le_of_eq g213.symm)))).other W309 (Nat.ne_of_lt (Nat.lt_of_lt_of_le V210.lt (Nat.le_of_eq g213.symm)))).other W313 (Nat.ne_of_lt (Nat.lt_of_lt_of_le V210.lt (Nat.le_of_eq g213.symm)))).other W317 (Nat.ne_of_lt (Nat.lt_of_lt_of_le V210.lt (Nat.le_of_eq g213.symm))))
      have hin566 := inb_of (j := (23 : Int32)) s566 ⟨by decide, by decide⟩
      refine X317.aaload hx (j := (23 : Int32)) (v := (.ref w_HEX_BINARY)) (by rw [e317]; exact a566.1) (State.isArrayOf_alike hZ.alike a566.2.1) rfl a566.2.2 hin566 (i566.at hin566 rfl) (g := (mkF m 321 #[.val (.int xa), .val (.ref b2), .val (.ref b213), .val (.int (23 : Int32)), .unset] [(.int (23 : Int32)), (.ref b2)])) rfl rfl (hb hby at_321) _ ?_
      show Steps p.tables e below (T317.setTop (mkF m 322 #[.val (.int xa), .val (.ref b2), .val (.ref b213), .val (.int (23 : Int32)), .unset] [(.ref w_HEX_BINARY)])) _
      refine XS.astore X317.here hx rfl (hb hby at_322) rfl rfl (l' := #[.val (.int xa), .val (.ref b2), .val (.ref b213), .val (.int (23 : Int32)), .val (.ref w_HEX_BINARY)]) rfl ?_
      show Steps p.tables e below (T317.setTop (mkF m 324 #[.val (.int xa), .val (.ref b2), .val (.ref b213), .val (.int (23 : Int32)), .val (.ref w_HEX_BINARY)] [])) _
      refine XS.aload X317.here hx rfl (hb hby at_324) rfl rfl ?_
      show Steps p.tables e below (T317.setTop (mkF m 326 #[.val (.int xa), .val (.ref b2), .val (.ref b213), .val (.int (23 : Int32)), .val (.ref w_HEX_BINARY)] [(.ref w_HEX_BINARY)])) _
      exact k
    have f568 := (P_HEX_BINARY.ext (own_keep_ext K317))
    have f569 := (((((((((((((((((((((((((((((((((((((((((((((((((f36.wr W42).wr W50).wr W58).wr W66).wr W74).wr W82).wr W90).wr W98).wr W106).wr W114).wr W122).wr W130).wr W138).wr W146).wr W154).wr W162).wr W170).wr W178).wr W186).wr W194).wr W202).wr W210).ext E213).wr W217).wr W221).wr W225).wr W229).wr W233).wr W237).wr W241).wr W245).wr W249).wr W253).wr W257).wr W261).wr W265).wr W269).wr W273).wr W277).wr W281).wr W285).wr W289).wr W293).wr W297).wr W301).wr W305).wr W309).wr W313).wr W317)
    have f570 := ((((((((((((((((((((((((((((((((((((((((((((((((f44.wr W50).wr W58).wr W66).wr W74).wr W82).wr W90).wr W98).wr W106).wr W114).wr W122).wr W130).wr W138).wr W146).wr W154).wr W162).wr W170).wr W178).wr W186).wr W194).wr W202).wr W210).ext E213).wr W217).wr W221).wr W225).wr W229).wr W233).wr W237).wr W241).wr W245).wr W249).wr W253).wr W257).wr W261).wr W265).wr W269).wr W273).wr W277).wr W281).wr W285).wr W289).wr W293).wr W297).wr W301).wr W305).wr W309).wr W313).wr W317)
    have f571 := (((((((((((((((((((((((((((((((((((f148.wr W154).wr W162).wr W170).wr W178).wr W186).wr W194).wr W202).wr W210).ext E213).wr W217).wr W221).wr W225).wr W229).wr W233).wr W237).wr W241).wr W245).wr W249).wr W253).wr W257).wr W261).wr W265).wr W269).wr W273).wr W277).wr W281).wr W285).wr W289).wr W293).wr W297).wr W301).wr W305).wr W309).wr W313).wr W317)
    have f572 := ((((((((((((((((((((((((((((((((((f156.wr W162).wr W170).wr W178).wr W186).wr W194).wr W202).wr W210).ext E213).wr W217).wr W221).wr W225).wr W229).wr W233).wr W237).wr W241).wr W245).wr W249).wr W253).wr W257).wr W261).wr W265).wr W269).wr W273).wr W277).wr W281).wr W285).wr W289).wr W293).wr W297).wr W301).wr W305).wr W309).wr W313).wr W317)
    have f574 := ((((((((((((((((((((((((((((((f193.wr W194).wr W202).wr W210).ext E213).wr W217).wr W221).wr W225).wr W229).wr W233).wr W237).wr W241).wr W245).wr W249).wr W253).wr W257).wr W261).wr W265).wr W269).wr W273).wr W277).wr W281).wr W285).wr W289).wr W293).wr W297).wr W301).wr W305).wr W309).wr W313).wr W317)
    obtain ⟨cq573, kq573, q573a, q573b, q573c⟩ := isOf hZ e317 f574
    obtain ⟨_, _, ⟨T573, L573, k573, n573⟩, -, X573, ⟨Lc573, hQ573, l573, y573, z573⟩, st573⟩ := X317.virtualBack hx (y := (⟨"com/example/xidr/xidr/xpath/values/AtomicType", "isNumeric", "()Z"⟩ : MethodName)) (z := (⟨"com/example/xidr/xidr/xpath/values/AtomicType", "isNumeric", "()Z"⟩ : MethodName)) hown (mvT hZ (hw _ (List.mem_of_getElem? (i := 58) rfl))) (mvT hZ (hw _ (List.mem_of_getElem? (i := 59) rfl))) (notFace_of_selects (args := #[]) (mvT hZ (hw _ (List.mem_of_getElem? (i := 61) rfl)))) (mvT hZ (hw _ (List.mem_of_getElem? (i := 61) rfl))) (mvT hZ (hw _ (List.mem_of_getElem? (i := 60) rfl))) (by decide) (backOf (W := 0) (rm_num4 l Z a0 hw [] w_HEX_BINARY w_HEX_BINARY w_DECIMAL w_INTEGER w_FLOAT w_DOUBLE h317 n0 z317 f568 f569 f570 f571 f572 (hne_HEX_BINARY_DECIMAL) (hne_HEX_BINARY_INTEGER) (hne_HEX_BINARY_FLOAT) (hne_HEX_BINARY_DOUBLE)) hZ (hw _ (List.mem_of_getElem? (i := 62) rfl)) (hw _ (List.mem_of_getElem? (i := 3) rfl)) (by decide) (by decide)) q573a q573c (g := (mkF m 326 #[.val (.int xa), .val (.ref b2), .val (.ref b213), .val (.int (23 : Int32)), .val (.ref w_HEX_BINARY)] [(.ref w_HEX_BINARY)])) rfl (by rw [hml]; rfl) (Steps.refl _) (argsL := []) (rest := []) (lenOf pd0 rfl) rfl (by show 2 * 0 + _ ≤ _; exact Nat.le_of_eq rfl) (hb hby at_326) (fun _ _ => ⟨rfl, e317, (by decide : 2 + 0 ≤ _), (by decide : 52 + 0 ≤ _)⟩)
    dsimp only [Pt.U, Pt.locs, Pt.cells, Pt.slots] at X573 l573 y573 z573 st573 hQ573
    subst y573 z573
    obtain ⟨rfl, M573, e573⟩ := hQ573
    have N573 : Fr n0 L573 := by rw [l573]; exact Fr.app N317 M573
    clear l573
    have X573 : Stand p l e _ s m _ below meth c T573 _ 2 52 := X573
    have pre575 : ∀ t, Steps p.tables e below (T573.setTop (mkF m 329 #[.val (.int xa), .val (.ref b2), .val (.ref b213), .val (.int (23 : Int32)), .val (.ref w_HEX_BINARY)] [(.int (0 : Int32))])) t → Steps p.tables e below (s₁.setTop (entryFrame m #[(.int xa)] maxLocals)) t := fun t k => pre567 t (st573.trans k)
    have pre577 : ∀ t, Steps p.tables e below (T573.setTop (mkF m 340 #[.val (.int xa), .val (.ref b2), .val (.ref b213), .val (.int (23 : Int32)), .val (.ref w_HEX_BINARY)] [(.int (1 : Int32))])) t → Steps p.tables e below (s₁.setTop (entryFrame m #[(.int xa)] maxLocals)) t := by
      intro t k
      refine pre575 t ?_
      refine XS.aloadN X573.here hx rfl (hb hby at_329) rfl rfl ?_
      show Steps p.tables e below (T573.setTop (mkF m 330 #[.val (.int xa), .val (.ref b2), .val (.ref b213), .val (.int (23 : Int32)), .val (.ref w_HEX_BINARY)] [(.ref b213), (.int (0 : Int32))])) _
      refine XS.iloadN X573.here hx rfl (hb hby at_330) rfl ?_
      show Steps p.tables e below (T573.setTop (mkF m 331 #[.val (.int xa), .val (.ref b2), .val (.ref b213), .val (.int (23 : Int32)), .val (.ref w_HEX_BINARY)] [(.int (23 : Int32)), (.ref b213), (.int (0 : Int32))])) _
      obtain ⟨c576, a576, q576, s576, m576, i576, u576⟩ := id V317
      have hin576 := inb_of (j := (23 : Int32)) s576 ⟨by decide, by decide⟩
      refine X573.baloadBooleans hx (j := (23 : Int32)) (v := (.int (nar .boolean (0 : Int32)))) (by rw [e573]; exact a576.1) (State.isArrayOf_alike hZ.alike a576.2.1) a576.2.2 hin576 (i576.at hin576 rfl) (g := (mkF m 331 #[.val (.int xa), .val (.ref b2), .val (.ref b213), .val (.int (23 : Int32)), .val (.ref w_HEX_BINARY)] [(.int (23 : Int32)), (.ref b213), (.int (0 : Int32))])) rfl rfl (hb hby at_331) _ ?_
      show Steps p.tables e below (T573.setTop (mkF m 332 #[.val (.int xa), .val (.ref b2), .val (.ref b213), .val (.int (23 : Int32)), .val (.ref w_HEX_BINARY)] [(.int (nar .boolean (0 : Int32))), (.int (0 : Int32))])) _
      refine XS.icmpNo X573.here hx rfl (hb hby at_332) rfl (teq (show (0 : Int32) = (nar .boolean (0 : Int32)) from rfl)).2 ?_
      show Steps p.tables e below (T573.setTop (mkF m 335 #[.val (.int xa), .val (.ref b2), .val (.ref b213), .val (.int (23 : Int32)), .val (.ref w_HEX_BINARY)] [])) _
      refine XS.iconst X573.here hx rfl (hb hby at_335) ?_
      show Steps p.tables e below (T573.setTop (mkF m 336 #[.val (.int xa), .val (.ref b2), .val (.ref b213), .val (.int (23 : Int32)), .val (.ref w_HEX_BINARY)] [(.int (1 : Int32))])) _
      refine XS.goto X573.here hx rfl (pc0 := 336) (pc' := 340) rfl (hb hby at_336) (by decide) (by decide) ?_
      show Steps p.tables e below (T573.setTop (mkF m 340 #[.val (.int xa), .val (.ref b2), .val (.ref b213), .val (.int (23 : Int32)), .val (.ref w_HEX_BINARY)] [(.int (1 : Int32))])) _
      exact k
    obtain ⟨fs, hr, hrun, hended, hW, hsame⟩ := X573.leave (v := some (.int (1 : Int32))) (fun h => by rw [Bd.returns] at h; cases h)
    refine ⟨_, _, pre577 _ ?_, hrun, hended, _, _, rfl, ?_, ⟨_, rfl⟩, hW, hsame.mono (by decide) (by decide)⟩
    · exact retN X573 hx (t := .boolean) Bd.returns (by simp) (hb hby at_340) hr
    · show Q_rm0 Z xa w_ANY_ATOMIC_TYPE w_UNTYPED_ATOMIC w_STRING w_BOOLEAN w_DECIMAL w_INTEGER w_NON_POSITIVE_INTEGER w_NEGATIVE_INTEGER w_LONG w_INT w_SHORT w_BYTE w_NON_NEGATIVE_INTEGER w_UNSIGNED_LONG w_UNSIGNED_INT w_UNSIGNED_SHORT w_UNSIGNED_BYTE w_POSITIVE_INTEGER w_FLOAT w_DOUBLE w_ANY_URI w_DATE w_TIME w_HEX_BINARY w_QNAME w_NOTATION h0 n0 _ T573.heap _
      rw [e573]
      exact ⟨rfl, N573⟩
  · subst hk
    have pre579 : ∀ t, Steps p.tables e below (T317.setTop (mkF m 326 #[.val (.int xa), .val (.ref b2), .val (.ref b213), .val (.int (24 : Int32)), .val (.ref w_QNAME)] [(.ref w_QNAME)])) t → Steps p.tables e below (s₁.setTop (entryFrame m #[(.int xa)] maxLocals)) t := by
      intro t k
      refine pre319 t ?_
      refine XS.aloadN X317.here hx rfl (hb hby at_319) rfl rfl ?_
      show Steps p.tables e below (T317.setTop (mkF m 320 #[.val (.int xa), .val (.ref b2), .val (.ref b213), .val (.int (24 : Int32)), .unset] [(.ref b2)])) _
      refine XS.iloadN X317.here hx rfl (hb hby at_320) rfl ?_
      show Steps p.tables e below (T317.setTop (mkF m 321 #[.val (.int xa), .val (.ref b2), .val (.ref b213), .val (.int (24 : Int32)), .unset] [(.int (24 : Int32)), (.ref b2)])) _
      obtain ⟨c578, a578, q578, s578, m578, i578, u578⟩ := id (((((((((((((((((((((((((((V210.ext E213).other W217 (Nat.ne_of_lt (Nat.lt_of_lt_of_le V210.lt (Nat.le_of_eq g213.symm)))).other W221 (Nat.ne_of_lt (Nat.lt_of_lt_of_le V210.lt (Nat.le_of_eq g213.symm)))).other W225 (Nat.ne_of_lt (Nat.lt_of_lt_of_le V210.lt (Nat.le_of_eq g213.symm)))).other W229 (Nat.ne_of_lt (Nat.lt_of_lt_of_le V210.lt (Nat.le_of_eq g213.symm)))).other W233 (Nat.ne_of_lt (Nat.lt_of_lt_of_le V210.lt (Nat.le_of_eq g213.symm)))).other W237 (Nat.ne_of_lt (Nat.lt_of_lt_of_le V210.lt (Nat.le_of_eq g213.symm)))).other W241 (Nat.ne_of_lt (Nat.lt_of_lt_of_le V210.lt (Nat.le_of_eq g213.symm)))).other W245 (Nat.ne_of_lt (Nat.lt_of_lt_of_le V210.lt (Nat.le_of_eq g213.symm)))).other W249 (Nat.ne_of_lt (Nat.lt_of_lt_of_le V210.lt (Nat.le_of_eq g213.symm)))).other W253 (Nat.ne_of_lt (Nat.lt_of_lt_of_le V210.lt (Nat.le_of_eq g213.symm)))).other W257 (Nat.ne_of_lt (Nat.lt_of_lt_of_le V210.lt (Nat.le_of_eq g213.symm)))).other W261 (Nat.ne_of_lt (Nat.lt_of_lt_of_le V210.lt (Nat.le_of_eq g213.symm)))).other W265 (Nat.ne_of_lt (Nat.lt_of_lt_of_le V210.lt (Nat.le_of_eq g213.symm)))).other W269 (Nat.ne_of_lt (Nat.lt_of_lt_of_le V210.lt (Nat.le_of_eq g213.symm)))).other W273 (Nat.ne_of_lt (Nat.lt_of_lt_of_le V210.lt (Nat.le_of_eq g213.symm)))).other W277 (Nat.ne_of_lt (Nat.lt_of_lt_of_le V210.lt (Nat.le_of_eq g213.symm)))).other W281 (Nat.ne_of_lt (Nat.lt_of_lt_of_le V210.lt (Nat.le_of_eq g213.symm)))).other W285 (Nat.ne_of_lt (Nat.lt_of_lt_of_le V210.lt (Nat.le_of_eq g213.symm)))).other W289 (Nat.ne_of_lt (Nat.lt_of_lt_of_le V210.lt (Nat.le_of_eq g213.symm)))).other W293 (Nat.ne_of_lt (Nat.lt_of_lt_of_le V210.lt (Nat.le_of_eq g213.symm)))).other W297 (Nat.ne_of_lt (Nat.lt_of_lt_of_le V210.lt (Nat.le_of_eq g213.symm)))).other W301 (Nat.ne_of_lt (Nat.lt_of_lt_of_le V210.lt (Nat.le_of_eq g213.symm)))).other W305 (Nat.ne_of_lt (Nat.lt_of_lt_of_le V210.lt (Nat.le_of_eq g213.symm)))).other W309 (Nat.ne_of_lt (Nat.lt_of_lt_of_le V210.lt (Nat.le_of_eq g213.symm)))).other W313 (Nat.ne_of_lt (Nat.lt_of_lt_of_le V210.lt (Nat.le_of_eq g213.symm)))).other W317 (Nat.ne_of_lt (Nat.lt_of_lt_of_le V210.lt (Nat.le_of_eq g213.symm))))
      have hin578 := inb_of (j := (24 : Int32)) s578 ⟨by decide, by decide⟩
      refine X317.aaload hx (j := (24 : Int32)) (v := (.ref w_QNAME)) (by rw [e317]; exact a578.1) (State.isArrayOf_alike hZ.alike a578.2.1) rfl a578.2.2 hin578 (i578.at hin578 rfl) (g := (mkF m 321 #[.val (.int xa), .val (.ref b2), .val (.ref b213), .val (.int (24 : Int32)), .unset] [(.int (24 : Int32)), (.ref b2)])) rfl rfl (hb hby at_321) _ ?_
      show Steps p.tables e below (T317.setTop (mkF m 322 #[.val (.int xa), .val (.ref b2), .val (.ref b213), .val (.int (24 : Int32)), .unset] [(.ref w_QNAME)])) _
      refine XS.astore X317.here hx rfl (hb hby at_322) rfl rfl (l' := #[.val (.int xa), .val (.ref b2), .val (.ref b213), .val (.int (24 : Int32)), .val (.ref w_QNAME)]) rfl ?_
      show Steps p.tables e below (T317.setTop (mkF m 324 #[.val (.int xa), .val (.ref b2), .val (.ref b213), .val (.int (24 : Int32)), .val (.ref w_QNAME)] [])) _
      refine XS.aload X317.here hx rfl (hb hby at_324) rfl rfl ?_
      show Steps p.tables e below (T317.setTop (mkF m 326 #[.val (.int xa), .val (.ref b2), .val (.ref b213), .val (.int (24 : Int32)), .val (.ref w_QNAME)] [(.ref w_QNAME)])) _
      exact k
    have f580 := (P_QNAME.ext (own_keep_ext K317))
    have f581 := (((((((((((((((((((((((((((((((((((((((((((((((((f36.wr W42).wr W50).wr W58).wr W66).wr W74).wr W82).wr W90).wr W98).wr W106).wr W114).wr W122).wr W130).wr W138).wr W146).wr W154).wr W162).wr W170).wr W178).wr W186).wr W194).wr W202).wr W210).ext E213).wr W217).wr W221).wr W225).wr W229).wr W233).wr W237).wr W241).wr W245).wr W249).wr W253).wr W257).wr W261).wr W265).wr W269).wr W273).wr W277).wr W281).wr W285).wr W289).wr W293).wr W297).wr W301).wr W305).wr W309).wr W313).wr W317)
    have f582 := ((((((((((((((((((((((((((((((((((((((((((((((((f44.wr W50).wr W58).wr W66).wr W74).wr W82).wr W90).wr W98).wr W106).wr W114).wr W122).wr W130).wr W138).wr W146).wr W154).wr W162).wr W170).wr W178).wr W186).wr W194).wr W202).wr W210).ext E213).wr W217).wr W221).wr W225).wr W229).wr W233).wr W237).wr W241).wr W245).wr W249).wr W253).wr W257).wr W261).wr W265).wr W269).wr W273).wr W277).wr W281).wr W285).wr W289).wr W293).wr W297).wr W301).wr W305).wr W309).wr W313).wr W317)
    have f583 := (((((((((((((((((((((((((((((((((((f148.wr W154).wr W162).wr W170).wr W178).wr W186).wr W194).wr W202).wr W210).ext E213).wr W217).wr W221).wr W225).wr W229).wr W233).wr W237).wr W241).wr W245).wr W249).wr W253).wr W257).wr W261).wr W265).wr W269).wr W273).wr W277).wr W281).wr W285).wr W289).wr W293).wr W297).wr W301).wr W305).wr W309).wr W313).wr W317)
    have f584 := ((((((((((((((((((((((((((((((((((f156.wr W162).wr W170).wr W178).wr W186).wr W194).wr W202).wr W210).ext E213).wr W217).wr W221).wr W225).wr W229).wr W233).wr W237).wr W241).wr W245).wr W249).wr W253).wr W257).wr W261).wr W265).wr W269).wr W273).wr W277).wr W281).wr W285).wr W289).wr W293).wr W297).wr W301).wr W305).wr W309).wr W313).wr W317)
    have f586 := (((((((((((((((((((((((((((((f201.wr W202).wr W210).ext E213).wr W217).wr W221).wr W225).wr W229).wr W233).wr W237).wr W241).wr W245).wr W249).wr W253).wr W257).wr W261).wr W265).wr W269).wr W273).wr W277).wr W281).wr W285).wr W289).wr W293).wr W297).wr W301).wr W305).wr W309).wr W313).wr W317)
    obtain ⟨cq585, kq585, q585a, q585b, q585c⟩ := isOf hZ e317 f586
    obtain ⟨_, _, ⟨T585, L585, k585, n585⟩, -, X585, ⟨Lc585, hQ585, l585, y585, z585⟩, st585⟩ := X317.virtualBack hx (y := (⟨"com/example/xidr/xidr/xpath/values/AtomicType", "isNumeric", "()Z"⟩ : MethodName)) (z := (⟨"com/example/xidr/xidr/xpath/values/AtomicType", "isNumeric", "()Z"⟩ : MethodName)) hown (mvT hZ (hw _ (List.mem_of_getElem? (i := 58) rfl))) (mvT hZ (hw _ (List.mem_of_getElem? (i := 59) rfl))) (notFace_of_selects (args := #[]) (mvT hZ (hw _ (List.mem_of_getElem? (i := 61) rfl)))) (mvT hZ (hw _ (List.mem_of_getElem? (i := 61) rfl))) (mvT hZ (hw _ (List.mem_of_getElem? (i := 60) rfl))) (by decide) (backOf (W := 0) (rm_num4 l Z a0 hw [] w_QNAME w_QNAME w_DECIMAL w_INTEGER w_FLOAT w_DOUBLE h317 n0 z317 f580 f581 f582 f583 f584 (hne_QNAME_DECIMAL) (hne_QNAME_INTEGER) (hne_QNAME_FLOAT) (hne_QNAME_DOUBLE)) hZ (hw _ (List.mem_of_getElem? (i := 62) rfl)) (hw _ (List.mem_of_getElem? (i := 3) rfl)) (by decide) (by decide)) q585a q585c (g := (mkF m 326 #[.val (.int xa), .val (.ref b2), .val (.ref b213), .val (.int (24 : Int32)), .val (.ref w_QNAME)] [(.ref w_QNAME)])) rfl (by rw [hml]; rfl) (Steps.refl _) (argsL := []) (rest := []) (lenOf pd0 rfl) rfl (by show 2 * 0 + _ ≤ _; exact Nat.le_of_eq rfl) (hb hby at_326) (fun _ _ => ⟨rfl, e317, (by decide : 2 + 0 ≤ _), (by decide : 52 + 0 ≤ _)⟩)
    dsimp only [Pt.U, Pt.locs, Pt.cells, Pt.slots] at X585 l585 y585 z585 st585 hQ585
    subst y585 z585
    obtain ⟨rfl, M585, e585⟩ := hQ585
    have N585 : Fr n0 L585 := by rw [l585]; exact Fr.app N317 M585
    clear l585
    have X585 : Stand p l e _ s m _ below meth c T585 _ 2 52 := X585
    have pre587 : ∀ t, Steps p.tables e below (T585.setTop (mkF m 329 #[.val (.int xa), .val (.ref b2), .val (.ref b213), .val (.int (24 : Int32)), .val (.ref w_QNAME)] [(.int (0 : Int32))])) t → Steps p.tables e below (s₁.setTop (entryFrame m #[(.int xa)] maxLocals)) t := fun t k => pre579 t (st585.trans k)
    have pre589 : ∀ t, Steps p.tables e below (T585.setTop (mkF m 340 #[.val (.int xa), .val (.ref b2), .val (.ref b213), .val (.int (24 : Int32)), .val (.ref w_QNAME)] [(.int (1 : Int32))])) t → Steps p.tables e below (s₁.setTop (entryFrame m #[(.int xa)] maxLocals)) t := by
      intro t k
      refine pre587 t ?_
      refine XS.aloadN X585.here hx rfl (hb hby at_329) rfl rfl ?_
      show Steps p.tables e below (T585.setTop (mkF m 330 #[.val (.int xa), .val (.ref b2), .val (.ref b213), .val (.int (24 : Int32)), .val (.ref w_QNAME)] [(.ref b213), (.int (0 : Int32))])) _
      refine XS.iloadN X585.here hx rfl (hb hby at_330) rfl ?_
      show Steps p.tables e below (T585.setTop (mkF m 331 #[.val (.int xa), .val (.ref b2), .val (.ref b213), .val (.int (24 : Int32)), .val (.ref w_QNAME)] [(.int (24 : Int32)), (.ref b213), (.int (0 : Int32))])) _
      obtain ⟨c588, a588, q588, s588, m588, i588, u588⟩ := id V317
      have hin588 := inb_of (j := (24 : Int32)) s588 ⟨by decide, by decide⟩
      refine X585.baloadBooleans hx (j := (24 : Int32)) (v := (.int (nar .boolean (0 : Int32)))) (by rw [e585]; exact a588.1) (State.isArrayOf_alike hZ.alike a588.2.1) a588.2.2 hin588 (i588.at hin588 rfl) (g := (mkF m 331 #[.val (.int xa), .val (.ref b2), .val (.ref b213), .val (.int (24 : Int32)), .val (.ref w_QNAME)] [(.int (24 : Int32)), (.ref b213), (.int (0 : Int32))])) rfl rfl (hb hby at_331) _ ?_
      show Steps p.tables e below (T585.setTop (mkF m 332 #[.val (.int xa), .val (.ref b2), .val (.ref b213), .val (.int (24 : Int32)), .val (.ref w_QNAME)] [(.int (nar .boolean (0 : Int32))), (.int (0 : Int32))])) _
      refine XS.icmpNo X585.here hx rfl (hb hby at_332) rfl (teq (show (0 : Int32) = (nar .boolean (0 : Int32)) from rfl)).2 ?_
      show Steps p.tables e below (T585.setTop (mkF m 335 #[.val (.int xa), .val (.ref b2), .val (.ref b213), .val (.int (24 : Int32)), .val (.ref w_QNAME)] [])) _
      refine XS.iconst X585.here hx rfl (hb hby at_335) ?_
      show Steps p.tables e below (T585.setTop (mkF m 336 #[.val (.int xa), .val (.ref b2), .val (.ref b213), .val (.int (24 : Int32)), .val (.ref w_QNAME)] [(.int (1 : Int32))])) _
      refine XS.goto X585.here hx rfl (pc0 := 336) (pc' := 340) rfl (hb hby at_336) (by decide) (by decide) ?_
      show Steps p.tables e below (T585.setTop (mkF m 340 #[.val (.int xa), .val (.ref b2), .val (.ref b213), .val (.int (24 : Int32)), .val (.ref w_QNAME)] [(.int (1 : Int32))])) _
      exact k
    obtain ⟨fs, hr, hrun, hended, hW, hsame⟩ := X585.leave (v := some (.int (1 : Int32))) (fun h => by rw [Bd.returns] at h; cases h)
    refine ⟨_, _, pre589 _ ?_, hrun, hended, _, _, rfl, ?_, ⟨_, rfl⟩, hW, hsame.mono (by decide) (by decide)⟩
    · exact retN X585 hx (t := .boolean) Bd.returns (by simp) (hb hby at_340) hr
    · show Q_rm0 Z xa w_ANY_ATOMIC_TYPE w_UNTYPED_ATOMIC w_STRING w_BOOLEAN w_DECIMAL w_INTEGER w_NON_POSITIVE_INTEGER w_NEGATIVE_INTEGER w_LONG w_INT w_SHORT w_BYTE w_NON_NEGATIVE_INTEGER w_UNSIGNED_LONG w_UNSIGNED_INT w_UNSIGNED_SHORT w_UNSIGNED_BYTE w_POSITIVE_INTEGER w_FLOAT w_DOUBLE w_ANY_URI w_DATE w_TIME w_HEX_BINARY w_QNAME w_NOTATION h0 n0 _ T585.heap _
      rw [e585]
      exact ⟨rfl, N585⟩
  · subst hk
    have pre591 : ∀ t, Steps p.tables e below (T317.setTop (mkF m 326 #[.val (.int xa), .val (.ref b2), .val (.ref b213), .val (.int (25 : Int32)), .val (.ref w_NOTATION)] [(.ref w_NOTATION)])) t → Steps p.tables e below (s₁.setTop (entryFrame m #[(.int xa)] maxLocals)) t := by
      intro t k
      refine pre319 t ?_
      refine XS.aloadN X317.here hx rfl (hb hby at_319) rfl rfl ?_
      show Steps p.tables e below (T317.setTop (mkF m 320 #[.val (.int xa), .val (.ref b2), .val (.ref b213), .val (.int (25 : Int32)), .unset] [(.ref b2)])) _
      refine XS.iloadN X317.here hx rfl (hb hby at_320) rfl ?_
      show Steps p.tables e below (T317.setTop (mkF m 321 #[.val (.int xa), .val (.ref b2), .val (.ref b213), .val (.int (25 : Int32)), .unset] [(.int (25 : Int32)), (.ref b2)])) _
      obtain ⟨c590, a590, q590, s590, m590, i590, u590⟩ := id (((((((((((((((((((((((((((V210.ext E213).other W217 (Nat.ne_of_lt (Nat.lt_of_lt_of_le V210.lt (Nat.le_of_eq g213.symm)))).other W221 (Nat.ne_of_lt (Nat.lt_of_lt_of_le V210.lt (Nat.le_of_eq g213.symm)))).other W225 (Nat.ne_of_lt (Nat.lt_of_lt_of_le V210.lt (Nat.le_of_eq g213.symm)))).other W229 (Nat.ne_of_lt (Nat.lt_of_lt_of_le V210.lt (Nat.le_of_eq g213.symm)))).other W233 (Nat.ne_of_lt (Nat.lt_of_lt_of_le V210.lt (Nat.le_of_eq g213.symm)))).other W237 (Nat.ne_of_lt (Nat.lt_of_lt_of_le V210.lt (Nat.le_of_eq g213.symm)))).other W241 (Nat.ne_of_lt (Nat.lt_of_lt_of_le V210.lt (Nat.le_of_eq g213.symm)))).other W245 (Nat.ne_of_lt (Nat.lt_of_lt_of_le V210.lt (Nat.le_of_eq g213.symm)))).other W249 (Nat.ne_of_lt (Nat.lt_of_lt_of_le V210.lt (Nat.le_of_eq g213.symm)))).other W253 (Nat.ne_of_lt (Nat.lt_of_lt_of_le V210.lt (Nat.le_of_eq g213.symm)))).other W257 (Nat.ne_of_lt (Nat.lt_of_lt_of_le V210.lt (Nat.le_of_eq g213.symm)))).other W261 (Nat.ne_of_lt (Nat.lt_of_lt_of_le V210.lt (Nat.le_of_eq g213.symm)))).other W265 (Nat.ne_of_lt (Nat.lt_of_lt_of_le V210.lt (Nat.le_of_eq g213.symm)))).other W269 (Nat.ne_of_lt (Nat.lt_of_lt_of_le V210.lt (Nat.le_of_eq g213.symm)))).other W273 (Nat.ne_of_lt (Nat.lt_of_lt_of_le V210.lt (Nat.le_of_eq g213.symm)))).other W277 (Nat.ne_of_lt (Nat.lt_of_lt_of_le V210.lt (Nat.le_of_eq g213.symm)))).other W281 (Nat.ne_of_lt (Nat.lt_of_lt_of_le V210.lt (Nat.le_of_eq g213.symm)))).other W285 (Nat.ne_of_lt (Nat.lt_of_lt_of_le V210.lt (Nat.le_of_eq g213.symm)))).other W289 (Nat.ne_of_lt (Nat.lt_of_lt_of_le V210.lt (Nat.le_of_eq g213.symm)))).other W293 (Nat.ne_of_lt (Nat.lt_of_lt_of_le V210.lt (Nat.le_of_eq g213.symm)))).other W297 (Nat.ne_of_lt (Nat.lt_of_lt_of_le V210.lt (Nat.le_of_eq g213.symm)))).other W301 (Nat.ne_of_lt (Nat.lt_of_lt_of_le V210.lt (Nat.le_of_eq g213.symm)))).other W305 (Nat.ne_of_lt (Nat.lt_of_lt_of_le V210.lt (Nat.le_of_eq g213.symm)))).other W309 (Nat.ne_of_lt (Nat.lt_of_lt_of_le V210.lt (Nat.le_of_eq g213.symm)))).other W313 (Nat.ne_of_lt (Nat.lt_of_lt_of_le V210.lt (Nat.le_of_eq g213.symm)))).other W317 (Nat.ne_of_lt (Nat.lt_of_lt_of_le V210.lt (Nat.le_of_eq g213.symm))))
      have hin590 := inb_of (j := (25 : Int32)) s590 ⟨by decide, by decide⟩
      refine X317.aaload hx (j := (25 : Int32)) (v := (.ref w_NOTATION)) (by rw [e317]; exact a590.1) (State.isArrayOf_alike hZ.alike a590.2.1) rfl a590.2.2 hin590 (i590.at hin590 rfl) (g := (mkF m 321 #[.val (.int xa), .val (.ref b2), .val (.ref b213), .val (.int (25 : Int32)), .unset] [(.int (25 : Int32)), (.ref b2)])) rfl rfl (hb hby at_321) _ ?_
      show Steps p.tables e below (T317.setTop (mkF m 322 #[.val (.int xa), .val (.ref b2), .val (.ref b213), .val (.int (25 : Int32)), .unset] [(.ref w_NOTATION)])) _
      refine XS.astore X317.here hx rfl (hb hby at_322) rfl rfl (l' := #[.val (.int xa), .val (.ref b2), .val (.ref b213), .val (.int (25 : Int32)), .val (.ref w_NOTATION)]) rfl ?_
      show Steps p.tables e below (T317.setTop (mkF m 324 #[.val (.int xa), .val (.ref b2), .val (.ref b213), .val (.int (25 : Int32)), .val (.ref w_NOTATION)] [])) _
      refine XS.aload X317.here hx rfl (hb hby at_324) rfl rfl ?_
      show Steps p.tables e below (T317.setTop (mkF m 326 #[.val (.int xa), .val (.ref b2), .val (.ref b213), .val (.int (25 : Int32)), .val (.ref w_NOTATION)] [(.ref w_NOTATION)])) _
      exact k
    have f592 := (P_NOTATION.ext (own_keep_ext K317))
    have f593 := (((((((((((((((((((((((((((((((((((((((((((((((((f36.wr W42).wr W50).wr W58).wr W66).wr W74).wr W82).wr W90).wr W98).wr W106).wr W114).wr W122).wr W130).wr W138).wr W146).wr W154).wr W162).wr W170).wr W178).wr W186).wr W194).wr W202).wr W210).ext E213).wr W217).wr W221).wr W225).wr W229).wr W233).wr W237).wr W241).wr W245).wr W249).wr W253).wr W257).wr W261).wr W265).wr W269).wr W273).wr W277).wr W281).wr W285).wr W289).wr W293).wr W297).wr W301).wr W305).wr W309).wr W313).wr W317)
    have f594 := ((((((((((((((((((((((((((((((((((((((((((((((((f44.wr W50).wr W58).wr W66).wr W74).wr W82).wr W90).wr W98).wr W106).wr W114).wr W122).wr W130).wr W138).wr W146).wr W154).wr W162).wr W170).wr W178).wr W186).wr W194).wr W202).wr W210).ext E213).wr W217).wr W221).wr W225).wr W229).wr W233).wr W237).wr W241).wr W245).wr W249).wr W253).wr W257).wr W261).wr W265).wr W269).wr W273).wr W277).wr W281).wr W285).wr W289).wr W293).wr W297).wr W301).wr W305).wr W309).wr W313).wr W317)
    have f595 := (((((((((((((((((((((((((((((((((((f148.wr W154).wr W162).wr W170).wr W178).wr W186).wr W194).wr W202).wr W210).ext E213).wr W217).wr W221).wr W225).wr W229).wr W233).wr W237).wr W241).wr W245).wr W249).wr W253).wr W257).wr W261).wr W265).wr W269).wr W273).wr W277).wr W281).wr W285).wr W289).wr W293).wr W297).wr W301).wr W305).wr W309).wr W313).wr W317)
    have f596 := ((((((((((((((((((((((((((((((((((f156.wr W162).wr W170).wr W178).wr W186).wr W194).wr W202).wr W210).ext E213).wr W217).wr W221).wr W225).wr W229).wr W233).wr W237).wr W241).wr W245).wr W249).wr W253).wr W257).wr W261).wr W265).wr W269).wr W273).wr W277).wr W281).wr W285).wr W289).wr W293).wr W297).wr W301).wr W305).wr W309).wr W313).wr W317)
    have f598 := ((((((((((((((((((((((((((((f209.wr W210).ext E213).wr W217).wr W221).wr W225).wr W229).wr W233).wr W237).wr W241).wr W245).wr W249).wr W253).wr W257).wr W261).wr W265).wr W269).wr W273).wr W277).wr W281).wr W285).wr W289).wr W293).wr W297).wr W301).wr W305).wr W309).wr W313).wr W317)
    obtain ⟨cq597, kq597, q597a, q597b, q597c⟩ := isOf hZ e317 f598
    obtain ⟨_, _, ⟨T597, L597, k597, n597⟩, -, X597, ⟨Lc597, hQ597, l597, y597, z597⟩, st597⟩ := X317.virtualBack hx (y := (⟨"com/example/xidr/xidr/xpath/values/AtomicType", "isNumeric", "()Z"⟩ : MethodName)) (z := (⟨"com/example/xidr/xidr/xpath/values/AtomicType", "isNumeric", "()Z"⟩ : MethodName)) hown (mvT hZ (hw _ (List.mem_of_getElem? (i := 58) rfl))) (mvT hZ (hw _ (List.mem_of_getElem? (i := 59) rfl))) (notFace_of_selects (args := #[]) (mvT hZ (hw _ (List.mem_of_getElem? (i := 61) rfl)))) (mvT hZ (hw _ (List.mem_of_getElem? (i := 61) rfl))) (mvT hZ (hw _ (List.mem_of_getElem? (i := 60) rfl))) (by decide) (backOf (W := 0) (rm_num4 l Z a0 hw [] w_NOTATION w_NOTATION w_DECIMAL w_INTEGER w_FLOAT w_DOUBLE h317 n0 z317 f592 f593 f594 f595 f596 (hne_NOTATION_DECIMAL) (hne_NOTATION_INTEGER) (hne_NOTATION_FLOAT) (hne_NOTATION_DOUBLE)) hZ (hw _ (List.mem_of_getElem? (i := 62) rfl)) (hw _ (List.mem_of_getElem? (i := 3) rfl)) (by decide) (by decide)) q597a q597c (g := (mkF m 326 #[.val (.int xa), .val (.ref b2), .val (.ref b213), .val (.int (25 : Int32)), .val (.ref w_NOTATION)] [(.ref w_NOTATION)])) rfl (by rw [hml]; rfl) (Steps.refl _) (argsL := []) (rest := []) (lenOf pd0 rfl) rfl (by show 2 * 0 + _ ≤ _; exact Nat.le_of_eq rfl) (hb hby at_326) (fun _ _ => ⟨rfl, e317, (by decide : 2 + 0 ≤ _), (by decide : 52 + 0 ≤ _)⟩)
    dsimp only [Pt.U, Pt.locs, Pt.cells, Pt.slots] at X597 l597 y597 z597 st597 hQ597
    subst y597 z597
    obtain ⟨rfl, M597, e597⟩ := hQ597
    have N597 : Fr n0 L597 := by rw [l597]; exact Fr.app N317 M597
    clear l597
    have X597 : Stand p l e _ s m _ below meth c T597 _ 2 52 := X597
    have pre599 : ∀ t, Steps p.tables e below (T597.setTop (mkF m 329 #[.val (.int xa), .val (.ref b2), .val (.ref b213), .val (.int (25 : Int32)), .val (.ref w_NOTATION)] [(.int (0 : Int32))])) t → Steps p.tables e below (s₁.setTop (entryFrame m #[(.int xa)] maxLocals)) t := fun t k => pre591 t (st597.trans k)
    have pre601 : ∀ t, Steps p.tables e below (T597.setTop (mkF m 340 #[.val (.int xa), .val (.ref b2), .val (.ref b213), .val (.int (25 : Int32)), .val (.ref w_NOTATION)] [(.int (1 : Int32))])) t → Steps p.tables e below (s₁.setTop (entryFrame m #[(.int xa)] maxLocals)) t := by
      intro t k
      refine pre599 t ?_
      refine XS.aloadN X597.here hx rfl (hb hby at_329) rfl rfl ?_
      show Steps p.tables e below (T597.setTop (mkF m 330 #[.val (.int xa), .val (.ref b2), .val (.ref b213), .val (.int (25 : Int32)), .val (.ref w_NOTATION)] [(.ref b213), (.int (0 : Int32))])) _
      refine XS.iloadN X597.here hx rfl (hb hby at_330) rfl ?_
      show Steps p.tables e below (T597.setTop (mkF m 331 #[.val (.int xa), .val (.ref b2), .val (.ref b213), .val (.int (25 : Int32)), .val (.ref w_NOTATION)] [(.int (25 : Int32)), (.ref b213), (.int (0 : Int32))])) _
      obtain ⟨c600, a600, q600, s600, m600, i600, u600⟩ := id V317
      have hin600 := inb_of (j := (25 : Int32)) s600 ⟨by decide, by decide⟩
      refine X597.baloadBooleans hx (j := (25 : Int32)) (v := (.int (nar .boolean (0 : Int32)))) (by rw [e597]; exact a600.1) (State.isArrayOf_alike hZ.alike a600.2.1) a600.2.2 hin600 (i600.at hin600 rfl) (g := (mkF m 331 #[.val (.int xa), .val (.ref b2), .val (.ref b213), .val (.int (25 : Int32)), .val (.ref w_NOTATION)] [(.int (25 : Int32)), (.ref b213), (.int (0 : Int32))])) rfl rfl (hb hby at_331) _ ?_
      show Steps p.tables e below (T597.setTop (mkF m 332 #[.val (.int xa), .val (.ref b2), .val (.ref b213), .val (.int (25 : Int32)), .val (.ref w_NOTATION)] [(.int (nar .boolean (0 : Int32))), (.int (0 : Int32))])) _
      refine XS.icmpNo X597.here hx rfl (hb hby at_332) rfl (teq (show (0 : Int32) = (nar .boolean (0 : Int32)) from rfl)).2 ?_
      show Steps p.tables e below (T597.setTop (mkF m 335 #[.val (.int xa), .val (.ref b2), .val (.ref b213), .val (.int (25 : Int32)), .val (.ref w_NOTATION)] [])) _
      refine XS.iconst X597.here hx rfl (hb hby at_335) ?_
      show Steps p.tables e below (T597.setTop (mkF m 336 #[.val (.int xa), .val (.ref b2), .val (.ref b213), .val (.int (25 : Int32)), .val (.ref w_NOTATION)] [(.int (1 : Int32))])) _
      refine XS.goto X597.here hx rfl (pc0 := 336) (pc' := 340) rfl (hb hby at_336) (by decide) (by decide) ?_
      show Steps p.tables e below (T597.setTop (mkF m 340 #[.val (.int xa), .val (.ref b2), .val (.ref b213), .val (.int (25 : Int32)), .val (.ref w_NOTATION)] [(.int (1 : Int32))])) _
      exact k
    obtain ⟨fs, hr, hrun, hended, hW, hsame⟩ := X597.leave (v := some (.int (1 : Int32))) (fun h => by rw [Bd.returns] at h; cases h)
    refine ⟨_, _, pre601 _ ?_, hrun, hended, _, _, rfl, ?_, ⟨_, rfl⟩, hW, hsame.mono (by decide) (by decide)⟩
    · exact retN X597 hx (t := .boolean) Bd.returns (by simp) (hb hby at_340) hr
    · show Q_rm0 Z xa w_ANY_ATOMIC_TYPE w_UNTYPED_ATOMIC w_STRING w_BOOLEAN w_DECIMAL w_INTEGER w_NON_POSITIVE_INTEGER w_NEGATIVE_INTEGER w_LONG w_INT w_SHORT w_BYTE w_NON_NEGATIVE_INTEGER w_UNSIGNED_LONG w_UNSIGNED_INT w_UNSIGNED_SHORT w_UNSIGNED_BYTE w_POSITIVE_INTEGER w_FLOAT w_DOUBLE w_ANY_URI w_DATE w_TIME w_HEX_BINARY w_QNAME w_NOTATION h0 n0 _ T597.heap _
      rw [e597]
      exact ⟨rfl, N597⟩
set_option maxRecDepth 65536 in
set_option maxHeartbeats 40000000 in
theorem comes_1 {Post : Tables → Env → Array Value → State → Outcome → State → Prop} (hpost : ∀ tb e args s v u, (limb_1_1.after args s (.returned v) u = true ∧ limb_1_2.after args s (.returned v) u = true ∧ True) → FrameEnd s (.returned v) u (Jvm.fieldLocs frame_1_writes args s ++ Jvm.arrayLocs frame_1_arrays args s ++ Jvm.staticLocs frame_1_statics s) 16 192 → Post tb e args s (.returned v) u) :
    ArmFor flags0 classFile x code maxLocals ret World_1 tables_1 room_1 Calls_1 rest_1 Pre_1 Post := by
  intro l hfl _ _ p e ha hc hk s m args below hf hA hF happ hP
  obtain ⟨hcalls, hrest, hpre⟩ := hP
  obtain ⟨-, -, -, hnamed, -, -, -, hat⟩ := (Spec.applies_iff hf).mp happ
  obtain ⟨hg, hn⟩ := and_e (Cond.before_iff.mp (show (Jvm.Cond.and given_1 narrow_1).before args s = true from hpre))
  obtain ⟨ga1, gb1⟩ := and_e hg
  obtain ⟨w0, rfl⟩ : ∃ w0 : Value, args = #[w0] := by
    have hs : args.size = 1 := by simpa [Cond.value, given_1] using ga1
    obtain ⟨L⟩ := args
    match L, hs with
    | [w0], _ => exact ⟨w0, rfl⟩
  have hw := fun d (hd : d ∈ tables_1) => atoms_spec (ws := Jvm.Cond.code x code maxLocals ret :: tables_1) hat d (List.mem_cons_of_mem _ hd)
  have hfit : Fit s := fun {y c} hc i hi => by
    obtain ⟨ha, rfl⟩ := Array.getElem?_eq_some_iff.mp hc
    have q := List.all_eq_true.mp ((Array.all_eq_true_iff_forall_mem.mp hF) _ (Array.getElem_mem ha)) i (List.mem_range.mpr hi)
    simpa [Array.getElem?_eq_getElem hi] using q
  obtain ⟨i0, ei0⟩ := is_v gb1
  obtain rfl : w0 = (.int i0) := Option.some.inj ei0
  obtain ⟨na1, nb1⟩ := and_e hn
  obtain ⟨na2, nb2⟩ := and_e nb1
  obtain ⟨na3, nb3⟩ := and_e nb2
  obtain ⟨na4, nb4⟩ := and_e nb3
  obtain ⟨na5, nb5⟩ := and_e nb4
  obtain ⟨na6, nb6⟩ := and_e nb5
  obtain ⟨na7, nb7⟩ := and_e nb6
  obtain ⟨na8, nb8⟩ := and_e nb7
  obtain ⟨na9, nb9⟩ := and_e nb8
  obtain ⟨na10, nb10⟩ := and_e nb9
  obtain ⟨na11, nb11⟩ := and_e nb10
  obtain ⟨na12, nb12⟩ := and_e nb11
  obtain ⟨na13, nb13⟩ := and_e nb12
  obtain ⟨na14, nb14⟩ := and_e nb13
  obtain ⟨na15, nb15⟩ := and_e nb14
  obtain ⟨na16, nb16⟩ := and_e nb15
  obtain ⟨na17, nb17⟩ := and_e nb16
  obtain ⟨na18, nb18⟩ := and_e nb17
  obtain ⟨na19, nb19⟩ := and_e nb18
  obtain ⟨na20, nb20⟩ := and_e nb19
  obtain ⟨na21, nb21⟩ := and_e nb20
  obtain ⟨na22, nb22⟩ := and_e nb21
  obtain ⟨na23, nb23⟩ := and_e nb22
  obtain ⟨na24, nb24⟩ := and_e nb23
  obtain ⟨na25, nb25⟩ := and_e nb24
  obtain ⟨na26, nb26⟩ := and_e nb25
  obtain ⟨na27, nb27⟩ := and_e nb26
  obtain ⟨na28, nb28⟩ := and_e nb27
  obtain ⟨na29, nb29⟩ := and_e nb28
  obtain ⟨na30, nb30⟩ := and_e nb29
  obtain ⟨na31, nb31⟩ := and_e nb30
  obtain ⟨na32, nb32⟩ := and_e nb31
  obtain ⟨na33, nb33⟩ := and_e nb32
  obtain ⟨na34, nb34⟩ := and_e nb33
  obtain ⟨na35, nb35⟩ := and_e nb34
  obtain ⟨na36, nb36⟩ := and_e nb35
  obtain ⟨na37, nb37⟩ := and_e nb36
  obtain ⟨na38, nb38⟩ := and_e nb37
  obtain ⟨na39, nb39⟩ := and_e nb38
  obtain ⟨na40, nb40⟩ := and_e nb39
  obtain ⟨na41, nb41⟩ := and_e nb40
  obtain ⟨na42, nb42⟩ := and_e nb41
  obtain ⟨na43, nb43⟩ := and_e nb42
  obtain ⟨na44, nb44⟩ := and_e nb43
  obtain ⟨na45, nb45⟩ := and_e nb44
  obtain ⟨na46, nb46⟩ := and_e nb45
  obtain ⟨na47, nb47⟩ := and_e nb46
  obtain ⟨na48, nb48⟩ := and_e nb47
  obtain ⟨na49, nb49⟩ := and_e nb48
  obtain ⟨na50, nb50⟩ := and_e nb49
  obtain ⟨na51, nb51⟩ := and_e nb50
  obtain ⟨na52, nb52⟩ := and_e nb51
  obtain ⟨na53, nb53⟩ := and_e nb52
  obtain ⟨na54, nb54⟩ := and_e nb53
  obtain ⟨na55, nb55⟩ := and_e nb54
  obtain ⟨na56, nb56⟩ := and_e nb55
  obtain ⟨na57, nb57⟩ := and_e nb56
  obtain ⟨na58, nb58⟩ := and_e nb57
  obtain ⟨na59, nb59⟩ := and_e nb58
  obtain ⟨na60, nb60⟩ := and_e nb59
  obtain ⟨na61, nb61⟩ := and_e nb60
  obtain ⟨na62, nb62⟩ := and_e nb61
  obtain ⟨na63, nb63⟩ := and_e nb62
  obtain ⟨na64, nb64⟩ := and_e nb63
  obtain ⟨na65, nb65⟩ := and_e nb64
  obtain ⟨w_ANY_ATOMIC_TYPE, ew_ANY_ATOMIC_TYPE⟩ := exa_v na1
  obtain ⟨w_UNTYPED_ATOMIC, ew_UNTYPED_ATOMIC⟩ := exa_v na2
  obtain ⟨w_STRING, ew_STRING⟩ := exa_v na3
  obtain ⟨w_BOOLEAN, ew_BOOLEAN⟩ := exa_v na4
  obtain ⟨w_DECIMAL, ew_DECIMAL⟩ := exa_v na5
  obtain ⟨w_INTEGER, ew_INTEGER⟩ := exa_v na6
  obtain ⟨w_NON_POSITIVE_INTEGER, ew_NON_POSITIVE_INTEGER⟩ := exa_v na7
  obtain ⟨w_NEGATIVE_INTEGER, ew_NEGATIVE_INTEGER⟩ := exa_v na8
  obtain ⟨w_LONG, ew_LONG⟩ := exa_v na9
  obtain ⟨w_INT, ew_INT⟩ := exa_v na10
  obtain ⟨w_SHORT, ew_SHORT⟩ := exa_v na11
  obtain ⟨w_BYTE, ew_BYTE⟩ := exa_v na12
  obtain ⟨w_NON_NEGATIVE_INTEGER, ew_NON_NEGATIVE_INTEGER⟩ := exa_v na13
  obtain ⟨w_UNSIGNED_LONG, ew_UNSIGNED_LONG⟩ := exa_v na14
  obtain ⟨w_UNSIGNED_INT, ew_UNSIGNED_INT⟩ := exa_v na15
  obtain ⟨w_UNSIGNED_SHORT, ew_UNSIGNED_SHORT⟩ := exa_v na16
  obtain ⟨w_UNSIGNED_BYTE, ew_UNSIGNED_BYTE⟩ := exa_v na17
  obtain ⟨w_POSITIVE_INTEGER, ew_POSITIVE_INTEGER⟩ := exa_v na18
  obtain ⟨w_FLOAT, ew_FLOAT⟩ := exa_v na19
  obtain ⟨w_DOUBLE, ew_DOUBLE⟩ := exa_v na20
  obtain ⟨w_ANY_URI, ew_ANY_URI⟩ := exa_v na21
  obtain ⟨w_DATE, ew_DATE⟩ := exa_v na22
  obtain ⟨w_TIME, ew_TIME⟩ := exa_v na23
  obtain ⟨w_HEX_BINARY, ew_HEX_BINARY⟩ := exa_v na24
  obtain ⟨w_QNAME, ew_QNAME⟩ := exa_v na25
  obtain ⟨w_NOTATION, ew_NOTATION⟩ := exa_v na26
  have En_ANY_ATOMIC_TYPE := Exa.start ew_ANY_ATOMIC_TYPE na1
  have Sn_ANY_ATOMIC_TYPE := Sta.start ew_ANY_ATOMIC_TYPE (Or.inr ⟨(hw _ (List.mem_of_getElem? (i := 3) rfl)), (hw _ (List.mem_of_getElem? (i := 4) rfl))⟩)
  have En_UNTYPED_ATOMIC := Exa.start ew_UNTYPED_ATOMIC na2
  have Sn_UNTYPED_ATOMIC := Sta.start ew_UNTYPED_ATOMIC (Or.inr ⟨(hw _ (List.mem_of_getElem? (i := 3) rfl)), (hw _ (List.mem_of_getElem? (i := 7) rfl))⟩)
  have En_STRING := Exa.start ew_STRING na3
  have Sn_STRING := Sta.start ew_STRING (Or.inr ⟨(hw _ (List.mem_of_getElem? (i := 3) rfl)), (hw _ (List.mem_of_getElem? (i := 9) rfl))⟩)
  have En_BOOLEAN := Exa.start ew_BOOLEAN na4
  have Sn_BOOLEAN := Sta.start ew_BOOLEAN (Or.inr ⟨(hw _ (List.mem_of_getElem? (i := 3) rfl)), (hw _ (List.mem_of_getElem? (i := 11) rfl))⟩)
  have En_DECIMAL := Exa.start ew_DECIMAL na5
  have Sn_DECIMAL := Sta.start ew_DECIMAL (Or.inr ⟨(hw _ (List.mem_of_getElem? (i := 3) rfl)), (hw _ (List.mem_of_getElem? (i := 13) rfl))⟩)
  have En_INTEGER := Exa.start ew_INTEGER na6
  have Sn_INTEGER := Sta.start ew_INTEGER (Or.inr ⟨(hw _ (List.mem_of_getElem? (i := 3) rfl)), (hw _ (List.mem_of_getElem? (i := 15) rfl))⟩)
  have En_NON_POSITIVE_INTEGER := Exa.start ew_NON_POSITIVE_INTEGER na7
  have Sn_NON_POSITIVE_INTEGER := Sta.start ew_NON_POSITIVE_INTEGER (Or.inr ⟨(hw _ (List.mem_of_getElem? (i := 3) rfl)), (hw _ (List.mem_of_getElem? (i := 17) rfl))⟩)
  have En_NEGATIVE_INTEGER := Exa.start ew_NEGATIVE_INTEGER na8
  have Sn_NEGATIVE_INTEGER := Sta.start ew_NEGATIVE_INTEGER (Or.inr ⟨(hw _ (List.mem_of_getElem? (i := 3) rfl)), (hw _ (List.mem_of_getElem? (i := 19) rfl))⟩)
  have En_LONG := Exa.start ew_LONG na9
  have Sn_LONG := Sta.start ew_LONG (Or.inr ⟨(hw _ (List.mem_of_getElem? (i := 3) rfl)), (hw _ (List.mem_of_getElem? (i := 21) rfl))⟩)
  have En_INT := Exa.start ew_INT na10
  have Sn_INT := Sta.start ew_INT (Or.inr ⟨(hw _ (List.mem_of_getElem? (i := 3) rfl)), (hw _ (List.mem_of_getElem? (i := 23) rfl))⟩)
  have En_SHORT := Exa.start ew_SHORT na11
  have Sn_SHORT := Sta.start ew_SHORT (Or.inr ⟨(hw _ (List.mem_of_getElem? (i := 3) rfl)), (hw _ (List.mem_of_getElem? (i := 25) rfl))⟩)
  have En_BYTE := Exa.start ew_BYTE na12
  have Sn_BYTE := Sta.start ew_BYTE (Or.inr ⟨(hw _ (List.mem_of_getElem? (i := 3) rfl)), (hw _ (List.mem_of_getElem? (i := 27) rfl))⟩)
  have En_NON_NEGATIVE_INTEGER := Exa.start ew_NON_NEGATIVE_INTEGER na13
  have Sn_NON_NEGATIVE_INTEGER := Sta.start ew_NON_NEGATIVE_INTEGER (Or.inr ⟨(hw _ (List.mem_of_getElem? (i := 3) rfl)), (hw _ (List.mem_of_getElem? (i := 29) rfl))⟩)
  have En_UNSIGNED_LONG := Exa.start ew_UNSIGNED_LONG na14
  have Sn_UNSIGNED_LONG := Sta.start ew_UNSIGNED_LONG (Or.inr ⟨(hw _ (List.mem_of_getElem? (i := 3) rfl)), (hw _ (List.mem_of_getElem? (i := 31) rfl))⟩)
  have En_UNSIGNED_INT := Exa.start ew_UNSIGNED_INT na15
  have Sn_UNSIGNED_INT := Sta.start ew_UNSIGNED_INT (Or.inr ⟨(hw _ (List.mem_of_getElem? (i := 3) rfl)), (hw _ (List.mem_of_getElem? (i := 33) rfl))⟩)
  have En_UNSIGNED_SHORT := Exa.start ew_UNSIGNED_SHORT na16
  have Sn_UNSIGNED_SHORT := Sta.start ew_UNSIGNED_SHORT (Or.inr ⟨(hw _ (List.mem_of_getElem? (i := 3) rfl)), (hw _ (List.mem_of_getElem? (i := 35) rfl))⟩)
  have En_UNSIGNED_BYTE := Exa.start ew_UNSIGNED_BYTE na17
  have Sn_UNSIGNED_BYTE := Sta.start ew_UNSIGNED_BYTE (Or.inr ⟨(hw _ (List.mem_of_getElem? (i := 3) rfl)), (hw _ (List.mem_of_getElem? (i := 37) rfl))⟩)
  have En_POSITIVE_INTEGER := Exa.start ew_POSITIVE_INTEGER na18
  have Sn_POSITIVE_INTEGER := Sta.start ew_POSITIVE_INTEGER (Or.inr ⟨(hw _ (List.mem_of_getElem? (i := 3) rfl)), (hw _ (List.mem_of_getElem? (i := 39) rfl))⟩)
  have En_FLOAT := Exa.start ew_FLOAT na19
  have Sn_FLOAT := Sta.start ew_FLOAT (Or.inr ⟨(hw _ (List.mem_of_getElem? (i := 3) rfl)), (hw _ (List.mem_of_getElem? (i := 41) rfl))⟩)
  have En_DOUBLE := Exa.start ew_DOUBLE na20
  have Sn_DOUBLE := Sta.start ew_DOUBLE (Or.inr ⟨(hw _ (List.mem_of_getElem? (i := 3) rfl)), (hw _ (List.mem_of_getElem? (i := 43) rfl))⟩)
  have En_ANY_URI := Exa.start ew_ANY_URI na21
  have Sn_ANY_URI := Sta.start ew_ANY_URI (Or.inr ⟨(hw _ (List.mem_of_getElem? (i := 3) rfl)), (hw _ (List.mem_of_getElem? (i := 45) rfl))⟩)
  have En_DATE := Exa.start ew_DATE na22
  have Sn_DATE := Sta.start ew_DATE (Or.inr ⟨(hw _ (List.mem_of_getElem? (i := 3) rfl)), (hw _ (List.mem_of_getElem? (i := 47) rfl))⟩)
  have En_TIME := Exa.start ew_TIME na23
  have Sn_TIME := Sta.start ew_TIME (Or.inr ⟨(hw _ (List.mem_of_getElem? (i := 3) rfl)), (hw _ (List.mem_of_getElem? (i := 49) rfl))⟩)
  have En_HEX_BINARY := Exa.start ew_HEX_BINARY na24
  have Sn_HEX_BINARY := Sta.start ew_HEX_BINARY (Or.inr ⟨(hw _ (List.mem_of_getElem? (i := 3) rfl)), (hw _ (List.mem_of_getElem? (i := 51) rfl))⟩)
  have En_QNAME := Exa.start ew_QNAME na25
  have Sn_QNAME := Sta.start ew_QNAME (Or.inr ⟨(hw _ (List.mem_of_getElem? (i := 3) rfl)), (hw _ (List.mem_of_getElem? (i := 53) rfl))⟩)
  have En_NOTATION := Exa.start ew_NOTATION na26
  have Sn_NOTATION := Sta.start ew_NOTATION (Or.inr ⟨(hw _ (List.mem_of_getElem? (i := 3) rfl)), (hw _ (List.mem_of_getElem? (i := 55) rfl))⟩)
  have Fn_ANY_ATOMIC_TYPE_primitive := Fld.start (own_fldref na27 ew_ANY_ATOMIC_TYPE ew_ANY_ATOMIC_TYPE)
  have Fn_ANY_ATOMIC_TYPE_ordinal := Fld.start (own_fldint na28 ew_ANY_ATOMIC_TYPE)
  have Fn_DECIMAL_ordinal := Fld.start (own_fldint na29 ew_DECIMAL)
  have Fn_INTEGER_ordinal := Fld.start (own_fldint na30 ew_INTEGER)
  have Fn_FLOAT_ordinal := Fld.start (own_fldint na31 ew_FLOAT)
  have Fn_DOUBLE_ordinal := Fld.start (own_fldint na32 ew_DOUBLE)
  have Fn_BOOLEAN_primitive := Fld.start (own_fldref na33 ew_BOOLEAN ew_BOOLEAN)
  have Fn_BOOLEAN_ordinal := Fld.start (own_fldint na34 ew_BOOLEAN)
  have Fn_NON_POSITIVE_INTEGER_primitive := Fld.start (own_fldref na35 ew_NON_POSITIVE_INTEGER ew_INTEGER)
  have Fn_INTEGER_primitive := Fld.start (own_fldref na36 ew_INTEGER ew_INTEGER)
  have Fn_NEGATIVE_INTEGER_primitive := Fld.start (own_fldref na37 ew_NEGATIVE_INTEGER ew_INTEGER)
  have Fn_TIME_primitive := Fld.start (own_fldref na38 ew_TIME ew_TIME)
  have Fn_TIME_ordinal := Fld.start (own_fldint na39 ew_TIME)
  have Fn_STRING_primitive := Fld.start (own_fldref na40 ew_STRING ew_STRING)
  have Fn_STRING_ordinal := Fld.start (own_fldint na41 ew_STRING)
  have Fn_BYTE_primitive := Fld.start (own_fldref na42 ew_BYTE ew_INTEGER)
  have Fn_UNSIGNED_INT_primitive := Fld.start (own_fldref na43 ew_UNSIGNED_INT ew_INTEGER)
  have Fn_LONG_primitive := Fld.start (own_fldref na44 ew_LONG ew_INTEGER)
  have Fn_UNTYPED_ATOMIC_primitive := Fld.start (own_fldref na45 ew_UNTYPED_ATOMIC ew_UNTYPED_ATOMIC)
  have Fn_UNTYPED_ATOMIC_ordinal := Fld.start (own_fldint na46 ew_UNTYPED_ATOMIC)
  have Fn_UNSIGNED_SHORT_primitive := Fld.start (own_fldref na47 ew_UNSIGNED_SHORT ew_INTEGER)
  have Fn_UNSIGNED_BYTE_primitive := Fld.start (own_fldref na48 ew_UNSIGNED_BYTE ew_INTEGER)
  have Fn_SHORT_primitive := Fld.start (own_fldref na49 ew_SHORT ew_INTEGER)
  have Fn_DATE_primitive := Fld.start (own_fldref na50 ew_DATE ew_DATE)
  have Fn_DATE_ordinal := Fld.start (own_fldint na51 ew_DATE)
  have Fn_UNSIGNED_LONG_primitive := Fld.start (own_fldref na52 ew_UNSIGNED_LONG ew_INTEGER)
  have Fn_NON_NEGATIVE_INTEGER_primitive := Fld.start (own_fldref na53 ew_NON_NEGATIVE_INTEGER ew_INTEGER)
  have Fn_DOUBLE_primitive := Fld.start (own_fldref na54 ew_DOUBLE ew_DOUBLE)
  have Fn_FLOAT_primitive := Fld.start (own_fldref na55 ew_FLOAT ew_FLOAT)
  have Fn_DECIMAL_primitive := Fld.start (own_fldref na56 ew_DECIMAL ew_DECIMAL)
  have Fn_INT_primitive := Fld.start (own_fldref na57 ew_INT ew_INTEGER)
  have Fn_NOTATION_primitive := Fld.start (own_fldref na58 ew_NOTATION ew_NOTATION)
  have Fn_NOTATION_ordinal := Fld.start (own_fldint na59 ew_NOTATION)
  have Fn_POSITIVE_INTEGER_primitive := Fld.start (own_fldref na60 ew_POSITIVE_INTEGER ew_INTEGER)
  have Fn_ANY_URI_primitive := Fld.start (own_fldref na61 ew_ANY_URI ew_ANY_URI)
  have Fn_ANY_URI_ordinal := Fld.start (own_fldint na62 ew_ANY_URI)
  have Fn_HEX_BINARY_primitive := Fld.start (own_fldref na63 ew_HEX_BINARY ew_HEX_BINARY)
  have Fn_HEX_BINARY_ordinal := Fld.start (own_fldint na64 ew_HEX_BINARY)
  have Fn_QNAME_primitive := Fld.start (own_fldref na65 ew_QNAME ew_QNAME)
  have Fn_QNAME_ordinal := Fld.start (own_fldint nb65 ew_QNAME)
  obtain ⟨n, o, h1, h2, h3, _, L, rfl, ⟨rfl, N⟩, hq⟩ := rm0 l s _ hw tables_1 i0 w_ANY_ATOMIC_TYPE w_UNTYPED_ATOMIC w_STRING w_BOOLEAN w_DECIMAL w_INTEGER w_NON_POSITIVE_INTEGER w_NEGATIVE_INTEGER w_LONG w_INT w_SHORT w_BYTE w_NON_NEGATIVE_INTEGER w_UNSIGNED_LONG w_UNSIGNED_INT w_UNSIGNED_SHORT w_UNSIGNED_BYTE w_POSITIVE_INTEGER w_FLOAT w_DOUBLE w_ANY_URI w_DATE w_TIME w_HEX_BINARY w_QNAME w_NOTATION s.heap s.heap.size (Nat.le_refl _) Sn_ANY_ATOMIC_TYPE Sn_UNTYPED_ATOMIC Sn_STRING Sn_BOOLEAN Sn_DECIMAL Sn_INTEGER Sn_NON_POSITIVE_INTEGER Sn_NEGATIVE_INTEGER Sn_LONG Sn_INT Sn_SHORT Sn_BYTE Sn_NON_NEGATIVE_INTEGER Sn_UNSIGNED_LONG Sn_UNSIGNED_INT Sn_UNSIGNED_SHORT Sn_UNSIGNED_BYTE Sn_POSITIVE_INTEGER Sn_FLOAT Sn_DOUBLE Sn_ANY_URI Sn_DATE Sn_TIME Sn_HEX_BINARY Sn_QNAME Sn_NOTATION En_ANY_ATOMIC_TYPE En_UNTYPED_ATOMIC En_STRING En_BOOLEAN En_DECIMAL En_INTEGER En_NON_POSITIVE_INTEGER En_NEGATIVE_INTEGER En_LONG En_INT En_SHORT En_BYTE En_NON_NEGATIVE_INTEGER En_UNSIGNED_LONG En_UNSIGNED_INT En_UNSIGNED_SHORT En_UNSIGNED_BYTE En_POSITIVE_INTEGER En_FLOAT En_DOUBLE En_ANY_URI En_DATE En_TIME En_HEX_BINARY En_QNAME En_NOTATION Fn_ANY_ATOMIC_TYPE_primitive Fn_UNTYPED_ATOMIC_primitive Fn_STRING_primitive Fn_BOOLEAN_primitive Fn_DECIMAL_primitive Fn_INTEGER_primitive Fn_NON_POSITIVE_INTEGER_primitive Fn_NEGATIVE_INTEGER_primitive Fn_LONG_primitive Fn_INT_primitive Fn_SHORT_primitive Fn_BYTE_primitive Fn_NON_NEGATIVE_INTEGER_primitive Fn_UNSIGNED_LONG_primitive Fn_UNSIGNED_INT_primitive Fn_UNSIGNED_SHORT_primitive Fn_UNSIGNED_BYTE_primitive Fn_POSITIVE_INTEGER_primitive Fn_FLOAT_primitive Fn_DOUBLE_primitive Fn_ANY_URI_primitive Fn_DATE_primitive Fn_TIME_primitive Fn_HEX_BINARY_primitive Fn_QNAME_primitive Fn_NOTATION_primitive (Fld.ne Fn_ANY_ATOMIC_TYPE_ordinal Fn_DECIMAL_ordinal (by decide)) (Fld.ne Fn_ANY_ATOMIC_TYPE_ordinal Fn_DOUBLE_ordinal (by decide)) (Fld.ne Fn_ANY_ATOMIC_TYPE_ordinal Fn_FLOAT_ordinal (by decide)) (Fld.ne Fn_ANY_ATOMIC_TYPE_ordinal Fn_INTEGER_ordinal (by decide)) (Fld.ne Fn_ANY_URI_ordinal Fn_DECIMAL_ordinal (by decide)) (Fld.ne Fn_ANY_URI_ordinal Fn_DOUBLE_ordinal (by decide)) (Fld.ne Fn_ANY_URI_ordinal Fn_FLOAT_ordinal (by decide)) (Fld.ne Fn_ANY_URI_ordinal Fn_INTEGER_ordinal (by decide)) (Fld.ne Fn_BOOLEAN_ordinal Fn_DECIMAL_ordinal (by decide)) (Fld.ne Fn_BOOLEAN_ordinal Fn_DOUBLE_ordinal (by decide)) (Fld.ne Fn_BOOLEAN_ordinal Fn_FLOAT_ordinal (by decide)) (Fld.ne Fn_BOOLEAN_ordinal Fn_INTEGER_ordinal (by decide)) (Fld.ne Fn_DATE_ordinal Fn_DECIMAL_ordinal (by decide)) (Fld.ne Fn_DATE_ordinal Fn_DOUBLE_ordinal (by decide)) (Fld.ne Fn_DATE_ordinal Fn_FLOAT_ordinal (by decide)) (Fld.ne Fn_DATE_ordinal Fn_INTEGER_ordinal (by decide)) (Fld.ne Fn_DOUBLE_ordinal Fn_DECIMAL_ordinal (by decide)) (Fld.ne Fn_DOUBLE_ordinal Fn_FLOAT_ordinal (by decide)) (Fld.ne Fn_DOUBLE_ordinal Fn_INTEGER_ordinal (by decide)) (Fld.ne Fn_FLOAT_ordinal Fn_DECIMAL_ordinal (by decide)) (Fld.ne Fn_FLOAT_ordinal Fn_INTEGER_ordinal (by decide)) (Fld.ne Fn_HEX_BINARY_ordinal Fn_DECIMAL_ordinal (by decide)) (Fld.ne Fn_HEX_BINARY_ordinal Fn_DOUBLE_ordinal (by decide)) (Fld.ne Fn_HEX_BINARY_ordinal Fn_FLOAT_ordinal (by decide)) (Fld.ne Fn_HEX_BINARY_ordinal Fn_INTEGER_ordinal (by decide)) (Fld.ne Fn_INTEGER_ordinal Fn_DECIMAL_ordinal (by decide)) (Fld.ne Fn_NOTATION_ordinal Fn_DECIMAL_ordinal (by decide)) (Fld.ne Fn_NOTATION_ordinal Fn_DOUBLE_ordinal (by decide)) (Fld.ne Fn_NOTATION_ordinal Fn_FLOAT_ordinal (by decide)) (Fld.ne Fn_NOTATION_ordinal Fn_INTEGER_ordinal (by decide)) (Fld.ne Fn_QNAME_ordinal Fn_DECIMAL_ordinal (by decide)) (Fld.ne Fn_QNAME_ordinal Fn_DOUBLE_ordinal (by decide)) (Fld.ne Fn_QNAME_ordinal Fn_FLOAT_ordinal (by decide)) (Fld.ne Fn_QNAME_ordinal Fn_INTEGER_ordinal (by decide)) (Fld.ne Fn_STRING_ordinal Fn_DECIMAL_ordinal (by decide)) (Fld.ne Fn_STRING_ordinal Fn_DOUBLE_ordinal (by decide)) (Fld.ne Fn_STRING_ordinal Fn_FLOAT_ordinal (by decide)) (Fld.ne Fn_STRING_ordinal Fn_INTEGER_ordinal (by decide)) (Fld.ne Fn_TIME_ordinal Fn_DECIMAL_ordinal (by decide)) (Fld.ne Fn_TIME_ordinal Fn_DOUBLE_ordinal (by decide)) (Fld.ne Fn_TIME_ordinal Fn_FLOAT_ordinal (by decide)) (Fld.ne Fn_TIME_ordinal Fn_INTEGER_ordinal (by decide)) (Fld.ne Fn_UNTYPED_ATOMIC_ordinal Fn_DECIMAL_ordinal (by decide)) (Fld.ne Fn_UNTYPED_ATOMIC_ordinal Fn_DOUBLE_ordinal (by decide)) (Fld.ne Fn_UNTYPED_ATOMIC_ordinal Fn_FLOAT_ordinal (by decide)) (Fld.ne Fn_UNTYPED_ATOMIC_ordinal Fn_INTEGER_ordinal (by decide)) p e ha hc hk s m _ below hf ((Spec.applies_iff_loose hf).mp happ).1 ⟨rfl, State.Warmed39.refl s, rfl⟩ trivial
  refine ⟨n, _, h1, h2, h3, hpost _ _ _ _ _ _ ⟨Cond.after_iff.mpr rfl, Cond.after_iff.mpr (eq_i res_at (Term.int_eval (1)) rfl), trivial⟩ ⟨hq.1, hq.2.1, (hq.2.2.sift fun y hy => Or.inr (N y hy)).mono (by decide) (by decide)⟩⟩
theorem main_1_1 : Claimed_1_1 := comes_1 fun _ _ _ _ _ _ h hF => ⟨h.1, hF⟩
theorem main_1_2 : Claimed_1_2 := comes_1 fun _ _ _ _ _ _ h hF => ⟨h.2.1, hF⟩
end Jvm.Pilot.@@N@@
namespace Jvm.Pilot.@@N@@
open Jvm Jvm.ClassFile Sem Op Lib Jvm.Free Jvm.Stand Jvm.Pilot.@@N@@.Jvm.D
/-! MADE BY PROGRAM (witnessworld.py) out of the Statement's table words and the real class files: 16 classes; the members and pool entries that the words name. The judged class is class 1, her method 1. -/
namespace start1
open Jvm.ClassFile
def u (s : String) : CpInfo := .utf8 (stringToUtf16 s)
/-- a pool by its gaps: so many unusable entries, then the entry; so many at the end -/
def gap : Nat → List CpInfo → List CpInfo
  | 0, r => r
  | n + 1, r => .unusable :: gap n r
def poolList (es : List (Nat × CpInfo)) (last : Nat) : List CpInfo := es.foldr (fun e r => gap e.1 (e.2 :: r)) (gap last [])
def pool (es : List (Nat × CpInfo)) (last : Nat) : Array CpInfo := ⟨poolList es last⟩
def fileOf (pool : Array CpInfo) (this : Nat) (attrs : Array Attribute := #[]) (ms : Array MethodInfo := #[]) (fl : Nat := 33) (sup : Nat := 0) (ifs : Array Nat := #[]) (fds : Array FieldInfo := #[]) : ClassFile where
  minorVersion := 0
  majorVersion := 65
  constantPool := pool
  accessFlags := fl
  thisClass := this
  superClass := sup
  interfaces := ifs
  fields := fds
  methods := ms
  attributes := attrs
def plain (name : String) (sup : Option ClassId) : Class where
  name := name
  kind := .ordinary
  loader := none
  accessFlags := 33
  super := sup
  interfaces := #[]
  cf := none
  fields := #[]
  methods := #[]
  instanceTypes := #[]
  staticTypes := #[]
  resolved := #[]
  callSites := []
  init := .initialized
  statics := none
  mirror := none

def pool0 : Array CpInfo := pool [(5, u "<init>"), (0, u "()V"), (1, .class_ 10), (1, u "java/lang/Object")] 113

def k0m0 : Method := { name := "<init>", desc := "()V", sig := { parameters := [], returnType := none }, accessFlags := 1, code := none }
/-- java/lang/Object -/
def k0 : Class := { plain "java/lang/Object" none with
  accessFlags := 33
  interfaces := #[]
  cf := some (fileOf pool0 8 #[] #[{ accessFlags := 1, nameIndex := 5, descriptorIndex := 6, attributes := #[] }] 33 0 #[] #[])
  fields := #[]
  methods := #[k0m0]
  instanceTypes := #[]
  staticTypes := #[]
  resolved := Array.replicate 124 none
  statics := none }

def pool1 : Array CpInfo := pool [(2, .class_ 4), (1, u "java/lang/Object"), (0, u "<init>"), (0, u "()V"), (0, .class_ 8), (0, u "com/example/xidr/xidr/xpath/values/AtomicType"), (0, .fieldref 7 10), (0, .nameAndType 11 12), (0, u "ANY_ATOMIC_TYPE"), (0, u "Lcom/example/xidr/xidr/xpath/values/AtomicType;"), (0, .fieldref 7 14), (0, .nameAndType 15 12), (0, u "UNTYPED_ATOMIC"), (0, .fieldref 7 17), (0, .nameAndType 18 12), (0, u "STRING"), (0, .fieldref 7 20), (0, .nameAndType 21 12), (0, u "BOOLEAN"), (0, .fieldref 7 23), (0, .nameAndType 24 12), (0, u "DECIMAL"), (0, .fieldref 7 26), (0, .nameAndType 27 12), (0, u "INTEGER"), (0, .fieldref 7 29), (0, .nameAndType 30 12), (0, u "NON_POSITIVE_INTEGER"), (0, .fieldref 7 32), (0, .nameAndType 33 12), (0, u "NEGATIVE_INTEGER"), (0, .fieldref 7 35), (0, .nameAndType 36 12), (0, u "LONG"), (0, .fieldref 7 38), (0, .nameAndType 39 12), (0, u "INT"), (0, .fieldref 7 41), (0, .nameAndType 42 12), (0, u "SHORT"), (0, .fieldref 7 44), (0, .nameAndType 45 12), (0, u "BYTE"), (0, .fieldref 7 47), (0, .nameAndType 48 12), (0, u "NON_NEGATIVE_INTEGER"), (0, .fieldref 7 50), (0, .nameAndType 51 12), (0, u "UNSIGNED_LONG"), (0, .fieldref 7 53), (0, .nameAndType 54 12), (0, u "UNSIGNED_INT"), (0, .fieldref 7 56), (0, .nameAndType 57 12), (0, u "UNSIGNED_SHORT"), (0, .fieldref 7 59), (0, .nameAndType 60 12), (0, u "UNSIGNED_BYTE"), (0, .fieldref 7 62), (0, .nameAndType 63 12), (0, u "POSITIVE_INTEGER"), (0, .fieldref 7 65), (0, .nameAndType 66 12), (0, u "FLOAT"), (0, .fieldref 7 68), (0, .nameAndType 69 12), (0, u "DOUBLE"), (0, .fieldref 7 71), (0, .nameAndType 72 12), (0, u "ANY_URI"), (0, .fieldref 7 74), (0, .nameAndType 75 12), (0, u "DATE"), (0, .fieldref 7 77), (0, .nameAndType 78 12), (0, u "TIME"), (0, .fieldref 7 80), (0, .nameAndType 81 12), (0, u "HEX_BINARY"), (0, .fieldref 7 83), (0, .nameAndType 84 12), (0, u "QNAME"), (0, .fieldref 7 86), (0, .nameAndType 87 12), (0, u "NOTATION"), (0, .integer 2147483647), (0, .methodref 7 90), (0, .nameAndType 91 92), (0, u "isNumeric"), (0, u "()Z"), (0, .class_ 94), (0, u "com/example/xidr/xidr/xpath/values/AtomicTypeIsNumericPinLaw"), (2, u "law"), (0, u "(I)Z")] 7

def k1m0 : Method := { name := "<init>", desc := "()V", sig := { parameters := [], returnType := none }, accessFlags := 2, code := none }
def k1c1 : Code := { maxStack := 4, maxLocals := 5, code := code, exceptionTable := #[], attributes := #[] }
def k1m1 : Method := { name := "law", desc := "(I)Z", sig := { parameters := [.int], returnType := some .boolean }, accessFlags := 9, code := some k1c1 }
/-- com/example/xidr/xidr/xpath/values/AtomicTypeIsNumericPinLaw -/
def k1 : Class := { plain "com/example/xidr/xidr/xpath/values/AtomicTypeIsNumericPinLaw" (some 0) with
  accessFlags := 49
  interfaces := #[]
  cf := some (fileOf pool1 93 #[] #[{ accessFlags := 2, nameIndex := 5, descriptorIndex := 6, attributes := #[] }, { accessFlags := 9, nameIndex := 97, descriptorIndex := 98, attributes := #[] }] 49 2 #[] #[])
  fields := #[]
  methods := #[k1m0, k1m1]
  instanceTypes := #[]
  staticTypes := #[]
  resolved := Array.replicate 106 none
  statics := none }

def pool2 : Array CpInfo := pool [(1, .class_ 2), (0, u "java/lang/constant/Constable"), (0, .class_ 4), (0, u "java/lang/Object")] 6

/-- java/lang/constant/Constable -/
def k2 : Class := { plain "java/lang/constant/Constable" (some 0) with
  accessFlags := 1537
  interfaces := #[]
  cf := some (fileOf pool2 1 #[] #[] 1537 3 #[] #[])
  fields := #[]
  methods := #[]
  instanceTypes := #[]
  staticTypes := #[]
  resolved := Array.replicate 11 none
  statics := none }

def pool3 : Array CpInfo := pool [(1, .class_ 2), (0, u "java/lang/Comparable"), (0, .class_ 4), (0, u "java/lang/Object")] 7

/-- java/lang/Comparable -/
def k3 : Class := { plain "java/lang/Comparable" (some 0) with
  accessFlags := 1537
  interfaces := #[]
  cf := some (fileOf pool3 1 #[] #[] 1537 3 #[] #[])
  fields := #[]
  methods := #[]
  instanceTypes := #[]
  staticTypes := #[]
  resolved := Array.replicate 12 none
  statics := none }

def pool4 : Array CpInfo := pool [(1, .class_ 2), (0, u "java/io/Serializable"), (0, .class_ 4), (0, u "java/lang/Object")] 2

/-- java/io/Serializable -/
def k4 : Class := { plain "java/io/Serializable" (some 0) with
  accessFlags := 1537
  interfaces := #[]
  cf := some (fileOf pool4 1 #[] #[] 1537 3 #[] #[])
  fields := #[]
  methods := #[]
  instanceTypes := #[]
  staticTypes := #[]
  resolved := Array.replicate 7 none
  statics := none }

def pool5 : Array CpInfo := pool [(2, .class_ 4), (1, u "java/lang/Enum"), (0, u "name"), (0, u "Ljava/lang/String;"), (2, u "ordinal"), (0, u "I"), (1, .class_ 14), (1, u "java/lang/Object"), (4, u "hash"), (86, .class_ 108), (1, u "java/lang/Enum$EnumDesc"), (2, .class_ 112), (0, u "java/lang/constant/Constable"), (0, .class_ 114), (0, u "java/lang/Comparable"), (0, .class_ 116), (0, u "java/io/Serializable")] 87

/-- java/lang/Enum -/
def k5 : Class := { plain "java/lang/Enum" (some 0) with
  accessFlags := 1057
  interfaces := #[2, 3, 4]
  cf := some (fileOf pool5 2 #[.nestMembers #[106]] #[] 1057 12 #[111, 113, 115] #[{ accessFlags := 18, nameIndex := 5, descriptorIndex := 6, attributes := #[] }, { accessFlags := 18, nameIndex := 9, descriptorIndex := 10, attributes := #[] }, { accessFlags := 2, nameIndex := 19, descriptorIndex := 10, attributes := #[] }])
  fields := #[{ name := "name", type := (.object "java/lang/String"), accessFlags := 18, slot := 0, constantValue := 0 }, { name := "ordinal", type := .int, accessFlags := 18, slot := 1, constantValue := 0 }, { name := "hash", type := .int, accessFlags := 2, slot := 2, constantValue := 0 }]
  methods := #[]
  instanceTypes := #[(.object "java/lang/String"), .int, .int]
  staticTypes := #[]
  resolved := Array.replicate 204 none
  statics := none }

def pool6 : Array CpInfo := pool [(1, .class_ 2), (0, u "com/example/xidr/xidr/xpath/values/ItemType$1"), (5, .class_ 10), (1, u "com/example/xidr/xidr/xpath/values/ItemType"), (0, u "ANY_ITEM"), (0, u "Lcom/example/xidr/xidr/xpath/values/ItemType;"), (0, .class_ 14), (0, u "java/lang/Object")] 9

/-- com/example/xidr/xidr/xpath/values/ItemType -/
def k6 : Class := { plain "com/example/xidr/xidr/xpath/values/ItemType" (some 0) with
  accessFlags := 1537
  interfaces := #[]
  cf := some (fileOf pool6 8 #[.nestMembers #[1]] #[] 1537 13 #[] #[{ accessFlags := 25, nameIndex := 11, descriptorIndex := 12, attributes := #[] }])
  fields := #[{ name := "ANY_ITEM", type := (.object "com/example/xidr/xidr/xpath/values/ItemType"), accessFlags := 25, slot := 0, constantValue := 0 }]
  methods := #[]
  instanceTypes := #[]
  staticTypes := #[(.object "com/example/xidr/xidr/xpath/values/ItemType")]
  resolved := Array.replicate 24 none
  statics := none }

def pool7 : Array CpInfo := pool [(1, .class_ 2), (0, u "com/example/xidr/xidr/xpath/values/AtomicType"), (2, u "ANY_ATOMIC_TYPE"), (0, u "Lcom/example/xidr/xidr/xpath/values/AtomicType;"), (2, u "UNTYPED_ATOMIC"), (2, u "STRING"), (2, u "BOOLEAN"), (0, .fieldref 1 17), (0, .nameAndType 18 6), (0, u "DECIMAL"), (0, .fieldref 1 20), (0, .nameAndType 21 6), (0, u "INTEGER"), (2, u "NON_POSITIVE_INTEGER"), (2, u "NEGATIVE_INTEGER"), (2, u "LONG"), (2, u "INT"), (2, u "SHORT"), (2, u "BYTE"), (2, u "NON_NEGATIVE_INTEGER"), (2, u "UNSIGNED_LONG"), (2, u "UNSIGNED_INT"), (2, u "UNSIGNED_SHORT"), (2, u "UNSIGNED_BYTE"), (2, u "POSITIVE_INTEGER"), (0, .fieldref 1 59), (0, .nameAndType 60 6), (0, u "FLOAT"), (0, .fieldref 1 62), (0, .nameAndType 63 6), (0, u "DOUBLE"), (2, u "ANY_URI"), (2, u "DATE"), (2, u "TIME"), (2, u "HEX_BINARY"), (2, u "QNAME"), (2, u "NOTATION"), (2, u "$VALUES"), (0, u "[Lcom/example/xidr/xidr/xpath/values/AtomicType;"), (6, .class_ 94), (1, u "java/lang/Enum"), (16, u "localName"), (0, u "Ljava/lang/String;"), (2, u "baseType"), (2, u "valueClass"), (0, u "Ljava/lang/Class;"), (0, .fieldref 1 121), (0, .nameAndType 122 6), (0, u "primitive"), (2, u "minimum"), (0, u "Ljava/math/BigInteger;"), (2, u "maximum"), (27, u "UNLABELED"), (8, u "BY_NAME"), (0, u "Ljava/util/Map;"), (177, .class_ 346), (0, u "com/example/xidr/xidr/xpath/values/ItemType"), (0, u "NAMESPACE"), (20, u "isNumeric"), (0, u "()Z")] 23

def k7c0 : Code := { maxStack := 2, maxLocals := 1, code := prog_77_method_16_code, exceptionTable := #[], attributes := #[] }
def k7m0 : Method := { name := "isNumeric", desc := "()Z", sig := { parameters := [], returnType := some .boolean }, accessFlags := 1, code := some k7c0 }
/-- com/example/xidr/xidr/xpath/values/AtomicType -/
def k7 : Class := { plain "com/example/xidr/xidr/xpath/values/AtomicType" (some 5) with
  accessFlags := 16433
  interfaces := #[6]
  cf := some (fileOf pool7 1 #[] #[{ accessFlags := 1, nameIndex := 368, descriptorIndex := 369, attributes := #[] }] 16433 92 #[345] #[{ accessFlags := 16409, nameIndex := 5, descriptorIndex := 6, attributes := #[] }, { accessFlags := 16409, nameIndex := 9, descriptorIndex := 6, attributes := #[] }, { accessFlags := 16409, nameIndex := 12, descriptorIndex := 6, attributes := #[] }, { accessFlags := 16409, nameIndex := 15, descriptorIndex := 6, attributes := #[] }, { accessFlags := 16409, nameIndex := 18, descriptorIndex := 6, attributes := #[] }, { accessFlags := 16409, nameIndex := 21, descriptorIndex := 6, attributes := #[] }, { accessFlags := 16409, nameIndex := 24, descriptorIndex := 6, attributes := #[] }, { accessFlags := 16409, nameIndex := 27, descriptorIndex := 6, attributes := #[] }, { accessFlags := 16409, nameIndex := 30, descriptorIndex := 6, attributes := #[] }, { accessFlags := 16409, nameIndex := 33, descriptorIndex := 6, attributes := #[] }, { accessFlags := 16409, nameIndex := 36, descriptorIndex := 6, attributes := #[] }, { accessFlags := 16409, nameIndex := 39, descriptorIndex := 6, attributes := #[] }, { accessFlags := 16409, nameIndex := 42, descriptorIndex := 6, attributes := #[] }, { accessFlags := 16409, nameIndex := 45, descriptorIndex := 6, attributes := #[] }, { accessFlags := 16409, nameIndex := 48, descriptorIndex := 6, attributes := #[] }, { accessFlags := 16409, nameIndex := 51, descriptorIndex := 6, attributes := #[] }, { accessFlags := 16409, nameIndex := 54, descriptorIndex := 6, attributes := #[] }, { accessFlags := 16409, nameIndex := 57, descriptorIndex := 6, attributes := #[] }, { accessFlags := 16409, nameIndex := 60, descriptorIndex := 6, attributes := #[] }, { accessFlags := 16409, nameIndex := 63, descriptorIndex := 6, attributes := #[] }, { accessFlags := 16409, nameIndex := 66, descriptorIndex := 6, attributes := #[] }, { accessFlags := 16409, nameIndex := 69, descriptorIndex := 6, attributes := #[] }, { accessFlags := 16409, nameIndex := 72, descriptorIndex := 6, attributes := #[] }, { accessFlags := 16409, nameIndex := 75, descriptorIndex := 6, attributes := #[] }, { accessFlags := 16409, nameIndex := 78, descriptorIndex := 6, attributes := #[] }, { accessFlags := 16409, nameIndex := 81, descriptorIndex := 6, attributes := #[] }, { accessFlags := 25, nameIndex := 347, descriptorIndex := 112, attributes := #[] }, { accessFlags := 26, nameIndex := 157, descriptorIndex := 85, attributes := #[] }, { accessFlags := 26, nameIndex := 166, descriptorIndex := 167, attributes := #[] }, { accessFlags := 18, nameIndex := 111, descriptorIndex := 112, attributes := #[] }, { accessFlags := 18, nameIndex := 115, descriptorIndex := 6, attributes := #[] }, { accessFlags := 18, nameIndex := 118, descriptorIndex := 119, attributes := #[] }, { accessFlags := 18, nameIndex := 122, descriptorIndex := 6, attributes := #[] }, { accessFlags := 18, nameIndex := 125, descriptorIndex := 126, attributes := #[] }, { accessFlags := 18, nameIndex := 129, descriptorIndex := 126, attributes := #[] }, { accessFlags := 4122, nameIndex := 84, descriptorIndex := 85, attributes := #[] }])
  fields := #[{ name := "ANY_ATOMIC_TYPE", type := (.object "com/example/xidr/xidr/xpath/values/AtomicType"), accessFlags := 16409, slot := 0, constantValue := 0 }, { name := "UNTYPED_ATOMIC", type := (.object "com/example/xidr/xidr/xpath/values/AtomicType"), accessFlags := 16409, slot := 1, constantValue := 0 }, { name := "STRING", type := (.object "com/example/xidr/xidr/xpath/values/AtomicType"), accessFlags := 16409, slot := 2, constantValue := 0 }, { name := "BOOLEAN", type := (.object "com/example/xidr/xidr/xpath/values/AtomicType"), accessFlags := 16409, slot := 3, constantValue := 0 }, { name := "DECIMAL", type := (.object "com/example/xidr/xidr/xpath/values/AtomicType"), accessFlags := 16409, slot := 4, constantValue := 0 }, { name := "INTEGER", type := (.object "com/example/xidr/xidr/xpath/values/AtomicType"), accessFlags := 16409, slot := 5, constantValue := 0 }, { name := "NON_POSITIVE_INTEGER", type := (.object "com/example/xidr/xidr/xpath/values/AtomicType"), accessFlags := 16409, slot := 6, constantValue := 0 }, { name := "NEGATIVE_INTEGER", type := (.object "com/example/xidr/xidr/xpath/values/AtomicType"), accessFlags := 16409, slot := 7, constantValue := 0 }, { name := "LONG", type := (.object "com/example/xidr/xidr/xpath/values/AtomicType"), accessFlags := 16409, slot := 8, constantValue := 0 }, { name := "INT", type := (.object "com/example/xidr/xidr/xpath/values/AtomicType"), accessFlags := 16409, slot := 9, constantValue := 0 }, { name := "SHORT", type := (.object "com/example/xidr/xidr/xpath/values/AtomicType"), accessFlags := 16409, slot := 10, constantValue := 0 }, { name := "BYTE", type := (.object "com/example/xidr/xidr/xpath/values/AtomicType"), accessFlags := 16409, slot := 11, constantValue := 0 }, { name := "NON_NEGATIVE_INTEGER", type := (.object "com/example/xidr/xidr/xpath/values/AtomicType"), accessFlags := 16409, slot := 12, constantValue := 0 }, { name := "UNSIGNED_LONG", type := (.object "com/example/xidr/xidr/xpath/values/AtomicType"), accessFlags := 16409, slot := 13, constantValue := 0 }, { name := "UNSIGNED_INT", type := (.object "com/example/xidr/xidr/xpath/values/AtomicType"), accessFlags := 16409, slot := 14, constantValue := 0 }, { name := "UNSIGNED_SHORT", type := (.object "com/example/xidr/xidr/xpath/values/AtomicType"), accessFlags := 16409, slot := 15, constantValue := 0 }, { name := "UNSIGNED_BYTE", type := (.object "com/example/xidr/xidr/xpath/values/AtomicType"), accessFlags := 16409, slot := 16, constantValue := 0 }, { name := "POSITIVE_INTEGER", type := (.object "com/example/xidr/xidr/xpath/values/AtomicType"), accessFlags := 16409, slot := 17, constantValue := 0 }, { name := "FLOAT", type := (.object "com/example/xidr/xidr/xpath/values/AtomicType"), accessFlags := 16409, slot := 18, constantValue := 0 }, { name := "DOUBLE", type := (.object "com/example/xidr/xidr/xpath/values/AtomicType"), accessFlags := 16409, slot := 19, constantValue := 0 }, { name := "ANY_URI", type := (.object "com/example/xidr/xidr/xpath/values/AtomicType"), accessFlags := 16409, slot := 20, constantValue := 0 }, { name := "DATE", type := (.object "com/example/xidr/xidr/xpath/values/AtomicType"), accessFlags := 16409, slot := 21, constantValue := 0 }, { name := "TIME", type := (.object "com/example/xidr/xidr/xpath/values/AtomicType"), accessFlags := 16409, slot := 22, constantValue := 0 }, { name := "HEX_BINARY", type := (.object "com/example/xidr/xidr/xpath/values/AtomicType"), accessFlags := 16409, slot := 23, constantValue := 0 }, { name := "QNAME", type := (.object "com/example/xidr/xidr/xpath/values/AtomicType"), accessFlags := 16409, slot := 24, constantValue := 0 }, { name := "NOTATION", type := (.object "com/example/xidr/xidr/xpath/values/AtomicType"), accessFlags := 16409, slot := 25, constantValue := 0 }, { name := "NAMESPACE", type := (.object "java/lang/String"), accessFlags := 25, slot := 26, constantValue := 0 }, { name := "UNLABELED", type := (.array (.object "com/example/xidr/xidr/xpath/values/AtomicType")), accessFlags := 26, slot := 27, constantValue := 0 }, { name := "BY_NAME", type := (.object "java/util/Map"), accessFlags := 26, slot := 28, constantValue := 0 }, { name := "localName", type := (.object "java/lang/String"), accessFlags := 18, slot := 3, constantValue := 0 }, { name := "baseType", type := (.object "com/example/xidr/xidr/xpath/values/AtomicType"), accessFlags := 18, slot := 4, constantValue := 0 }, { name := "valueClass", type := (.object "java/lang/Class"), accessFlags := 18, slot := 5, constantValue := 0 }, { name := "primitive", type := (.object "com/example/xidr/xidr/xpath/values/AtomicType"), accessFlags := 18, slot := 6, constantValue := 0 }, { name := "minimum", type := (.object "java/math/BigInteger"), accessFlags := 18, slot := 7, constantValue := 0 }, { name := "maximum", type := (.object "java/math/BigInteger"), accessFlags := 18, slot := 8, constantValue := 0 }, { name := "$VALUES", type := (.array (.object "com/example/xidr/xidr/xpath/values/AtomicType")), accessFlags := 4122, slot := 29, constantValue := 0 }]
  methods := #[k7m0]
  instanceTypes := #[(.object "java/lang/String"), .int, .int, (.object "java/lang/String"), (.object "com/example/xidr/xidr/xpath/values/AtomicType"), (.object "java/lang/Class"), (.object "com/example/xidr/xidr/xpath/values/AtomicType"), (.object "java/math/BigInteger"), (.object "java/math/BigInteger")]
  staticTypes := #[(.object "com/example/xidr/xidr/xpath/values/AtomicType"), (.object "com/example/xidr/xidr/xpath/values/AtomicType"), (.object "com/example/xidr/xidr/xpath/values/AtomicType"), (.object "com/example/xidr/xidr/xpath/values/AtomicType"), (.object "com/example/xidr/xidr/xpath/values/AtomicType"), (.object "com/example/xidr/xidr/xpath/values/AtomicType"), (.object "com/example/xidr/xidr/xpath/values/AtomicType"), (.object "com/example/xidr/xidr/xpath/values/AtomicType"), (.object "com/example/xidr/xidr/xpath/values/AtomicType"), (.object "com/example/xidr/xidr/xpath/values/AtomicType"), (.object "com/example/xidr/xidr/xpath/values/AtomicType"), (.object "com/example/xidr/xidr/xpath/values/AtomicType"), (.object "com/example/xidr/xidr/xpath/values/AtomicType"), (.object "com/example/xidr/xidr/xpath/values/AtomicType"), (.object "com/example/xidr/xidr/xpath/values/AtomicType"), (.object "com/example/xidr/xidr/xpath/values/AtomicType"), (.object "com/example/xidr/xidr/xpath/values/AtomicType"), (.object "com/example/xidr/xidr/xpath/values/AtomicType"), (.object "com/example/xidr/xidr/xpath/values/AtomicType"), (.object "com/example/xidr/xidr/xpath/values/AtomicType"), (.object "com/example/xidr/xidr/xpath/values/AtomicType"), (.object "com/example/xidr/xidr/xpath/values/AtomicType"), (.object "com/example/xidr/xidr/xpath/values/AtomicType"), (.object "com/example/xidr/xidr/xpath/values/AtomicType"), (.object "com/example/xidr/xidr/xpath/values/AtomicType"), (.object "com/example/xidr/xidr/xpath/values/AtomicType"), (.object "java/lang/String"), (.array (.object "com/example/xidr/xidr/xpath/values/AtomicType")), (.object "java/util/Map"), (.array (.object "com/example/xidr/xidr/xpath/values/AtomicType"))]
  resolved := Array.replicate 393 none
  statics := some 0 }

def pool8 : Array CpInfo := pool [(1, u "java/lang/Cloneable"), (0, .class_ 1), (0, u "java/lang/Object"), (0, .class_ 3)] 3

/-- java/lang/Cloneable -/
def k8 : Class := { plain "java/lang/Cloneable" (some 0) with
  accessFlags := 1537
  interfaces := #[]
  cf := some (fileOf pool8 2 #[] #[] 1537 4 #[] #[])
  fields := #[]
  methods := #[]
  instanceTypes := #[]
  staticTypes := #[]
  resolved := Array.replicate 8 none
  statics := none }

/-- the primitive boolean -/
def k9 : Class := { plain "boolean" none with kind := .primitive 'Z', accessFlags := 0x411 }
/-- [Z -/
def k10 : Class := { plain "[Z" (some 0) with kind := .array 9 .boolean, interfaces := #[8, 4], accessFlags := 1041 }

/-- the primitive byte -/
def k11 : Class := { plain "byte" none with kind := .primitive 'B', accessFlags := 0x411 }
/-- [B -/
def k12 : Class := { plain "[B" (some 0) with kind := .array 11 .byte, interfaces := #[8, 4], accessFlags := 1041 }

/-- the primitive int -/
def k13 : Class := { plain "int" none with kind := .primitive 'I', accessFlags := 0x411 }
/-- [I -/
def k14 : Class := { plain "[I" (some 0) with kind := .array 13 .int, interfaces := #[8, 4], accessFlags := 1041 }

/-- [Lcom/example/xidr/xidr/xpath/values/AtomicType; -/
def k15 : Class := { plain "[Lcom/example/xidr/xidr/xpath/values/AtomicType;" (some 0) with kind := .array 7 (.object "com/example/xidr/xidr/xpath/values/AtomicType"), interfaces := #[8, 4], accessFlags := 1041 }

def heap : Heap := #[{ cls := 7, slots := #[.ref 1, .ref 2, .ref 3, .ref 4, .ref 5, .ref 6, .ref 7, .ref 8, .ref 9, .ref 10, .ref 11, .ref 12, .ref 13, .ref 14, .ref 15, .ref 16, .ref 17, .ref 18, .ref 19, .ref 20, .ref 21, .ref 22, .ref 23, .ref 24, .ref 25, .ref 26, .null, .null, .null, .null], vm := .statics 7 },
  { cls := 7, slots := #[.null, .int 0, .int 0, .null, .null, .null, .ref 1, .null, .null], vm := .none },
  { cls := 7, slots := #[.null, .int 1, .int 0, .null, .null, .null, .ref 2, .null, .null], vm := .none },
  { cls := 7, slots := #[.null, .int 2, .int 0, .null, .null, .null, .ref 3, .null, .null], vm := .none },
  { cls := 7, slots := #[.null, .int 3, .int 0, .null, .null, .null, .ref 4, .null, .null], vm := .none },
  { cls := 7, slots := #[.null, .int 4, .int 0, .null, .null, .null, .ref 5, .null, .null], vm := .none },
  { cls := 7, slots := #[.null, .int 5, .int 0, .null, .null, .null, .ref 6, .null, .null], vm := .none },
  { cls := 7, slots := #[.null, .int 6, .int 0, .null, .null, .null, .ref 6, .null, .null], vm := .none },
  { cls := 7, slots := #[.null, .int 7, .int 0, .null, .null, .null, .ref 6, .null, .null], vm := .none },
  { cls := 7, slots := #[.null, .int 8, .int 0, .null, .null, .null, .ref 6, .null, .null], vm := .none },
  { cls := 7, slots := #[.null, .int 9, .int 0, .null, .null, .null, .ref 6, .null, .null], vm := .none },
  { cls := 7, slots := #[.null, .int 10, .int 0, .null, .null, .null, .ref 6, .null, .null], vm := .none },
  { cls := 7, slots := #[.null, .int 11, .int 0, .null, .null, .null, .ref 6, .null, .null], vm := .none },
  { cls := 7, slots := #[.null, .int 12, .int 0, .null, .null, .null, .ref 6, .null, .null], vm := .none },
  { cls := 7, slots := #[.null, .int 13, .int 0, .null, .null, .null, .ref 6, .null, .null], vm := .none },
  { cls := 7, slots := #[.null, .int 14, .int 0, .null, .null, .null, .ref 6, .null, .null], vm := .none },
  { cls := 7, slots := #[.null, .int 15, .int 0, .null, .null, .null, .ref 6, .null, .null], vm := .none },
  { cls := 7, slots := #[.null, .int 16, .int 0, .null, .null, .null, .ref 6, .null, .null], vm := .none },
  { cls := 7, slots := #[.null, .int 17, .int 0, .null, .null, .null, .ref 6, .null, .null], vm := .none },
  { cls := 7, slots := #[.null, .int 18, .int 0, .null, .null, .null, .ref 19, .null, .null], vm := .none },
  { cls := 7, slots := #[.null, .int 19, .int 0, .null, .null, .null, .ref 20, .null, .null], vm := .none },
  { cls := 7, slots := #[.null, .int 20, .int 0, .null, .null, .null, .ref 21, .null, .null], vm := .none },
  { cls := 7, slots := #[.null, .int 21, .int 0, .null, .null, .null, .ref 22, .null, .null], vm := .none },
  { cls := 7, slots := #[.null, .int 22, .int 0, .null, .null, .null, .ref 23, .null, .null], vm := .none },
  { cls := 7, slots := #[.null, .int 23, .int 0, .null, .null, .null, .ref 24, .null, .null], vm := .none },
  { cls := 7, slots := #[.null, .int 24, .int 0, .null, .null, .null, .ref 25, .null, .null], vm := .none },
  { cls := 7, slots := #[.null, .int 25, .int 0, .null, .null, .null, .ref 26, .null, .null], vm := .none }]
def classes : Array Class := #[k0, k1, k2, k3, k4, k5, k6, k7, k8, k9, k10, k11, k12, k13, k14, k15]
def interned : List (Array UInt16 × Addr) := []
def slotsUsed : Nat := 264
def theMethod : MethodId := ⟨1, 1⟩
def args0 : Array Value := #[.int 5]
def aboutOver (below : List Frame) : State where
  vm := { classes := classes, interned := interned.toArray }
  heap := heap
  slotsUsed := slotsUsed
  threads := #[{ frames := .invoking theMethod args0 :: below }]
def below0 : List Frame := [.native { method := ⟨0, 0⟩, args := #[] }]
def about1 : State := aboutOver below0
def p0 : Program := .bare "" "" ""
def e0 : Env := launch0.env 0 0 0
theorem w_frames : about1.frames = Frame.invoking theMethod args0 :: below0 := rfl
set_option maxRecDepth 65536 in
theorem w_args : argsFit about1.vm theMethod args0 = true := by decide +kernel
set_option maxRecDepth 65536 in
theorem w_heap : heapFits about1 = true := by decide +kernel
set_option maxRecDepth 65536 in
theorem w_runnable : about1.curStatus? = some .runnable := by decide +kernel
set_option maxRecDepth 65536 in
theorem w_alone : about1.alone = true := by decide +kernel
set_option maxRecDepth 65536 in
theorem w_named : about1.methodNamed? x = some theMethod := by decide +kernel
set_option maxRecDepth 65536 in
theorem w_hears : about1.hears theMethod below0 = true := by decide +kernel
set_option maxRecDepth 65536 in
theorem w_ripe : about1.ripe theMethod args0 below0 = true := by decide +kernel
theorem w_running : about1.status = .running := rfl
set_option maxRecDepth 65536 in
theorem w_room : about1.hasRoom e0.platform room_1 = true :=
  launch0.hasRoom_least _ room_1 (by decide +kernel) (by decide +kernel) (by decide +kernel) (by decide +kernel) (by decide +kernel) (by decide +kernel)
theorem allAtoms_all (ts : List Jvm.Cond) (a : Array Jvm.Value) (st : Jvm.State) : (allAtoms ts).before a st = ts.all (fun c => c.before a st) := by
  induction ts with
  | nil => rfl
  | cons c t ih =>
    show (Jvm.Cond.and c (allAtoms t)).before a st = _
    rw [Jvm.Cond.before_and, ih, List.all_cons]
def words1 : List Jvm.Cond := Jvm.Cond.code x code maxLocals ret :: tables_1
/-- a 'code' word, met by the world's own term for the bytes: nothing is compared byte by byte -/
theorem code_word {y : MethodName} {bytes : ByteArray} {mx : Nat} {rt : Option FieldType} {a : Array Value} {s : State} {m : MethodId} {meth : Method} {c : Code} (h1 : s.methodNamed? y = some m) (h2 : s.vm.method? m = some meth) (h3 : meth.code = some c) (h4 : c.code = bytes)
    (h5 : (c.maxLocals == mx && c.exceptionTable.isEmpty && decide (c.maxStack ≤ mostOperands) && decide (meth.sig.returnType = rt) && !meth.locks && decide (parseMethodDescriptor y.desc = some meth.sig)) = true) : (Jvm.Cond.code y bytes mx rt).before a s = true := by
  simp only [Bool.and_eq_true, beq_iff_eq, Bool.not_eq_true', decide_eq_true_eq] at h5
  obtain ⟨⟨⟨⟨⟨g1, g2⟩, g3⟩, g4⟩, g5⟩, g6⟩ := h5
  simp [Cond.before, Cond.holds, Cond.value, h1, h2, h3, h4, g1, g2, g3, g4, g5, g6]
def isCode : Jvm.Cond → Bool
  | .code _ _ _ _ => true
  | _ => false
theorem all_split {L : List Jvm.Cond} {P : Jvm.Cond → Bool} (h1 : L.all (fun c => isCode c || P c) = true) (h2 : ∀ c ∈ L.filter isCode, P c = true) : L.all P = true := by
  refine List.all_eq_true.mpr fun c hc => ?_
  have h := List.all_eq_true.mp h1 c hc
  rcases Bool.eq_false_or_eq_true (isCode c) with hi | hi
  · exact h2 c (List.mem_filter.mpr ⟨hc, hi⟩)
  · simpa [hi] using h
set_option maxRecDepth 65536 in
theorem w_c0 : (Jvm.Cond.code x code maxLocals ret).before args0 about1 = true := code_word (m := ⟨1, 1⟩) (meth := k1m1) (c := k1c1) (by decide +kernel) rfl rfl rfl (by decide +kernel)
set_option maxRecDepth 65536 in
theorem w_c1 : (Jvm.Cond.code ({ cls := "com/example/xidr/xidr/xpath/values/AtomicType", name := "isNumeric", desc := "()Z" } : Jvm.MethodName) prog_77_method_16_code (1 : Nat) (Option.some Jvm.ClassFile.FieldType.boolean)).before args0 about1 = true := code_word (m := ⟨7, 0⟩) (meth := k7m0) (c := k7c0) (by decide +kernel) rfl rfl rfl (by decide +kernel)
def codes1 : List Jvm.Cond := [Jvm.Cond.code x code maxLocals ret, Jvm.Cond.code ({ cls := "com/example/xidr/xidr/xpath/values/AtomicType", name := "isNumeric", desc := "()Z" } : Jvm.MethodName) prog_77_method_16_code (1 : Nat) (Option.some Jvm.ClassFile.FieldType.boolean)]
set_option maxRecDepth 65536 in
theorem codes_eq : words1.filter isCode = codes1 := rfl
theorem w_codes : ∀ c ∈ words1.filter isCode, c.before args0 about1 = true := by
  rw [codes_eq]
  intro c hc
  simp only [codes1, List.mem_cons, List.not_mem_nil, or_false] at hc
  rcases hc with rfl | rfl
  · exact w_c0
  · exact w_c1
set_option maxRecDepth 65536 in
theorem w_t1 : (words1.take 24).all (fun c => isCode c || c.before args0 about1) = true := by decide +kernel
set_option maxRecDepth 65536 in
theorem w_t2 : ((words1.drop 24).take 24).all (fun c => isCode c || c.before args0 about1) = true := by decide +kernel
set_option maxRecDepth 65536 in
theorem w_t3 : ((words1.drop 24).drop 24).all (fun c => isCode c || c.before args0 about1) = true := by decide +kernel
theorem w_tables : (allAtoms (Jvm.Cond.code x code maxLocals ret :: tables_1)).before args0 about1 = true := by
  rw [allAtoms_all]
  show words1.all (fun c => c.before args0 about1) = true
  refine all_split ?_ w_codes
  rw [← List.take_append_drop 24 words1, List.all_append, w_t1, ← List.take_append_drop 24 (words1.drop 24), List.all_append, w_t2, w_t3]
  rfl
set_option maxRecDepth 65536 in
theorem w_case : (Jvm.Cond.and given_1 narrow_1).before args0 about1 = true := by decide +kernel
theorem w_applies : (headSpec (Jvm.Cond.code x code maxLocals ret :: tables_1) room_1).applies x e0.platform about1 = true :=
  (Spec.applies_iff w_frames).mpr ⟨w_running, w_runnable, w_alone, w_named, w_hears, w_ripe, w_room, w_tables⟩
theorem atStart : AtStart classFile x code maxLocals ret World_1 tables_1 room_1 Calls_1 rest_1 Pre_1 launch0 p0 e0 about1 theMethod args0 below0 :=
  ⟨lists_1, trivial, launch0.admits_env _ _ _, launch0.least_env, fairChoices_fair.cas, fairChoices_fair.clock, w_frames, w_args, w_heap, w_applies, trivial, trivial, w_case⟩
end start1
theorem witness_1 : WitnessClaimed_1 := ⟨start1.p0, start1.e0, start1.about1, start1.theMethod, start1.args0, start1.below0, start1.atStart⟩
end Jvm.Pilot.@@N@@
