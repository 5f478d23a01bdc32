import JvmDerived
import JvmDerived.Pilot.@@N@@Statement
import JvmDerived.Pilot.@@N@@Code
set_option linter.unusedVariables false
set_option linter.unusedSimpArgs false
namespace Jvm.RoadKit
open Sem ClassFile Op Lib Jvm.Stand Jvm.Free Jvm.LawKit
section New
variable {p : Program} {l : Launch} {e : Env} {R : Room} {s : State} {m : MethodId} {args : Array Value} {below : List Frame} {meth : Method} {c : Code} {T : State} {locs : List Loc} {cells slots : Nat}
theorem retI (X : Stand p l e R s m args below meth c T locs cells slots) (hx : p.tables.exec = Jvm.exec) {pc : Nat} {Ls : Array Slot} {z : Int32} {rest : List Value} (hret : meth.sig.returnType = some .int) (hd : decode c.code pc = .ok (.ireturn, 1)) {fs : List Frame}
    (hl : ∀ (f : JFrame) (acts : List Action), f.method = m → f.locked = none → f.entered = [] → (doReturn e (T.setTop f) acts (some (.int z))).1 = T.setFrames fs) : Steps p.tables e below (T.setTop (mkF m pc Ls (.int z :: rest))) (T.setFrames fs) := by
  have hm' : T.vm.method? m = some meth := X.method'
  have hn : narrow .int (.int z) = .int z := rfl
  show Steps p.tables e below (T.setTop { method := m, pc := pc, locals := Ls, stack := _ :: rest, locked := none }) _
  jvm_step X.here [X.here.top, hx, hd, hm', hret, hn]
  first | (intro acts; rw [hl _ acts rfl rfl rfl]) | rw [hl _ _ rfl rfl rfl]
  exact Steps.refl _
end New
end Jvm.RoadKit
namespace Jvm.Pilot.@@N@@
open Jvm Jvm.ClassFile Sem Op Lib Jvm.Free Jvm.Stand Jvm.LawKit Jvm.RoadKit Bundle Jvm.Pilot.@@N@@.Jvm.D
theorem own_keep_ext {h h' : Heap} (K : Keep h h' []) : Ext h h' := ⟨K.1, fun a c q => K.2.1 a c q nin0⟩
theorem own_sta_keep {Z : State} {h h' : Heap} {C n d K : String} {a : Addr} {v : Value} (F : Sta Z h C n d v) (Kp : Keep h h' [a]) (E : Exa Z h a K) : Sta Z h' C n d v := by
  obtain ⟨cf, i, k, f, st, cell, h1, h2, h3, h4, h5, h6, h7⟩ := F
  obtain ⟨cell', k', g1, -, -, g4, -⟩ := E
  have ne : st ≠ a := by
    intro q
    subst q
    rw [h5] at g1
    cases g1
    rw [h6] at g4
    cases g4
  exact ⟨cf, i, k, f, st, cell, h1, h2, h3, h4, Kp.2.1 st cell h5 (ninS ne nin0), h6, h7⟩
def own_xs (k : Int32) (z : Int64) : Int64 := z ^^^ ((z.toUInt64 >>> (k &&& 0x3f).toInt64.toUInt64).toInt64)
def own_us (k j : Int32) (z : Int64) : Int64 := (z ^^^ ((z.toUInt64 >>> (k &&& 0x3f).toInt64.toUInt64).toInt64)) ^^^ ((z.toUInt64 >>> (j &&& 0x3f).toInt64.toUInt64).toInt64)
def own_nw (a z : Int64) : Int64 := z * ((2 : Int64) - (a * z))
def own_inv (a : Int64) : Int64 := own_nw a (own_nw a (own_nw a (own_nw a (own_nw a a))))
def own_mix (z : Int64) : Int64 := own_xs 31 (own_xs 27 (own_xs 30 z * (-4658895280553007687 : Int64)) * (-7723592293110705685 : Int64))
def own_unmix (z : Int64) : Int64 := own_us 30 60 (own_us 27 54 (own_us 31 62 z * own_inv (-7723592293110705685 : Int64)) * own_inv (-4658895280553007687 : Int64))
theorem d1_0 : decode prog_41_method_1_code 0 = .ok (.aload_n 0, 1) := by decide +kernel
theorem d1_1 : decode prog_41_method_1_code 1 = .ok (.invokespecial 1, 3) := by decide +kernel
theorem d1_4 : decode prog_41_method_1_code 4 = .ok (.aload_n 0, 1) := by decide +kernel
theorem d1_5 : decode prog_41_method_1_code 5 = .ok (.lload_n 1, 1) := by decide +kernel
theorem d1_6 : decode prog_41_method_1_code 6 = .ok (.putfield 7, 3) := by decide +kernel
theorem d1_9 : decode prog_41_method_1_code 9 = .ok (.return_, 1) := by decide +kernel
theorem pn0 : plainName "com/example/suitor/suitor/SplitMix64" = true := by first | (simp [plainName, overriddenIn]; done) | decide +kernel
theorem ef_rm_init (m : MethodId) (ra : Addr) (xs : Int64) : entryFrame m #[(.ref ra), (.long xs)] 3 = mkF m 0 #[.val (.ref ra), .val (.long xs), .second] [] := by first | (simp [entryFrame, mkF, argsToLocals, Value.category]; done) | rfl
def Q_rm_init (Z : State) (ra : Addr) (xs : Int64) (h0 : Heap) (n0 : Nat) (v : Option Value) (h : Heap) (L : List Loc) : Prop := v = none ∧ Fr n0 L ∧ Keep h0 h [ra] ∧ Exa Z h ra "com/example/suitor/suitor/SplitMix64" ∧ Fld Z h ra "com/example/suitor/suitor/SplitMix64" "state" "J" (.long xs)
set_option maxRecDepth 65536 in
set_option maxHeartbeats 40000000 in
theorem rm_init (l : Launch) (Z : State) (a0 : Array Value) (hw : ∀ d ∈ tables_1, d.before a0 Z = true) (ws : List Jvm.Cond) (ra : Addr) (xs : Int64) (h0 : Heap) (n0 : Nat) (Z0 : n0 ≤ h0.size) (E_ra : Exa Z h0 ra "com/example/suitor/suitor/SplitMix64") (g_ra : n0 ≤ ra) (F_state_ra : Fld Z h0 ra "com/example/suitor/suitor/SplitMix64" "state" "J" (.long (0 : Int64))) :
    MetFree l (⟨"com/example/suitor/suitor/SplitMix64", "<init>", "(J)V"⟩ : MethodName) (head1 (Jvm.Cond.code (⟨"com/example/suitor/suitor/SplitMix64", "<init>", "(J)V"⟩ : MethodName) prog_41_method_1_code 3 none :: ws) ({ frames := 1, cells := 0, slots := 0, locals := 12 } : Room)) (fun a U => a = #[(.ref ra), (.long xs)] ∧ Z.Warmed39 U.vm ∧ U.heap = h0) (fun _ _ _ _ _ => True) (fun _ U o U' => ∃ v L, o = .returned v ∧ Q_rm_init Z ra xs h0 n0 v U'.heap L ∧ FrameEnd U o U' L ({ frames := 1, cells := 0, slots := 0, locals := 12 } : Room).cells ({ frames := 1, cells := 0, slots := 0, locals := 12 } : Room).slots) := by
  refine MetFree.of_bodySF (plainFor_of_name pn0) hisR ?_
  intro p e s m args below meth c s₁ Bd hml0 hP hK
  obtain ⟨rfl, hZ, hh⟩ := hP
  have hx := Bd.exec
  have hby := Bd.bytes
  have hml : c.maxLocals = 3 := hml0
  have hown : s.vm.findClass "com/example/suitor/suitor/SplitMix64" = some m.cls := findClass_of_methodNamed Bd.named
  have hnm := (name_of_methodNamed Bd.named Bd.method).1
  have X0 : Stand p l e ({ frames := 1, cells := 0, slots := 0, locals := 12 } : Room) s m #[(.ref ra), (.long xs)] below meth c s₁ [] 0 0 := Stand.of_body Bd
  have e0 : s₁.heap = h0 := by rw [← hh, Bd.state]; rfl
  have N0 := Fr.nil n0
  have pre0 : ∀ t, Steps p.tables e below (s₁.setTop (mkF m 0 #[.val (.ref ra), .val (.long xs), .second] [])) t → Steps p.tables e below (s₁.setTop (entryFrame m #[(.ref ra), (.long xs)] 3)) t := fun t k => castTop (ef_rm_init m ra xs) k
  have pre1 : ∀ t, Steps p.tables e below (s₁.setTop (mkF m 1 #[.val (.ref ra), .val (.long xs), .second] [(.ref ra)])) t → Steps p.tables e below (s₁.setTop (entryFrame m #[(.ref ra), (.long xs)] 3)) t := by
    intro t k
    refine pre0 t ?_
    refine XS.aloadN X0.here hx rfl (hb hby d1_0) rfl rfl ?_
    show Steps p.tables e below (s₁.setTop (mkF m 1 #[.val (.ref ra), .val (.long xs), .second] [(.ref ra)])) _
    exact k
  obtain ⟨T2, X2, e2, st2⟩ := initO X0 hx hZ hown (hw _ (List.mem_of_getElem? (i := 6) rfl)) (hw _ (List.mem_of_getElem? (i := 7) rfl)) (hw _ (List.mem_of_getElem? (i := 8) rfl)) e0 (g := (mkF m 1 #[.val (.ref ra), .val (.long xs), .second] [(.ref ra)])) rfl (by rw [hml]; rfl) rfl (hb hby d1_1) (by decide) (W := 0) (by show 2 * 0 + _ ≤ _; exact Nat.le_of_eq rfl) (by decide)
  have pre3 : ∀ t, Steps p.tables e below (T2.setTop (mkF m 4 #[.val (.ref ra), .val (.long xs), .second] [])) t → Steps p.tables e below (s₁.setTop (entryFrame m #[(.ref ra), (.long xs)] 3)) t := fun t k => pre1 t (st2 t k)
  have pre4 : ∀ t, Steps p.tables e below (T2.setTop (mkF m 6 #[.val (.ref ra), .val (.long xs), .second] [(.long xs), (.ref ra)])) t → Steps p.tables e below (s₁.setTop (entryFrame m #[(.ref ra), (.long xs)] 3)) t := by
    intro t k
    refine pre3 t ?_
    refine XS.aloadN X2.here hx rfl (hb hby d1_4) rfl rfl ?_
    show Steps p.tables e below (T2.setTop (mkF m 5 #[.val (.ref ra), .val (.long xs), .second] [(.ref ra)])) _
    refine XS.lloadN X2.here hx rfl (hb hby d1_5) rfl ?_
    show Steps p.tables e below (T2.setTop (mkF m 6 #[.val (.ref ra), .val (.long xs), .second] [(.long xs), (.ref ra)])) _
    exact k
  obtain ⟨T5, h5, X5, e5, W5, st5⟩ := putF X2 hx hZ hown (host := "") (Or.inl (hw _ (List.mem_of_getElem? (i := 9) rfl))) Via.refl e2 F_state_ra E_ra (Or.inl (hw _ (List.mem_of_getElem? (i := 10) rfl))) (hw _ (List.mem_of_getElem? (i := 1) rfl)) (ty := .long) (by decide) rfl rfl (g := (mkF m 6 #[.val (.ref ra), .val (.long xs), .second] [(.long xs), (.ref ra)])) rfl rfl (hb hby d1_6)
  have K5 : Keep h0 h5 [ra] := (Keep.refl h0 [ra]).wr W5 (Or.inl (by simp))
  have z5 : n0 ≤ h5.size := Nat.le_trans Z0 K5.1
  have N5 := Fr.snoc X5 N0 g_ra
  have Fw5 := F_state_ra.same W5
  have pre6 : ∀ t, Steps p.tables e below (T5.setTop (mkF m 9 #[.val (.ref ra), .val (.long xs), .second] [])) t → Steps p.tables e below (s₁.setTop (entryFrame m #[(.ref ra), (.long xs)] 3)) t := fun t k => pre4 t (st5 t k)
  obtain ⟨fs, hr, hrun, hended, hW, hsame⟩ := X5.leave (v := none) (fun _ => rfl)
  refine ⟨_, _, pre6 _ ?_, hrun, hended, _, _, rfl, ?_, ⟨_, rfl⟩, hW, hsame.mono (by decide) (by decide)⟩
  · exact X5.returnOut hx Bd.returns (hb hby d1_9) hr
  · show Q_rm_init Z ra xs h0 n0 _ T5.heap _
    rw [e5]
    exact ⟨rfl, N5, K5, (E_ra.wr W5), Fw5⟩
theorem d3_0 : decode prog_41_method_2_code 0 = .ok (.aload_n 0, 1) := by decide +kernel
theorem d3_1 : decode prog_41_method_2_code 1 = .ok (.dup, 1) := by decide +kernel
theorem d3_2 : decode prog_41_method_2_code 2 = .ok (.getfield 7, 3) := by decide +kernel
theorem d3_5 : decode prog_41_method_2_code 5 = .ok (.ldc2_w 13, 3) := by decide +kernel
theorem d3_8 : decode prog_41_method_2_code 8 = .ok (.ladd, 1) := by decide +kernel
theorem d3_9 : decode prog_41_method_2_code 9 = .ok (.putfield 7, 3) := by decide +kernel
theorem d3_12 : decode prog_41_method_2_code 12 = .ok (.aload_n 0, 1) := by decide +kernel
theorem d3_13 : decode prog_41_method_2_code 13 = .ok (.getfield 7, 3) := by decide +kernel
theorem d3_16 : decode prog_41_method_2_code 16 = .ok (.lstore_n 1, 1) := by decide +kernel
theorem d3_17 : decode prog_41_method_2_code 17 = .ok (.lload_n 1, 1) := by decide +kernel
theorem d3_18 : decode prog_41_method_2_code 18 = .ok (.lload_n 1, 1) := by decide +kernel
theorem d3_19 : decode prog_41_method_2_code 19 = .ok (.bipush 30, 2) := by decide +kernel
theorem d3_21 : decode prog_41_method_2_code 21 = .ok (.lushr, 1) := by decide +kernel
theorem d3_22 : decode prog_41_method_2_code 22 = .ok (.lxor, 1) := by decide +kernel
theorem d3_23 : decode prog_41_method_2_code 23 = .ok (.ldc2_w 15, 3) := by decide +kernel
theorem d3_26 : decode prog_41_method_2_code 26 = .ok (.lmul, 1) := by decide +kernel
theorem d3_27 : decode prog_41_method_2_code 27 = .ok (.lstore_n 1, 1) := by decide +kernel
theorem d3_28 : decode prog_41_method_2_code 28 = .ok (.lload_n 1, 1) := by decide +kernel
theorem d3_29 : decode prog_41_method_2_code 29 = .ok (.lload_n 1, 1) := by decide +kernel
theorem d3_30 : decode prog_41_method_2_code 30 = .ok (.bipush 27, 2) := by decide +kernel
theorem d3_32 : decode prog_41_method_2_code 32 = .ok (.lushr, 1) := by decide +kernel
theorem d3_33 : decode prog_41_method_2_code 33 = .ok (.lxor, 1) := by decide +kernel
theorem d3_34 : decode prog_41_method_2_code 34 = .ok (.ldc2_w 17, 3) := by decide +kernel
theorem d3_37 : decode prog_41_method_2_code 37 = .ok (.lmul, 1) := by decide +kernel
theorem d3_38 : decode prog_41_method_2_code 38 = .ok (.lstore_n 1, 1) := by decide +kernel
theorem d3_39 : decode prog_41_method_2_code 39 = .ok (.lload_n 1, 1) := by decide +kernel
theorem d3_40 : decode prog_41_method_2_code 40 = .ok (.lload_n 1, 1) := by decide +kernel
theorem d3_41 : decode prog_41_method_2_code 41 = .ok (.bipush 31, 2) := by decide +kernel
theorem d3_43 : decode prog_41_method_2_code 43 = .ok (.lushr, 1) := by decide +kernel
theorem d3_44 : decode prog_41_method_2_code 44 = .ok (.lxor, 1) := by decide +kernel
theorem d3_45 : decode prog_41_method_2_code 45 = .ok (.lreturn, 1) := by decide +kernel
theorem ef_rm_next (m : MethodId) (ra : Addr) : entryFrame m #[(.ref ra)] 3 = mkF m 0 #[.val (.ref ra), .unset, .unset] [] := by first | (simp [entryFrame, mkF, argsToLocals, Value.category]; done) | rfl
def Q_rm_next (Z : State) (ra : Addr) (xs : Int64) (h0 : Heap) (n0 : Nat) (v : Option Value) (h : Heap) (L : List Loc) : Prop := v = some (.long (own_mix (xs + (-7046029254386353131 : Int64)))) ∧ Fr n0 L ∧ Keep h0 h [ra] ∧ Exa Z h ra "com/example/suitor/suitor/SplitMix64" ∧ Fld Z h ra "com/example/suitor/suitor/SplitMix64" "state" "J" (.long (xs + (-7046029254386353131 : Int64)))
set_option maxRecDepth 65536 in
set_option maxHeartbeats 40000000 in
theorem rm_next (l : Launch) (Z : State) (a0 : Array Value) (hw : ∀ d ∈ tables_1, d.before a0 Z = true) (ws : List Jvm.Cond) (ra : Addr) (xs : Int64) (h0 : Heap) (n0 : Nat) (Z0 : n0 ≤ h0.size) (E1 : Exa Z h0 ra "com/example/suitor/suitor/SplitMix64") (g_ra : n0 ≤ ra) (F1 : Fld Z h0 ra "com/example/suitor/suitor/SplitMix64" "state" "J" (.long xs)) :
    MetFree l (⟨"com/example/suitor/suitor/SplitMix64", "nextLong", "()J"⟩ : MethodName) (head1 (Jvm.Cond.code (⟨"com/example/suitor/suitor/SplitMix64", "nextLong", "()J"⟩ : MethodName) prog_41_method_2_code 3 (some .long) :: ws) ({ frames := 0, cells := 0, slots := 0, locals := 0 } : Room)) (fun a U => a = #[(.ref ra)] ∧ Z.Warmed39 U.vm ∧ U.heap = h0) (fun _ _ _ _ _ => True) (fun _ U o U' => ∃ v L, o = .returned v ∧ Q_rm_next Z ra xs h0 n0 v U'.heap L ∧ FrameEnd U o U' L ({ frames := 0, cells := 0, slots := 0, locals := 0 } : Room).cells ({ frames := 0, cells := 0, slots := 0, locals := 0 } : Room).slots) := by
  refine MetFree.of_bodySF (plainFor_of_name pn0) hisR ?_
  intro p e s m args below meth c s₁ Bd hml0 hP hK
  obtain ⟨rfl, hZ, hh⟩ := hP
  have hx := Bd.exec
  have hby := Bd.bytes
  have hml : c.maxLocals = 3 := hml0
  have hown : s.vm.findClass "com/example/suitor/suitor/SplitMix64" = some m.cls := findClass_of_methodNamed Bd.named
  have hnm := (name_of_methodNamed Bd.named Bd.method).1
  have X0 : Stand p l e ({ frames := 0, cells := 0, slots := 0, locals := 0 } : Room) s m #[(.ref ra)] below meth c s₁ [] 0 0 := Stand.of_body Bd
  have e0 : s₁.heap = h0 := by rw [← hh, Bd.state]; rfl
  have N0 := Fr.nil n0
  have pre0 : ∀ t, Steps p.tables e below (s₁.setTop (mkF m 0 #[.val (.ref ra), .unset, .unset] [])) t → Steps p.tables e below (s₁.setTop (entryFrame m #[(.ref ra)] 3)) t := fun t k => castTop (ef_rm_next m ra) k
  have pre1 : ∀ t, Steps p.tables e below (s₁.setTop (mkF m 2 #[.val (.ref ra), .unset, .unset] [(.ref ra), (.ref ra)])) t → Steps p.tables e below (s₁.setTop (entryFrame m #[(.ref ra)] 3)) t := by
    intro t k
    refine pre0 t ?_
    refine XS.aloadN X0.here hx rfl (hb hby d3_0) rfl rfl ?_
    show Steps p.tables e below (s₁.setTop (mkF m 1 #[.val (.ref ra), .unset, .unset] [(.ref ra)])) _
    refine XS.dup X0.here hx rfl (hb hby d3_1) rfl rfl ?_
    show Steps p.tables e below (s₁.setTop (mkF m 2 #[.val (.ref ra), .unset, .unset] [(.ref ra), (.ref ra)])) _
    exact k
  obtain ⟨T2, X2, e2, st2⟩ := getF X0 hx hZ hown (host := "") (Or.inl (hw _ (List.mem_of_getElem? (i := 9) rfl))) Via.refl e0 F1 (g := (mkF m 2 #[.val (.ref ra), .unset, .unset] [(.ref ra), (.ref ra)])) rfl rfl (hb hby d3_2)
  have pre3 : ∀ t, Steps p.tables e below (T2.setTop (mkF m 5 #[.val (.ref ra), .unset, .unset] [(.long xs), (.ref ra)])) t → Steps p.tables e below (s₁.setTop (entryFrame m #[(.ref ra)] 3)) t := fun t k => pre1 t (st2 t k)
  have pre4 : ∀ t, Steps p.tables e below (T2.setTop (mkF m 9 #[.val (.ref ra), .unset, .unset] [(.long (xs + (-7046029254386353131 : Int64))), (.ref ra)])) t → Steps p.tables e below (s₁.setTop (entryFrame m #[(.ref ra)] 3)) t := by
    intro t k
    refine pre3 t ?_
    refine X2.ldc2Long hx hown (mvT hZ (hw _ (List.mem_of_getElem? (i := 16) rfl))) (g := (mkF m 5 #[.val (.ref ra), .unset, .unset] [(.long xs), (.ref ra)])) rfl (hb hby d3_5) _ ?_
    show Steps p.tables e below (T2.setTop (mkF m 8 #[.val (.ref ra), .unset, .unset] [(.long (-7046029254386353131 : Int64)), (.long xs), (.ref ra)])) _
    refine XS.ladd X2.here hx rfl (hb hby d3_8) rfl ?_
    show Steps p.tables e below (T2.setTop (mkF m 9 #[.val (.ref ra), .unset, .unset] [(.long (xs + (-7046029254386353131 : Int64))), (.ref ra)])) _
    exact k
  obtain ⟨T5, h5, X5, e5, W5, st5⟩ := putF X2 hx hZ hown (host := "") (Or.inl (hw _ (List.mem_of_getElem? (i := 9) rfl))) Via.refl e2 F1 E1 (Or.inl (hw _ (List.mem_of_getElem? (i := 10) rfl))) (hw _ (List.mem_of_getElem? (i := 1) rfl)) (ty := .long) (by decide) rfl rfl (g := (mkF m 9 #[.val (.ref ra), .unset, .unset] [(.long (xs + (-7046029254386353131 : Int64))), (.ref ra)])) rfl rfl (hb hby d3_9)
  have K5 : Keep h0 h5 [ra] := (Keep.refl h0 [ra]).wr W5 (Or.inl (by simp))
  have z5 : n0 ≤ h5.size := Nat.le_trans Z0 K5.1
  have N5 := Fr.snoc X5 N0 g_ra
  have Fw5 := F1.same W5
  have pre6 : ∀ t, Steps p.tables e below (T5.setTop (mkF m 12 #[.val (.ref ra), .unset, .unset] [])) t → Steps p.tables e below (s₁.setTop (entryFrame m #[(.ref ra)] 3)) t := fun t k => pre4 t (st5 t k)
  have pre7 : ∀ t, Steps p.tables e below (T5.setTop (mkF m 13 #[.val (.ref ra), .unset, .unset] [(.ref ra)])) t → Steps p.tables e below (s₁.setTop (entryFrame m #[(.ref ra)] 3)) t := by
    intro t k
    refine pre6 t ?_
    refine XS.aloadN X5.here hx rfl (hb hby d3_12) rfl rfl ?_
    show Steps p.tables e below (T5.setTop (mkF m 13 #[.val (.ref ra), .unset, .unset] [(.ref ra)])) _
    exact k
  obtain ⟨T8, X8, e8, st8⟩ := getF X5 hx hZ hown (host := "") (Or.inl (hw _ (List.mem_of_getElem? (i := 9) rfl))) Via.refl e5 Fw5 (g := (mkF m 13 #[.val (.ref ra), .unset, .unset] [(.ref ra)])) rfl rfl (hb hby d3_13)
  have pre9 : ∀ t, Steps p.tables e below (T8.setTop (mkF m 16 #[.val (.ref ra), .unset, .unset] [(.long (xs + (-7046029254386353131 : Int64)))])) t → Steps p.tables e below (s₁.setTop (entryFrame m #[(.ref ra)] 3)) t := fun t k => pre7 t (st8 t k)
  have pre10 : ∀ t, Steps p.tables e below (T8.setTop (mkF m 17 #[.val (.ref ra), .val (.long (xs + (-7046029254386353131 : Int64))), .second] [])) t → Steps p.tables e below (s₁.setTop (entryFrame m #[(.ref ra)] 3)) t := by
    intro t k
    refine pre9 t ?_
    refine XS.lstoreN X8.here hx rfl (hb hby d3_16) rfl (l' := #[.val (.ref ra), .val (.long (xs + (-7046029254386353131 : Int64))), .second]) rfl ?_
    show Steps p.tables e below (T8.setTop (mkF m 17 #[.val (.ref ra), .val (.long (xs + (-7046029254386353131 : Int64))), .second] [])) _
    exact k
  obtain ⟨z0, hz0⟩ : ∃ z : Int64, z = (xs + (-7046029254386353131 : Int64)) := ⟨_, rfl⟩
  rw [← hz0] at pre10
  have pre11 : ∀ t, Steps p.tables e below (T8.setTop (mkF m 28 #[.val (.ref ra), .val (.long ((z0 ^^^ ((z0.toUInt64 >>> ((30 : Int32) &&& 0x3f).toInt64.toUInt64).toInt64)) * (-4658895280553007687 : Int64))), .second] [])) t → Steps p.tables e below (s₁.setTop (entryFrame m #[(.ref ra)] 3)) t := by
    intro t k
    refine pre10 t ?_
    refine XS.lloadN X8.here hx rfl (hb hby d3_17) rfl ?_
    show Steps p.tables e below (T8.setTop (mkF m 18 #[.val (.ref ra), .val (.long z0), .second] [(.long z0)])) _
    refine XS.lloadN X8.here hx rfl (hb hby d3_18) rfl ?_
    show Steps p.tables e below (T8.setTop (mkF m 19 #[.val (.ref ra), .val (.long z0), .second] [(.long z0), (.long z0)])) _
    refine XS.bipush X8.here hx rfl (hb hby d3_19) ?_
    show Steps p.tables e below (T8.setTop (mkF m 21 #[.val (.ref ra), .val (.long z0), .second] [(.int (30 : Int32)), (.long z0), (.long z0)])) _
    refine XS.lushr X8.here hx rfl (hb hby d3_21) rfl ?_
    show Steps p.tables e below (T8.setTop (mkF m 22 #[.val (.ref ra), .val (.long z0), .second] [(.long ((z0.toUInt64 >>> ((30 : Int32) &&& 0x3f).toInt64.toUInt64).toInt64)), (.long z0)])) _
    refine XS.lxor X8.here hx rfl (hb hby d3_22) rfl ?_
    show Steps p.tables e below (T8.setTop (mkF m 23 #[.val (.ref ra), .val (.long z0), .second] [(.long (z0 ^^^ ((z0.toUInt64 >>> ((30 : Int32) &&& 0x3f).toInt64.toUInt64).toInt64)))])) _
    refine X8.ldc2Long hx hown (mvT hZ (hw _ (List.mem_of_getElem? (i := 17) rfl))) (g := (mkF m 23 #[.val (.ref ra), .val (.long z0), .second] [(.long (z0 ^^^ ((z0.toUInt64 >>> ((30 : Int32) &&& 0x3f).toInt64.toUInt64).toInt64)))])) rfl (hb hby d3_23) _ ?_
    show Steps p.tables e below (T8.setTop (mkF m 26 #[.val (.ref ra), .val (.long z0), .second] [(.long (-4658895280553007687 : Int64)), (.long (z0 ^^^ ((z0.toUInt64 >>> ((30 : Int32) &&& 0x3f).toInt64.toUInt64).toInt64)))])) _
    refine XS.lmul X8.here hx rfl (hb hby d3_26) rfl ?_
    show Steps p.tables e below (T8.setTop (mkF m 27 #[.val (.ref ra), .val (.long z0), .second] [(.long ((z0 ^^^ ((z0.toUInt64 >>> ((30 : Int32) &&& 0x3f).toInt64.toUInt64).toInt64)) * (-4658895280553007687 : Int64)))])) _
    refine XS.lstoreN X8.here hx rfl (hb hby d3_27) rfl (l' := #[.val (.ref ra), .val (.long ((z0 ^^^ ((z0.toUInt64 >>> ((30 : Int32) &&& 0x3f).toInt64.toUInt64).toInt64)) * (-4658895280553007687 : Int64))), .second]) rfl ?_
    show Steps p.tables e below (T8.setTop (mkF m 28 #[.val (.ref ra), .val (.long ((z0 ^^^ ((z0.toUInt64 >>> ((30 : Int32) &&& 0x3f).toInt64.toUInt64).toInt64)) * (-4658895280553007687 : Int64))), .second] [])) _
    exact k
  obtain ⟨z1, hz1⟩ : ∃ z : Int64, z = ((z0 ^^^ ((z0.toUInt64 >>> ((30 : Int32) &&& 0x3f).toInt64.toUInt64).toInt64)) * (-4658895280553007687 : Int64)) := ⟨_, rfl⟩
  rw [← hz1] at pre11
  have pre12 : ∀ t, Steps p.tables e below (T8.setTop (mkF m 39 #[.val (.ref ra), .val (.long ((z1 ^^^ ((z1.toUInt64 >>> ((27 : Int32) &&& 0x3f).toInt64.toUInt64).toInt64)) * (-7723592293110705685 : Int64))), .second] [])) t → Steps p.tables e below (s₁.setTop (entryFrame m #[(.ref ra)] 3)) t := by
    intro t k
    refine pre11 t ?_
    refine XS.lloadN X8.here hx rfl (hb hby d3_28) rfl ?_
    show Steps p.tables e below (T8.setTop (mkF m 29 #[.val (.ref ra), .val (.long z1), .second] [(.long z1)])) _
    refine XS.lloadN X8.here hx rfl (hb hby d3_29) rfl ?_
    show Steps p.tables e below (T8.setTop (mkF m 30 #[.val (.ref ra), .val (.long z1), .second] [(.long z1), (.long z1)])) _
    refine XS.bipush X8.here hx rfl (hb hby d3_30) ?_
    show Steps p.tables e below (T8.setTop (mkF m 32 #[.val (.ref ra), .val (.long z1), .second] [(.int (27 : Int32)), (.long z1), (.long z1)])) _
    refine XS.lushr X8.here hx rfl (hb hby d3_32) rfl ?_
    show Steps p.tables e below (T8.setTop (mkF m 33 #[.val (.ref ra), .val (.long z1), .second] [(.long ((z1.toUInt64 >>> ((27 : Int32) &&& 0x3f).toInt64.toUInt64).toInt64)), (.long z1)])) _
    refine XS.lxor X8.here hx rfl (hb hby d3_33) rfl ?_
    show Steps p.tables e below (T8.setTop (mkF m 34 #[.val (.ref ra), .val (.long z1), .second] [(.long (z1 ^^^ ((z1.toUInt64 >>> ((27 : Int32) &&& 0x3f).toInt64.toUInt64).toInt64)))])) _
    refine X8.ldc2Long hx hown (mvT hZ (hw _ (List.mem_of_getElem? (i := 18) rfl))) (g := (mkF m 34 #[.val (.ref ra), .val (.long z1), .second] [(.long (z1 ^^^ ((z1.toUInt64 >>> ((27 : Int32) &&& 0x3f).toInt64.toUInt64).toInt64)))])) rfl (hb hby d3_34) _ ?_
    show Steps p.tables e below (T8.setTop (mkF m 37 #[.val (.ref ra), .val (.long z1), .second] [(.long (-7723592293110705685 : Int64)), (.long (z1 ^^^ ((z1.toUInt64 >>> ((27 : Int32) &&& 0x3f).toInt64.toUInt64).toInt64)))])) _
    refine XS.lmul X8.here hx rfl (hb hby d3_37) rfl ?_
    show Steps p.tables e below (T8.setTop (mkF m 38 #[.val (.ref ra), .val (.long z1), .second] [(.long ((z1 ^^^ ((z1.toUInt64 >>> ((27 : Int32) &&& 0x3f).toInt64.toUInt64).toInt64)) * (-7723592293110705685 : Int64)))])) _
    refine XS.lstoreN X8.here hx rfl (hb hby d3_38) rfl (l' := #[.val (.ref ra), .val (.long ((z1 ^^^ ((z1.toUInt64 >>> ((27 : Int32) &&& 0x3f).toInt64.toUInt64).toInt64)) * (-7723592293110705685 : Int64))), .second]) rfl ?_
    show Steps p.tables e below (T8.setTop (mkF m 39 #[.val (.ref ra), .val (.long ((z1 ^^^ ((z1.toUInt64 >>> ((27 : Int32) &&& 0x3f).toInt64.toUInt64).toInt64)) * (-7723592293110705685 : Int64))), .second] [])) _
    exact k
  obtain ⟨z2, hz2⟩ : ∃ z : Int64, z = ((z1 ^^^ ((z1.toUInt64 >>> ((27 : Int32) &&& 0x3f).toInt64.toUInt64).toInt64)) * (-7723592293110705685 : Int64)) := ⟨_, rfl⟩
  rw [← hz2] at pre12
  have pre13 : ∀ t, Steps p.tables e below (T8.setTop (mkF m 45 #[.val (.ref ra), .val (.long z2), .second] [(.long (z2 ^^^ ((z2.toUInt64 >>> ((31 : Int32) &&& 0x3f).toInt64.toUInt64).toInt64)))])) t → Steps p.tables e below (s₁.setTop (entryFrame m #[(.ref ra)] 3)) t := by
    intro t k
    refine pre12 t ?_
    refine XS.lloadN X8.here hx rfl (hb hby d3_39) rfl ?_
    show Steps p.tables e below (T8.setTop (mkF m 40 #[.val (.ref ra), .val (.long z2), .second] [(.long z2)])) _
    refine XS.lloadN X8.here hx rfl (hb hby d3_40) rfl ?_
    show Steps p.tables e below (T8.setTop (mkF m 41 #[.val (.ref ra), .val (.long z2), .second] [(.long z2), (.long z2)])) _
    refine XS.bipush X8.here hx rfl (hb hby d3_41) ?_
    show Steps p.tables e below (T8.setTop (mkF m 43 #[.val (.ref ra), .val (.long z2), .second] [(.int (31 : Int32)), (.long z2), (.long z2)])) _
    refine XS.lushr X8.here hx rfl (hb hby d3_43) rfl ?_
    show Steps p.tables e below (T8.setTop (mkF m 44 #[.val (.ref ra), .val (.long z2), .second] [(.long ((z2.toUInt64 >>> ((31 : Int32) &&& 0x3f).toInt64.toUInt64).toInt64)), (.long z2)])) _
    refine XS.lxor X8.here hx rfl (hb hby d3_44) rfl ?_
    show Steps p.tables e below (T8.setTop (mkF m 45 #[.val (.ref ra), .val (.long z2), .second] [(.long (z2 ^^^ ((z2.toUInt64 >>> ((31 : Int32) &&& 0x3f).toInt64.toUInt64).toInt64)))])) _
    exact k
  obtain ⟨fs, hr, hrun, hended, hW, hsame⟩ := X8.leave (v := some (.long (z2 ^^^ ((z2.toUInt64 >>> ((31 : Int32) &&& 0x3f).toInt64.toUInt64).toInt64)))) (fun h => by rw [Bd.returns] at h; cases h)
  refine ⟨_, _, pre13 _ ?_, hrun, hended, _, _, rfl, ?_, ⟨_, rfl⟩, hW, hsame.mono (by decide) (by decide)⟩
  · exact retOut X8 hx Bd.returns rfl (Or.inr (Or.inl ⟨rfl, rfl, _, rfl⟩)) (hb hby d3_45) hr
  · show Q_rm_next Z ra xs h0 n0 _ T8.heap _
    rw [e8]
    exact ⟨congrArg (fun z => some (Value.long z)) (show (z2 ^^^ ((z2.toUInt64 >>> ((31 : Int32) &&& 0x3f).toInt64.toUInt64).toInt64)) = (own_mix (xs + (-7046029254386353131 : Int64))) from by rw [hz2, hz1, hz0]; rfl), N5, K5, (E1.wr W5), Fw5⟩
theorem d5_0 : decode method_2_code 0 = .ok (.lload_n 0, 1) := by decide +kernel
theorem d5_1 : decode method_2_code 1 = .ok (.lstore_n 2, 1) := by decide +kernel
theorem d5_2 : decode method_2_code 2 = .ok (.lload_n 2, 1) := by decide +kernel
theorem d5_3 : decode method_2_code 3 = .ok (.ldc2_w 7, 3) := by decide +kernel
theorem d5_6 : decode method_2_code 6 = .ok (.lload_n 0, 1) := by decide +kernel
theorem d5_7 : decode method_2_code 7 = .ok (.lload_n 2, 1) := by decide +kernel
theorem d5_8 : decode method_2_code 8 = .ok (.lmul, 1) := by decide +kernel
theorem d5_9 : decode method_2_code 9 = .ok (.lsub, 1) := by decide +kernel
theorem d5_10 : decode method_2_code 10 = .ok (.lmul, 1) := by decide +kernel
theorem d5_11 : decode method_2_code 11 = .ok (.lstore_n 2, 1) := by decide +kernel
theorem d5_12 : decode method_2_code 12 = .ok (.lload_n 2, 1) := by decide +kernel
theorem d5_13 : decode method_2_code 13 = .ok (.ldc2_w 7, 3) := by decide +kernel
theorem d5_16 : decode method_2_code 16 = .ok (.lload_n 0, 1) := by decide +kernel
theorem d5_17 : decode method_2_code 17 = .ok (.lload_n 2, 1) := by decide +kernel
theorem d5_18 : decode method_2_code 18 = .ok (.lmul, 1) := by decide +kernel
theorem d5_19 : decode method_2_code 19 = .ok (.lsub, 1) := by decide +kernel
theorem d5_20 : decode method_2_code 20 = .ok (.lmul, 1) := by decide +kernel
theorem d5_21 : decode method_2_code 21 = .ok (.lstore_n 2, 1) := by decide +kernel
theorem d5_22 : decode method_2_code 22 = .ok (.lload_n 2, 1) := by decide +kernel
theorem d5_23 : decode method_2_code 23 = .ok (.ldc2_w 7, 3) := by decide +kernel
theorem d5_26 : decode method_2_code 26 = .ok (.lload_n 0, 1) := by decide +kernel
theorem d5_27 : decode method_2_code 27 = .ok (.lload_n 2, 1) := by decide +kernel
theorem d5_28 : decode method_2_code 28 = .ok (.lmul, 1) := by decide +kernel
theorem d5_29 : decode method_2_code 29 = .ok (.lsub, 1) := by decide +kernel
theorem d5_30 : decode method_2_code 30 = .ok (.lmul, 1) := by decide +kernel
theorem d5_31 : decode method_2_code 31 = .ok (.lstore_n 2, 1) := by decide +kernel
theorem d5_32 : decode method_2_code 32 = .ok (.lload_n 2, 1) := by decide +kernel
theorem d5_33 : decode method_2_code 33 = .ok (.ldc2_w 7, 3) := by decide +kernel
theorem d5_36 : decode method_2_code 36 = .ok (.lload_n 0, 1) := by decide +kernel
theorem d5_37 : decode method_2_code 37 = .ok (.lload_n 2, 1) := by decide +kernel
theorem d5_38 : decode method_2_code 38 = .ok (.lmul, 1) := by decide +kernel
theorem d5_39 : decode method_2_code 39 = .ok (.lsub, 1) := by decide +kernel
theorem d5_40 : decode method_2_code 40 = .ok (.lmul, 1) := by decide +kernel
theorem d5_41 : decode method_2_code 41 = .ok (.lstore_n 2, 1) := by decide +kernel
theorem d5_42 : decode method_2_code 42 = .ok (.lload_n 2, 1) := by decide +kernel
theorem d5_43 : decode method_2_code 43 = .ok (.ldc2_w 7, 3) := by decide +kernel
theorem d5_46 : decode method_2_code 46 = .ok (.lload_n 0, 1) := by decide +kernel
theorem d5_47 : decode method_2_code 47 = .ok (.lload_n 2, 1) := by decide +kernel
theorem d5_48 : decode method_2_code 48 = .ok (.lmul, 1) := by decide +kernel
theorem d5_49 : decode method_2_code 49 = .ok (.lsub, 1) := by decide +kernel
theorem d5_50 : decode method_2_code 50 = .ok (.lmul, 1) := by decide +kernel
theorem d5_51 : decode method_2_code 51 = .ok (.lstore_n 2, 1) := by decide +kernel
theorem d5_52 : decode method_2_code 52 = .ok (.lload_n 2, 1) := by decide +kernel
theorem d5_53 : decode method_2_code 53 = .ok (.lreturn, 1) := by decide +kernel
theorem pn1 : plainName "com/example/suitor/suitor/SplitMix64NextLongPinLaw" = true := by first | (simp [plainName, overriddenIn]; done) | decide +kernel
theorem ef_rm_inverse (m : MethodId) (xv : Int64) : entryFrame m #[(.long xv)] 4 = mkF m 0 #[.val (.long xv), .second, .unset, .unset] [] := by first | (simp [entryFrame, mkF, argsToLocals, Value.category]; done) | rfl
def Q_rm_inverse (Z : State) (xv : Int64) (h0 : Heap) (n0 : Nat) (v : Option Value) (h : Heap) (L : List Loc) : Prop := v = some (.long (own_inv xv)) ∧ Fr n0 L ∧ h = h0
set_option maxRecDepth 65536 in
set_option maxHeartbeats 40000000 in
theorem rm_inverse (l : Launch) (Z : State) (a0 : Array Value) (hw : ∀ d ∈ tables_1, d.before a0 Z = true) (ws : List Jvm.Cond) (xv : Int64) (h0 : Heap) (n0 : Nat) (Z0 : n0 ≤ h0.size) :
    MetFree l (⟨"com/example/suitor/suitor/SplitMix64NextLongPinLaw", "inverse", "(J)J"⟩ : MethodName) (head1 (Jvm.Cond.code (⟨"com/example/suitor/suitor/SplitMix64NextLongPinLaw", "inverse", "(J)J"⟩ : MethodName) method_2_code 4 (some .long) :: ws) ({ frames := 0, cells := 0, slots := 0, locals := 0 } : Room)) (fun a U => a = #[(.long xv)] ∧ Z.Warmed39 U.vm ∧ U.heap = h0) (fun _ _ _ _ _ => True) (fun _ U o U' => ∃ v L, o = .returned v ∧ Q_rm_inverse Z xv h0 n0 v U'.heap L ∧ FrameEnd U o U' L ({ frames := 0, cells := 0, slots := 0, locals := 0 } : Room).cells ({ frames := 0, cells := 0, slots := 0, locals := 0 } : Room).slots) := by
  refine MetFree.of_bodySF (plainFor_of_name pn1) hisR ?_
  intro p e s m args below meth c s₁ Bd hml0 hP hK
  obtain ⟨rfl, hZ, hh⟩ := hP
  have hx := Bd.exec
  have hby := Bd.bytes
  have hml : c.maxLocals = 4 := hml0
  have hown : s.vm.findClass "com/example/suitor/suitor/SplitMix64NextLongPinLaw" = some m.cls := findClass_of_methodNamed Bd.named
  have hnm := (name_of_methodNamed Bd.named Bd.method).1
  have X0 : Stand p l e ({ frames := 0, cells := 0, slots := 0, locals := 0 } : Room) s m #[(.long xv)] below meth c s₁ [] 0 0 := Stand.of_body Bd
  have e0 : s₁.heap = h0 := by rw [← hh, Bd.state]; rfl
  have N0 := Fr.nil n0
  have pre0 : ∀ t, Steps p.tables e below (s₁.setTop (mkF m 0 #[.val (.long xv), .second, .unset, .unset] [])) t → Steps p.tables e below (s₁.setTop (entryFrame m #[(.long xv)] 4)) t := fun t k => castTop (ef_rm_inverse m xv) k
  have pre1 : ∀ t, Steps p.tables e below (s₁.setTop (mkF m 12 #[.val (.long xv), .second, .val (.long (xv * ((2 : Int64) - (xv * xv)))), .second] [])) t → Steps p.tables e below (s₁.setTop (entryFrame m #[(.long xv)] 4)) t := by
    intro t k
    refine pre0 t ?_
    refine XS.lloadN X0.here hx rfl (hb hby d5_0) rfl ?_
    show Steps p.tables e below (s₁.setTop (mkF m 1 #[.val (.long xv), .second, .unset, .unset] [(.long xv)])) _
    refine XS.lstoreN X0.here hx rfl (hb hby d5_1) rfl (l' := #[.val (.long xv), .second, .val (.long xv), .second]) rfl ?_
    show Steps p.tables e below (s₁.setTop (mkF m 2 #[.val (.long xv), .second, .val (.long xv), .second] [])) _
    refine XS.lloadN X0.here hx rfl (hb hby d5_2) rfl ?_
    show Steps p.tables e below (s₁.setTop (mkF m 3 #[.val (.long xv), .second, .val (.long xv), .second] [(.long xv)])) _
    refine X0.ldc2Long hx hown (mvT hZ (hw _ (List.mem_of_getElem? (i := 27) rfl))) (g := (mkF m 3 #[.val (.long xv), .second, .val (.long xv), .second] [(.long xv)])) rfl (hb hby d5_3) _ ?_
    show Steps p.tables e below (s₁.setTop (mkF m 6 #[.val (.long xv), .second, .val (.long xv), .second] [(.long (2 : Int64)), (.long xv)])) _
    refine XS.lloadN X0.here hx rfl (hb hby d5_6) rfl ?_
    show Steps p.tables e below (s₁.setTop (mkF m 7 #[.val (.long xv), .second, .val (.long xv), .second] [(.long xv), (.long (2 : Int64)), (.long xv)])) _
    refine XS.lloadN X0.here hx rfl (hb hby d5_7) rfl ?_
    show Steps p.tables e below (s₁.setTop (mkF m 8 #[.val (.long xv), .second, .val (.long xv), .second] [(.long xv), (.long xv), (.long (2 : Int64)), (.long xv)])) _
    refine XS.lmul X0.here hx rfl (hb hby d5_8) rfl ?_
    show Steps p.tables e below (s₁.setTop (mkF m 9 #[.val (.long xv), .second, .val (.long xv), .second] [(.long (xv * xv)), (.long (2 : Int64)), (.long xv)])) _
    refine XS.lsub X0.here hx rfl (hb hby d5_9) rfl ?_
    show Steps p.tables e below (s₁.setTop (mkF m 10 #[.val (.long xv), .second, .val (.long xv), .second] [(.long ((2 : Int64) - (xv * xv))), (.long xv)])) _
    refine XS.lmul X0.here hx rfl (hb hby d5_10) rfl ?_
    show Steps p.tables e below (s₁.setTop (mkF m 11 #[.val (.long xv), .second, .val (.long xv), .second] [(.long (xv * ((2 : Int64) - (xv * xv))))])) _
    refine XS.lstoreN X0.here hx rfl (hb hby d5_11) rfl (l' := #[.val (.long xv), .second, .val (.long (xv * ((2 : Int64) - (xv * xv)))), .second]) rfl ?_
    show Steps p.tables e below (s₁.setTop (mkF m 12 #[.val (.long xv), .second, .val (.long (xv * ((2 : Int64) - (xv * xv)))), .second] [])) _
    exact k
  obtain ⟨z1, hz1⟩ : ∃ z : Int64, z = (xv * ((2 : Int64) - (xv * xv))) := ⟨_, rfl⟩
  rw [← hz1] at pre1
  have pre2 : ∀ t, Steps p.tables e below (s₁.setTop (mkF m 22 #[.val (.long xv), .second, .val (.long (z1 * ((2 : Int64) - (xv * z1)))), .second] [])) t → Steps p.tables e below (s₁.setTop (entryFrame m #[(.long xv)] 4)) t := by
    intro t k
    refine pre1 t ?_
    refine XS.lloadN X0.here hx rfl (hb hby d5_12) rfl ?_
    show Steps p.tables e below (s₁.setTop (mkF m 13 #[.val (.long xv), .second, .val (.long z1), .second] [(.long z1)])) _
    refine X0.ldc2Long hx hown (mvT hZ (hw _ (List.mem_of_getElem? (i := 27) rfl))) (g := (mkF m 13 #[.val (.long xv), .second, .val (.long z1), .second] [(.long z1)])) rfl (hb hby d5_13) _ ?_
    show Steps p.tables e below (s₁.setTop (mkF m 16 #[.val (.long xv), .second, .val (.long z1), .second] [(.long (2 : Int64)), (.long z1)])) _
    refine XS.lloadN X0.here hx rfl (hb hby d5_16) rfl ?_
    show Steps p.tables e below (s₁.setTop (mkF m 17 #[.val (.long xv), .second, .val (.long z1), .second] [(.long xv), (.long (2 : Int64)), (.long z1)])) _
    refine XS.lloadN X0.here hx rfl (hb hby d5_17) rfl ?_
    show Steps p.tables e below (s₁.setTop (mkF m 18 #[.val (.long xv), .second, .val (.long z1), .second] [(.long z1), (.long xv), (.long (2 : Int64)), (.long z1)])) _
    refine XS.lmul X0.here hx rfl (hb hby d5_18) rfl ?_
    show Steps p.tables e below (s₁.setTop (mkF m 19 #[.val (.long xv), .second, .val (.long z1), .second] [(.long (xv * z1)), (.long (2 : Int64)), (.long z1)])) _
    refine XS.lsub X0.here hx rfl (hb hby d5_19) rfl ?_
    show Steps p.tables e below (s₁.setTop (mkF m 20 #[.val (.long xv), .second, .val (.long z1), .second] [(.long ((2 : Int64) - (xv * z1))), (.long z1)])) _
    refine XS.lmul X0.here hx rfl (hb hby d5_20) rfl ?_
    show Steps p.tables e below (s₁.setTop (mkF m 21 #[.val (.long xv), .second, .val (.long z1), .second] [(.long (z1 * ((2 : Int64) - (xv * z1))))])) _
    refine XS.lstoreN X0.here hx rfl (hb hby d5_21) rfl (l' := #[.val (.long xv), .second, .val (.long (z1 * ((2 : Int64) - (xv * z1)))), .second]) rfl ?_
    show Steps p.tables e below (s₁.setTop (mkF m 22 #[.val (.long xv), .second, .val (.long (z1 * ((2 : Int64) - (xv * z1)))), .second] [])) _
    exact k
  obtain ⟨z2, hz2⟩ : ∃ z : Int64, z = (z1 * ((2 : Int64) - (xv * z1))) := ⟨_, rfl⟩
  rw [← hz2] at pre2
  have pre3 : ∀ t, Steps p.tables e below (s₁.setTop (mkF m 32 #[.val (.long xv), .second, .val (.long (z2 * ((2 : Int64) - (xv * z2)))), .second] [])) t → Steps p.tables e below (s₁.setTop (entryFrame m #[(.long xv)] 4)) t := by
    intro t k
    refine pre2 t ?_
    refine XS.lloadN X0.here hx rfl (hb hby d5_22) rfl ?_
    show Steps p.tables e below (s₁.setTop (mkF m 23 #[.val (.long xv), .second, .val (.long z2), .second] [(.long z2)])) _
    refine X0.ldc2Long hx hown (mvT hZ (hw _ (List.mem_of_getElem? (i := 27) rfl))) (g := (mkF m 23 #[.val (.long xv), .second, .val (.long z2), .second] [(.long z2)])) rfl (hb hby d5_23) _ ?_
    show Steps p.tables e below (s₁.setTop (mkF m 26 #[.val (.long xv), .second, .val (.long z2), .second] [(.long (2 : Int64)), (.long z2)])) _
    refine XS.lloadN X0.here hx rfl (hb hby d5_26) rfl ?_
    show Steps p.tables e below (s₁.setTop (mkF m 27 #[.val (.long xv), .second, .val (.long z2), .second] [(.long xv), (.long (2 : Int64)), (.long z2)])) _
    refine XS.lloadN X0.here hx rfl (hb hby d5_27) rfl ?_
    show Steps p.tables e below (s₁.setTop (mkF m 28 #[.val (.long xv), .second, .val (.long z2), .second] [(.long z2), (.long xv), (.long (2 : Int64)), (.long z2)])) _
    refine XS.lmul X0.here hx rfl (hb hby d5_28) rfl ?_
    show Steps p.tables e below (s₁.setTop (mkF m 29 #[.val (.long xv), .second, .val (.long z2), .second] [(.long (xv * z2)), (.long (2 : Int64)), (.long z2)])) _
    refine XS.lsub X0.here hx rfl (hb hby d5_29) rfl ?_
    show Steps p.tables e below (s₁.setTop (mkF m 30 #[.val (.long xv), .second, .val (.long z2), .second] [(.long ((2 : Int64) - (xv * z2))), (.long z2)])) _
    refine XS.lmul X0.here hx rfl (hb hby d5_30) rfl ?_
    show Steps p.tables e below (s₁.setTop (mkF m 31 #[.val (.long xv), .second, .val (.long z2), .second] [(.long (z2 * ((2 : Int64) - (xv * z2))))])) _
    refine XS.lstoreN X0.here hx rfl (hb hby d5_31) rfl (l' := #[.val (.long xv), .second, .val (.long (z2 * ((2 : Int64) - (xv * z2)))), .second]) rfl ?_
    show Steps p.tables e below (s₁.setTop (mkF m 32 #[.val (.long xv), .second, .val (.long (z2 * ((2 : Int64) - (xv * z2)))), .second] [])) _
    exact k
  obtain ⟨z3, hz3⟩ : ∃ z : Int64, z = (z2 * ((2 : Int64) - (xv * z2))) := ⟨_, rfl⟩
  rw [← hz3] at pre3
  have pre4 : ∀ t, Steps p.tables e below (s₁.setTop (mkF m 42 #[.val (.long xv), .second, .val (.long (z3 * ((2 : Int64) - (xv * z3)))), .second] [])) t → Steps p.tables e below (s₁.setTop (entryFrame m #[(.long xv)] 4)) t := by
    intro t k
    refine pre3 t ?_
    refine XS.lloadN X0.here hx rfl (hb hby d5_32) rfl ?_
    show Steps p.tables e below (s₁.setTop (mkF m 33 #[.val (.long xv), .second, .val (.long z3), .second] [(.long z3)])) _
    refine X0.ldc2Long hx hown (mvT hZ (hw _ (List.mem_of_getElem? (i := 27) rfl))) (g := (mkF m 33 #[.val (.long xv), .second, .val (.long z3), .second] [(.long z3)])) rfl (hb hby d5_33) _ ?_
    show Steps p.tables e below (s₁.setTop (mkF m 36 #[.val (.long xv), .second, .val (.long z3), .second] [(.long (2 : Int64)), (.long z3)])) _
    refine XS.lloadN X0.here hx rfl (hb hby d5_36) rfl ?_
    show Steps p.tables e below (s₁.setTop (mkF m 37 #[.val (.long xv), .second, .val (.long z3), .second] [(.long xv), (.long (2 : Int64)), (.long z3)])) _
    refine XS.lloadN X0.here hx rfl (hb hby d5_37) rfl ?_
    show Steps p.tables e below (s₁.setTop (mkF m 38 #[.val (.long xv), .second, .val (.long z3), .second] [(.long z3), (.long xv), (.long (2 : Int64)), (.long z3)])) _
    refine XS.lmul X0.here hx rfl (hb hby d5_38) rfl ?_
    show Steps p.tables e below (s₁.setTop (mkF m 39 #[.val (.long xv), .second, .val (.long z3), .second] [(.long (xv * z3)), (.long (2 : Int64)), (.long z3)])) _
    refine XS.lsub X0.here hx rfl (hb hby d5_39) rfl ?_
    show Steps p.tables e below (s₁.setTop (mkF m 40 #[.val (.long xv), .second, .val (.long z3), .second] [(.long ((2 : Int64) - (xv * z3))), (.long z3)])) _
    refine XS.lmul X0.here hx rfl (hb hby d5_40) rfl ?_
    show Steps p.tables e below (s₁.setTop (mkF m 41 #[.val (.long xv), .second, .val (.long z3), .second] [(.long (z3 * ((2 : Int64) - (xv * z3))))])) _
    refine XS.lstoreN X0.here hx rfl (hb hby d5_41) rfl (l' := #[.val (.long xv), .second, .val (.long (z3 * ((2 : Int64) - (xv * z3)))), .second]) rfl ?_
    show Steps p.tables e below (s₁.setTop (mkF m 42 #[.val (.long xv), .second, .val (.long (z3 * ((2 : Int64) - (xv * z3)))), .second] [])) _
    exact k
  obtain ⟨z4, hz4⟩ : ∃ z : Int64, z = (z3 * ((2 : Int64) - (xv * z3))) := ⟨_, rfl⟩
  rw [← hz4] at pre4
  have pre5 : ∀ t, Steps p.tables e below (s₁.setTop (mkF m 52 #[.val (.long xv), .second, .val (.long (z4 * ((2 : Int64) - (xv * z4)))), .second] [])) t → Steps p.tables e below (s₁.setTop (entryFrame m #[(.long xv)] 4)) t := by
    intro t k
    refine pre4 t ?_
    refine XS.lloadN X0.here hx rfl (hb hby d5_42) rfl ?_
    show Steps p.tables e below (s₁.setTop (mkF m 43 #[.val (.long xv), .second, .val (.long z4), .second] [(.long z4)])) _
    refine X0.ldc2Long hx hown (mvT hZ (hw _ (List.mem_of_getElem? (i := 27) rfl))) (g := (mkF m 43 #[.val (.long xv), .second, .val (.long z4), .second] [(.long z4)])) rfl (hb hby d5_43) _ ?_
    show Steps p.tables e below (s₁.setTop (mkF m 46 #[.val (.long xv), .second, .val (.long z4), .second] [(.long (2 : Int64)), (.long z4)])) _
    refine XS.lloadN X0.here hx rfl (hb hby d5_46) rfl ?_
    show Steps p.tables e below (s₁.setTop (mkF m 47 #[.val (.long xv), .second, .val (.long z4), .second] [(.long xv), (.long (2 : Int64)), (.long z4)])) _
    refine XS.lloadN X0.here hx rfl (hb hby d5_47) rfl ?_
    show Steps p.tables e below (s₁.setTop (mkF m 48 #[.val (.long xv), .second, .val (.long z4), .second] [(.long z4), (.long xv), (.long (2 : Int64)), (.long z4)])) _
    refine XS.lmul X0.here hx rfl (hb hby d5_48) rfl ?_
    show Steps p.tables e below (s₁.setTop (mkF m 49 #[.val (.long xv), .second, .val (.long z4), .second] [(.long (xv * z4)), (.long (2 : Int64)), (.long z4)])) _
    refine XS.lsub X0.here hx rfl (hb hby d5_49) rfl ?_
    show Steps p.tables e below (s₁.setTop (mkF m 50 #[.val (.long xv), .second, .val (.long z4), .second] [(.long ((2 : Int64) - (xv * z4))), (.long z4)])) _
    refine XS.lmul X0.here hx rfl (hb hby d5_50) rfl ?_
    show Steps p.tables e below (s₁.setTop (mkF m 51 #[.val (.long xv), .second, .val (.long z4), .second] [(.long (z4 * ((2 : Int64) - (xv * z4))))])) _
    refine XS.lstoreN X0.here hx rfl (hb hby d5_51) rfl (l' := #[.val (.long xv), .second, .val (.long (z4 * ((2 : Int64) - (xv * z4)))), .second]) rfl ?_
    show Steps p.tables e below (s₁.setTop (mkF m 52 #[.val (.long xv), .second, .val (.long (z4 * ((2 : Int64) - (xv * z4)))), .second] [])) _
    exact k
  obtain ⟨z5, hz5⟩ : ∃ z : Int64, z = (z4 * ((2 : Int64) - (xv * z4))) := ⟨_, rfl⟩
  rw [← hz5] at pre5
  have pre6 : ∀ t, Steps p.tables e below (s₁.setTop (mkF m 53 #[.val (.long xv), .second, .val (.long z5), .second] [(.long z5)])) t → Steps p.tables e below (s₁.setTop (entryFrame m #[(.long xv)] 4)) t := by
    intro t k
    refine pre5 t ?_
    refine XS.lloadN X0.here hx rfl (hb hby d5_52) rfl ?_
    show Steps p.tables e below (s₁.setTop (mkF m 53 #[.val (.long xv), .second, .val (.long z5), .second] [(.long z5)])) _
    exact k
  obtain ⟨fs, hr, hrun, hended, hW, hsame⟩ := X0.leave (v := some (.long z5)) (fun h => by rw [Bd.returns] at h; cases h)
  refine ⟨_, _, pre6 _ ?_, hrun, hended, _, _, rfl, ?_, ⟨_, rfl⟩, hW, hsame.mono (by decide) (by decide)⟩
  · exact retOut X0 hx Bd.returns rfl (Or.inr (Or.inl ⟨rfl, rfl, _, rfl⟩)) (hb hby d5_53) hr
  · show Q_rm_inverse Z xv h0 n0 _ s₁.heap _
    rw [e0]
    exact ⟨congrArg (fun z => some (Value.long z)) (show z5 = (own_inv xv) from by rw [hz5, hz4, hz3, hz2, hz1]; rfl), N0, rfl⟩
theorem d4_0 : decode method_3_code 0 = .ok (.lload_n 0, 1) := by decide +kernel
theorem d4_1 : decode method_3_code 1 = .ok (.lload_n 0, 1) := by decide +kernel
theorem d4_2 : decode method_3_code 2 = .ok (.bipush 31, 2) := by decide +kernel
theorem d4_4 : decode method_3_code 4 = .ok (.lushr, 1) := by decide +kernel
theorem d4_5 : decode method_3_code 5 = .ok (.lxor, 1) := by decide +kernel
theorem d4_6 : decode method_3_code 6 = .ok (.lload_n 0, 1) := by decide +kernel
theorem d4_7 : decode method_3_code 7 = .ok (.bipush 62, 2) := by decide +kernel
theorem d4_9 : decode method_3_code 9 = .ok (.lushr, 1) := by decide +kernel
theorem d4_10 : decode method_3_code 10 = .ok (.lxor, 1) := by decide +kernel
theorem d4_11 : decode method_3_code 11 = .ok (.lstore_n 2, 1) := by decide +kernel
theorem d4_12 : decode method_3_code 12 = .ok (.lload_n 2, 1) := by decide +kernel
theorem d4_13 : decode method_3_code 13 = .ok (.ldc2_w 11, 3) := by decide +kernel
theorem d4_16 : decode method_3_code 16 = .ok (.invokestatic 13, 3) := by decide +kernel
theorem pd0 : parseMethodDescriptor "(J)J" = some ⟨[.long], some .long⟩ := by decide +kernel
theorem d4_19 : decode method_3_code 19 = .ok (.lmul, 1) := by decide +kernel
theorem d4_20 : decode method_3_code 20 = .ok (.lstore_n 2, 1) := by decide +kernel
theorem d4_21 : decode method_3_code 21 = .ok (.lload_n 2, 1) := by decide +kernel
theorem d4_22 : decode method_3_code 22 = .ok (.lload_n 2, 1) := by decide +kernel
theorem d4_23 : decode method_3_code 23 = .ok (.bipush 27, 2) := by decide +kernel
theorem d4_25 : decode method_3_code 25 = .ok (.lushr, 1) := by decide +kernel
theorem d4_26 : decode method_3_code 26 = .ok (.lxor, 1) := by decide +kernel
theorem d4_27 : decode method_3_code 27 = .ok (.lload_n 2, 1) := by decide +kernel
theorem d4_28 : decode method_3_code 28 = .ok (.bipush 54, 2) := by decide +kernel
theorem d4_30 : decode method_3_code 30 = .ok (.lushr, 1) := by decide +kernel
theorem d4_31 : decode method_3_code 31 = .ok (.lxor, 1) := by decide +kernel
theorem d4_32 : decode method_3_code 32 = .ok (.lstore_n 2, 1) := by decide +kernel
theorem d4_33 : decode method_3_code 33 = .ok (.lload_n 2, 1) := by decide +kernel
theorem d4_34 : decode method_3_code 34 = .ok (.ldc2_w 17, 3) := by decide +kernel
theorem d4_37 : decode method_3_code 37 = .ok (.invokestatic 13, 3) := by decide +kernel
theorem d4_40 : decode method_3_code 40 = .ok (.lmul, 1) := by decide +kernel
theorem d4_41 : decode method_3_code 41 = .ok (.lstore_n 2, 1) := by decide +kernel
theorem d4_42 : decode method_3_code 42 = .ok (.lload_n 2, 1) := by decide +kernel
theorem d4_43 : decode method_3_code 43 = .ok (.lload_n 2, 1) := by decide +kernel
theorem d4_44 : decode method_3_code 44 = .ok (.bipush 30, 2) := by decide +kernel
theorem d4_46 : decode method_3_code 46 = .ok (.lushr, 1) := by decide +kernel
theorem d4_47 : decode method_3_code 47 = .ok (.lxor, 1) := by decide +kernel
theorem d4_48 : decode method_3_code 48 = .ok (.lload_n 2, 1) := by decide +kernel
theorem d4_49 : decode method_3_code 49 = .ok (.bipush 60, 2) := by decide +kernel
theorem d4_51 : decode method_3_code 51 = .ok (.lushr, 1) := by decide +kernel
theorem d4_52 : decode method_3_code 52 = .ok (.lxor, 1) := by decide +kernel
theorem d4_53 : decode method_3_code 53 = .ok (.lstore_n 2, 1) := by decide +kernel
theorem d4_54 : decode method_3_code 54 = .ok (.lload_n 2, 1) := by decide +kernel
theorem d4_55 : decode method_3_code 55 = .ok (.lreturn, 1) := by decide +kernel
theorem ef_rm_unmix (m : MethodId) (xv : Int64) : entryFrame m #[(.long xv)] 4 = mkF m 0 #[.val (.long xv), .second, .unset, .unset] [] := by first | (simp [entryFrame, mkF, argsToLocals, Value.category]; done) | rfl
def Q_rm_unmix (Z : State) (xv : Int64) (h0 : Heap) (n0 : Nat) (v : Option Value) (h : Heap) (L : List Loc) : Prop := v = some (.long (own_unmix xv)) ∧ Fr n0 L ∧ h = h0
set_option maxRecDepth 65536 in
set_option maxHeartbeats 40000000 in
theorem rm_unmix (l : Launch) (Z : State) (a0 : Array Value) (hw : ∀ d ∈ tables_1, d.before a0 Z = true) (ws : List Jvm.Cond) (xv : Int64) (h0 : Heap) (n0 : Nat) (Z0 : n0 ≤ h0.size) :
    MetFree l (⟨"com/example/suitor/suitor/SplitMix64NextLongPinLaw", "unmix", "(J)J"⟩ : MethodName) (head1 (Jvm.Cond.code (⟨"com/example/suitor/suitor/SplitMix64NextLongPinLaw", "unmix", "(J)J"⟩ : MethodName) method_3_code 4 (some .long) :: ws) ({ frames := 1, cells := 0, slots := 0, locals := 17 } : Room)) (fun a U => a = #[(.long xv)] ∧ Z.Warmed39 U.vm ∧ U.heap = h0) (fun _ _ _ _ _ => True) (fun _ U o U' => ∃ v L, o = .returned v ∧ Q_rm_unmix Z xv h0 n0 v U'.heap L ∧ FrameEnd U o U' L ({ frames := 1, cells := 0, slots := 0, locals := 17 } : Room).cells ({ frames := 1, cells := 0, slots := 0, locals := 17 } : Room).slots) := by
  refine MetFree.of_bodySF (plainFor_of_name pn1) hisR ?_
  intro p e s m args below meth c s₁ Bd hml0 hP hK
  obtain ⟨rfl, hZ, hh⟩ := hP
  have hx := Bd.exec
  have hby := Bd.bytes
  have hml : c.maxLocals = 4 := hml0
  have hown : s.vm.findClass "com/example/suitor/suitor/SplitMix64NextLongPinLaw" = some m.cls := findClass_of_methodNamed Bd.named
  have hnm := (name_of_methodNamed Bd.named Bd.method).1
  have X0 : Stand p l e ({ frames := 1, cells := 0, slots := 0, locals := 17 } : Room) s m #[(.long xv)] below meth c s₁ [] 0 0 := Stand.of_body Bd
  have e0 : s₁.heap = h0 := by rw [← hh, Bd.state]; rfl
  have N0 := Fr.nil n0
  have pre0 : ∀ t, Steps p.tables e below (s₁.setTop (mkF m 0 #[.val (.long xv), .second, .unset, .unset] [])) t → Steps p.tables e below (s₁.setTop (entryFrame m #[(.long xv)] 4)) t := fun t k => castTop (ef_rm_unmix m xv) k
  have pre1 : ∀ t, Steps p.tables e below (s₁.setTop (mkF m 12 #[.val (.long xv), .second, .val (.long ((xv ^^^ ((xv.toUInt64 >>> ((31 : Int32) &&& 0x3f).toInt64.toUInt64).toInt64)) ^^^ ((xv.toUInt64 >>> ((62 : Int32) &&& 0x3f).toInt64.toUInt64).toInt64))), .second] [])) t → Steps p.tables e below (s₁.setTop (entryFrame m #[(.long xv)] 4)) t := by
    intro t k
    refine pre0 t ?_
    refine XS.lloadN X0.here hx rfl (hb hby d4_0) rfl ?_
    show Steps p.tables e below (s₁.setTop (mkF m 1 #[.val (.long xv), .second, .unset, .unset] [(.long xv)])) _
    refine XS.lloadN X0.here hx rfl (hb hby d4_1) rfl ?_
    show Steps p.tables e below (s₁.setTop (mkF m 2 #[.val (.long xv), .second, .unset, .unset] [(.long xv), (.long xv)])) _
    refine XS.bipush X0.here hx rfl (hb hby d4_2) ?_
    show Steps p.tables e below (s₁.setTop (mkF m 4 #[.val (.long xv), .second, .unset, .unset] [(.int (31 : Int32)), (.long xv), (.long xv)])) _
    refine XS.lushr X0.here hx rfl (hb hby d4_4) rfl ?_
    show Steps p.tables e below (s₁.setTop (mkF m 5 #[.val (.long xv), .second, .unset, .unset] [(.long ((xv.toUInt64 >>> ((31 : Int32) &&& 0x3f).toInt64.toUInt64).toInt64)), (.long xv)])) _
    refine XS.lxor X0.here hx rfl (hb hby d4_5) rfl ?_
    show Steps p.tables e below (s₁.setTop (mkF m 6 #[.val (.long xv), .second, .unset, .unset] [(.long (xv ^^^ ((xv.toUInt64 >>> ((31 : Int32) &&& 0x3f).toInt64.toUInt64).toInt64)))])) _
    refine XS.lloadN X0.here hx rfl (hb hby d4_6) rfl ?_
    show Steps p.tables e below (s₁.setTop (mkF m 7 #[.val (.long xv), .second, .unset, .unset] [(.long xv), (.long (xv ^^^ ((xv.toUInt64 >>> ((31 : Int32) &&& 0x3f).toInt64.toUInt64).toInt64)))])) _
    refine XS.bipush X0.here hx rfl (hb hby d4_7) ?_
    show Steps p.tables e below (s₁.setTop (mkF m 9 #[.val (.long xv), .second, .unset, .unset] [(.int (62 : Int32)), (.long xv), (.long (xv ^^^ ((xv.toUInt64 >>> ((31 : Int32) &&& 0x3f).toInt64.toUInt64).toInt64)))])) _
    refine XS.lushr X0.here hx rfl (hb hby d4_9) rfl ?_
    show Steps p.tables e below (s₁.setTop (mkF m 10 #[.val (.long xv), .second, .unset, .unset] [(.long ((xv.toUInt64 >>> ((62 : Int32) &&& 0x3f).toInt64.toUInt64).toInt64)), (.long (xv ^^^ ((xv.toUInt64 >>> ((31 : Int32) &&& 0x3f).toInt64.toUInt64).toInt64)))])) _
    refine XS.lxor X0.here hx rfl (hb hby d4_10) rfl ?_
    show Steps p.tables e below (s₁.setTop (mkF m 11 #[.val (.long xv), .second, .unset, .unset] [(.long ((xv ^^^ ((xv.toUInt64 >>> ((31 : Int32) &&& 0x3f).toInt64.toUInt64).toInt64)) ^^^ ((xv.toUInt64 >>> ((62 : Int32) &&& 0x3f).toInt64.toUInt64).toInt64)))])) _
    refine XS.lstoreN X0.here hx rfl (hb hby d4_11) rfl (l' := #[.val (.long xv), .second, .val (.long ((xv ^^^ ((xv.toUInt64 >>> ((31 : Int32) &&& 0x3f).toInt64.toUInt64).toInt64)) ^^^ ((xv.toUInt64 >>> ((62 : Int32) &&& 0x3f).toInt64.toUInt64).toInt64))), .second]) rfl ?_
    show Steps p.tables e below (s₁.setTop (mkF m 12 #[.val (.long xv), .second, .val (.long ((xv ^^^ ((xv.toUInt64 >>> ((31 : Int32) &&& 0x3f).toInt64.toUInt64).toInt64)) ^^^ ((xv.toUInt64 >>> ((62 : Int32) &&& 0x3f).toInt64.toUInt64).toInt64))), .second] [])) _
    exact k
  obtain ⟨z1, hz1⟩ : ∃ z : Int64, z = ((xv ^^^ ((xv.toUInt64 >>> ((31 : Int32) &&& 0x3f).toInt64.toUInt64).toInt64)) ^^^ ((xv.toUInt64 >>> ((62 : Int32) &&& 0x3f).toInt64.toUInt64).toInt64)) := ⟨_, rfl⟩
  rw [← hz1] at pre1
  have pre2 : ∀ t, Steps p.tables e below (s₁.setTop (mkF m 16 #[.val (.long xv), .second, .val (.long z1), .second] [(.long (-7723592293110705685 : Int64)), (.long z1)])) t → Steps p.tables e below (s₁.setTop (entryFrame m #[(.long xv)] 4)) t := by
    intro t k
    refine pre1 t ?_
    refine XS.lloadN X0.here hx rfl (hb hby d4_12) rfl ?_
    show Steps p.tables e below (s₁.setTop (mkF m 13 #[.val (.long xv), .second, .val (.long z1), .second] [(.long z1)])) _
    refine X0.ldc2Long hx hown (mvT hZ (hw _ (List.mem_of_getElem? (i := 23) rfl))) (g := (mkF m 13 #[.val (.long xv), .second, .val (.long z1), .second] [(.long z1)])) rfl (hb hby d4_13) _ ?_
    show Steps p.tables e below (s₁.setTop (mkF m 16 #[.val (.long xv), .second, .val (.long z1), .second] [(.long (-7723592293110705685 : Int64)), (.long z1)])) _
    exact k
  obtain ⟨_, _, ⟨T3, L3, k3, n3⟩, -, X3, ⟨Lc3, hQ3, l3, y3, z3⟩, st3⟩ := Jvm.LawKit.callS X0 hx (y := (⟨"com/example/suitor/suitor/SplitMix64NextLongPinLaw", "inverse", "(J)J"⟩ : MethodName)) hown (mvT hZ (hw _ (List.mem_of_getElem? (i := 24) rfl))) (mvT hZ (hw _ (List.mem_of_getElem? (i := 25) rfl))) (mvT hZ (hw _ (List.mem_of_getElem? (i := 21) rfl))) (mvT hZ (hw _ (List.mem_of_getElem? (i := 26) rfl))) (by decide) (backOf (W := 2) (rm_inverse l Z a0 hw [] (-7723592293110705685 : Int64) h0 n0 Z0 ) hZ (hw _ (List.mem_of_getElem? (i := 26) rfl)) (hw _ (List.mem_of_getElem? (i := 21) rfl)) (by decide) (by decide)) (g := (mkF m 16 #[.val (.long xv), .second, .val (.long z1), .second] [(.long (-7723592293110705685 : Int64)), (.long z1)])) rfl (by rw [hml]; rfl) (argsL := [(.long (-7723592293110705685 : Int64))]) (rest := [(.long z1)]) (lenOf pd0 rfl) rfl (by show 2 * 0 + _ ≤ _; exact Nat.le_of_eq rfl) (hb hby d4_16) (fun _ _ => ⟨rfl, e0, (by decide : 0 + 0 ≤ _), (by decide : 0 + 0 ≤ _)⟩)
  dsimp only [Pt.U, Pt.locs, Pt.cells, Pt.slots] at X3 l3 y3 z3 st3 hQ3
  subst l3 y3 z3
  obtain ⟨rfl, M3, e3⟩ := hQ3
  have N3 := Fr.app N0 M3
  have pre4 : ∀ t, Steps p.tables e below (T3.setTop (mkF m 19 #[.val (.long xv), .second, .val (.long z1), .second] [(.long (own_inv (-7723592293110705685 : Int64))), (.long z1)])) t → Steps p.tables e below (s₁.setTop (entryFrame m #[(.long xv)] 4)) t := fun t k => pre2 t (st3 t k)
  have pre5 : ∀ t, Steps p.tables e below (T3.setTop (mkF m 21 #[.val (.long xv), .second, .val (.long (z1 * (own_inv (-7723592293110705685 : Int64)))), .second] [])) t → Steps p.tables e below (s₁.setTop (entryFrame m #[(.long xv)] 4)) t := by
    intro t k
    refine pre4 t ?_
    refine XS.lmul X3.here hx rfl (hb hby d4_19) rfl ?_
    show Steps p.tables e below (T3.setTop (mkF m 20 #[.val (.long xv), .second, .val (.long z1), .second] [(.long (z1 * (own_inv (-7723592293110705685 : Int64))))])) _
    refine XS.lstoreN X3.here hx rfl (hb hby d4_20) rfl (l' := #[.val (.long xv), .second, .val (.long (z1 * (own_inv (-7723592293110705685 : Int64)))), .second]) rfl ?_
    show Steps p.tables e below (T3.setTop (mkF m 21 #[.val (.long xv), .second, .val (.long (z1 * (own_inv (-7723592293110705685 : Int64)))), .second] [])) _
    exact k
  obtain ⟨z2, hz2⟩ : ∃ z : Int64, z = (z1 * (own_inv (-7723592293110705685 : Int64))) := ⟨_, rfl⟩
  rw [← hz2] at pre5
  have pre6 : ∀ t, Steps p.tables e below (T3.setTop (mkF m 33 #[.val (.long xv), .second, .val (.long ((z2 ^^^ ((z2.toUInt64 >>> ((27 : Int32) &&& 0x3f).toInt64.toUInt64).toInt64)) ^^^ ((z2.toUInt64 >>> ((54 : Int32) &&& 0x3f).toInt64.toUInt64).toInt64))), .second] [])) t → Steps p.tables e below (s₁.setTop (entryFrame m #[(.long xv)] 4)) t := by
    intro t k
    refine pre5 t ?_
    refine XS.lloadN X3.here hx rfl (hb hby d4_21) rfl ?_
    show Steps p.tables e below (T3.setTop (mkF m 22 #[.val (.long xv), .second, .val (.long z2), .second] [(.long z2)])) _
    refine XS.lloadN X3.here hx rfl (hb hby d4_22) rfl ?_
    show Steps p.tables e below (T3.setTop (mkF m 23 #[.val (.long xv), .second, .val (.long z2), .second] [(.long z2), (.long z2)])) _
    refine XS.bipush X3.here hx rfl (hb hby d4_23) ?_
    show Steps p.tables e below (T3.setTop (mkF m 25 #[.val (.long xv), .second, .val (.long z2), .second] [(.int (27 : Int32)), (.long z2), (.long z2)])) _
    refine XS.lushr X3.here hx rfl (hb hby d4_25) rfl ?_
    show Steps p.tables e below (T3.setTop (mkF m 26 #[.val (.long xv), .second, .val (.long z2), .second] [(.long ((z2.toUInt64 >>> ((27 : Int32) &&& 0x3f).toInt64.toUInt64).toInt64)), (.long z2)])) _
    refine XS.lxor X3.here hx rfl (hb hby d4_26) rfl ?_
    show Steps p.tables e below (T3.setTop (mkF m 27 #[.val (.long xv), .second, .val (.long z2), .second] [(.long (z2 ^^^ ((z2.toUInt64 >>> ((27 : Int32) &&& 0x3f).toInt64.toUInt64).toInt64)))])) _
    refine XS.lloadN X3.here hx rfl (hb hby d4_27) rfl ?_
    show Steps p.tables e below (T3.setTop (mkF m 28 #[.val (.long xv), .second, .val (.long z2), .second] [(.long z2), (.long (z2 ^^^ ((z2.toUInt64 >>> ((27 : Int32) &&& 0x3f).toInt64.toUInt64).toInt64)))])) _
    refine XS.bipush X3.here hx rfl (hb hby d4_28) ?_
    show Steps p.tables e below (T3.setTop (mkF m 30 #[.val (.long xv), .second, .val (.long z2), .second] [(.int (54 : Int32)), (.long z2), (.long (z2 ^^^ ((z2.toUInt64 >>> ((27 : Int32) &&& 0x3f).toInt64.toUInt64).toInt64)))])) _
    refine XS.lushr X3.here hx rfl (hb hby d4_30) rfl ?_
    show Steps p.tables e below (T3.setTop (mkF m 31 #[.val (.long xv), .second, .val (.long z2), .second] [(.long ((z2.toUInt64 >>> ((54 : Int32) &&& 0x3f).toInt64.toUInt64).toInt64)), (.long (z2 ^^^ ((z2.toUInt64 >>> ((27 : Int32) &&& 0x3f).toInt64.toUInt64).toInt64)))])) _
    refine XS.lxor X3.here hx rfl (hb hby d4_31) rfl ?_
    show Steps p.tables e below (T3.setTop (mkF m 32 #[.val (.long xv), .second, .val (.long z2), .second] [(.long ((z2 ^^^ ((z2.toUInt64 >>> ((27 : Int32) &&& 0x3f).toInt64.toUInt64).toInt64)) ^^^ ((z2.toUInt64 >>> ((54 : Int32) &&& 0x3f).toInt64.toUInt64).toInt64)))])) _
    refine XS.lstoreN X3.here hx rfl (hb hby d4_32) rfl (l' := #[.val (.long xv), .second, .val (.long ((z2 ^^^ ((z2.toUInt64 >>> ((27 : Int32) &&& 0x3f).toInt64.toUInt64).toInt64)) ^^^ ((z2.toUInt64 >>> ((54 : Int32) &&& 0x3f).toInt64.toUInt64).toInt64))), .second]) rfl ?_
    show Steps p.tables e below (T3.setTop (mkF m 33 #[.val (.long xv), .second, .val (.long ((z2 ^^^ ((z2.toUInt64 >>> ((27 : Int32) &&& 0x3f).toInt64.toUInt64).toInt64)) ^^^ ((z2.toUInt64 >>> ((54 : Int32) &&& 0x3f).toInt64.toUInt64).toInt64))), .second] [])) _
    exact k
  obtain ⟨z3, hz3⟩ : ∃ z : Int64, z = ((z2 ^^^ ((z2.toUInt64 >>> ((27 : Int32) &&& 0x3f).toInt64.toUInt64).toInt64)) ^^^ ((z2.toUInt64 >>> ((54 : Int32) &&& 0x3f).toInt64.toUInt64).toInt64)) := ⟨_, rfl⟩
  rw [← hz3] at pre6
  have pre7 : ∀ t, Steps p.tables e below (T3.setTop (mkF m 37 #[.val (.long xv), .second, .val (.long z3), .second] [(.long (-4658895280553007687 : Int64)), (.long z3)])) t → Steps p.tables e below (s₁.setTop (entryFrame m #[(.long xv)] 4)) t := by
    intro t k
    refine pre6 t ?_
    refine XS.lloadN X3.here hx rfl (hb hby d4_33) rfl ?_
    show Steps p.tables e below (T3.setTop (mkF m 34 #[.val (.long xv), .second, .val (.long z3), .second] [(.long z3)])) _
    refine X3.ldc2Long hx hown (mvT hZ (hw _ (List.mem_of_getElem? (i := 28) rfl))) (g := (mkF m 34 #[.val (.long xv), .second, .val (.long z3), .second] [(.long z3)])) rfl (hb hby d4_34) _ ?_
    show Steps p.tables e below (T3.setTop (mkF m 37 #[.val (.long xv), .second, .val (.long z3), .second] [(.long (-4658895280553007687 : Int64)), (.long z3)])) _
    exact k
  obtain ⟨_, _, ⟨T8, L8, k8, n8⟩, -, X8, ⟨Lc8, hQ8, l8, y8, z8⟩, st8⟩ := Jvm.LawKit.callS X3 hx (y := (⟨"com/example/suitor/suitor/SplitMix64NextLongPinLaw", "inverse", "(J)J"⟩ : MethodName)) hown (mvT hZ (hw _ (List.mem_of_getElem? (i := 24) rfl))) (mvT hZ (hw _ (List.mem_of_getElem? (i := 25) rfl))) (mvT hZ (hw _ (List.mem_of_getElem? (i := 21) rfl))) (mvT hZ (hw _ (List.mem_of_getElem? (i := 26) rfl))) (by decide) (backOf (W := 2) (rm_inverse l Z a0 hw [] (-4658895280553007687 : Int64) h0 n0 Z0 ) hZ (hw _ (List.mem_of_getElem? (i := 26) rfl)) (hw _ (List.mem_of_getElem? (i := 21) rfl)) (by decide) (by decide)) (g := (mkF m 37 #[.val (.long xv), .second, .val (.long z3), .second] [(.long (-4658895280553007687 : Int64)), (.long z3)])) rfl (by rw [hml]; rfl) (argsL := [(.long (-4658895280553007687 : Int64))]) (rest := [(.long z3)]) (lenOf pd0 rfl) rfl (by show 2 * 0 + _ ≤ _; exact Nat.le_of_eq rfl) (hb hby d4_37) (fun _ _ => ⟨rfl, e3, (by decide : 0 + 0 ≤ _), (by decide : 0 + 0 ≤ _)⟩)
  dsimp only [Pt.U, Pt.locs, Pt.cells, Pt.slots] at X8 l8 y8 z8 st8 hQ8
  subst l8 y8 z8
  obtain ⟨rfl, M8, e8⟩ := hQ8
  have N8 := Fr.app N3 M8
  have pre9 : ∀ t, Steps p.tables e below (T8.setTop (mkF m 40 #[.val (.long xv), .second, .val (.long z3), .second] [(.long (own_inv (-4658895280553007687 : Int64))), (.long z3)])) t → Steps p.tables e below (s₁.setTop (entryFrame m #[(.long xv)] 4)) t := fun t k => pre7 t (st8 t k)
  have pre10 : ∀ t, Steps p.tables e below (T8.setTop (mkF m 42 #[.val (.long xv), .second, .val (.long (z3 * (own_inv (-4658895280553007687 : Int64)))), .second] [])) t → Steps p.tables e below (s₁.setTop (entryFrame m #[(.long xv)] 4)) t := by
    intro t k
    refine pre9 t ?_
    refine XS.lmul X8.here hx rfl (hb hby d4_40) rfl ?_
    show Steps p.tables e below (T8.setTop (mkF m 41 #[.val (.long xv), .second, .val (.long z3), .second] [(.long (z3 * (own_inv (-4658895280553007687 : Int64))))])) _
    refine XS.lstoreN X8.here hx rfl (hb hby d4_41) rfl (l' := #[.val (.long xv), .second, .val (.long (z3 * (own_inv (-4658895280553007687 : Int64)))), .second]) rfl ?_
    show Steps p.tables e below (T8.setTop (mkF m 42 #[.val (.long xv), .second, .val (.long (z3 * (own_inv (-4658895280553007687 : Int64)))), .second] [])) _
    exact k
  obtain ⟨z4, hz4⟩ : ∃ z : Int64, z = (z3 * (own_inv (-4658895280553007687 : Int64))) := ⟨_, rfl⟩
  rw [← hz4] at pre10
  have pre11 : ∀ t, Steps p.tables e below (T8.setTop (mkF m 54 #[.val (.long xv), .second, .val (.long ((z4 ^^^ ((z4.toUInt64 >>> ((30 : Int32) &&& 0x3f).toInt64.toUInt64).toInt64)) ^^^ ((z4.toUInt64 >>> ((60 : Int32) &&& 0x3f).toInt64.toUInt64).toInt64))), .second] [])) t → Steps p.tables e below (s₁.setTop (entryFrame m #[(.long xv)] 4)) t := by
    intro t k
    refine pre10 t ?_
    refine XS.lloadN X8.here hx rfl (hb hby d4_42) rfl ?_
    show Steps p.tables e below (T8.setTop (mkF m 43 #[.val (.long xv), .second, .val (.long z4), .second] [(.long z4)])) _
    refine XS.lloadN X8.here hx rfl (hb hby d4_43) rfl ?_
    show Steps p.tables e below (T8.setTop (mkF m 44 #[.val (.long xv), .second, .val (.long z4), .second] [(.long z4), (.long z4)])) _
    refine XS.bipush X8.here hx rfl (hb hby d4_44) ?_
    show Steps p.tables e below (T8.setTop (mkF m 46 #[.val (.long xv), .second, .val (.long z4), .second] [(.int (30 : Int32)), (.long z4), (.long z4)])) _
    refine XS.lushr X8.here hx rfl (hb hby d4_46) rfl ?_
    show Steps p.tables e below (T8.setTop (mkF m 47 #[.val (.long xv), .second, .val (.long z4), .second] [(.long ((z4.toUInt64 >>> ((30 : Int32) &&& 0x3f).toInt64.toUInt64).toInt64)), (.long z4)])) _
    refine XS.lxor X8.here hx rfl (hb hby d4_47) rfl ?_
    show Steps p.tables e below (T8.setTop (mkF m 48 #[.val (.long xv), .second, .val (.long z4), .second] [(.long (z4 ^^^ ((z4.toUInt64 >>> ((30 : Int32) &&& 0x3f).toInt64.toUInt64).toInt64)))])) _
    refine XS.lloadN X8.here hx rfl (hb hby d4_48) rfl ?_
    show Steps p.tables e below (T8.setTop (mkF m 49 #[.val (.long xv), .second, .val (.long z4), .second] [(.long z4), (.long (z4 ^^^ ((z4.toUInt64 >>> ((30 : Int32) &&& 0x3f).toInt64.toUInt64).toInt64)))])) _
    refine XS.bipush X8.here hx rfl (hb hby d4_49) ?_
    show Steps p.tables e below (T8.setTop (mkF m 51 #[.val (.long xv), .second, .val (.long z4), .second] [(.int (60 : Int32)), (.long z4), (.long (z4 ^^^ ((z4.toUInt64 >>> ((30 : Int32) &&& 0x3f).toInt64.toUInt64).toInt64)))])) _
    refine XS.lushr X8.here hx rfl (hb hby d4_51) rfl ?_
    show Steps p.tables e below (T8.setTop (mkF m 52 #[.val (.long xv), .second, .val (.long z4), .second] [(.long ((z4.toUInt64 >>> ((60 : Int32) &&& 0x3f).toInt64.toUInt64).toInt64)), (.long (z4 ^^^ ((z4.toUInt64 >>> ((30 : Int32) &&& 0x3f).toInt64.toUInt64).toInt64)))])) _
    refine XS.lxor X8.here hx rfl (hb hby d4_52) rfl ?_
    show Steps p.tables e below (T8.setTop (mkF m 53 #[.val (.long xv), .second, .val (.long z4), .second] [(.long ((z4 ^^^ ((z4.toUInt64 >>> ((30 : Int32) &&& 0x3f).toInt64.toUInt64).toInt64)) ^^^ ((z4.toUInt64 >>> ((60 : Int32) &&& 0x3f).toInt64.toUInt64).toInt64)))])) _
    refine XS.lstoreN X8.here hx rfl (hb hby d4_53) rfl (l' := #[.val (.long xv), .second, .val (.long ((z4 ^^^ ((z4.toUInt64 >>> ((30 : Int32) &&& 0x3f).toInt64.toUInt64).toInt64)) ^^^ ((z4.toUInt64 >>> ((60 : Int32) &&& 0x3f).toInt64.toUInt64).toInt64))), .second]) rfl ?_
    show Steps p.tables e below (T8.setTop (mkF m 54 #[.val (.long xv), .second, .val (.long ((z4 ^^^ ((z4.toUInt64 >>> ((30 : Int32) &&& 0x3f).toInt64.toUInt64).toInt64)) ^^^ ((z4.toUInt64 >>> ((60 : Int32) &&& 0x3f).toInt64.toUInt64).toInt64))), .second] [])) _
    exact k
  obtain ⟨z5, hz5⟩ : ∃ z : Int64, z = ((z4 ^^^ ((z4.toUInt64 >>> ((30 : Int32) &&& 0x3f).toInt64.toUInt64).toInt64)) ^^^ ((z4.toUInt64 >>> ((60 : Int32) &&& 0x3f).toInt64.toUInt64).toInt64)) := ⟨_, rfl⟩
  rw [← hz5] at pre11
  have pre12 : ∀ t, Steps p.tables e below (T8.setTop (mkF m 55 #[.val (.long xv), .second, .val (.long z5), .second] [(.long z5)])) t → Steps p.tables e below (s₁.setTop (entryFrame m #[(.long xv)] 4)) t := by
    intro t k
    refine pre11 t ?_
    refine XS.lloadN X8.here hx rfl (hb hby d4_54) rfl ?_
    show Steps p.tables e below (T8.setTop (mkF m 55 #[.val (.long xv), .second, .val (.long z5), .second] [(.long z5)])) _
    exact k
  obtain ⟨fs, hr, hrun, hended, hW, hsame⟩ := X8.leave (v := some (.long z5)) (fun h => by rw [Bd.returns] at h; cases h)
  refine ⟨_, _, pre12 _ ?_, hrun, hended, _, _, rfl, ?_, ⟨_, rfl⟩, hW, hsame.mono (by decide) (by decide)⟩
  · exact retOut X8 hx Bd.returns rfl (Or.inr (Or.inl ⟨rfl, rfl, _, rfl⟩)) (hb hby d4_55) hr
  · show Q_rm_unmix Z xv h0 n0 _ T8.heap _
    rw [e8]
    exact ⟨congrArg (fun z => some (Value.long z)) (show z5 = (own_unmix xv) from by rw [hz5, hz4, hz3, hz2, hz1]; rfl), N8, rfl⟩
theorem own_sh (z : Int64) (k : Nat) (q : Int32) (hk : q.toBitVec.toNat % 64 = k) : ((z.toUInt64 >>> (q &&& 0x3f).toInt64.toUInt64).toInt64).toBitVec = z.toBitVec >>> k := by
  have h5 := (sm64 q k hk).2
  show z.toBitVec >>> ((q &&& 0x3f).toInt64.toBitVec % 64) = z.toBitVec >>> k
  apply BitVec.eq_of_toNat_eq
  rw [BitVec.ushiftRight_eq', BitVec.toNat_ushiftRight, BitVec.toNat_ushiftRight, BitVec.toNat_umod, (sm64 q k hk).1, BitVec.toNat_ofNat]
  congr 2
  show k % 2 ^ 64 % 64 = k
  omega
theorem own_undo (z : Int64) (q r : Int32) (k : Nat) (hq : q.toBitVec.toNat % 64 = k) (hr : r.toBitVec.toNat % 64 = k + k) (h3 : 64 ≤ k + k + k) : own_us q r (own_xs q z) = z := by
  apply Int64.toBitVec_inj.mp
  unfold own_us
  show ((own_xs q z).toBitVec ^^^ ((own_xs q z).toUInt64 >>> (q &&& 0x3f).toInt64.toUInt64).toInt64.toBitVec) ^^^ ((own_xs q z).toUInt64 >>> (r &&& 0x3f).toInt64.toUInt64).toInt64.toBitVec = z.toBitVec
  rw [own_sh _ k q hq, own_sh _ (k + k) r hr]
  have e : (own_xs q z).toBitVec = z.toBitVec ^^^ (z.toBitVec >>> k) := by
    show z.toBitVec ^^^ ((z.toUInt64 >>> (q &&& 0x3f).toInt64.toUInt64).toInt64).toBitVec = _
    rw [own_sh _ k q hq]
  rw [e]
  apply BitVec.eq_of_getLsbD_eq
  intro i hi
  simp only [BitVec.getLsbD_xor, BitVec.getLsbD_ushiftRight]
  have h1 : z.toBitVec.getLsbD (k + (k + k + i)) = false := BitVec.getLsbD_of_ge _ _ (by omega)
  have h2 : z.toBitVec.getLsbD (k + (k + i)) = z.toBitVec.getLsbD (k + k + i) := by rw [Nat.add_assoc]
  rw [h1, h2]
  cases z.toBitVec.getLsbD i <;> cases z.toBitVec.getLsbD (k + i) <;> cases z.toBitVec.getLsbD (k + k + i) <;> rfl
theorem own_law (z : Int64) : own_unmix (own_mix z) = z := by
  unfold own_unmix own_mix
  rw [own_undo _ 31 62 31 (by decide +kernel) (by decide +kernel) (by decide), Int64.mul_assoc, show (-7723592293110705685 : Int64) * own_inv (-7723592293110705685 : Int64) = 1 from by decide +kernel, Int64.mul_one, own_undo _ 27 54 27 (by decide +kernel) (by decide +kernel) (by decide), Int64.mul_assoc, show (-4658895280553007687 : Int64) * own_inv (-4658895280553007687 : Int64) = 1 from by decide +kernel, Int64.mul_one, own_undo _ 30 60 30 (by decide +kernel) (by decide +kernel) (by decide)]
theorem pd1 : parseMethodDescriptor "(J)V" = some ⟨[.long], none⟩ := by decide +kernel
theorem pd2 : parseMethodDescriptor "()J" = some ⟨[], some .long⟩ := by decide +kernel
theorem ef_rm0 (m : MethodId) (xa : Int64) : entryFrame m #[(.long xa)] maxLocals = mkF m 0 #[.val (.long xa), .second, .unset, .unset, .unset, .unset, .unset] [] := by first | (simp [entryFrame, mkF, argsToLocals, Value.category, maxLocals]; done) | rfl
def Q_rm0 (Z : State) (xa : Int64) (h0 : Heap) (n0 : Nat) (v : Option Value) (h : Heap) (L : List Loc) : Prop := v = some (.int (1 : Int32)) ∧ Fr n0 L
set_option maxRecDepth 65536 in
set_option maxHeartbeats 40000000 in
theorem rm0 (l : Launch) (Z : State) (a0 : Array Value) (hw : ∀ d ∈ tables_1, d.before a0 Z = true) (ws : List Jvm.Cond) (xa : Int64) (h0 : Heap) (n0 : Nat) (Z0 : n0 ≤ h0.size) :
    MetFree l x (head1 (Jvm.Cond.code x code maxLocals ret :: ws) room_1) (fun a U => a = #[(.long xa)] ∧ Z.Warmed39 U.vm ∧ U.heap = h0) (fun _ _ _ _ _ => True) (fun _ U o U' => ∃ v L, o = .returned v ∧ Q_rm0 Z xa h0 n0 v U'.heap L ∧ FrameEnd U o U' L room_1.cells room_1.slots) := by
  refine MetFree.of_bodySF (plainFor_of_name pn1) hisR ?_
  intro p e s m args below meth c s₁ Bd hml0 hP hK
  obtain ⟨rfl, hZ, hh⟩ := hP
  have hx := Bd.exec
  have hby := Bd.bytes
  have hml : c.maxLocals = 7 := hml0
  have hown : s.vm.findClass "com/example/suitor/suitor/SplitMix64NextLongPinLaw" = some m.cls := findClass_of_methodNamed Bd.named
  have hnm := (name_of_methodNamed Bd.named Bd.method).1
  have X0 : Stand p l e room_1 s m #[(.long xa)] below meth c s₁ [] 0 0 := Stand.of_body Bd
  have e0 : s₁.heap = h0 := by rw [← hh, Bd.state]; rfl
  have N0 := Fr.nil n0
  have pre0 : ∀ t, Steps p.tables e below (s₁.setTop (mkF m 0 #[.val (.long xa), .second, .unset, .unset, .unset, .unset, .unset] [])) t → Steps p.tables e below (s₁.setTop (entryFrame m #[(.long xa)] maxLocals)) t := fun t k => castTop (ef_rm0 m xa) k
  obtain ⟨T1, h1, X1, e1, E1, A1, D1, -, st1⟩ := newO X0 hx hZ hown (hw _ (List.mem_of_getElem? (i := 0) rfl)) (hw _ (List.mem_of_getElem? (i := 1) rfl)) (hw _ (List.mem_of_getElem? (i := 2) rfl)) e0 (g := (mkF m 0 #[.val (.long xa), .second, .unset, .unset, .unset, .unset, .unset] [])) rfl (hb hby at_0) (by decide) (by decide)
  obtain ⟨b1, g1⟩ : ∃ z, z = h0.size := ⟨_, rfl⟩
  rw [← g1] at A1 D1 st1
  have g_b1 : n0 ≤ b1 := Nat.le_trans Z0 (Nat.le_of_eq g1.symm)
  have sz_b1 : h0.size ≤ b1 := Nat.le_trans (Keep.refl h0 ([] : List Addr)).1 (Nat.le_of_eq g1.symm)
  have K1 : Keep h0 h1 ([] : List Addr) := (Keep.refl h0 ([] : List Addr)).ext E1
  have z1 : n0 ≤ h1.size := Nat.le_trans Z0 K1.1
  have F_state_b1 : Fld Z h1 b1 "com/example/suitor/suitor/SplitMix64" "state" "J" (.long (0 : Int64)) := D1 (Or.inl (hw _ (List.mem_of_getElem? (i := 10) rfl))) (ty := .long) (by decide)
  have pre2 : ∀ t, Steps p.tables e below (T1.setTop (mkF m 3 #[.val (.long xa), .second, .unset, .unset, .unset, .unset, .unset] [(.ref b1)])) t → Steps p.tables e below (s₁.setTop (entryFrame m #[(.long xa)] maxLocals)) t := fun t k => pre0 t (st1 t k)
  have pre3 : ∀ t, Steps p.tables e below (T1.setTop (mkF m 5 #[.val (.long xa), .second, .unset, .unset, .unset, .unset, .unset] [(.long xa), (.ref b1), (.ref b1)])) t → Steps p.tables e below (s₁.setTop (entryFrame m #[(.long xa)] maxLocals)) t := by
    intro t k
    refine pre2 t ?_
    refine XS.dup X1.here hx rfl (hb hby at_3) rfl rfl ?_
    show Steps p.tables e below (T1.setTop (mkF m 4 #[.val (.long xa), .second, .unset, .unset, .unset, .unset, .unset] [(.ref b1), (.ref b1)])) _
    refine XS.lloadN X1.here hx rfl (hb hby at_4) rfl ?_
    show Steps p.tables e below (T1.setTop (mkF m 5 #[.val (.long xa), .second, .unset, .unset, .unset, .unset, .unset] [(.long xa), (.ref b1), (.ref b1)])) _
    exact k
  obtain ⟨_, _, ⟨T4, L4, k4, n4⟩, -, X4, ⟨Lc4, hQ4, l4, y4, z4⟩, st4⟩ := X1.specialBack hx (y := (⟨"com/example/suitor/suitor/SplitMix64", "<init>", "(J)V"⟩ : MethodName)) rfl hown (mvT hZ (hw _ (List.mem_of_getElem? (i := 3) rfl))) (mvT hZ (hw _ (List.mem_of_getElem? (i := 4) rfl))) (mvT hZ (hw _ (List.mem_of_getElem? (i := 5) rfl))) (by decide) (backOf (W := 1) (rm_init l Z a0 hw [] b1 xa h1 n0 z1 A1 (g_b1) F_state_b1) hZ (hw _ (List.mem_of_getElem? (i := 5) rfl)) (hw _ (List.mem_of_getElem? (i := 2) rfl)) (by decide) (by decide)) (g := (mkF m 5 #[.val (.long xa), .second, .unset, .unset, .unset, .unset, .unset] [(.long xa), (.ref b1), (.ref b1)])) rfl (by rw [hml]; rfl) (Steps.refl _) (a := b1) (argsL := [(.long xa)]) (rest := [(.ref b1)]) (lenOf pd1 rfl) rfl (by show 2 * 0 + _ ≤ _; exact Nat.le_of_eq rfl) (hb hby at_5) (fun _ _ => ⟨rfl, e1, (by decide : 1 + 0 ≤ _), (by decide : 1 + 0 ≤ _)⟩)
  dsimp only [Pt.U, Pt.locs, Pt.cells, Pt.slots] at X4 l4 y4 z4 st4 hQ4
  subst l4 y4 z4
  obtain ⟨rfl, M4, kp4, f4_0, f4_1⟩ := hQ4
  have K4 : Keep h0 T4.heap ([] : List Addr) := K1.trans kp4 (allS (P := fun x => x ∈ ([] : List Addr) ∨ h0.size ≤ x) (Or.inr sz_b1) all0)
  have zz4 : n0 ≤ T4.heap.size := Nat.le_trans Z0 K4.1
  have N4 := Fr.app N0 M4
  have pre5 : ∀ t, Steps p.tables e below (T4.setTop (mkF m 8 #[.val (.long xa), .second, .unset, .unset, .unset, .unset, .unset] [(.ref b1)])) t → Steps p.tables e below (s₁.setTop (entryFrame m #[(.long xa)] maxLocals)) t := fun t k => pre3 t (st4.trans k)
  have pre6 : ∀ t, Steps p.tables e below (T4.setTop (mkF m 10 #[.val (.long xa), .second, .val (.ref b1), .unset, .unset, .unset, .unset] [(.ref b1)])) t → Steps p.tables e below (s₁.setTop (entryFrame m #[(.long xa)] maxLocals)) t := by
    intro t k
    refine pre5 t ?_
    refine XS.astoreN X4.here hx rfl (hb hby at_8) rfl rfl (l' := #[.val (.long xa), .second, .val (.ref b1), .unset, .unset, .unset, .unset]) rfl ?_
    show Steps p.tables e below (T4.setTop (mkF m 9 #[.val (.long xa), .second, .val (.ref b1), .unset, .unset, .unset, .unset] [])) _
    refine XS.aloadN X4.here hx rfl (hb hby at_9) rfl rfl ?_
    show Steps p.tables e below (T4.setTop (mkF m 10 #[.val (.long xa), .second, .val (.ref b1), .unset, .unset, .unset, .unset] [(.ref b1)])) _
    exact k
  obtain ⟨cq7, kq7, q7a, q7b, q7c⟩ := isOf hZ rfl f4_0
  obtain ⟨_, _, ⟨T7, L7, k7, n7⟩, -, X7, ⟨Lc7, hQ7, l7, y7, z7⟩, st7⟩ := X4.virtualBack hx (y := (⟨"com/example/suitor/suitor/SplitMix64", "nextLong", "()J"⟩ : MethodName)) (z := (⟨"com/example/suitor/suitor/SplitMix64", "nextLong", "()J"⟩ : MethodName)) hown (mvT hZ (hw _ (List.mem_of_getElem? (i := 11) rfl))) (mvT hZ (hw _ (List.mem_of_getElem? (i := 12) rfl))) (notFace_of_selects (args := #[]) (mvT hZ (hw _ (List.mem_of_getElem? (i := 14) rfl)))) (mvT hZ (hw _ (List.mem_of_getElem? (i := 14) rfl))) (mvT hZ (hw _ (List.mem_of_getElem? (i := 13) rfl))) (by decide) (backOf (W := 0) (rm_next l Z a0 hw [] b1 xa T4.heap n0 zz4 f4_0 (g_b1) f4_1) hZ (hw _ (List.mem_of_getElem? (i := 15) rfl)) (hw _ (List.mem_of_getElem? (i := 2) rfl)) (by decide) (by decide)) q7a q7c (g := (mkF m 10 #[.val (.long xa), .second, .val (.ref b1), .unset, .unset, .unset, .unset] [(.ref b1)])) rfl (by rw [hml]; rfl) (Steps.refl _) (argsL := []) (rest := []) (lenOf pd2 rfl) rfl (by show 2 * 0 + _ ≤ _; exact Nat.le_of_eq rfl) (hb hby at_10) (fun _ _ => ⟨rfl, rfl, (by decide : 1 + 0 ≤ _), (by decide : 1 + 0 ≤ _)⟩)
  dsimp only [Pt.U, Pt.locs, Pt.cells, Pt.slots] at X7 l7 y7 z7 st7 hQ7
  subst l7 y7 z7
  obtain ⟨rfl, M7, kp7, f7_0, f7_1⟩ := hQ7
  have K7 : Keep h0 T7.heap ([] : List Addr) := K4.trans kp7 (allS (P := fun x => x ∈ ([] : List Addr) ∨ h0.size ≤ x) (Or.inr sz_b1) all0)
  have zz7 : n0 ≤ T7.heap.size := Nat.le_trans Z0 K7.1
  have N7 := Fr.app N4 M7
  have pre8 : ∀ t, Steps p.tables e below (T7.setTop (mkF m 13 #[.val (.long xa), .second, .val (.ref b1), .unset, .unset, .unset, .unset] [(.long (own_mix (xa + (-7046029254386353131 : Int64))))])) t → Steps p.tables e below (s₁.setTop (entryFrame m #[(.long xa)] maxLocals)) t := fun t k => pre6 t (st7.trans k)
  have pre9 : ∀ t, Steps p.tables e below (T7.setTop (mkF m 15 #[.val (.long xa), .second, .val (.ref b1), .val (.long (own_mix (xa + (-7046029254386353131 : Int64)))), .second, .unset, .unset] [(.ref b1)])) t → Steps p.tables e below (s₁.setTop (entryFrame m #[(.long xa)] maxLocals)) t := by
    intro t k
    refine pre8 t ?_
    refine XS.lstoreN X7.here hx rfl (hb hby at_13) rfl (l' := #[.val (.long xa), .second, .val (.ref b1), .val (.long (own_mix (xa + (-7046029254386353131 : Int64)))), .second, .unset, .unset]) rfl ?_
    show Steps p.tables e below (T7.setTop (mkF m 14 #[.val (.long xa), .second, .val (.ref b1), .val (.long (own_mix (xa + (-7046029254386353131 : Int64)))), .second, .unset, .unset] [])) _
    refine XS.aloadN X7.here hx rfl (hb hby at_14) rfl rfl ?_
    show Steps p.tables e below (T7.setTop (mkF m 15 #[.val (.long xa), .second, .val (.ref b1), .val (.long (own_mix (xa + (-7046029254386353131 : Int64)))), .second, .unset, .unset] [(.ref b1)])) _
    exact k
  obtain ⟨cq10, kq10, q10a, q10b, q10c⟩ := isOf hZ rfl f7_0
  obtain ⟨_, _, ⟨T10, L10, k10, n10⟩, -, X10, ⟨Lc10, hQ10, l10, y10, z10⟩, st10⟩ := X7.virtualBack hx (y := (⟨"com/example/suitor/suitor/SplitMix64", "nextLong", "()J"⟩ : MethodName)) (z := (⟨"com/example/suitor/suitor/SplitMix64", "nextLong", "()J"⟩ : MethodName)) hown (mvT hZ (hw _ (List.mem_of_getElem? (i := 11) rfl))) (mvT hZ (hw _ (List.mem_of_getElem? (i := 12) rfl))) (notFace_of_selects (args := #[]) (mvT hZ (hw _ (List.mem_of_getElem? (i := 14) rfl)))) (mvT hZ (hw _ (List.mem_of_getElem? (i := 14) rfl))) (mvT hZ (hw _ (List.mem_of_getElem? (i := 13) rfl))) (by decide) (backOf (W := 0) (rm_next l Z a0 hw [] b1 (xa + (-7046029254386353131 : Int64)) T7.heap n0 zz7 f7_0 (g_b1) f7_1) hZ (hw _ (List.mem_of_getElem? (i := 15) rfl)) (hw _ (List.mem_of_getElem? (i := 2) rfl)) (by decide) (by decide)) q10a q10c (g := (mkF m 15 #[.val (.long xa), .second, .val (.ref b1), .val (.long (own_mix (xa + (-7046029254386353131 : Int64)))), .second, .unset, .unset] [(.ref b1)])) rfl (by rw [hml]; rfl) (Steps.refl _) (argsL := []) (rest := []) (lenOf pd2 rfl) rfl (by show 2 * 0 + _ ≤ _; exact Nat.le_of_eq rfl) (hb hby at_15) (fun _ _ => ⟨rfl, rfl, (by decide : 1 + 0 ≤ _), (by decide : 1 + 0 ≤ _)⟩)
  dsimp only [Pt.U, Pt.locs, Pt.cells, Pt.slots] at X10 l10 y10 z10 st10 hQ10
  subst l10 y10 z10
  obtain ⟨rfl, M10, kp10, f10_0, f10_1⟩ := hQ10
  have K10 : Keep h0 T10.heap ([] : List Addr) := K7.trans kp10 (allS (P := fun x => x ∈ ([] : List Addr) ∨ h0.size ≤ x) (Or.inr sz_b1) all0)
  have zz10 : n0 ≤ T10.heap.size := Nat.le_trans Z0 K10.1
  have N10 := Fr.app N7 M10
  have pre11 : ∀ t, Steps p.tables e below (T10.setTop (mkF m 18 #[.val (.long xa), .second, .val (.ref b1), .val (.long (own_mix (xa + (-7046029254386353131 : Int64)))), .second, .unset, .unset] [(.long (own_mix ((xa + (-7046029254386353131 : Int64)) + (-7046029254386353131 : Int64))))])) t → Steps p.tables e below (s₁.setTop (entryFrame m #[(.long xa)] maxLocals)) t := fun t k => pre9 t (st10.trans k)
  have pre12 : ∀ t, Steps p.tables e below (T10.setTop (mkF m 21 #[.val (.long xa), .second, .val (.ref b1), .val (.long (own_mix (xa + (-7046029254386353131 : Int64)))), .second, .val (.long (own_mix ((xa + (-7046029254386353131 : Int64)) + (-7046029254386353131 : Int64)))), .second] [(.long (own_mix (xa + (-7046029254386353131 : Int64))))])) t → Steps p.tables e below (s₁.setTop (entryFrame m #[(.long xa)] maxLocals)) t := by
    intro t k
    refine pre11 t ?_
    refine XS.lstore X10.here hx rfl (hb hby at_18) rfl (l' := #[.val (.long xa), .second, .val (.ref b1), .val (.long (own_mix (xa + (-7046029254386353131 : Int64)))), .second, .val (.long (own_mix ((xa + (-7046029254386353131 : Int64)) + (-7046029254386353131 : Int64)))), .second]) rfl ?_
    show Steps p.tables e below (T10.setTop (mkF m 20 #[.val (.long xa), .second, .val (.ref b1), .val (.long (own_mix (xa + (-7046029254386353131 : Int64)))), .second, .val (.long (own_mix ((xa + (-7046029254386353131 : Int64)) + (-7046029254386353131 : Int64)))), .second] [])) _
    refine XS.lloadN X10.here hx rfl (hb hby at_20) rfl ?_
    show Steps p.tables e below (T10.setTop (mkF m 21 #[.val (.long xa), .second, .val (.ref b1), .val (.long (own_mix (xa + (-7046029254386353131 : Int64)))), .second, .val (.long (own_mix ((xa + (-7046029254386353131 : Int64)) + (-7046029254386353131 : Int64)))), .second] [(.long (own_mix (xa + (-7046029254386353131 : Int64))))])) _
    exact k
  obtain ⟨_, _, ⟨T13, L13, k13, n13⟩, -, X13, ⟨Lc13, hQ13, l13, y13, z13⟩, st13⟩ := Jvm.LawKit.callS X10 hx (y := (⟨"com/example/suitor/suitor/SplitMix64NextLongPinLaw", "unmix", "(J)J"⟩ : MethodName)) hown (mvT hZ (hw _ (List.mem_of_getElem? (i := 19) rfl))) (mvT hZ (hw _ (List.mem_of_getElem? (i := 20) rfl))) (mvT hZ (hw _ (List.mem_of_getElem? (i := 21) rfl))) (mvT hZ (hw _ (List.mem_of_getElem? (i := 22) rfl))) (by decide) (backOf (W := 0) (rm_unmix l Z a0 hw [] (own_mix (xa + (-7046029254386353131 : Int64))) T10.heap n0 zz10 ) hZ (hw _ (List.mem_of_getElem? (i := 22) rfl)) (hw _ (List.mem_of_getElem? (i := 21) rfl)) (by decide) (by decide)) (g := (mkF m 21 #[.val (.long xa), .second, .val (.ref b1), .val (.long (own_mix (xa + (-7046029254386353131 : Int64)))), .second, .val (.long (own_mix ((xa + (-7046029254386353131 : Int64)) + (-7046029254386353131 : Int64)))), .second] [(.long (own_mix (xa + (-7046029254386353131 : Int64))))])) rfl (by rw [hml]; rfl) (argsL := [(.long (own_mix (xa + (-7046029254386353131 : Int64))))]) (rest := []) (lenOf pd0 rfl) rfl (by show 2 * 0 + _ ≤ _; exact Nat.le_of_eq rfl) (hb hby at_21) (fun _ _ => ⟨rfl, rfl, (by decide : 1 + 0 ≤ _), (by decide : 1 + 0 ≤ _)⟩)
  dsimp only [Pt.U, Pt.locs, Pt.cells, Pt.slots] at X13 l13 y13 z13 st13 hQ13
  subst l13 y13 z13
  obtain ⟨rfl, M13, e13⟩ := hQ13
  have N13 := Fr.app N10 M13
  have pre14 : ∀ t, Steps p.tables e below (T13.setTop (mkF m 24 #[.val (.long xa), .second, .val (.ref b1), .val (.long (own_mix (xa + (-7046029254386353131 : Int64)))), .second, .val (.long (own_mix ((xa + (-7046029254386353131 : Int64)) + (-7046029254386353131 : Int64)))), .second] [(.long (own_unmix (own_mix (xa + (-7046029254386353131 : Int64)))))])) t → Steps p.tables e below (s₁.setTop (entryFrame m #[(.long xa)] maxLocals)) t := fun t k => pre12 t (st13 t k)
  have pre15 : ∀ t, Steps p.tables e below (T13.setTop (mkF m 35 #[.val (.long xa), .second, .val (.ref b1), .val (.long (own_mix (xa + (-7046029254386353131 : Int64)))), .second, .val (.long (own_mix ((xa + (-7046029254386353131 : Int64)) + (-7046029254386353131 : Int64)))), .second] [(.long (own_mix ((xa + (-7046029254386353131 : Int64)) + (-7046029254386353131 : Int64))))])) t → Steps p.tables e below (s₁.setTop (entryFrame m #[(.long xa)] maxLocals)) t := by
    intro t k
    refine pre14 t ?_
    refine XS.lloadN X13.here hx rfl (hb hby at_24) rfl ?_
    show Steps p.tables e below (T13.setTop (mkF m 25 #[.val (.long xa), .second, .val (.ref b1), .val (.long (own_mix (xa + (-7046029254386353131 : Int64)))), .second, .val (.long (own_mix ((xa + (-7046029254386353131 : Int64)) + (-7046029254386353131 : Int64)))), .second] [(.long xa), (.long (own_unmix (own_mix (xa + (-7046029254386353131 : Int64)))))])) _
    refine X13.ldc2Long hx hown (mvT hZ (hw _ (List.mem_of_getElem? (i := 29) rfl))) (g := (mkF m 25 #[.val (.long xa), .second, .val (.ref b1), .val (.long (own_mix (xa + (-7046029254386353131 : Int64)))), .second, .val (.long (own_mix ((xa + (-7046029254386353131 : Int64)) + (-7046029254386353131 : Int64)))), .second] [(.long xa), (.long (own_unmix (own_mix (xa + (-7046029254386353131 : Int64)))))])) rfl (hb hby at_25) _ ?_
    show Steps p.tables e below (T13.setTop (mkF m 28 #[.val (.long xa), .second, .val (.ref b1), .val (.long (own_mix (xa + (-7046029254386353131 : Int64)))), .second, .val (.long (own_mix ((xa + (-7046029254386353131 : Int64)) + (-7046029254386353131 : Int64)))), .second] [(.long (-7046029254386353131 : Int64)), (.long xa), (.long (own_unmix (own_mix (xa + (-7046029254386353131 : Int64)))))])) _
    refine XS.ladd X13.here hx rfl (hb hby at_28) rfl ?_
    show Steps p.tables e below (T13.setTop (mkF m 29 #[.val (.long xa), .second, .val (.ref b1), .val (.long (own_mix (xa + (-7046029254386353131 : Int64)))), .second, .val (.long (own_mix ((xa + (-7046029254386353131 : Int64)) + (-7046029254386353131 : Int64)))), .second] [(.long (xa + (-7046029254386353131 : Int64))), (.long (own_unmix (own_mix (xa + (-7046029254386353131 : Int64)))))])) _
    refine XS.lcmp X13.here hx rfl (hb hby at_29) rfl ?_
    show Steps p.tables e below (T13.setTop (mkF m 30 #[.val (.long xa), .second, .val (.ref b1), .val (.long (own_mix (xa + (-7046029254386353131 : Int64)))), .second, .val (.long (own_mix ((xa + (-7046029254386353131 : Int64)) + (-7046029254386353131 : Int64)))), .second] [(.int (lcmpW (own_unmix (own_mix (xa + (-7046029254386353131 : Int64)))) (xa + (-7046029254386353131 : Int64))))])) _
    refine XS.ifNo X13.here hx rfl (hb hby at_30) rfl ((if0 _ _).trans (teq ((lw_eq _ _).mpr (show (own_unmix (own_mix (xa + (-7046029254386353131 : Int64)))) = (xa + (-7046029254386353131 : Int64)) from own_law _))).2) ?_
    show Steps p.tables e below (T13.setTop (mkF m 33 #[.val (.long xa), .second, .val (.ref b1), .val (.long (own_mix (xa + (-7046029254386353131 : Int64)))), .second, .val (.long (own_mix ((xa + (-7046029254386353131 : Int64)) + (-7046029254386353131 : Int64)))), .second] [])) _
    refine XS.lload X13.here hx rfl (hb hby at_33) rfl ?_
    show Steps p.tables e below (T13.setTop (mkF m 35 #[.val (.long xa), .second, .val (.ref b1), .val (.long (own_mix (xa + (-7046029254386353131 : Int64)))), .second, .val (.long (own_mix ((xa + (-7046029254386353131 : Int64)) + (-7046029254386353131 : Int64)))), .second] [(.long (own_mix ((xa + (-7046029254386353131 : Int64)) + (-7046029254386353131 : Int64))))])) _
    exact k
  obtain ⟨_, _, ⟨T16, L16, k16, n16⟩, -, X16, ⟨Lc16, hQ16, l16, y16, z16⟩, st16⟩ := Jvm.LawKit.callS X13 hx (y := (⟨"com/example/suitor/suitor/SplitMix64NextLongPinLaw", "unmix", "(J)J"⟩ : MethodName)) hown (mvT hZ (hw _ (List.mem_of_getElem? (i := 19) rfl))) (mvT hZ (hw _ (List.mem_of_getElem? (i := 20) rfl))) (mvT hZ (hw _ (List.mem_of_getElem? (i := 21) rfl))) (mvT hZ (hw _ (List.mem_of_getElem? (i := 22) rfl))) (by decide) (backOf (W := 0) (rm_unmix l Z a0 hw [] (own_mix ((xa + (-7046029254386353131 : Int64)) + (-7046029254386353131 : Int64))) T10.heap n0 zz10 ) hZ (hw _ (List.mem_of_getElem? (i := 22) rfl)) (hw _ (List.mem_of_getElem? (i := 21) rfl)) (by decide) (by decide)) (g := (mkF m 35 #[.val (.long xa), .second, .val (.ref b1), .val (.long (own_mix (xa + (-7046029254386353131 : Int64)))), .second, .val (.long (own_mix ((xa + (-7046029254386353131 : Int64)) + (-7046029254386353131 : Int64)))), .second] [(.long (own_mix ((xa + (-7046029254386353131 : Int64)) + (-7046029254386353131 : Int64))))])) rfl (by rw [hml]; rfl) (argsL := [(.long (own_mix ((xa + (-7046029254386353131 : Int64)) + (-7046029254386353131 : Int64))))]) (rest := []) (lenOf pd0 rfl) rfl (by show 2 * 0 + _ ≤ _; exact Nat.le_of_eq rfl) (hb hby at_35) (fun _ _ => ⟨rfl, e13, (by decide : 1 + 0 ≤ _), (by decide : 1 + 0 ≤ _)⟩)
  dsimp only [Pt.U, Pt.locs, Pt.cells, Pt.slots] at X16 l16 y16 z16 st16 hQ16
  subst l16 y16 z16
  obtain ⟨rfl, M16, e16⟩ := hQ16
  have N16 := Fr.app N13 M16
  have pre17 : ∀ t, Steps p.tables e below (T16.setTop (mkF m 38 #[.val (.long xa), .second, .val (.ref b1), .val (.long (own_mix (xa + (-7046029254386353131 : Int64)))), .second, .val (.long (own_mix ((xa + (-7046029254386353131 : Int64)) + (-7046029254386353131 : Int64)))), .second] [(.long (own_unmix (own_mix ((xa + (-7046029254386353131 : Int64)) + (-7046029254386353131 : Int64)))))])) t → Steps p.tables e below (s₁.setTop (entryFrame m #[(.long xa)] maxLocals)) t := fun t k => pre15 t (st16 t k)
  have pre18 : ∀ t, Steps p.tables e below (T16.setTop (mkF m 52 #[.val (.long xa), .second, .val (.ref b1), .val (.long (own_mix (xa + (-7046029254386353131 : Int64)))), .second, .val (.long (own_mix ((xa + (-7046029254386353131 : Int64)) + (-7046029254386353131 : Int64)))), .second] [(.int (1 : Int32))])) t → Steps p.tables e below (s₁.setTop (entryFrame m #[(.long xa)] maxLocals)) t := by
    intro t k
    refine pre17 t ?_
    refine XS.lloadN X16.here hx rfl (hb hby at_38) rfl ?_
    show Steps p.tables e below (T16.setTop (mkF m 39 #[.val (.long xa), .second, .val (.ref b1), .val (.long (own_mix (xa + (-7046029254386353131 : Int64)))), .second, .val (.long (own_mix ((xa + (-7046029254386353131 : Int64)) + (-7046029254386353131 : Int64)))), .second] [(.long xa), (.long (own_unmix (own_mix ((xa + (-7046029254386353131 : Int64)) + (-7046029254386353131 : Int64)))))])) _
    refine X16.ldc2Long hx hown (mvT hZ (hw _ (List.mem_of_getElem? (i := 30) rfl))) (g := (mkF m 39 #[.val (.long xa), .second, .val (.ref b1), .val (.long (own_mix (xa + (-7046029254386353131 : Int64)))), .second, .val (.long (own_mix ((xa + (-7046029254386353131 : Int64)) + (-7046029254386353131 : Int64)))), .second] [(.long xa), (.long (own_unmix (own_mix ((xa + (-7046029254386353131 : Int64)) + (-7046029254386353131 : Int64)))))])) rfl (hb hby at_39) _ ?_
    show Steps p.tables e below (T16.setTop (mkF m 42 #[.val (.long xa), .second, .val (.ref b1), .val (.long (own_mix (xa + (-7046029254386353131 : Int64)))), .second, .val (.long (own_mix ((xa + (-7046029254386353131 : Int64)) + (-7046029254386353131 : Int64)))), .second] [(.long (4354685564936845354 : Int64)), (.long xa), (.long (own_unmix (own_mix ((xa + (-7046029254386353131 : Int64)) + (-7046029254386353131 : Int64)))))])) _
    refine XS.ladd X16.here hx rfl (hb hby at_42) rfl ?_
    show Steps p.tables e below (T16.setTop (mkF m 43 #[.val (.long xa), .second, .val (.ref b1), .val (.long (own_mix (xa + (-7046029254386353131 : Int64)))), .second, .val (.long (own_mix ((xa + (-7046029254386353131 : Int64)) + (-7046029254386353131 : Int64)))), .second] [(.long (xa + (4354685564936845354 : Int64))), (.long (own_unmix (own_mix ((xa + (-7046029254386353131 : Int64)) + (-7046029254386353131 : Int64)))))])) _
    refine XS.lcmp X16.here hx rfl (hb hby at_43) rfl ?_
    show Steps p.tables e below (T16.setTop (mkF m 44 #[.val (.long xa), .second, .val (.ref b1), .val (.long (own_mix (xa + (-7046029254386353131 : Int64)))), .second, .val (.long (own_mix ((xa + (-7046029254386353131 : Int64)) + (-7046029254386353131 : Int64)))), .second] [(.int (lcmpW (own_unmix (own_mix ((xa + (-7046029254386353131 : Int64)) + (-7046029254386353131 : Int64)))) (xa + (4354685564936845354 : Int64))))])) _
    refine XS.ifNo X16.here hx rfl (hb hby at_44) rfl ((if0 _ _).trans (teq ((lw_eq _ _).mpr (show (own_unmix (own_mix ((xa + (-7046029254386353131 : Int64)) + (-7046029254386353131 : Int64)))) = (xa + (4354685564936845354 : Int64)) from (own_law _).trans (by rw [Int64.add_assoc]; rfl)))).2) ?_
    show Steps p.tables e below (T16.setTop (mkF m 47 #[.val (.long xa), .second, .val (.ref b1), .val (.long (own_mix (xa + (-7046029254386353131 : Int64)))), .second, .val (.long (own_mix ((xa + (-7046029254386353131 : Int64)) + (-7046029254386353131 : Int64)))), .second] [])) _
    refine XS.iconst X16.here hx rfl (hb hby at_47) ?_
    show Steps p.tables e below (T16.setTop (mkF m 48 #[.val (.long xa), .second, .val (.ref b1), .val (.long (own_mix (xa + (-7046029254386353131 : Int64)))), .second, .val (.long (own_mix ((xa + (-7046029254386353131 : Int64)) + (-7046029254386353131 : Int64)))), .second] [(.int (1 : Int32))])) _
    refine XS.goto X16.here hx rfl (pc0 := 48) (pc' := 52) rfl (hb hby at_48) (by decide) (by decide) ?_
    show Steps p.tables e below (T16.setTop (mkF m 52 #[.val (.long xa), .second, .val (.ref b1), .val (.long (own_mix (xa + (-7046029254386353131 : Int64)))), .second, .val (.long (own_mix ((xa + (-7046029254386353131 : Int64)) + (-7046029254386353131 : Int64)))), .second] [(.int (1 : Int32))])) _
    exact k
  obtain ⟨fs, hr, hrun, hended, hW, hsame⟩ := X16.leave (v := some (.int (1 : Int32))) (fun h => by rw [Bd.returns] at h; cases h)
  refine ⟨_, _, pre18 _ ?_, hrun, hended, _, _, rfl, ?_, ⟨_, rfl⟩, hW, hsame.mono (by decide) (by decide)⟩
  · exact retN X16 hx (t := .boolean) Bd.returns (by simp) (hb hby at_52) hr
  · show Q_rm0 Z xa h0 n0 _ T16.heap _
    rw [e16]
    exact ⟨rfl, N16⟩
set_option maxRecDepth 65536 in
set_option maxHeartbeats 40000000 in
theorem comes_1 {Post : Tables → Env → Array Value → State → Outcome → State → Prop} (hpost : ∀ tb e args s v u, (limb_1_1.after args s (.returned v) u = true ∧ limb_1_2.after args s (.returned v) u = true ∧ True) → FrameEnd s (.returned v) u (Jvm.fieldLocs frame_1_writes args s ++ Jvm.arrayLocs frame_1_arrays args s ++ Jvm.staticLocs frame_1_statics s) 16 128 → Post tb e args s (.returned v) u) :
    ArmFor flags0 classFile x code maxLocals ret World_1 tables_1 room_1 Calls_1 rest_1 Pre_1 Post := by
  intro l hfl _ _ p e ha hc hk s m args below hf hA hF happ hP
  obtain ⟨hcalls, hrest, hpre⟩ := hP
  obtain ⟨-, -, -, hnamed, -, -, -, hat⟩ := (Spec.applies_iff hf).mp happ
  obtain ⟨hg, hn⟩ := and_e (Cond.before_iff.mp (show (Jvm.Cond.and given_1 narrow_1).before args s = true from hpre))
  obtain ⟨ga1, gb1⟩ := and_e hg
  obtain ⟨w0, rfl⟩ : ∃ w0 : Value, args = #[w0] := by
    have hs : args.size = 1 := by simpa [Cond.value, given_1] using ga1
    obtain ⟨L⟩ := args
    match L, hs with
    | [w0], _ => exact ⟨w0, rfl⟩
  have hw := fun d (hd : d ∈ tables_1) => atoms_spec (ws := Jvm.Cond.code x code maxLocals ret :: tables_1) hat d (List.mem_cons_of_mem _ hd)
  have hfit : Fit s := fun {y c} hc i hi => by
    obtain ⟨ha, rfl⟩ := Array.getElem?_eq_some_iff.mp hc
    have q := List.all_eq_true.mp ((Array.all_eq_true_iff_forall_mem.mp hF) _ (Array.getElem_mem ha)) i (List.mem_range.mpr hi)
    simpa [Array.getElem?_eq_getElem hi] using q
  obtain ⟨i0, ei0⟩ := isL_v gb1
  obtain rfl : w0 = (.long i0) := Option.some.inj ei0
  obtain ⟨n, o, h1, h2, h3, _, L, rfl, ⟨rfl, N⟩, hq⟩ := rm0 l s _ hw tables_1 i0 s.heap s.heap.size (Nat.le_refl _)  p e ha hc hk s m _ below hf ((Spec.applies_iff_loose hf).mp happ).1 ⟨rfl, State.Warmed39.refl s, rfl⟩ trivial
  refine ⟨n, _, h1, h2, h3, hpost _ _ _ _ _ _ ⟨Cond.after_iff.mpr rfl, Cond.after_iff.mpr (eq_i res_at (Term.int_eval (1)) rfl), trivial⟩ ⟨hq.1, hq.2.1, (hq.2.2.sift fun y hy => Or.inr (N y hy)).mono (by decide) (by decide)⟩⟩
theorem main_1_1 : Claimed_1_1 := comes_1 fun _ _ _ _ _ _ h hF => ⟨h.1, hF⟩
theorem main_1_2 : Claimed_1_2 := comes_1 fun _ _ _ _ _ _ h hF => ⟨h.2.1, hF⟩
end Jvm.Pilot.@@N@@
namespace Jvm.Pilot.@@N@@
open Jvm Jvm.ClassFile Sem Op Lib Jvm.Free Jvm.Stand Jvm.Pilot.@@N@@.Jvm.D
/-! MADE BY PROGRAM (witnessworld.py) out of the Statement's table words and the real class files: 9 classes; the members and pool entries that the words name. The judged class is class 1, her method 3. -/
namespace start1
open Jvm.ClassFile
def u (s : String) : CpInfo := .utf8 (stringToUtf16 s)
/-- a pool by its gaps: so many unusable entries, then the entry; so many at the end -/
def gap : Nat → List CpInfo → List CpInfo
  | 0, r => r
  | n + 1, r => .unusable :: gap n r
def poolList (es : List (Nat × CpInfo)) (last : Nat) : List CpInfo := es.foldr (fun e r => gap e.1 (e.2 :: r)) (gap last [])
def pool (es : List (Nat × CpInfo)) (last : Nat) : Array CpInfo := ⟨poolList es last⟩
def fileOf (pool : Array CpInfo) (this : Nat) (attrs : Array Attribute := #[]) (ms : Array MethodInfo := #[]) (fl : Nat := 33) (sup : Nat := 0) (ifs : Array Nat := #[]) (fds : Array FieldInfo := #[]) : ClassFile where
  minorVersion := 0
  majorVersion := 65
  constantPool := pool
  accessFlags := fl
  thisClass := this
  superClass := sup
  interfaces := ifs
  fields := fds
  methods := ms
  attributes := attrs
def plain (name : String) (sup : Option ClassId) : Class where
  name := name
  kind := .ordinary
  loader := none
  accessFlags := 33
  super := sup
  interfaces := #[]
  cf := none
  fields := #[]
  methods := #[]
  instanceTypes := #[]
  staticTypes := #[]
  resolved := #[]
  callSites := []
  init := .initialized
  statics := none
  mirror := none

def pool0 : Array CpInfo := pool [(5, u "<init>"), (0, u "()V"), (1, .class_ 10), (1, u "java/lang/Object")] 113

def k0c0 : Code := { maxStack := 0, maxLocals := 1, code := object_method_1_code, exceptionTable := #[], attributes := #[] }
def k0m0 : Method := { name := "<init>", desc := "()V", sig := { parameters := [], returnType := none }, accessFlags := 1, code := some k0c0 }
/-- java/lang/Object -/
def k0 : Class := { plain "java/lang/Object" none with
  accessFlags := 33
  interfaces := #[]
  cf := some (fileOf pool0 8 #[] #[{ accessFlags := 1, nameIndex := 5, descriptorIndex := 6, attributes := #[] }] 33 0 #[] #[])
  fields := #[]
  methods := #[k0m0]
  instanceTypes := #[]
  staticTypes := #[]
  resolved := Array.replicate 124 none
  statics := none }

def pool1 : Array CpInfo := pool [(2, .class_ 4), (1, u "java/lang/Object"), (0, u "<init>"), (0, u "()V"), (0, .long 2), (1, .class_ 10), (0, u "com/example/suitor/suitor/SplitMix64NextLongPinLaw"), (0, .long 10723151780598845931), (1, .methodref 9 14), (0, .nameAndType 15 16), (0, u "inverse"), (0, u "(J)J"), (0, .long 13787848793156543929), (1, .class_ 20), (0, u "com/example/suitor/suitor/SplitMix64"), (0, .methodref 19 22), (0, .nameAndType 5 23), (0, u "(J)V"), (0, .methodref 19 25), (0, .nameAndType 26 27), (0, u "nextLong"), (0, u "()J"), (0, .methodref 9 29), (0, .nameAndType 30 16), (0, u "unmix"), (0, .long 11400714819323198485), (1, .long 4354685564936845354), (1, u "GAMMA"), (0, u "J"), (1, u "C1"), (0, u "C2"), (2, u "law"), (0, u "(J)Z")] 3

def k1m0 : Method := { name := "<init>", desc := "()V", sig := { parameters := [], returnType := none }, accessFlags := 1, code := none }
def k1c1 : Code := { maxStack := 8, maxLocals := 4, code := method_2_code, exceptionTable := #[], attributes := #[] }
def k1m1 : Method := { name := "inverse", desc := "(J)J", sig := { parameters := [.long], returnType := some .long }, accessFlags := 10, code := some k1c1 }
def k1c2 : Code := { maxStack := 5, maxLocals := 4, code := method_3_code, exceptionTable := #[], attributes := #[] }
def k1m2 : Method := { name := "unmix", desc := "(J)J", sig := { parameters := [.long], returnType := some .long }, accessFlags := 10, code := some k1c2 }
def k1c3 : Code := { maxStack := 6, maxLocals := 7, code := code, exceptionTable := #[], attributes := #[] }
def k1m3 : Method := { name := "law", desc := "(J)Z", sig := { parameters := [.long], returnType := some .boolean }, accessFlags := 9, code := some k1c3 }
/-- com/example/suitor/suitor/SplitMix64NextLongPinLaw -/
def k1 : Class := { plain "com/example/suitor/suitor/SplitMix64NextLongPinLaw" (some 0) with
  accessFlags := 49
  interfaces := #[]
  cf := some (fileOf pool1 9 #[] #[{ accessFlags := 1, nameIndex := 5, descriptorIndex := 6, attributes := #[] }, { accessFlags := 10, nameIndex := 15, descriptorIndex := 16, attributes := #[] }, { accessFlags := 10, nameIndex := 30, descriptorIndex := 16, attributes := #[] }, { accessFlags := 9, nameIndex := 42, descriptorIndex := 43, attributes := #[] }] 49 2 #[] #[{ accessFlags := 26, nameIndex := 35, descriptorIndex := 36, attributes := #[] }, { accessFlags := 26, nameIndex := 38, descriptorIndex := 36, attributes := #[] }, { accessFlags := 26, nameIndex := 39, descriptorIndex := 36, attributes := #[] }])
  fields := #[{ name := "GAMMA", type := .long, accessFlags := 26, slot := 0, constantValue := 0 }, { name := "C1", type := .long, accessFlags := 26, slot := 1, constantValue := 0 }, { name := "C2", type := .long, accessFlags := 26, slot := 2, constantValue := 0 }]
  methods := #[k1m0, k1m1, k1m2, k1m3]
  instanceTypes := #[]
  staticTypes := #[.long, .long, .long]
  resolved := Array.replicate 47 none
  statics := none }

def pool2 : Array CpInfo := pool [(1, .methodref 2 3), (0, .class_ 4), (0, .nameAndType 5 6), (0, u "java/lang/Object"), (0, u "<init>"), (0, u "()V"), (0, .fieldref 8 9), (0, .class_ 10), (0, .nameAndType 11 12), (0, u "com/example/suitor/suitor/SplitMix64"), (0, u "state"), (0, u "J"), (0, .long 11400714819323198485), (1, .long 13787848793156543929), (1, .long 10723151780598845931), (7, u "nextLong"), (0, u "()J"), (8, u "(J)V")] 9

def k2c0 : Code := { maxStack := 3, maxLocals := 3, code := prog_41_method_1_code, exceptionTable := #[], attributes := #[] }
def k2m0 : Method := { name := "<init>", desc := "(J)V", sig := { parameters := [.long], returnType := none }, accessFlags := 0, code := some k2c0 }
def k2c1 : Code := { maxStack := 5, maxLocals := 3, code := prog_41_method_2_code, exceptionTable := #[], attributes := #[] }
def k2m1 : Method := { name := "nextLong", desc := "()J", sig := { parameters := [], returnType := some .long }, accessFlags := 0, code := some k2c1 }
/-- com/example/suitor/suitor/SplitMix64 -/
def k2 : Class := { plain "com/example/suitor/suitor/SplitMix64" (some 0) with
  accessFlags := 32
  interfaces := #[]
  cf := some (fileOf pool2 8 #[] #[{ accessFlags := 0, nameIndex := 5, descriptorIndex := 35, attributes := #[] }, { accessFlags := 0, nameIndex := 25, descriptorIndex := 26, attributes := #[] }] 32 2 #[] #[{ accessFlags := 2, nameIndex := 11, descriptorIndex := 12, attributes := #[] }])
  fields := #[{ name := "state", type := .long, accessFlags := 2, slot := 0, constantValue := 0 }]
  methods := #[k2m0, k2m1]
  instanceTypes := #[.long]
  staticTypes := #[]
  resolved := Array.replicate 45 none
  statics := none }

def pool3 : Array CpInfo := pool [(1, u "java/lang/Cloneable"), (0, .class_ 1), (0, u "java/lang/Object"), (0, .class_ 3)] 3

/-- java/lang/Cloneable -/
def k3 : Class := { plain "java/lang/Cloneable" (some 0) with
  accessFlags := 1537
  interfaces := #[]
  cf := some (fileOf pool3 2 #[] #[] 1537 4 #[] #[])
  fields := #[]
  methods := #[]
  instanceTypes := #[]
  staticTypes := #[]
  resolved := Array.replicate 8 none
  statics := none }

def pool4 : Array CpInfo := pool [(1, u "java/io/Serializable"), (0, .class_ 1), (0, u "java/lang/Object"), (0, .class_ 3)] 3

/-- java/io/Serializable -/
def k4 : Class := { plain "java/io/Serializable" (some 0) with
  accessFlags := 1537
  interfaces := #[]
  cf := some (fileOf pool4 2 #[] #[] 1537 4 #[] #[])
  fields := #[]
  methods := #[]
  instanceTypes := #[]
  staticTypes := #[]
  resolved := Array.replicate 8 none
  statics := none }

/-- the primitive byte -/
def k5 : Class := { plain "byte" none with kind := .primitive 'B', accessFlags := 0x411 }
/-- [B -/
def k6 : Class := { plain "[B" (some 0) with kind := .array 5 .byte, interfaces := #[3, 4], accessFlags := 1041 }

/-- the primitive int -/
def k7 : Class := { plain "int" none with kind := .primitive 'I', accessFlags := 0x411 }
/-- [I -/
def k8 : Class := { plain "[I" (some 0) with kind := .array 7 .int, interfaces := #[3, 4], accessFlags := 1041 }

def heap : Heap := #[]
def classes : Array Class := #[k0, k1, k2, k3, k4, k5, k6, k7, k8]
def interned : List (Array UInt16 × Addr) := []
def slotsUsed : Nat := 0
def theMethod : MethodId := ⟨1, 3⟩
def args0 : Array Value := #[.long 5]
def aboutOver (below : List Frame) : State where
  vm := { classes := classes, interned := interned.toArray }
  heap := heap
  slotsUsed := slotsUsed
  threads := #[{ frames := .invoking theMethod args0 :: below }]
def below0 : List Frame := [.native { method := ⟨0, 0⟩, args := #[] }]
def about1 : State := aboutOver below0
def p0 : Program := .bare "" "" ""
def e0 : Env := launch0.env 0 0 0
theorem w_frames : about1.frames = Frame.invoking theMethod args0 :: below0 := rfl
set_option maxRecDepth 65536 in
theorem w_args : argsFit about1.vm theMethod args0 = true := by decide +kernel
set_option maxRecDepth 65536 in
theorem w_heap : heapFits about1 = true := by decide +kernel
set_option maxRecDepth 65536 in
theorem w_runnable : about1.curStatus? = some .runnable := by decide +kernel
set_option maxRecDepth 65536 in
theorem w_alone : about1.alone = true := by decide +kernel
set_option maxRecDepth 65536 in
theorem w_named : about1.methodNamed? x = some theMethod := by decide +kernel
set_option maxRecDepth 65536 in
theorem w_hears : about1.hears theMethod below0 = true := by decide +kernel
set_option maxRecDepth 65536 in
theorem w_ripe : about1.ripe theMethod args0 below0 = true := by decide +kernel
theorem w_running : about1.status = .running := rfl
set_option maxRecDepth 65536 in
theorem w_room : about1.hasRoom e0.platform room_1 = true :=
  launch0.hasRoom_least _ room_1 (by decide +kernel) (by decide +kernel) (by decide +kernel) (by decide +kernel) (by decide +kernel) (by decide +kernel)
theorem allAtoms_all (ts : List Jvm.Cond) (a : Array Jvm.Value) (st : Jvm.State) : (allAtoms ts).before a st = ts.all (fun c => c.before a st) := by
  induction ts with
  | nil => rfl
  | cons c t ih =>
    show (Jvm.Cond.and c (allAtoms t)).before a st = _
    rw [Jvm.Cond.before_and, ih, List.all_cons]
def words1 : List Jvm.Cond := Jvm.Cond.code x code maxLocals ret :: tables_1
/-- a 'code' word, met by the world's own term for the bytes: nothing is compared byte by byte -/
theorem code_word {y : MethodName} {bytes : ByteArray} {mx : Nat} {rt : Option FieldType} {a : Array Value} {s : State} {m : MethodId} {meth : Method} {c : Code} (h1 : s.methodNamed? y = some m) (h2 : s.vm.method? m = some meth) (h3 : meth.code = some c) (h4 : c.code = bytes)
    (h5 : (c.maxLocals == mx && c.exceptionTable.isEmpty && decide (c.maxStack ≤ mostOperands) && decide (meth.sig.returnType = rt) && !meth.locks && decide (parseMethodDescriptor y.desc = some meth.sig)) = true) : (Jvm.Cond.code y bytes mx rt).before a s = true := by
  simp only [Bool.and_eq_true, beq_iff_eq, Bool.not_eq_true', decide_eq_true_eq] at h5
  obtain ⟨⟨⟨⟨⟨g1, g2⟩, g3⟩, g4⟩, g5⟩, g6⟩ := h5
  simp [Cond.before, Cond.holds, Cond.value, h1, h2, h3, h4, g1, g2, g3, g4, g5, g6]
def isCode : Jvm.Cond → Bool
  | .code _ _ _ _ => true
  | _ => false
theorem all_split {L : List Jvm.Cond} {P : Jvm.Cond → Bool} (h1 : L.all (fun c => isCode c || P c) = true) (h2 : ∀ c ∈ L.filter isCode, P c = true) : L.all P = true := by
  refine List.all_eq_true.mpr fun c hc => ?_
  have h := List.all_eq_true.mp h1 c hc
  rcases Bool.eq_false_or_eq_true (isCode c) with hi | hi
  · exact h2 c (List.mem_filter.mpr ⟨hc, hi⟩)
  · simpa [hi] using h
set_option maxRecDepth 65536 in
theorem w_c0 : (Jvm.Cond.code x code maxLocals ret).before args0 about1 = true := code_word (m := ⟨1, 3⟩) (meth := k1m3) (c := k1c3) (by decide +kernel) rfl rfl rfl (by decide +kernel)
set_option maxRecDepth 65536 in
theorem w_c1 : (Jvm.Cond.code ({ cls := "com/example/suitor/suitor/SplitMix64", name := "<init>", desc := "(J)V" } : Jvm.MethodName) prog_41_method_1_code (3 : Nat) (Option.none : Option Jvm.ClassFile.FieldType)).before args0 about1 = true := code_word (m := ⟨2, 0⟩) (meth := k2m0) (c := k2c0) (by decide +kernel) rfl rfl rfl (by decide +kernel)
set_option maxRecDepth 65536 in
theorem w_c2 : (Jvm.Cond.code ({ cls := "java/lang/Object", name := "<init>", desc := "()V" } : Jvm.MethodName) object_method_1_code (1 : Nat) (Option.none : Option Jvm.ClassFile.FieldType)).before args0 about1 = true := code_word (m := ⟨0, 0⟩) (meth := k0m0) (c := k0c0) (by decide +kernel) rfl rfl rfl (by decide +kernel)
set_option maxRecDepth 65536 in
theorem w_c3 : (Jvm.Cond.code ({ cls := "com/example/suitor/suitor/SplitMix64", name := "nextLong", desc := "()J" } : Jvm.MethodName) prog_41_method_2_code (3 : Nat) (Option.some Jvm.ClassFile.FieldType.long)).before args0 about1 = true := code_word (m := ⟨2, 1⟩) (meth := k2m1) (c := k2c1) (by decide +kernel) rfl rfl rfl (by decide +kernel)
set_option maxRecDepth 65536 in
theorem w_c4 : (Jvm.Cond.code ({ cls := "com/example/suitor/suitor/SplitMix64NextLongPinLaw", name := "unmix", desc := "(J)J" } : Jvm.MethodName) method_3_code (4 : Nat) (Option.some Jvm.ClassFile.FieldType.long)).before args0 about1 = true := code_word (m := ⟨1, 2⟩) (meth := k1m2) (c := k1c2) (by decide +kernel) rfl rfl rfl (by decide +kernel)
set_option maxRecDepth 65536 in
theorem w_c5 : (Jvm.Cond.code ({ cls := "com/example/suitor/suitor/SplitMix64NextLongPinLaw", name := "inverse", desc := "(J)J" } : Jvm.MethodName) method_2_code (4 : Nat) (Option.some Jvm.ClassFile.FieldType.long)).before args0 about1 = true := code_word (m := ⟨1, 1⟩) (meth := k1m1) (c := k1c1) (by decide +kernel) rfl rfl rfl (by decide +kernel)
def codes1 : List Jvm.Cond := [Jvm.Cond.code x code maxLocals ret, Jvm.Cond.code ({ cls := "com/example/suitor/suitor/SplitMix64", name := "<init>", desc := "(J)V" } : Jvm.MethodName) prog_41_method_1_code (3 : Nat) (Option.none : Option Jvm.ClassFile.FieldType), Jvm.Cond.code ({ cls := "java/lang/Object", name := "<init>", desc := "()V" } : Jvm.MethodName) object_method_1_code (1 : Nat) (Option.none : Option Jvm.ClassFile.FieldType), Jvm.Cond.code ({ cls := "com/example/suitor/suitor/SplitMix64", name := "nextLong", desc := "()J" } : Jvm.MethodName) prog_41_method_2_code (3 : Nat) (Option.some Jvm.ClassFile.FieldType.long), Jvm.Cond.code ({ cls := "com/example/suitor/suitor/SplitMix64NextLongPinLaw", name := "unmix", desc := "(J)J" } : Jvm.MethodName) method_3_code (4 : Nat) (Option.some Jvm.ClassFile.FieldType.long), Jvm.Cond.code ({ cls := "com/example/suitor/suitor/SplitMix64NextLongPinLaw", name := "inverse", desc := "(J)J" } : Jvm.MethodName) method_2_code (4 : Nat) (Option.some Jvm.ClassFile.FieldType.long)]
set_option maxRecDepth 65536 in
theorem codes_eq : words1.filter isCode = codes1 := rfl
theorem w_codes : ∀ c ∈ words1.filter isCode, c.before args0 about1 = true := by
  rw [codes_eq]
  intro c hc
  simp only [codes1, List.mem_cons, List.not_mem_nil, or_false] at hc
  rcases hc with rfl | rfl | rfl | rfl | rfl | rfl
  · exact w_c0
  · exact w_c1
  · exact w_c2
  · exact w_c3
  · exact w_c4
  · exact w_c5
set_option maxRecDepth 65536 in
theorem w_t1 : (words1.take 24).all (fun c => isCode c || c.before args0 about1) = true := by decide +kernel
set_option maxRecDepth 65536 in
theorem w_t2 : (words1.drop 24).all (fun c => isCode c || c.before args0 about1) = true := by decide +kernel
theorem w_tables : (allAtoms (Jvm.Cond.code x code maxLocals ret :: tables_1)).before args0 about1 = true := by
  rw [allAtoms_all]
  show words1.all (fun c => c.before args0 about1) = true
  refine all_split ?_ w_codes
  rw [← List.take_append_drop 24 words1, List.all_append, w_t1, w_t2]
  rfl
set_option maxRecDepth 65536 in
theorem w_case : (Jvm.Cond.and given_1 narrow_1).before args0 about1 = true := by decide +kernel
theorem w_applies : (headSpec (Jvm.Cond.code x code maxLocals ret :: tables_1) room_1).applies x e0.platform about1 = true :=
  (Spec.applies_iff w_frames).mpr ⟨w_running, w_runnable, w_alone, w_named, w_hears, w_ripe, w_room, w_tables⟩
theorem atStart : AtStart classFile x code maxLocals ret World_1 tables_1 room_1 Calls_1 rest_1 Pre_1 launch0 p0 e0 about1 theMethod args0 below0 :=
  ⟨lists_1, trivial, launch0.admits_env _ _ _, launch0.least_env, fairChoices_fair.cas, fairChoices_fair.clock, w_frames, w_args, w_heap, w_applies, trivial, trivial, w_case⟩
end start1
theorem witness_1 : WitnessClaimed_1 := ⟨start1.p0, start1.e0, start1.about1, start1.theMethod, start1.args0, start1.below0, start1.atStart⟩
end Jvm.Pilot.@@N@@
