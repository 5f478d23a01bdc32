import JvmDerived
import JvmDerived.Pilot.@@N@@Statement
import JvmDerived.Pilot.@@N@@Code
set_option linter.unusedVariables false
set_option linter.unusedSimpArgs false
namespace Jvm.RoadKit
open Sem ClassFile Op Lib Jvm.Stand Jvm.Free Jvm.LawKit
section New
variable {p : Program} {l : Launch} {e : Env} {R : Room} {s : State} {m : MethodId} {args : Array Value} {below : List Frame} {meth : Method} {c : Code} {T : State} {locs : List Loc} {cells slots : Nat}
theorem retI (X : Stand p l e R s m args below meth c T locs cells slots) (hx : p.tables.exec = Jvm.exec) {pc : Nat} {Ls : Array Slot} {z : Int32} {rest : List Value} (hret : meth.sig.returnType = some .int) (hd : decode c.code pc = .ok (.ireturn, 1)) {fs : List Frame}
    (hl : ∀ (f : JFrame) (acts : List Action), f.method = m → f.locked = none → f.entered = [] → (doReturn e (T.setTop f) acts (some (.int z))).1 = T.setFrames fs) : Steps p.tables e below (T.setTop (mkF m pc Ls (.int z :: rest))) (T.setFrames fs) := by
  have hm' : T.vm.method? m = some meth := X.method'
  have hn : narrow .int (.int z) = .int z := rfl
  show Steps p.tables e below (T.setTop { method := m, pc := pc, locals := Ls, stack := _ :: rest, locked := none }) _
  jvm_step X.here [X.here.top, hx, hd, hm', hret, hn]
  first | (intro acts; rw [hl _ acts rfl rfl rfl]) | rw [hl _ _ rfl rfl rfl]
  exact Steps.refl _
end New
end Jvm.RoadKit
namespace Jvm.Pilot.@@N@@
open Jvm Jvm.ClassFile Sem Op Lib Jvm.Free Jvm.Stand Jvm.LawKit Jvm.RoadKit Bundle Jvm.Pilot.@@N@@.Jvm.D
theorem own_keep_ext {h h' : Heap} (K : Keep h h' []) : Ext h h' := ⟨K.1, fun a c q => K.2.1 a c q nin0⟩
theorem own_sta_keep {Z : State} {h h' : Heap} {C n d K : String} {a : Addr} {v : Value} (F : Sta Z h C n d v) (Kp : Keep h h' [a]) (E : Exa Z h a K) : Sta Z h' C n d v := by
  obtain ⟨cf, i, k, f, st, cell, h1, h2, h3, h4, h5, h6, h7⟩ := F
  obtain ⟨cell', k', g1, -, -, g4, -⟩ := E
  have ne : st ≠ a := by
    intro q
    subst q
    rw [h5] at g1
    cases g1
    rw [h6] at g4
    cases g4
  exact ⟨cf, i, k, f, st, cell, h1, h2, h3, h4, Kp.2.1 st cell h5 (ninS ne nin0), h6, h7⟩
def own_at (xs : List Int32) (j : Int32) : Int32 := xs.getD j.toNatClampNeg 0
theorem own_getD (xs : List Int32) (i : Nat) : (xs.map Value.int).getD i (.int (0 : Int32)) = .int (xs.getD i 0) := by
  simp only [List.getD_eq_getElem?_getD, List.getElem?_map]
  cases xs[i]? <;> rfl
abbrev own_in (a : Int32) : Prop := ¬ (a < 0) ∧ a < (6 : Int32)
def own_n {k : Nat} (i : Fin k) : Int32 := Int32.ofNat i.val
theorem own_in_fin (a : Int32) (h : own_in a) : ∃ i : Fin 6, a = own_n i := by
  obtain ⟨h1, h2⟩ := h
  rw [Int32.lt_iff_toInt_lt] at h1 h2
  have z0 : (0 : Int32).toInt = 0 := rfl
  have z1 : (6 : Int32).toInt = 6 := rfl
  refine ⟨⟨a.toInt.toNat, by omega⟩, ?_⟩
  apply Int32.toInt_inj.mp
  show a.toInt = (Int32.ofNat a.toInt.toNat).toInt
  rw [Int32.toInt_ofNat_of_lt (by omega)]
  omega
theorem d7_0 : decode jdk_22_method_1_code 0 = .ok (.aload_n 0, 1) := by decide +kernel
theorem d7_1 : decode jdk_22_method_1_code 1 = .ok (.invokespecial 1, 3) := by decide +kernel
theorem d7_4 : decode jdk_22_method_1_code 4 = .ok (.return_, 1) := by decide +kernel
theorem pn0 : plainName "java/util/AbstractCollection" = true := by first | (simp [plainName, overriddenIn]; done) | decide +kernel
theorem ef_rm_ac (m : MethodId) (ra : Addr) : entryFrame m #[(.ref ra)] 1 = mkF m 0 #[.val (.ref ra)] [] := by first | (simp [entryFrame, mkF, argsToLocals, Value.category]; done) | rfl
def Q_rm_ac (Z : State) (ra : Addr) (h0 : Heap) (n0 : Nat) (v : Option Value) (h : Heap) (L : List Loc) : Prop := v = none ∧ Fr n0 L ∧ h = h0
set_option maxRecDepth 65536 in
set_option maxHeartbeats 40000000 in
theorem rm_ac (l : Launch) (Z : State) (a0 : Array Value) (hw : ∀ d ∈ tables_1, d.before a0 Z = true) (ws : List Jvm.Cond) (ra : Addr) (h0 : Heap) (n0 : Nat) (Z0 : n0 ≤ h0.size) :
    MetFree l (⟨"java/util/AbstractCollection", "<init>", "()V"⟩ : MethodName) (head1 (Jvm.Cond.code (⟨"java/util/AbstractCollection", "<init>", "()V"⟩ : MethodName) jdk_22_method_1_code 1 none :: ws) ({ frames := 1, cells := 0, slots := 0, locals := 12 } : Room)) (fun a U => a = #[(.ref ra)] ∧ Z.Warmed39 U.vm ∧ U.heap = h0) (fun _ _ _ _ _ => True) (fun _ U o U' => ∃ v L, o = .returned v ∧ Q_rm_ac Z ra h0 n0 v U'.heap L ∧ FrameEnd U o U' L ({ frames := 1, cells := 0, slots := 0, locals := 12 } : Room).cells ({ frames := 1, cells := 0, slots := 0, locals := 12 } : Room).slots) := by
  refine MetFree.of_bodySF (plainFor_of_name pn0) hisR ?_
  intro p e s m args below meth c s₁ Bd hml0 hP hK
  obtain ⟨rfl, hZ, hh⟩ := hP
  have hx := Bd.exec
  have hby := Bd.bytes
  have hml : c.maxLocals = 1 := hml0
  have hown : s.vm.findClass "java/util/AbstractCollection" = some m.cls := findClass_of_methodNamed Bd.named
  have hnm := (name_of_methodNamed Bd.named Bd.method).1
  have X0 : Stand p l e ({ frames := 1, cells := 0, slots := 0, locals := 12 } : Room) s m #[(.ref ra)] below meth c s₁ [] 0 0 := Stand.of_body Bd
  have e0 : s₁.heap = h0 := by rw [← hh, Bd.state]; rfl
  have N0 := Fr.nil n0
  have pre0 : ∀ t, Steps p.tables e below (s₁.setTop (mkF m 0 #[.val (.ref ra)] [])) t → Steps p.tables e below (s₁.setTop (entryFrame m #[(.ref ra)] 1)) t := fun t k => castTop (ef_rm_ac m ra) k
  have pre1 : ∀ t, Steps p.tables e below (s₁.setTop (mkF m 1 #[.val (.ref ra)] [(.ref ra)])) t → Steps p.tables e below (s₁.setTop (entryFrame m #[(.ref ra)] 1)) t := by
    intro t k
    refine pre0 t ?_
    refine XS.aloadN X0.here hx rfl (hb hby d7_0) rfl rfl ?_
    show Steps p.tables e below (s₁.setTop (mkF m 1 #[.val (.ref ra)] [(.ref ra)])) _
    exact k
  obtain ⟨T2, X2, e2, st2⟩ := initO X0 hx hZ hown (hw _ (List.mem_of_getElem? (i := 52) rfl)) (hw _ (List.mem_of_getElem? (i := 15) rfl)) (hw _ (List.mem_of_getElem? (i := 16) rfl)) e0 (g := (mkF m 1 #[.val (.ref ra)] [(.ref ra)])) rfl (by rw [hml]; rfl) rfl (hb hby d7_1) (by decide) (W := 0) (by show 2 * 0 + _ ≤ _; exact Nat.le_of_eq rfl) (by decide)
  have pre3 : ∀ t, Steps p.tables e below (T2.setTop (mkF m 4 #[.val (.ref ra)] [])) t → Steps p.tables e below (s₁.setTop (entryFrame m #[(.ref ra)] 1)) t := fun t k => pre1 t (st2 t k)
  obtain ⟨fs, hr, hrun, hended, hW, hsame⟩ := X2.leave (v := none) (fun _ => rfl)
  refine ⟨_, _, pre3 _ ?_, hrun, hended, _, _, rfl, ?_, ⟨_, rfl⟩, hW, hsame.mono (by decide) (by decide)⟩
  · exact X2.returnOut hx Bd.returns (hb hby d7_4) hr
  · show Q_rm_ac Z ra h0 n0 _ T2.heap _
    rw [e2]
    exact ⟨rfl, N0, rfl⟩
theorem d6_0 : decode jdk_39_method_1_code 0 = .ok (.aload_n 0, 1) := by decide +kernel
theorem d6_1 : decode jdk_39_method_1_code 1 = .ok (.invokespecial 1, 3) := by decide +kernel
theorem pd0 : parseMethodDescriptor "()V" = some ⟨[], none⟩ := by decide +kernel
theorem d6_4 : decode jdk_39_method_1_code 4 = .ok (.aload_n 0, 1) := by decide +kernel
theorem d6_5 : decode jdk_39_method_1_code 5 = .ok (.iconst 0, 1) := by decide +kernel
theorem d6_6 : decode jdk_39_method_1_code 6 = .ok (.putfield 7, 3) := by decide +kernel
theorem d6_9 : decode jdk_39_method_1_code 9 = .ok (.return_, 1) := by decide +kernel
theorem pn1 : plainName "java/util/AbstractList" = true := by first | (simp [plainName, overriddenIn]; done) | decide +kernel
theorem ef_rm_abl (m : MethodId) (ra : Addr) : entryFrame m #[(.ref ra)] 1 = mkF m 0 #[.val (.ref ra)] [] := by first | (simp [entryFrame, mkF, argsToLocals, Value.category]; done) | rfl
def Q_rm_abl (Z : State) (ra : Addr) (h0 : Heap) (n0 : Nat) (v : Option Value) (h : Heap) (L : List Loc) : Prop := v = none ∧ Fr n0 L ∧ Keep h0 h [ra] ∧ Exa Z h ra "java/util/ArrayList" ∧ Fld Z h ra "java/util/AbstractList" "modCount" "I" (.int (0 : Int32)) ∧ Fld Z h ra "java/util/ArrayList" "elementData" "[Ljava/lang/Object;" .null
set_option maxRecDepth 65536 in
set_option maxHeartbeats 40000000 in
theorem rm_abl (l : Launch) (Z : State) (a0 : Array Value) (hw : ∀ d ∈ tables_1, d.before a0 Z = true) (ws : List Jvm.Cond) (ra : Addr) (h0 : Heap) (n0 : Nat) (Z0 : n0 ≤ h0.size) (E_ra : Exa Z h0 ra "java/util/ArrayList") (g_ra : n0 ≤ ra) (F_modCount_ra : Fld Z h0 ra "java/util/AbstractList" "modCount" "I" (.int (0 : Int32))) (F_elementData_ra : Fld Z h0 ra "java/util/ArrayList" "elementData" "[Ljava/lang/Object;" .null) :
    MetFree l (⟨"java/util/AbstractList", "<init>", "()V"⟩ : MethodName) (head1 (Jvm.Cond.code (⟨"java/util/AbstractList", "<init>", "()V"⟩ : MethodName) jdk_39_method_1_code 1 none :: ws) ({ frames := 2, cells := 0, slots := 0, locals := 24 } : Room)) (fun a U => a = #[(.ref ra)] ∧ Z.Warmed39 U.vm ∧ U.heap = h0) (fun _ _ _ _ _ => True) (fun _ U o U' => ∃ v L, o = .returned v ∧ Q_rm_abl Z ra h0 n0 v U'.heap L ∧ FrameEnd U o U' L ({ frames := 2, cells := 0, slots := 0, locals := 24 } : Room).cells ({ frames := 2, cells := 0, slots := 0, locals := 24 } : Room).slots) := by
  refine MetFree.of_bodySF (plainFor_of_name pn1) hisR ?_
  intro p e s m args below meth c s₁ Bd hml0 hP hK
  obtain ⟨rfl, hZ, hh⟩ := hP
  have hx := Bd.exec
  have hby := Bd.bytes
  have hml : c.maxLocals = 1 := hml0
  have hown : s.vm.findClass "java/util/AbstractList" = some m.cls := findClass_of_methodNamed Bd.named
  have hnm := (name_of_methodNamed Bd.named Bd.method).1
  have X0 : Stand p l e ({ frames := 2, cells := 0, slots := 0, locals := 24 } : Room) s m #[(.ref ra)] below meth c s₁ [] 0 0 := Stand.of_body Bd
  have e0 : s₁.heap = h0 := by rw [← hh, Bd.state]; rfl
  have N0 := Fr.nil n0
  have pre0 : ∀ t, Steps p.tables e below (s₁.setTop (mkF m 0 #[.val (.ref ra)] [])) t → Steps p.tables e below (s₁.setTop (entryFrame m #[(.ref ra)] 1)) t := fun t k => castTop (ef_rm_abl m ra) k
  have pre1 : ∀ t, Steps p.tables e below (s₁.setTop (mkF m 1 #[.val (.ref ra)] [(.ref ra)])) t → Steps p.tables e below (s₁.setTop (entryFrame m #[(.ref ra)] 1)) t := by
    intro t k
    refine pre0 t ?_
    refine XS.aloadN X0.here hx rfl (hb hby d6_0) rfl rfl ?_
    show Steps p.tables e below (s₁.setTop (mkF m 1 #[.val (.ref ra)] [(.ref ra)])) _
    exact k
  obtain ⟨_, _, ⟨T2, L2, k2, n2⟩, -, X2, ⟨Lc2, hQ2, l2, y2, z2⟩, st2⟩ := X0.specialBack hx (y := (⟨"java/util/AbstractCollection", "<init>", "()V"⟩ : MethodName)) rfl hown (mvT hZ (hw _ (List.mem_of_getElem? (i := 46) rfl))) (mvT hZ (hw _ (List.mem_of_getElem? (i := 47) rfl))) (mvT hZ (hw _ (List.mem_of_getElem? (i := 51) rfl))) (by decide) (backOf (W := 0) (rm_ac l Z a0 hw [] ra h0 n0 Z0 ) hZ (hw _ (List.mem_of_getElem? (i := 51) rfl)) (hw _ (List.mem_of_getElem? (i := 50) rfl)) (by decide) (by decide)) (g := (mkF m 1 #[.val (.ref ra)] [(.ref ra)])) rfl (by rw [hml]; rfl) (Steps.refl _) (a := ra) (argsL := []) (rest := []) (lenOf pd0 rfl) rfl (by show 2 * 0 + _ ≤ _; exact Nat.le_of_eq rfl) (hb hby d6_1) (fun _ _ => ⟨rfl, e0, (by decide : 0 + 0 ≤ _), (by decide : 0 + 0 ≤ _)⟩)
  dsimp only [Pt.U, Pt.locs, Pt.cells, Pt.slots] at X2 l2 y2 z2 st2 hQ2
  subst y2 z2
  obtain ⟨rfl, M2, e2⟩ := hQ2
  have N2 : Fr n0 L2 := by rw [l2]; exact Fr.app N0 M2
  clear l2
  have X2 : Stand p l e _ s m _ below meth c T2 _ 0 0 := X2
  have pre3 : ∀ t, Steps p.tables e below (T2.setTop (mkF m 4 #[.val (.ref ra)] [])) t → Steps p.tables e below (s₁.setTop (entryFrame m #[(.ref ra)] 1)) t := fun t k => pre1 t (st2.trans k)
  have pre4 : ∀ t, Steps p.tables e below (T2.setTop (mkF m 6 #[.val (.ref ra)] [(.int (0 : Int32)), (.ref ra)])) t → Steps p.tables e below (s₁.setTop (entryFrame m #[(.ref ra)] 1)) t := by
    intro t k
    refine pre3 t ?_
    refine XS.aloadN X2.here hx rfl (hb hby d6_4) rfl rfl ?_
    show Steps p.tables e below (T2.setTop (mkF m 5 #[.val (.ref ra)] [(.ref ra)])) _
    refine XS.iconst X2.here hx rfl (hb hby d6_5) ?_
    show Steps p.tables e below (T2.setTop (mkF m 6 #[.val (.ref ra)] [(.int (0 : Int32)), (.ref ra)])) _
    exact k
  obtain ⟨T5, h5, X5, e5, W5, st5⟩ := putF X2 hx hZ hown (host := "") (Or.inl (hw _ (List.mem_of_getElem? (i := 53) rfl))) Via.refl e2 F_modCount_ra E_ra (Or.inl (hw _ (List.mem_of_getElem? (i := 54) rfl))) (hw _ (List.mem_of_getElem? (i := 35) rfl)) (ty := .int) (by decide) rfl rfl (g := (mkF m 6 #[.val (.ref ra)] [(.int (0 : Int32)), (.ref ra)])) rfl rfl (hb hby d6_6)
  have K5 : Keep h0 h5 [ra] := (Keep.refl h0 [ra]).wr W5 (Or.inl (by simp))
  have z5 : n0 ≤ h5.size := Nat.le_trans Z0 K5.1
  have N5 := Fr.snoc X5 N2 g_ra
  have Fw5 := F_modCount_ra.same W5
  have pre6 : ∀ t, Steps p.tables e below (T5.setTop (mkF m 9 #[.val (.ref ra)] [])) t → Steps p.tables e below (s₁.setTop (entryFrame m #[(.ref ra)] 1)) t := fun t k => pre4 t (st5 t k)
  obtain ⟨fs, hr, hrun, hended, hW, hsame⟩ := X5.leave (v := none) (fun _ => rfl)
  refine ⟨_, _, pre6 _ ?_, hrun, hended, _, _, rfl, ?_, ⟨_, rfl⟩, hW, hsame.mono (by decide) (by decide)⟩
  · exact X5.returnOut hx Bd.returns (hb hby d6_9) hr
  · show Q_rm_abl Z ra h0 n0 _ T5.heap _
    rw [e5]
    exact ⟨rfl, N5, K5, (E_ra.wr W5), Fw5, (F_elementData_ra.other W5 (Or.inr (slot_ne (Or.inl (hw _ (List.mem_of_getElem? (i := 57) rfl))) (Or.inl (hw _ (List.mem_of_getElem? (i := 54) rfl))) (by decide) (t := (.array (.object "java/lang/Object"))) (t' := .int) (by decide) (by decide))))⟩
theorem d5_0 : decode jdk_38_method_2_code 0 = .ok (.aload_n 0, 1) := by decide +kernel
theorem d5_1 : decode jdk_38_method_2_code 1 = .ok (.invokespecial 1, 3) := by decide +kernel
theorem d5_4 : decode jdk_38_method_2_code 4 = .ok (.aload_n 0, 1) := by decide +kernel
theorem d5_5 : decode jdk_38_method_2_code 5 = .ok (.getstatic 39, 3) := by decide +kernel
theorem d5_8 : decode jdk_38_method_2_code 8 = .ok (.putfield 9, 3) := by decide +kernel
theorem d5_11 : decode jdk_38_method_2_code 11 = .ok (.return_, 1) := by decide +kernel
theorem pn2 : plainName "java/util/ArrayList" = true := by first | (simp [plainName, overriddenIn]; done) | decide +kernel
theorem ef_rm_al (m : MethodId) (ra : Addr) : entryFrame m #[(.ref ra)] 1 = mkF m 0 #[.val (.ref ra)] [] := by first | (simp [entryFrame, mkF, argsToLocals, Value.category]; done) | rfl
def Q_rm_al (Z : State) (ra : Addr) (wl : Addr) (h0 : Heap) (n0 : Nat) (v : Option Value) (h : Heap) (L : List Loc) : Prop := v = none ∧ Fr n0 L ∧ Keep h0 h [ra] ∧ Exa Z h ra "java/util/ArrayList" ∧ Fld Z h ra "java/util/AbstractList" "modCount" "I" (.int (0 : Int32)) ∧ Fld Z h ra "java/util/ArrayList" "elementData" "[Ljava/lang/Object;" (.ref wl)
set_option maxRecDepth 65536 in
set_option maxHeartbeats 40000000 in
theorem rm_al (l : Launch) (Z : State) (a0 : Array Value) (hw : ∀ d ∈ tables_1, d.before a0 Z = true) (ws : List Jvm.Cond) (ra : Addr) (wl : Addr) (h0 : Heap) (n0 : Nat) (Z0 : n0 ≤ h0.size) (E_ra : Exa Z h0 ra "java/util/ArrayList") (g_ra : n0 ≤ ra) (F_modCount_ra : Fld Z h0 ra "java/util/AbstractList" "modCount" "I" (.int (0 : Int32))) (F_elementData_ra : Fld Z h0 ra "java/util/ArrayList" "elementData" "[Ljava/lang/Object;" .null) (SD : Sta Z h0 "java/util/ArrayList" "DEFAULTCAPACITY_EMPTY_ELEMENTDATA" "[Ljava/lang/Object;" (.ref wl)) :
    MetFree l (⟨"java/util/ArrayList", "<init>", "()V"⟩ : MethodName) (head1 (Jvm.Cond.code (⟨"java/util/ArrayList", "<init>", "()V"⟩ : MethodName) jdk_38_method_2_code 1 none :: ws) ({ frames := 3, cells := 0, slots := 0, locals := 36 } : Room)) (fun a U => a = #[(.ref ra)] ∧ Z.Warmed39 U.vm ∧ U.heap = h0) (fun _ _ _ _ _ => True) (fun _ U o U' => ∃ v L, o = .returned v ∧ Q_rm_al Z ra wl h0 n0 v U'.heap L ∧ FrameEnd U o U' L ({ frames := 3, cells := 0, slots := 0, locals := 36 } : Room).cells ({ frames := 3, cells := 0, slots := 0, locals := 36 } : Room).slots) := by
  refine MetFree.of_bodySF (plainFor_of_name pn2) hisR ?_
  intro p e s m args below meth c s₁ Bd hml0 hP hK
  obtain ⟨rfl, hZ, hh⟩ := hP
  have hx := Bd.exec
  have hby := Bd.bytes
  have hml : c.maxLocals = 1 := hml0
  have hown : s.vm.findClass "java/util/ArrayList" = some m.cls := findClass_of_methodNamed Bd.named
  have hnm := (name_of_methodNamed Bd.named Bd.method).1
  have X0 : Stand p l e ({ frames := 3, cells := 0, slots := 0, locals := 36 } : Room) s m #[(.ref ra)] below meth c s₁ [] 0 0 := Stand.of_body Bd
  have e0 : s₁.heap = h0 := by rw [← hh, Bd.state]; rfl
  have N0 := Fr.nil n0
  have pre0 : ∀ t, Steps p.tables e below (s₁.setTop (mkF m 0 #[.val (.ref ra)] [])) t → Steps p.tables e below (s₁.setTop (entryFrame m #[(.ref ra)] 1)) t := fun t k => castTop (ef_rm_al m ra) k
  have pre1 : ∀ t, Steps p.tables e below (s₁.setTop (mkF m 1 #[.val (.ref ra)] [(.ref ra)])) t → Steps p.tables e below (s₁.setTop (entryFrame m #[(.ref ra)] 1)) t := by
    intro t k
    refine pre0 t ?_
    refine XS.aloadN X0.here hx rfl (hb hby d5_0) rfl rfl ?_
    show Steps p.tables e below (s₁.setTop (mkF m 1 #[.val (.ref ra)] [(.ref ra)])) _
    exact k
  obtain ⟨_, _, ⟨T2, L2, k2, n2⟩, -, X2, ⟨Lc2, hQ2, l2, y2, z2⟩, st2⟩ := X0.specialBack hx (y := (⟨"java/util/AbstractList", "<init>", "()V"⟩ : MethodName)) rfl hown (mvT hZ (hw _ (List.mem_of_getElem? (i := 40) rfl))) (mvT hZ (hw _ (List.mem_of_getElem? (i := 41) rfl))) (mvT hZ (hw _ (List.mem_of_getElem? (i := 45) rfl))) (by decide) (backOf (W := 0) (rm_abl l Z a0 hw [] ra h0 n0 Z0 E_ra (g_ra) F_modCount_ra F_elementData_ra) hZ (hw _ (List.mem_of_getElem? (i := 45) rfl)) (hw _ (List.mem_of_getElem? (i := 44) rfl)) (by decide) (by decide)) (g := (mkF m 1 #[.val (.ref ra)] [(.ref ra)])) rfl (by rw [hml]; rfl) (Steps.refl _) (a := ra) (argsL := []) (rest := []) (lenOf pd0 rfl) rfl (by show 2 * 0 + _ ≤ _; exact Nat.le_of_eq rfl) (hb hby d5_1) (fun _ _ => ⟨rfl, e0, (by decide : 0 + 0 ≤ _), (by decide : 0 + 0 ≤ _)⟩)
  dsimp only [Pt.U, Pt.locs, Pt.cells, Pt.slots] at X2 l2 y2 z2 st2 hQ2
  subst y2 z2
  obtain ⟨rfl, M2, kp2, f2_0, f2_1, f2_2⟩ := hQ2
  have K2 : Keep h0 T2.heap [ra] := (Keep.refl h0 [ra]).trans kp2 (allS (P := fun x => x ∈ [ra] ∨ h0.size ≤ x) (Or.inl (by simp)) all0)
  have zz2 : n0 ≤ T2.heap.size := Nat.le_trans Z0 K2.1
  have N2 : Fr n0 L2 := by rw [l2]; exact Fr.app N0 M2
  clear l2
  have X2 : Stand p l e _ s m _ below meth c T2 _ 0 0 := X2
  have pre3 : ∀ t, Steps p.tables e below (T2.setTop (mkF m 4 #[.val (.ref ra)] [])) t → Steps p.tables e below (s₁.setTop (entryFrame m #[(.ref ra)] 1)) t := fun t k => pre1 t (st2.trans k)
  have f4 := (own_sta_keep SD kp2 E_ra)
  have pre6 : ∀ t, Steps p.tables e below (T2.setTop (mkF m 5 #[.val (.ref ra)] [(.ref ra)])) t → Steps p.tables e below (s₁.setTop (entryFrame m #[(.ref ra)] 1)) t := by
    intro t k
    refine pre3 t ?_
    refine XS.aloadN X2.here hx rfl (hb hby d5_4) rfl rfl ?_
    show Steps p.tables e below (T2.setTop (mkF m 5 #[.val (.ref ra)] [(.ref ra)])) _
    exact k
  obtain ⟨T5, X5, e5, st5⟩ := getS2 X2 hx hZ hown (host := "") (Or.inl (hw _ (List.mem_of_getElem? (i := 55) rfl))) Via.refl rfl f4 (g := (mkF m 5 #[.val (.ref ra)] [(.ref ra)])) rfl (hb hby d5_5)
  have pre7 : ∀ t, Steps p.tables e below (T5.setTop (mkF m 8 #[.val (.ref ra)] [(.ref wl), (.ref ra)])) t → Steps p.tables e below (s₁.setTop (entryFrame m #[(.ref ra)] 1)) t := fun t k => pre6 t (st5 t k)
  obtain ⟨T8, h8, X8, e8, W8, st8⟩ := putF X5 hx hZ hown (host := "") (Or.inl (hw _ (List.mem_of_getElem? (i := 56) rfl))) Via.refl e5 f2_2 f2_0 (Or.inl (hw _ (List.mem_of_getElem? (i := 57) rfl))) (hw _ (List.mem_of_getElem? (i := 35) rfl)) (ty := (.array (.object "java/lang/Object"))) (by decide) rfl rfl (g := (mkF m 8 #[.val (.ref ra)] [(.ref wl), (.ref ra)])) rfl rfl (hb hby d5_8)
  have K8 : Keep h0 h8 [ra] := K2.wr W8 (Or.inl (by simp))
  have z8 : n0 ≤ h8.size := Nat.le_trans Z0 K8.1
  have N8 := Fr.snoc X8 N2 g_ra
  have Fw8 := f2_2.same W8
  have pre9 : ∀ t, Steps p.tables e below (T8.setTop (mkF m 11 #[.val (.ref ra)] [])) t → Steps p.tables e below (s₁.setTop (entryFrame m #[(.ref ra)] 1)) t := fun t k => pre7 t (st8 t k)
  obtain ⟨fs, hr, hrun, hended, hW, hsame⟩ := X8.leave (v := none) (fun _ => rfl)
  refine ⟨_, _, pre9 _ ?_, hrun, hended, _, _, rfl, ?_, ⟨_, rfl⟩, hW, hsame.mono (by decide) (by decide)⟩
  · exact X8.returnOut hx Bd.returns (hb hby d5_11) hr
  · show Q_rm_al Z ra wl h0 n0 _ T8.heap _
    rw [e8]
    exact ⟨rfl, N8, K8, (f2_0.wr W8), (f2_1.other W8 (Or.inr (slot_ne (Or.inl (hw _ (List.mem_of_getElem? (i := 54) rfl))) (Or.inl (hw _ (List.mem_of_getElem? (i := 57) rfl))) (by decide) (t := .int) (t' := (.array (.object "java/lang/Object"))) (by decide) (by decide)))), Fw8⟩
theorem d3_0 : decode prog_37_method_1_code 0 = .ok (.aload_n 0, 1) := by decide +kernel
theorem d3_1 : decode prog_37_method_1_code 1 = .ok (.invokespecial 3, 3) := by decide +kernel
theorem d3_4 : decode prog_37_method_1_code 4 = .ok (.aload_n 0, 1) := by decide +kernel
theorem d3_5 : decode prog_37_method_1_code 5 = .ok (.sipush 1024, 3) := by decide +kernel
theorem d3_8 : decode prog_37_method_1_code 8 = .ok (.newarray .byte, 2) := by decide +kernel
theorem d3_10 : decode prog_37_method_1_code 10 = .ok (.putfield 9, 3) := by decide +kernel
theorem d3_13 : decode prog_37_method_1_code 13 = .ok (.aload_n 0, 1) := by decide +kernel
theorem d3_14 : decode prog_37_method_1_code 14 = .ok (.sipush 1024, 3) := by decide +kernel
theorem d3_17 : decode prog_37_method_1_code 17 = .ok (.newarray .int, 2) := by decide +kernel
theorem d3_19 : decode prog_37_method_1_code 19 = .ok (.putfield 15, 3) := by decide +kernel
theorem d3_22 : decode prog_37_method_1_code 22 = .ok (.aload_n 0, 1) := by decide +kernel
theorem d3_23 : decode prog_37_method_1_code 23 = .ok (.sipush 1024, 3) := by decide +kernel
theorem d3_26 : decode prog_37_method_1_code 26 = .ok (.newarray .int, 2) := by decide +kernel
theorem d3_28 : decode prog_37_method_1_code 28 = .ok (.putfield 19, 3) := by decide +kernel
theorem d3_31 : decode prog_37_method_1_code 31 = .ok (.aload_n 0, 1) := by decide +kernel
theorem d3_32 : decode prog_37_method_1_code 32 = .ok (.sipush 1024, 3) := by decide +kernel
theorem d3_35 : decode prog_37_method_1_code 35 = .ok (.newarray .int, 2) := by decide +kernel
theorem d3_37 : decode prog_37_method_1_code 37 = .ok (.putfield 22, 3) := by decide +kernel
theorem d3_40 : decode prog_37_method_1_code 40 = .ok (.aload_n 0, 1) := by decide +kernel
theorem d3_41 : decode prog_37_method_1_code 41 = .ok (.sipush 1024, 3) := by decide +kernel
theorem d3_44 : decode prog_37_method_1_code 44 = .ok (.newarray .int, 2) := by decide +kernel
theorem d3_46 : decode prog_37_method_1_code 46 = .ok (.putfield 25, 3) := by decide +kernel
theorem d3_49 : decode prog_37_method_1_code 49 = .ok (.aload_n 0, 1) := by decide +kernel
theorem d3_50 : decode prog_37_method_1_code 50 = .ok (.sipush 1024, 3) := by decide +kernel
theorem d3_53 : decode prog_37_method_1_code 53 = .ok (.newarray .int, 2) := by decide +kernel
theorem d3_55 : decode prog_37_method_1_code 55 = .ok (.putfield 28, 3) := by decide +kernel
theorem d3_58 : decode prog_37_method_1_code 58 = .ok (.aload_n 0, 1) := by decide +kernel
theorem d3_59 : decode prog_37_method_1_code 59 = .ok (.sipush 1024, 3) := by decide +kernel
theorem d3_62 : decode prog_37_method_1_code 62 = .ok (.newarray .int, 2) := by decide +kernel
theorem d3_64 : decode prog_37_method_1_code 64 = .ok (.putfield 31, 3) := by decide +kernel
theorem d3_67 : decode prog_37_method_1_code 67 = .ok (.aload_n 0, 1) := by decide +kernel
theorem d3_68 : decode prog_37_method_1_code 68 = .ok (.sipush 1024, 3) := by decide +kernel
theorem d3_71 : decode prog_37_method_1_code 71 = .ok (.newarray .byte, 2) := by decide +kernel
theorem d3_73 : decode prog_37_method_1_code 73 = .ok (.putfield 34, 3) := by decide +kernel
theorem d3_76 : decode prog_37_method_1_code 76 = .ok (.aload_n 0, 1) := by decide +kernel
theorem d3_77 : decode prog_37_method_1_code 77 = .ok (.new 37, 3) := by decide +kernel
theorem d3_80 : decode prog_37_method_1_code 80 = .ok (.dup, 1) := by decide +kernel
theorem d3_81 : decode prog_37_method_1_code 81 = .ok (.invokespecial 39, 3) := by decide +kernel
theorem d3_84 : decode prog_37_method_1_code 84 = .ok (.putfield 40, 3) := by decide +kernel
theorem d3_87 : decode prog_37_method_1_code 87 = .ok (.aload_n 0, 1) := by decide +kernel
theorem d3_88 : decode prog_37_method_1_code 88 = .ok (.sipush 1024, 3) := by decide +kernel
theorem d3_91 : decode prog_37_method_1_code 91 = .ok (.newarray .byte, 2) := by decide +kernel
theorem d3_93 : decode prog_37_method_1_code 93 = .ok (.putfield 44, 3) := by decide +kernel
theorem d3_96 : decode prog_37_method_1_code 96 = .ok (.aload_n 0, 1) := by decide +kernel
theorem d3_97 : decode prog_37_method_1_code 97 = .ok (.sipush 1025, 3) := by decide +kernel
theorem d3_100 : decode prog_37_method_1_code 100 = .ok (.newarray .int, 2) := by decide +kernel
theorem d3_102 : decode prog_37_method_1_code 102 = .ok (.putfield 47, 3) := by decide +kernel
theorem d3_105 : decode prog_37_method_1_code 105 = .ok (.aload_n 0, 1) := by decide +kernel
theorem d3_106 : decode prog_37_method_1_code 106 = .ok (.iconst 0, 1) := by decide +kernel
theorem d3_107 : decode prog_37_method_1_code 107 = .ok (.newarray .int, 2) := by decide +kernel
theorem d3_109 : decode prog_37_method_1_code 109 = .ok (.putfield 50, 3) := by decide +kernel
theorem d3_112 : decode prog_37_method_1_code 112 = .ok (.aload_n 0, 1) := by decide +kernel
theorem d3_113 : decode prog_37_method_1_code 113 = .ok (.iconst 0, 1) := by decide +kernel
theorem d3_114 : decode prog_37_method_1_code 114 = .ok (.newarray .int, 2) := by decide +kernel
theorem d3_116 : decode prog_37_method_1_code 116 = .ok (.putfield 53, 3) := by decide +kernel
theorem d3_119 : decode prog_37_method_1_code 119 = .ok (.return_, 1) := by decide +kernel
theorem pn3 : plainName "com/example/xidr/xidr/xml/tree/TreeBuilder$Parts" = true := by first | (simp [plainName, overriddenIn]; done) | decide +kernel
theorem ef_rm_parts (m : MethodId) (ra : Addr) : entryFrame m #[(.ref ra)] 1 = mkF m 0 #[.val (.ref ra)] [] := by first | (simp [entryFrame, mkF, argsToLocals, Value.category]; done) | rfl
def Q_rm_parts (Z : State) (ra : Addr) (wl : Addr) (h0 : Heap) (n0 : Nat) (v : Option Value) (h : Heap) (L : List Loc) : Prop := ∃ y_kinds : Addr, ∃ y_parents : Addr, ∃ y_nextSiblings : Addr, ∃ y_data : Addr, ∃ y_owners : Addr, ∃ y_attributeNames : Addr, ∃ y_attributeValues : Addr, ∃ y_attributeTypes : Addr, ∃ y_names : Addr, ∃ y_narrowText : Addr, ∃ y_valueStarts : Addr, ∃ y_instructions : Addr, ∃ y_instructionData : Addr, v = none ∧ Fr n0 L ∧ Keep h0 h [ra] ∧ Exa Z h ra "com/example/xidr/xidr/xml/tree/TreeBuilder$Parts" ∧ Fld Z h ra "com/example/xidr/xidr/xml/tree/TreeBuilder$Parts" "kinds" "[B" (.ref y_kinds) ∧ Fld Z h ra "com/example/xidr/xidr/xml/tree/TreeBuilder$Parts" "parents" "[I" (.ref y_parents) ∧ Fld Z h ra "com/example/xidr/xidr/xml/tree/TreeBuilder$Parts" "nextSiblings" "[I" (.ref y_nextSiblings) ∧ Fld Z h ra "com/example/xidr/xidr/xml/tree/TreeBuilder$Parts" "data" "[I" (.ref y_data) ∧ Fld Z h ra "com/example/xidr/xidr/xml/tree/TreeBuilder$Parts" "owners" "[I" (.ref y_owners) ∧ Fld Z h ra "com/example/xidr/xidr/xml/tree/TreeBuilder$Parts" "attributeNames" "[I" (.ref y_attributeNames) ∧ Fld Z h ra "com/example/xidr/xidr/xml/tree/TreeBuilder$Parts" "attributeValues" "[I" (.ref y_attributeValues) ∧ Fld Z h ra "com/example/xidr/xidr/xml/tree/TreeBuilder$Parts" "attributeTypes" "[B" (.ref y_attributeTypes) ∧ Fld Z h ra "com/example/xidr/xidr/xml/tree/TreeBuilder$Parts" "names" "Ljava/util/List;" (.ref y_names) ∧ Fld Z h ra "com/example/xidr/xidr/xml/tree/TreeBuilder$Parts" "narrowText" "[B" (.ref y_narrowText) ∧ Fld Z h ra "com/example/xidr/xidr/xml/tree/TreeBuilder$Parts" "valueStarts" "[I" (.ref y_valueStarts) ∧ Fld Z h ra "com/example/xidr/xidr/xml/tree/TreeBuilder$Parts" "instructions" "[I" (.ref y_instructions) ∧ Fld Z h ra "com/example/xidr/xidr/xml/tree/TreeBuilder$Parts" "instructionData" "[I" (.ref y_instructionData) ∧ Fld Z h ra "com/example/xidr/xidr/xml/tree/TreeBuilder$Parts" "nodeCount" "I" (.int (0 : Int32)) ∧ Fld Z h ra "com/example/xidr/xidr/xml/tree/TreeBuilder$Parts" "attributeCount" "I" (.int (0 : Int32)) ∧ Fld Z h ra "com/example/xidr/xidr/xml/tree/TreeBuilder$Parts" "wideText" "[C" .null
set_option maxRecDepth 65536 in
set_option maxHeartbeats 40000000 in
theorem rm_parts (l : Launch) (Z : State) (a0 : Array Value) (hw : ∀ d ∈ tables_1, d.before a0 Z = true) (ws : List Jvm.Cond) (ra : Addr) (wl : Addr) (h0 : Heap) (n0 : Nat) (Z0 : n0 ≤ h0.size) (E_ra : Exa Z h0 ra "com/example/xidr/xidr/xml/tree/TreeBuilder$Parts") (g_ra : n0 ≤ ra) (F_kinds_ra : Fld Z h0 ra "com/example/xidr/xidr/xml/tree/TreeBuilder$Parts" "kinds" "[B" .null) (F_parents_ra : Fld Z h0 ra "com/example/xidr/xidr/xml/tree/TreeBuilder$Parts" "parents" "[I" .null) (F_nextSiblings_ra : Fld Z h0 ra "com/example/xidr/xidr/xml/tree/TreeBuilder$Parts" "nextSiblings" "[I" .null) (F_data_ra : Fld Z h0 ra "com/example/xidr/xidr/xml/tree/TreeBuilder$Parts" "data" "[I" .null) (F_owners_ra : Fld Z h0 ra "com/example/xidr/xidr/xml/tree/TreeBuilder$Parts" "owners" "[I" .null) (F_attributeNames_ra : Fld Z h0 ra "com/example/xidr/xidr/xml/tree/TreeBuilder$Parts" "attributeNames" "[I" .null) (F_attributeValues_ra : Fld Z h0 ra "com/example/xidr/xidr/xml/tree/TreeBuilder$Parts" "attributeValues" "[I" .null) (F_attributeTypes_ra : Fld Z h0 ra "com/example/xidr/xidr/xml/tree/TreeBuilder$Parts" "attributeTypes" "[B" .null) (F_names_ra : Fld Z h0 ra "com/example/xidr/xidr/xml/tree/TreeBuilder$Parts" "names" "Ljava/util/List;" .null) (F_narrowText_ra : Fld Z h0 ra "com/example/xidr/xidr/xml/tree/TreeBuilder$Parts" "narrowText" "[B" .null) (F_valueStarts_ra : Fld Z h0 ra "com/example/xidr/xidr/xml/tree/TreeBuilder$Parts" "valueStarts" "[I" .null) (F_instructions_ra : Fld Z h0 ra "com/example/xidr/xidr/xml/tree/TreeBuilder$Parts" "instructions" "[I" .null) (F_instructionData_ra : Fld Z h0 ra "com/example/xidr/xidr/xml/tree/TreeBuilder$Parts" "instructionData" "[I" .null) (F_nodeCount_ra : Fld Z h0 ra "com/example/xidr/xidr/xml/tree/TreeBuilder$Parts" "nodeCount" "I" (.int (0 : Int32))) (F_attributeCount_ra : Fld Z h0 ra "com/example/xidr/xidr/xml/tree/TreeBuilder$Parts" "attributeCount" "I" (.int (0 : Int32))) (F_wideText_ra : Fld Z h0 ra "com/example/xidr/xidr/xml/tree/TreeBuilder$Parts" "wideText" "[C" .null) (SD : Sta Z h0 "java/util/ArrayList" "DEFAULTCAPACITY_EMPTY_ELEMENTDATA" "[Ljava/lang/Object;" (.ref wl)) :
    MetFree l (⟨"com/example/xidr/xidr/xml/tree/TreeBuilder$Parts", "<init>", "()V"⟩ : MethodName) (head1 (Jvm.Cond.code (⟨"com/example/xidr/xidr/xml/tree/TreeBuilder$Parts", "<init>", "()V"⟩ : MethodName) prog_37_method_1_code 1 none :: ws) ({ frames := 4, cells := 13, slots := 10244, locals := 50 } : Room)) (fun a U => a = #[(.ref ra)] ∧ Z.Warmed39 U.vm ∧ U.heap = h0) (fun _ _ _ _ _ => True) (fun _ U o U' => ∃ v L, o = .returned v ∧ Q_rm_parts Z ra wl h0 n0 v U'.heap L ∧ FrameEnd U o U' L ({ frames := 4, cells := 13, slots := 10244, locals := 50 } : Room).cells ({ frames := 4, cells := 13, slots := 10244, locals := 50 } : Room).slots) := by
  refine MetFree.of_bodySF (plainFor_of_name pn3) hisR ?_
  intro p e s m args below meth c s₁ Bd hml0 hP hK
  obtain ⟨rfl, hZ, hh⟩ := hP
  have hx := Bd.exec
  have hby := Bd.bytes
  have hml : c.maxLocals = 1 := hml0
  have hown : s.vm.findClass "com/example/xidr/xidr/xml/tree/TreeBuilder$Parts" = some m.cls := findClass_of_methodNamed Bd.named
  have hnm := (name_of_methodNamed Bd.named Bd.method).1
  have X0 : Stand p l e ({ frames := 4, cells := 13, slots := 10244, locals := 50 } : Room) s m #[(.ref ra)] below meth c s₁ [] 0 0 := Stand.of_body Bd
  have e0 : s₁.heap = h0 := by rw [← hh, Bd.state]; rfl
  have N0 := Fr.nil n0
  have pre0 : ∀ t, Steps p.tables e below (s₁.setTop (mkF m 0 #[.val (.ref ra)] [])) t → Steps p.tables e below (s₁.setTop (entryFrame m #[(.ref ra)] 1)) t := fun t k => castTop (ef_rm_parts m ra) k
  have pre1 : ∀ t, Steps p.tables e below (s₁.setTop (mkF m 1 #[.val (.ref ra)] [(.ref ra)])) t → Steps p.tables e below (s₁.setTop (entryFrame m #[(.ref ra)] 1)) t := by
    intro t k
    refine pre0 t ?_
    refine XS.aloadN X0.here hx rfl (hb hby d3_0) rfl rfl ?_
    show Steps p.tables e below (s₁.setTop (mkF m 1 #[.val (.ref ra)] [(.ref ra)])) _
    exact k
  obtain ⟨T2, X2, e2, st2⟩ := initO X0 hx hZ hown (hw _ (List.mem_of_getElem? (i := 14) rfl)) (hw _ (List.mem_of_getElem? (i := 15) rfl)) (hw _ (List.mem_of_getElem? (i := 16) rfl)) e0 (g := (mkF m 1 #[.val (.ref ra)] [(.ref ra)])) rfl (by rw [hml]; rfl) rfl (hb hby d3_1) (by decide) (W := 0) (by show 2 * 0 + _ ≤ _; exact Nat.le_of_eq rfl) (by decide)
  have pre3 : ∀ t, Steps p.tables e below (T2.setTop (mkF m 4 #[.val (.ref ra)] [])) t → Steps p.tables e below (s₁.setTop (entryFrame m #[(.ref ra)] 1)) t := fun t k => pre1 t (st2 t k)
  have pre4 : ∀ t, Steps p.tables e below (T2.setTop (mkF m 8 #[.val (.ref ra)] [(.int (1024 : Int32)), (.ref ra)])) t → Steps p.tables e below (s₁.setTop (entryFrame m #[(.ref ra)] 1)) t := by
    intro t k
    refine pre3 t ?_
    refine XS.aloadN X2.here hx rfl (hb hby d3_4) rfl rfl ?_
    show Steps p.tables e below (T2.setTop (mkF m 5 #[.val (.ref ra)] [(.ref ra)])) _
    refine XS.sipush X2.here hx rfl (hb hby d3_5) ?_
    show Steps p.tables e below (T2.setTop (mkF m 8 #[.val (.ref ra)] [(.int (1024 : Int32)), (.ref ra)])) _
    exact k
  obtain ⟨T5, h5, k5, X5, e5, E5, A5, st5⟩ := newP X2 hx hZ (hw _ (List.mem_of_getElem? (i := 17) rfl)) e2 (g := (mkF m 8 #[.val (.ref ra)] [(.int (1024 : Int32)), (.ref ra)])) rfl (hb hby d3_8) rfl (by decide) (cap := 1024) (by decide) (by decide) (by decide) (by decide)
  obtain ⟨b5, g5⟩ : ∃ z, z = h0.size := ⟨_, rfl⟩
  rw [← g5] at A5 st5
  have g_b5 : n0 ≤ b5 := Nat.le_trans Z0 (Nat.le_of_eq g5.symm)
  have sz_b5 : h0.size ≤ b5 := Nat.le_trans (Keep.refl h0 [ra]).1 (Nat.le_of_eq g5.symm)
  have K5 : Keep h0 h5 [ra] := (Keep.refl h0 [ra]).ext E5
  have z5 : n0 ≤ h5.size := Nat.le_trans Z0 K5.1
  have X5 : Stand p l e _ s m _ below meth c T5 _ 1 1024 := X5
  have pre6 : ∀ t, Steps p.tables e below (T5.setTop (mkF m 10 #[.val (.ref ra)] [(.ref b5), (.ref ra)])) t → Steps p.tables e below (s₁.setTop (entryFrame m #[(.ref ra)] 1)) t := fun t k => pre4 t (st5 t k)
  have f7 := (E_ra.ext E5)
  have f8 := (F_kinds_ra.ext E5)
  obtain ⟨T9, h9, X9, e9, W9, st9⟩ := putF X5 hx hZ hown (host := "") (Or.inl (hw _ (List.mem_of_getElem? (i := 18) rfl))) Via.refl e5 f8 f7 (Or.inl (hw _ (List.mem_of_getElem? (i := 19) rfl))) (hw _ (List.mem_of_getElem? (i := 9) rfl)) (ty := (.array .byte)) (by decide) rfl rfl (g := (mkF m 10 #[.val (.ref ra)] [(.ref b5), (.ref ra)])) rfl rfl (hb hby d3_10)
  have K9 : Keep h0 h9 [ra] := K5.wr W9 (Or.inl (by simp))
  have z9 : n0 ≤ h9.size := Nat.le_trans Z0 K9.1
  have N9 := Fr.snoc X9 N0 g_ra
  have Fw9 := f8.same W9
  have pre10 : ∀ t, Steps p.tables e below (T9.setTop (mkF m 13 #[.val (.ref ra)] [])) t → Steps p.tables e below (s₁.setTop (entryFrame m #[(.ref ra)] 1)) t := fun t k => pre6 t (st9 t k)
  have pre11 : ∀ t, Steps p.tables e below (T9.setTop (mkF m 17 #[.val (.ref ra)] [(.int (1024 : Int32)), (.ref ra)])) t → Steps p.tables e below (s₁.setTop (entryFrame m #[(.ref ra)] 1)) t := by
    intro t k
    refine pre10 t ?_
    refine XS.aloadN X9.here hx rfl (hb hby d3_13) rfl rfl ?_
    show Steps p.tables e below (T9.setTop (mkF m 14 #[.val (.ref ra)] [(.ref ra)])) _
    refine XS.sipush X9.here hx rfl (hb hby d3_14) ?_
    show Steps p.tables e below (T9.setTop (mkF m 17 #[.val (.ref ra)] [(.int (1024 : Int32)), (.ref ra)])) _
    exact k
  obtain ⟨T12, h12, k12, X12, e12, E12, A12, st12⟩ := newP X9 hx hZ (hw _ (List.mem_of_getElem? (i := 0) rfl)) e9 (g := (mkF m 17 #[.val (.ref ra)] [(.int (1024 : Int32)), (.ref ra)])) rfl (hb hby d3_17) rfl (by decide) (cap := 1024) (by decide) (by decide) (by decide) (by decide)
  obtain ⟨b12, g12⟩ : ∃ z, z = h9.size := ⟨_, rfl⟩
  rw [← g12] at A12 st12
  have g_b12 : n0 ≤ b12 := Nat.le_trans z9 (Nat.le_of_eq g12.symm)
  have sz_b12 : h0.size ≤ b12 := Nat.le_trans K9.1 (Nat.le_of_eq g12.symm)
  have K12 : Keep h0 h12 [ra] := K9.ext E12
  have z12 : n0 ≤ h12.size := Nat.le_trans Z0 K12.1
  have X12 : Stand p l e _ s m _ below meth c T12 _ 2 2048 := X12
  have pre13 : ∀ t, Steps p.tables e below (T12.setTop (mkF m 19 #[.val (.ref ra)] [(.ref b12), (.ref ra)])) t → Steps p.tables e below (s₁.setTop (entryFrame m #[(.ref ra)] 1)) t := fun t k => pre11 t (st12 t k)
  have f14 := ((f7.wr W9).ext E12)
  have f15 := (((F_parents_ra.ext E5).other W9 (Or.inr (slot_ne (Or.inl (hw _ (List.mem_of_getElem? (i := 21) rfl))) (Or.inl (hw _ (List.mem_of_getElem? (i := 19) rfl))) (by decide) (t := (.array .int)) (t' := (.array .byte)) (by decide) (by decide)))).ext E12)
  obtain ⟨T16, h16, X16, e16, W16, st16⟩ := putF X12 hx hZ hown (host := "") (Or.inl (hw _ (List.mem_of_getElem? (i := 20) rfl))) Via.refl e12 f15 f14 (Or.inl (hw _ (List.mem_of_getElem? (i := 21) rfl))) (hw _ (List.mem_of_getElem? (i := 9) rfl)) (ty := (.array .int)) (by decide) rfl rfl (g := (mkF m 19 #[.val (.ref ra)] [(.ref b12), (.ref ra)])) rfl rfl (hb hby d3_19)
  have K16 : Keep h0 h16 [ra] := K12.wr W16 (Or.inl (by simp))
  have z16 : n0 ≤ h16.size := Nat.le_trans Z0 K16.1
  have N16 := Fr.snoc X16 N9 g_ra
  have Fw16 := f15.same W16
  have pre17 : ∀ t, Steps p.tables e below (T16.setTop (mkF m 22 #[.val (.ref ra)] [])) t → Steps p.tables e below (s₁.setTop (entryFrame m #[(.ref ra)] 1)) t := fun t k => pre13 t (st16 t k)
  have pre18 : ∀ t, Steps p.tables e below (T16.setTop (mkF m 26 #[.val (.ref ra)] [(.int (1024 : Int32)), (.ref ra)])) t → Steps p.tables e below (s₁.setTop (entryFrame m #[(.ref ra)] 1)) t := by
    intro t k
    refine pre17 t ?_
    refine XS.aloadN X16.here hx rfl (hb hby d3_22) rfl rfl ?_
    show Steps p.tables e below (T16.setTop (mkF m 23 #[.val (.ref ra)] [(.ref ra)])) _
    refine XS.sipush X16.here hx rfl (hb hby d3_23) ?_
    show Steps p.tables e below (T16.setTop (mkF m 26 #[.val (.ref ra)] [(.int (1024 : Int32)), (.ref ra)])) _
    exact k
  obtain ⟨T19, h19, k19, X19, e19, E19, A19, st19⟩ := newP X16 hx hZ (hw _ (List.mem_of_getElem? (i := 0) rfl)) e16 (g := (mkF m 26 #[.val (.ref ra)] [(.int (1024 : Int32)), (.ref ra)])) rfl (hb hby d3_26) rfl (by decide) (cap := 1024) (by decide) (by decide) (by decide) (by decide)
  obtain ⟨b19, g19⟩ : ∃ z, z = h16.size := ⟨_, rfl⟩
  rw [← g19] at A19 st19
  have g_b19 : n0 ≤ b19 := Nat.le_trans z16 (Nat.le_of_eq g19.symm)
  have sz_b19 : h0.size ≤ b19 := Nat.le_trans K16.1 (Nat.le_of_eq g19.symm)
  have K19 : Keep h0 h19 [ra] := K16.ext E19
  have z19 : n0 ≤ h19.size := Nat.le_trans Z0 K19.1
  have X19 : Stand p l e _ s m _ below meth c T19 _ 3 3072 := X19
  have pre20 : ∀ t, Steps p.tables e below (T19.setTop (mkF m 28 #[.val (.ref ra)] [(.ref b19), (.ref ra)])) t → Steps p.tables e below (s₁.setTop (entryFrame m #[(.ref ra)] 1)) t := fun t k => pre18 t (st19 t k)
  have f21 := ((f14.wr W16).ext E19)
  have f22 := (((((F_nextSiblings_ra.ext E5).other W9 (Or.inr (slot_ne (Or.inl (hw _ (List.mem_of_getElem? (i := 23) rfl))) (Or.inl (hw _ (List.mem_of_getElem? (i := 19) rfl))) (by decide) (t := (.array .int)) (t' := (.array .byte)) (by decide) (by decide)))).ext E12).other W16 (Or.inr (slot_ne (Or.inl (hw _ (List.mem_of_getElem? (i := 23) rfl))) (Or.inl (hw _ (List.mem_of_getElem? (i := 21) rfl))) (by decide) (t := (.array .int)) (t' := (.array .int)) (by decide) (by decide)))).ext E19)
  obtain ⟨T23, h23, X23, e23, W23, st23⟩ := putF X19 hx hZ hown (host := "") (Or.inl (hw _ (List.mem_of_getElem? (i := 22) rfl))) Via.refl e19 f22 f21 (Or.inl (hw _ (List.mem_of_getElem? (i := 23) rfl))) (hw _ (List.mem_of_getElem? (i := 9) rfl)) (ty := (.array .int)) (by decide) rfl rfl (g := (mkF m 28 #[.val (.ref ra)] [(.ref b19), (.ref ra)])) rfl rfl (hb hby d3_28)
  have K23 : Keep h0 h23 [ra] := K19.wr W23 (Or.inl (by simp))
  have z23 : n0 ≤ h23.size := Nat.le_trans Z0 K23.1
  have N23 := Fr.snoc X23 N16 g_ra
  have Fw23 := f22.same W23
  have pre24 : ∀ t, Steps p.tables e below (T23.setTop (mkF m 31 #[.val (.ref ra)] [])) t → Steps p.tables e below (s₁.setTop (entryFrame m #[(.ref ra)] 1)) t := fun t k => pre20 t (st23 t k)
  have pre25 : ∀ t, Steps p.tables e below (T23.setTop (mkF m 35 #[.val (.ref ra)] [(.int (1024 : Int32)), (.ref ra)])) t → Steps p.tables e below (s₁.setTop (entryFrame m #[(.ref ra)] 1)) t := by
    intro t k
    refine pre24 t ?_
    refine XS.aloadN X23.here hx rfl (hb hby d3_31) rfl rfl ?_
    show Steps p.tables e below (T23.setTop (mkF m 32 #[.val (.ref ra)] [(.ref ra)])) _
    refine XS.sipush X23.here hx rfl (hb hby d3_32) ?_
    show Steps p.tables e below (T23.setTop (mkF m 35 #[.val (.ref ra)] [(.int (1024 : Int32)), (.ref ra)])) _
    exact k
  obtain ⟨T26, h26, k26, X26, e26, E26, A26, st26⟩ := newP X23 hx hZ (hw _ (List.mem_of_getElem? (i := 0) rfl)) e23 (g := (mkF m 35 #[.val (.ref ra)] [(.int (1024 : Int32)), (.ref ra)])) rfl (hb hby d3_35) rfl (by decide) (cap := 1024) (by decide) (by decide) (by decide) (by decide)
  obtain ⟨b26, g26⟩ : ∃ z, z = h23.size := ⟨_, rfl⟩
  rw [← g26] at A26 st26
  have g_b26 : n0 ≤ b26 := Nat.le_trans z23 (Nat.le_of_eq g26.symm)
  have sz_b26 : h0.size ≤ b26 := Nat.le_trans K23.1 (Nat.le_of_eq g26.symm)
  have K26 : Keep h0 h26 [ra] := K23.ext E26
  have z26 : n0 ≤ h26.size := Nat.le_trans Z0 K26.1
  have X26 : Stand p l e _ s m _ below meth c T26 _ 4 4096 := X26
  have pre27 : ∀ t, Steps p.tables e below (T26.setTop (mkF m 37 #[.val (.ref ra)] [(.ref b26), (.ref ra)])) t → Steps p.tables e below (s₁.setTop (entryFrame m #[(.ref ra)] 1)) t := fun t k => pre25 t (st26 t k)
  have f28 := ((f21.wr W23).ext E26)
  have f29 := (((((((F_data_ra.ext E5).other W9 (Or.inr (slot_ne (Or.inl (hw _ (List.mem_of_getElem? (i := 25) rfl))) (Or.inl (hw _ (List.mem_of_getElem? (i := 19) rfl))) (by decide) (t := (.array .int)) (t' := (.array .byte)) (by decide) (by decide)))).ext E12).other W16 (Or.inr (slot_ne (Or.inl (hw _ (List.mem_of_getElem? (i := 25) rfl))) (Or.inl (hw _ (List.mem_of_getElem? (i := 21) rfl))) (by decide) (t := (.array .int)) (t' := (.array .int)) (by decide) (by decide)))).ext E19).other W23 (Or.inr (slot_ne (Or.inl (hw _ (List.mem_of_getElem? (i := 25) rfl))) (Or.inl (hw _ (List.mem_of_getElem? (i := 23) rfl))) (by decide) (t := (.array .int)) (t' := (.array .int)) (by decide) (by decide)))).ext E26)
  obtain ⟨T30, h30, X30, e30, W30, st30⟩ := putF X26 hx hZ hown (host := "") (Or.inl (hw _ (List.mem_of_getElem? (i := 24) rfl))) Via.refl e26 f29 f28 (Or.inl (hw _ (List.mem_of_getElem? (i := 25) rfl))) (hw _ (List.mem_of_getElem? (i := 9) rfl)) (ty := (.array .int)) (by decide) rfl rfl (g := (mkF m 37 #[.val (.ref ra)] [(.ref b26), (.ref ra)])) rfl rfl (hb hby d3_37)
  have K30 : Keep h0 h30 [ra] := K26.wr W30 (Or.inl (by simp))
  have z30 : n0 ≤ h30.size := Nat.le_trans Z0 K30.1
  have N30 := Fr.snoc X30 N23 g_ra
  have Fw30 := f29.same W30
  have pre31 : ∀ t, Steps p.tables e below (T30.setTop (mkF m 40 #[.val (.ref ra)] [])) t → Steps p.tables e below (s₁.setTop (entryFrame m #[(.ref ra)] 1)) t := fun t k => pre27 t (st30 t k)
  have pre32 : ∀ t, Steps p.tables e below (T30.setTop (mkF m 44 #[.val (.ref ra)] [(.int (1024 : Int32)), (.ref ra)])) t → Steps p.tables e below (s₁.setTop (entryFrame m #[(.ref ra)] 1)) t := by
    intro t k
    refine pre31 t ?_
    refine XS.aloadN X30.here hx rfl (hb hby d3_40) rfl rfl ?_
    show Steps p.tables e below (T30.setTop (mkF m 41 #[.val (.ref ra)] [(.ref ra)])) _
    refine XS.sipush X30.here hx rfl (hb hby d3_41) ?_
    show Steps p.tables e below (T30.setTop (mkF m 44 #[.val (.ref ra)] [(.int (1024 : Int32)), (.ref ra)])) _
    exact k
  obtain ⟨T33, h33, k33, X33, e33, E33, A33, st33⟩ := newP X30 hx hZ (hw _ (List.mem_of_getElem? (i := 0) rfl)) e30 (g := (mkF m 44 #[.val (.ref ra)] [(.int (1024 : Int32)), (.ref ra)])) rfl (hb hby d3_44) rfl (by decide) (cap := 1024) (by decide) (by decide) (by decide) (by decide)
  obtain ⟨b33, g33⟩ : ∃ z, z = h30.size := ⟨_, rfl⟩
  rw [← g33] at A33 st33
  have g_b33 : n0 ≤ b33 := Nat.le_trans z30 (Nat.le_of_eq g33.symm)
  have sz_b33 : h0.size ≤ b33 := Nat.le_trans K30.1 (Nat.le_of_eq g33.symm)
  have K33 : Keep h0 h33 [ra] := K30.ext E33
  have z33 : n0 ≤ h33.size := Nat.le_trans Z0 K33.1
  have X33 : Stand p l e _ s m _ below meth c T33 _ 5 5120 := X33
  have pre34 : ∀ t, Steps p.tables e below (T33.setTop (mkF m 46 #[.val (.ref ra)] [(.ref b33), (.ref ra)])) t → Steps p.tables e below (s₁.setTop (entryFrame m #[(.ref ra)] 1)) t := fun t k => pre32 t (st33 t k)
  have f35 := ((f28.wr W30).ext E33)
  have f36 := (((((((((F_owners_ra.ext E5).other W9 (Or.inr (slot_ne (Or.inl (hw _ (List.mem_of_getElem? (i := 27) rfl))) (Or.inl (hw _ (List.mem_of_getElem? (i := 19) rfl))) (by decide) (t := (.array .int)) (t' := (.array .byte)) (by decide) (by decide)))).ext E12).other W16 (Or.inr (slot_ne (Or.inl (hw _ (List.mem_of_getElem? (i := 27) rfl))) (Or.inl (hw _ (List.mem_of_getElem? (i := 21) rfl))) (by decide) (t := (.array .int)) (t' := (.array .int)) (by decide) (by decide)))).ext E19).other W23 (Or.inr (slot_ne (Or.inl (hw _ (List.mem_of_getElem? (i := 27) rfl))) (Or.inl (hw _ (List.mem_of_getElem? (i := 23) rfl))) (by decide) (t := (.array .int)) (t' := (.array .int)) (by decide) (by decide)))).ext E26).other W30 (Or.inr (slot_ne (Or.inl (hw _ (List.mem_of_getElem? (i := 27) rfl))) (Or.inl (hw _ (List.mem_of_getElem? (i := 25) rfl))) (by decide) (t := (.array .int)) (t' := (.array .int)) (by decide) (by decide)))).ext E33)
  obtain ⟨T37, h37, X37, e37, W37, st37⟩ := putF X33 hx hZ hown (host := "") (Or.inl (hw _ (List.mem_of_getElem? (i := 26) rfl))) Via.refl e33 f36 f35 (Or.inl (hw _ (List.mem_of_getElem? (i := 27) rfl))) (hw _ (List.mem_of_getElem? (i := 9) rfl)) (ty := (.array .int)) (by decide) rfl rfl (g := (mkF m 46 #[.val (.ref ra)] [(.ref b33), (.ref ra)])) rfl rfl (hb hby d3_46)
  have K37 : Keep h0 h37 [ra] := K33.wr W37 (Or.inl (by simp))
  have z37 : n0 ≤ h37.size := Nat.le_trans Z0 K37.1
  have N37 := Fr.snoc X37 N30 g_ra
  have Fw37 := f36.same W37
  have pre38 : ∀ t, Steps p.tables e below (T37.setTop (mkF m 49 #[.val (.ref ra)] [])) t → Steps p.tables e below (s₁.setTop (entryFrame m #[(.ref ra)] 1)) t := fun t k => pre34 t (st37 t k)
  have pre39 : ∀ t, Steps p.tables e below (T37.setTop (mkF m 53 #[.val (.ref ra)] [(.int (1024 : Int32)), (.ref ra)])) t → Steps p.tables e below (s₁.setTop (entryFrame m #[(.ref ra)] 1)) t := by
    intro t k
    refine pre38 t ?_
    refine XS.aloadN X37.here hx rfl (hb hby d3_49) rfl rfl ?_
    show Steps p.tables e below (T37.setTop (mkF m 50 #[.val (.ref ra)] [(.ref ra)])) _
    refine XS.sipush X37.here hx rfl (hb hby d3_50) ?_
    show Steps p.tables e below (T37.setTop (mkF m 53 #[.val (.ref ra)] [(.int (1024 : Int32)), (.ref ra)])) _
    exact k
  obtain ⟨T40, h40, k40, X40, e40, E40, A40, st40⟩ := newP X37 hx hZ (hw _ (List.mem_of_getElem? (i := 0) rfl)) e37 (g := (mkF m 53 #[.val (.ref ra)] [(.int (1024 : Int32)), (.ref ra)])) rfl (hb hby d3_53) rfl (by decide) (cap := 1024) (by decide) (by decide) (by decide) (by decide)
  obtain ⟨b40, g40⟩ : ∃ z, z = h37.size := ⟨_, rfl⟩
  rw [← g40] at A40 st40
  have g_b40 : n0 ≤ b40 := Nat.le_trans z37 (Nat.le_of_eq g40.symm)
  have sz_b40 : h0.size ≤ b40 := Nat.le_trans K37.1 (Nat.le_of_eq g40.symm)
  have K40 : Keep h0 h40 [ra] := K37.ext E40
  have z40 : n0 ≤ h40.size := Nat.le_trans Z0 K40.1
  have X40 : Stand p l e _ s m _ below meth c T40 _ 6 6144 := X40
  have pre41 : ∀ t, Steps p.tables e below (T40.setTop (mkF m 55 #[.val (.ref ra)] [(.ref b40), (.ref ra)])) t → Steps p.tables e below (s₁.setTop (entryFrame m #[(.ref ra)] 1)) t := fun t k => pre39 t (st40 t k)
  have f42 := ((f35.wr W37).ext E40)
  have f43 := (((((((((((F_attributeNames_ra.ext E5).other W9 (Or.inr (slot_ne (Or.inl (hw _ (List.mem_of_getElem? (i := 29) rfl))) (Or.inl (hw _ (List.mem_of_getElem? (i := 19) rfl))) (by decide) (t := (.array .int)) (t' := (.array .byte)) (by decide) (by decide)))).ext E12).other W16 (Or.inr (slot_ne (Or.inl (hw _ (List.mem_of_getElem? (i := 29) rfl))) (Or.inl (hw _ (List.mem_of_getElem? (i := 21) rfl))) (by decide) (t := (.array .int)) (t' := (.array .int)) (by decide) (by decide)))).ext E19).other W23 (Or.inr (slot_ne (Or.inl (hw _ (List.mem_of_getElem? (i := 29) rfl))) (Or.inl (hw _ (List.mem_of_getElem? (i := 23) rfl))) (by decide) (t := (.array .int)) (t' := (.array .int)) (by decide) (by decide)))).ext E26).other W30 (Or.inr (slot_ne (Or.inl (hw _ (List.mem_of_getElem? (i := 29) rfl))) (Or.inl (hw _ (List.mem_of_getElem? (i := 25) rfl))) (by decide) (t := (.array .int)) (t' := (.array .int)) (by decide) (by decide)))).ext E33).other W37 (Or.inr (slot_ne (Or.inl (hw _ (List.mem_of_getElem? (i := 29) rfl))) (Or.inl (hw _ (List.mem_of_getElem? (i := 27) rfl))) (by decide) (t := (.array .int)) (t' := (.array .int)) (by decide) (by decide)))).ext E40)
  obtain ⟨T44, h44, X44, e44, W44, st44⟩ := putF X40 hx hZ hown (host := "") (Or.inl (hw _ (List.mem_of_getElem? (i := 28) rfl))) Via.refl e40 f43 f42 (Or.inl (hw _ (List.mem_of_getElem? (i := 29) rfl))) (hw _ (List.mem_of_getElem? (i := 9) rfl)) (ty := (.array .int)) (by decide) rfl rfl (g := (mkF m 55 #[.val (.ref ra)] [(.ref b40), (.ref ra)])) rfl rfl (hb hby d3_55)
  have K44 : Keep h0 h44 [ra] := K40.wr W44 (Or.inl (by simp))
  have z44 : n0 ≤ h44.size := Nat.le_trans Z0 K44.1
  have N44 := Fr.snoc X44 N37 g_ra
  have Fw44 := f43.same W44
  have pre45 : ∀ t, Steps p.tables e below (T44.setTop (mkF m 58 #[.val (.ref ra)] [])) t → Steps p.tables e below (s₁.setTop (entryFrame m #[(.ref ra)] 1)) t := fun t k => pre41 t (st44 t k)
  have pre46 : ∀ t, Steps p.tables e below (T44.setTop (mkF m 62 #[.val (.ref ra)] [(.int (1024 : Int32)), (.ref ra)])) t → Steps p.tables e below (s₁.setTop (entryFrame m #[(.ref ra)] 1)) t := by
    intro t k
    refine pre45 t ?_
    refine XS.aloadN X44.here hx rfl (hb hby d3_58) rfl rfl ?_
    show Steps p.tables e below (T44.setTop (mkF m 59 #[.val (.ref ra)] [(.ref ra)])) _
    refine XS.sipush X44.here hx rfl (hb hby d3_59) ?_
    show Steps p.tables e below (T44.setTop (mkF m 62 #[.val (.ref ra)] [(.int (1024 : Int32)), (.ref ra)])) _
    exact k
  obtain ⟨T47, h47, k47, X47, e47, E47, A47, st47⟩ := newP X44 hx hZ (hw _ (List.mem_of_getElem? (i := 0) rfl)) e44 (g := (mkF m 62 #[.val (.ref ra)] [(.int (1024 : Int32)), (.ref ra)])) rfl (hb hby d3_62) rfl (by decide) (cap := 1024) (by decide) (by decide) (by decide) (by decide)
  obtain ⟨b47, g47⟩ : ∃ z, z = h44.size := ⟨_, rfl⟩
  rw [← g47] at A47 st47
  have g_b47 : n0 ≤ b47 := Nat.le_trans z44 (Nat.le_of_eq g47.symm)
  have sz_b47 : h0.size ≤ b47 := Nat.le_trans K44.1 (Nat.le_of_eq g47.symm)
  have K47 : Keep h0 h47 [ra] := K44.ext E47
  have z47 : n0 ≤ h47.size := Nat.le_trans Z0 K47.1
  have X47 : Stand p l e _ s m _ below meth c T47 _ 7 7168 := X47
  have pre48 : ∀ t, Steps p.tables e below (T47.setTop (mkF m 64 #[.val (.ref ra)] [(.ref b47), (.ref ra)])) t → Steps p.tables e below (s₁.setTop (entryFrame m #[(.ref ra)] 1)) t := fun t k => pre46 t (st47 t k)
  have f49 := ((f42.wr W44).ext E47)
  have f50 := (((((((((((((F_attributeValues_ra.ext E5).other W9 (Or.inr (slot_ne (Or.inl (hw _ (List.mem_of_getElem? (i := 31) rfl))) (Or.inl (hw _ (List.mem_of_getElem? (i := 19) rfl))) (by decide) (t := (.array .int)) (t' := (.array .byte)) (by decide) (by decide)))).ext E12).other W16 (Or.inr (slot_ne (Or.inl (hw _ (List.mem_of_getElem? (i := 31) rfl))) (Or.inl (hw _ (List.mem_of_getElem? (i := 21) rfl))) (by decide) (t := (.array .int)) (t' := (.array .int)) (by decide) (by decide)))).ext E19).other W23 (Or.inr (slot_ne (Or.inl (hw _ (List.mem_of_getElem? (i := 31) rfl))) (Or.inl (hw _ (List.mem_of_getElem? (i := 23) rfl))) (by decide) (t := (.array .int)) (t' := (.array .int)) (by decide) (by decide)))).ext E26).other W30 (Or.inr (slot_ne (Or.inl (hw _ (List.mem_of_getElem? (i := 31) rfl))) (Or.inl (hw _ (List.mem_of_getElem? (i := 25) rfl))) (by decide) (t := (.array .int)) (t' := (.array .int)) (by decide) (by decide)))).ext E33).other W37 (Or.inr (slot_ne (Or.inl (hw _ (List.mem_of_getElem? (i := 31) rfl))) (Or.inl (hw _ (List.mem_of_getElem? (i := 27) rfl))) (by decide) (t := (.array .int)) (t' := (.array .int)) (by decide) (by decide)))).ext E40).other W44 (Or.inr (slot_ne (Or.inl (hw _ (List.mem_of_getElem? (i := 31) rfl))) (Or.inl (hw _ (List.mem_of_getElem? (i := 29) rfl))) (by decide) (t := (.array .int)) (t' := (.array .int)) (by decide) (by decide)))).ext E47)
  obtain ⟨T51, h51, X51, e51, W51, st51⟩ := putF X47 hx hZ hown (host := "") (Or.inl (hw _ (List.mem_of_getElem? (i := 30) rfl))) Via.refl e47 f50 f49 (Or.inl (hw _ (List.mem_of_getElem? (i := 31) rfl))) (hw _ (List.mem_of_getElem? (i := 9) rfl)) (ty := (.array .int)) (by decide) rfl rfl (g := (mkF m 64 #[.val (.ref ra)] [(.ref b47), (.ref ra)])) rfl rfl (hb hby d3_64)
  have K51 : Keep h0 h51 [ra] := K47.wr W51 (Or.inl (by simp))
  have z51 : n0 ≤ h51.size := Nat.le_trans Z0 K51.1
  have N51 := Fr.snoc X51 N44 g_ra
  have Fw51 := f50.same W51
  have pre52 : ∀ t, Steps p.tables e below (T51.setTop (mkF m 67 #[.val (.ref ra)] [])) t → Steps p.tables e below (s₁.setTop (entryFrame m #[(.ref ra)] 1)) t := fun t k => pre48 t (st51 t k)
  have pre53 : ∀ t, Steps p.tables e below (T51.setTop (mkF m 71 #[.val (.ref ra)] [(.int (1024 : Int32)), (.ref ra)])) t → Steps p.tables e below (s₁.setTop (entryFrame m #[(.ref ra)] 1)) t := by
    intro t k
    refine pre52 t ?_
    refine XS.aloadN X51.here hx rfl (hb hby d3_67) rfl rfl ?_
    show Steps p.tables e below (T51.setTop (mkF m 68 #[.val (.ref ra)] [(.ref ra)])) _
    refine XS.sipush X51.here hx rfl (hb hby d3_68) ?_
    show Steps p.tables e below (T51.setTop (mkF m 71 #[.val (.ref ra)] [(.int (1024 : Int32)), (.ref ra)])) _
    exact k
  obtain ⟨T54, h54, k54, X54, e54, E54, A54, st54⟩ := newP X51 hx hZ (hw _ (List.mem_of_getElem? (i := 17) rfl)) e51 (g := (mkF m 71 #[.val (.ref ra)] [(.int (1024 : Int32)), (.ref ra)])) rfl (hb hby d3_71) rfl (by decide) (cap := 1024) (by decide) (by decide) (by decide) (by decide)
  obtain ⟨b54, g54⟩ : ∃ z, z = h51.size := ⟨_, rfl⟩
  rw [← g54] at A54 st54
  have g_b54 : n0 ≤ b54 := Nat.le_trans z51 (Nat.le_of_eq g54.symm)
  have sz_b54 : h0.size ≤ b54 := Nat.le_trans K51.1 (Nat.le_of_eq g54.symm)
  have K54 : Keep h0 h54 [ra] := K51.ext E54
  have z54 : n0 ≤ h54.size := Nat.le_trans Z0 K54.1
  have X54 : Stand p l e _ s m _ below meth c T54 _ 8 8192 := X54
  have pre55 : ∀ t, Steps p.tables e below (T54.setTop (mkF m 73 #[.val (.ref ra)] [(.ref b54), (.ref ra)])) t → Steps p.tables e below (s₁.setTop (entryFrame m #[(.ref ra)] 1)) t := fun t k => pre53 t (st54 t k)
  have f56 := ((f49.wr W51).ext E54)
  have f57 := (((((((((((((((F_attributeTypes_ra.ext E5).other W9 (Or.inr (slot_ne (Or.inl (hw _ (List.mem_of_getElem? (i := 33) rfl))) (Or.inl (hw _ (List.mem_of_getElem? (i := 19) rfl))) (by decide) (t := (.array .byte)) (t' := (.array .byte)) (by decide) (by decide)))).ext E12).other W16 (Or.inr (slot_ne (Or.inl (hw _ (List.mem_of_getElem? (i := 33) rfl))) (Or.inl (hw _ (List.mem_of_getElem? (i := 21) rfl))) (by decide) (t := (.array .byte)) (t' := (.array .int)) (by decide) (by decide)))).ext E19).other W23 (Or.inr (slot_ne (Or.inl (hw _ (List.mem_of_getElem? (i := 33) rfl))) (Or.inl (hw _ (List.mem_of_getElem? (i := 23) rfl))) (by decide) (t := (.array .byte)) (t' := (.array .int)) (by decide) (by decide)))).ext E26).other W30 (Or.inr (slot_ne (Or.inl (hw _ (List.mem_of_getElem? (i := 33) rfl))) (Or.inl (hw _ (List.mem_of_getElem? (i := 25) rfl))) (by decide) (t := (.array .byte)) (t' := (.array .int)) (by decide) (by decide)))).ext E33).other W37 (Or.inr (slot_ne (Or.inl (hw _ (List.mem_of_getElem? (i := 33) rfl))) (Or.inl (hw _ (List.mem_of_getElem? (i := 27) rfl))) (by decide) (t := (.array .byte)) (t' := (.array .int)) (by decide) (by decide)))).ext E40).other W44 (Or.inr (slot_ne (Or.inl (hw _ (List.mem_of_getElem? (i := 33) rfl))) (Or.inl (hw _ (List.mem_of_getElem? (i := 29) rfl))) (by decide) (t := (.array .byte)) (t' := (.array .int)) (by decide) (by decide)))).ext E47).other W51 (Or.inr (slot_ne (Or.inl (hw _ (List.mem_of_getElem? (i := 33) rfl))) (Or.inl (hw _ (List.mem_of_getElem? (i := 31) rfl))) (by decide) (t := (.array .byte)) (t' := (.array .int)) (by decide) (by decide)))).ext E54)
  obtain ⟨T58, h58, X58, e58, W58, st58⟩ := putF X54 hx hZ hown (host := "") (Or.inl (hw _ (List.mem_of_getElem? (i := 32) rfl))) Via.refl e54 f57 f56 (Or.inl (hw _ (List.mem_of_getElem? (i := 33) rfl))) (hw _ (List.mem_of_getElem? (i := 9) rfl)) (ty := (.array .byte)) (by decide) rfl rfl (g := (mkF m 73 #[.val (.ref ra)] [(.ref b54), (.ref ra)])) rfl rfl (hb hby d3_73)
  have K58 : Keep h0 h58 [ra] := K54.wr W58 (Or.inl (by simp))
  have z58 : n0 ≤ h58.size := Nat.le_trans Z0 K58.1
  have N58 := Fr.snoc X58 N51 g_ra
  have Fw58 := f57.same W58
  have pre59 : ∀ t, Steps p.tables e below (T58.setTop (mkF m 76 #[.val (.ref ra)] [])) t → Steps p.tables e below (s₁.setTop (entryFrame m #[(.ref ra)] 1)) t := fun t k => pre55 t (st58 t k)
  have pre60 : ∀ t, Steps p.tables e below (T58.setTop (mkF m 77 #[.val (.ref ra)] [(.ref ra)])) t → Steps p.tables e below (s₁.setTop (entryFrame m #[(.ref ra)] 1)) t := by
    intro t k
    refine pre59 t ?_
    refine XS.aloadN X58.here hx rfl (hb hby d3_76) rfl rfl ?_
    show Steps p.tables e below (T58.setTop (mkF m 77 #[.val (.ref ra)] [(.ref ra)])) _
    exact k
  obtain ⟨T61, h61, X61, e61, E61, A61, D61, -, st61⟩ := newO X58 hx hZ hown (hw _ (List.mem_of_getElem? (i := 34) rfl)) (hw _ (List.mem_of_getElem? (i := 35) rfl)) (hw _ (List.mem_of_getElem? (i := 36) rfl)) e58 (g := (mkF m 77 #[.val (.ref ra)] [(.ref ra)])) rfl (hb hby d3_77) (by decide) (by decide)
  obtain ⟨b61, g61⟩ : ∃ z, z = h58.size := ⟨_, rfl⟩
  rw [← g61] at A61 D61 st61
  have g_b61 : n0 ≤ b61 := Nat.le_trans z58 (Nat.le_of_eq g61.symm)
  have sz_b61 : h0.size ≤ b61 := Nat.le_trans K58.1 (Nat.le_of_eq g61.symm)
  have K61 : Keep h0 h61 [ra] := K58.ext E61
  have z61 : n0 ≤ h61.size := Nat.le_trans Z0 K61.1
  have F_modCount_b61 : Fld Z h61 b61 "java/util/AbstractList" "modCount" "I" (.int (0 : Int32)) := D61 (Or.inl (hw _ (List.mem_of_getElem? (i := 54) rfl))) (ty := .int) (by decide)
  have F_elementData_b61 : Fld Z h61 b61 "java/util/ArrayList" "elementData" "[Ljava/lang/Object;" .null := D61 (Or.inl (hw _ (List.mem_of_getElem? (i := 57) rfl))) (ty := (.array (.object "java/lang/Object"))) (by decide)
  have X61 : Stand p l e _ s m _ below meth c T61 _ 9 8195 := X61
  have pre62 : ∀ t, Steps p.tables e below (T61.setTop (mkF m 80 #[.val (.ref ra)] [(.ref b61), (.ref ra)])) t → Steps p.tables e below (s₁.setTop (entryFrame m #[(.ref ra)] 1)) t := fun t k => pre60 t (st61 t k)
  have pre63 : ∀ t, Steps p.tables e below (T61.setTop (mkF m 81 #[.val (.ref ra)] [(.ref b61), (.ref b61), (.ref ra)])) t → Steps p.tables e below (s₁.setTop (entryFrame m #[(.ref ra)] 1)) t := by
    intro t k
    refine pre62 t ?_
    refine XS.dup X61.here hx rfl (hb hby d3_80) rfl rfl ?_
    show Steps p.tables e below (T61.setTop (mkF m 81 #[.val (.ref ra)] [(.ref b61), (.ref b61), (.ref ra)])) _
    exact k
  have f64 := (((((((((((((((((SD.ext E5).wr W9).ext E12).wr W16).ext E19).wr W23).ext E26).wr W30).ext E33).wr W37).ext E40).wr W44).ext E47).wr W51).ext E54).wr W58).ext E61)
  obtain ⟨_, _, ⟨T65, L65, k65, n65⟩, -, X65, ⟨Lc65, hQ65, l65, y65, z65⟩, st65⟩ := X61.specialBack hx (y := (⟨"java/util/ArrayList", "<init>", "()V"⟩ : MethodName)) rfl hown (mvT hZ (hw _ (List.mem_of_getElem? (i := 37) rfl))) (mvT hZ (hw _ (List.mem_of_getElem? (i := 38) rfl))) (mvT hZ (hw _ (List.mem_of_getElem? (i := 39) rfl))) (by decide) (backOf (W := 2) (rm_al l Z a0 hw [] b61 wl h61 n0 z61 A61 (g_b61) F_modCount_b61 F_elementData_b61 f64) hZ (hw _ (List.mem_of_getElem? (i := 39) rfl)) (hw _ (List.mem_of_getElem? (i := 36) rfl)) (by decide) (by decide)) (g := (mkF m 81 #[.val (.ref ra)] [(.ref b61), (.ref b61), (.ref ra)])) rfl (by rw [hml]; rfl) (Steps.refl _) (a := b61) (argsL := []) (rest := [(.ref b61), (.ref ra)]) (lenOf pd0 rfl) rfl (by show 2 * 0 + _ ≤ _; exact Nat.le_of_eq rfl) (hb hby d3_81) (fun _ _ => ⟨rfl, e61, (by decide : 9 + 0 ≤ _), (by decide : 8195 + 0 ≤ _)⟩)
  dsimp only [Pt.U, Pt.locs, Pt.cells, Pt.slots] at X65 l65 y65 z65 st65 hQ65
  subst y65 z65
  obtain ⟨rfl, M65, kp65, f65_0, f65_1, f65_2⟩ := hQ65
  have K65 : Keep h0 T65.heap [ra] := K61.trans kp65 (allS (P := fun x => x ∈ [ra] ∨ h0.size ≤ x) (Or.inr sz_b61) all0)
  have zz65 : n0 ≤ T65.heap.size := Nat.le_trans Z0 K65.1
  have N65 : Fr n0 L65 := by rw [l65]; exact Fr.app N58 M65
  clear l65
  have X65 : Stand p l e _ s m _ below meth c T65 _ 9 8195 := X65
  have pre66 : ∀ t, Steps p.tables e below (T65.setTop (mkF m 84 #[.val (.ref ra)] [(.ref b61), (.ref ra)])) t → Steps p.tables e below (s₁.setTop (entryFrame m #[(.ref ra)] 1)) t := fun t k => pre63 t (st65.trans k)
  have f67 := (((f56.wr W58).ext E61).keep kp65)
  have f68 := ((((((((((((((((((F_names_ra.ext E5).other W9 (Or.inr (slot_ne (Or.inr (hw _ (List.mem_of_getElem? (i := 59) rfl))) (Or.inl (hw _ (List.mem_of_getElem? (i := 19) rfl))) (by decide) (t := (.object "java/util/List")) (t' := (.array .byte)) (by decide) (by decide)))).ext E12).other W16 (Or.inr (slot_ne (Or.inr (hw _ (List.mem_of_getElem? (i := 59) rfl))) (Or.inl (hw _ (List.mem_of_getElem? (i := 21) rfl))) (by decide) (t := (.object "java/util/List")) (t' := (.array .int)) (by decide) (by decide)))).ext E19).other W23 (Or.inr (slot_ne (Or.inr (hw _ (List.mem_of_getElem? (i := 59) rfl))) (Or.inl (hw _ (List.mem_of_getElem? (i := 23) rfl))) (by decide) (t := (.object "java/util/List")) (t' := (.array .int)) (by decide) (by decide)))).ext E26).other W30 (Or.inr (slot_ne (Or.inr (hw _ (List.mem_of_getElem? (i := 59) rfl))) (Or.inl (hw _ (List.mem_of_getElem? (i := 25) rfl))) (by decide) (t := (.object "java/util/List")) (t' := (.array .int)) (by decide) (by decide)))).ext E33).other W37 (Or.inr (slot_ne (Or.inr (hw _ (List.mem_of_getElem? (i := 59) rfl))) (Or.inl (hw _ (List.mem_of_getElem? (i := 27) rfl))) (by decide) (t := (.object "java/util/List")) (t' := (.array .int)) (by decide) (by decide)))).ext E40).other W44 (Or.inr (slot_ne (Or.inr (hw _ (List.mem_of_getElem? (i := 59) rfl))) (Or.inl (hw _ (List.mem_of_getElem? (i := 29) rfl))) (by decide) (t := (.object "java/util/List")) (t' := (.array .int)) (by decide) (by decide)))).ext E47).other W51 (Or.inr (slot_ne (Or.inr (hw _ (List.mem_of_getElem? (i := 59) rfl))) (Or.inl (hw _ (List.mem_of_getElem? (i := 31) rfl))) (by decide) (t := (.object "java/util/List")) (t' := (.array .int)) (by decide) (by decide)))).ext E54).other W58 (Or.inr (slot_ne (Or.inr (hw _ (List.mem_of_getElem? (i := 59) rfl))) (Or.inl (hw _ (List.mem_of_getElem? (i := 33) rfl))) (by decide) (t := (.object "java/util/List")) (t' := (.array .byte)) (by decide) (by decide)))).ext E61).keep kp65 (ninS (Nat.ne_of_lt (Nat.lt_of_lt_of_le (f56.wr W58).lt (Nat.le_of_eq g61.symm))) nin0))
  obtain ⟨T69, h69, X69, e69, W69, st69⟩ := putF X65 hx hZ hown (host := "") (Or.inl (hw _ (List.mem_of_getElem? (i := 58) rfl))) Via.refl rfl f68 f67 (Or.inr ⟨(hw _ (List.mem_of_getElem? (i := 59) rfl)), rfl, hnm⟩) (hw _ (List.mem_of_getElem? (i := 9) rfl)) (ty := (.object "java/util/List")) (by decide) rfl rfl (g := (mkF m 84 #[.val (.ref ra)] [(.ref b61), (.ref ra)])) rfl rfl (hb hby d3_84)
  have K69 : Keep h0 h69 [ra] := K65.wr W69 (Or.inl (by simp))
  have z69 : n0 ≤ h69.size := Nat.le_trans Z0 K69.1
  have N69 := Fr.snoc X69 N65 g_ra
  have Fw69 := f68.same W69
  have pre70 : ∀ t, Steps p.tables e below (T69.setTop (mkF m 87 #[.val (.ref ra)] [])) t → Steps p.tables e below (s₁.setTop (entryFrame m #[(.ref ra)] 1)) t := fun t k => pre66 t (st69 t k)
  have pre71 : ∀ t, Steps p.tables e below (T69.setTop (mkF m 91 #[.val (.ref ra)] [(.int (1024 : Int32)), (.ref ra)])) t → Steps p.tables e below (s₁.setTop (entryFrame m #[(.ref ra)] 1)) t := by
    intro t k
    refine pre70 t ?_
    refine XS.aloadN X69.here hx rfl (hb hby d3_87) rfl rfl ?_
    show Steps p.tables e below (T69.setTop (mkF m 88 #[.val (.ref ra)] [(.ref ra)])) _
    refine XS.sipush X69.here hx rfl (hb hby d3_88) ?_
    show Steps p.tables e below (T69.setTop (mkF m 91 #[.val (.ref ra)] [(.int (1024 : Int32)), (.ref ra)])) _
    exact k
  obtain ⟨T72, h72, k72, X72, e72, E72, A72, st72⟩ := newP X69 hx hZ (hw _ (List.mem_of_getElem? (i := 17) rfl)) e69 (g := (mkF m 91 #[.val (.ref ra)] [(.int (1024 : Int32)), (.ref ra)])) rfl (hb hby d3_91) rfl (by decide) (cap := 1024) (by decide) (by decide) (by decide) (by decide)
  obtain ⟨b72, g72⟩ : ∃ z, z = h69.size := ⟨_, rfl⟩
  rw [← g72] at A72 st72
  have g_b72 : n0 ≤ b72 := Nat.le_trans z69 (Nat.le_of_eq g72.symm)
  have sz_b72 : h0.size ≤ b72 := Nat.le_trans K69.1 (Nat.le_of_eq g72.symm)
  have K72 : Keep h0 h72 [ra] := K69.ext E72
  have z72 : n0 ≤ h72.size := Nat.le_trans Z0 K72.1
  have X72 : Stand p l e _ s m _ below meth c T72 _ 10 9219 := X72
  have pre73 : ∀ t, Steps p.tables e below (T72.setTop (mkF m 93 #[.val (.ref ra)] [(.ref b72), (.ref ra)])) t → Steps p.tables e below (s₁.setTop (entryFrame m #[(.ref ra)] 1)) t := fun t k => pre71 t (st72 t k)
  have f74 := ((f67.wr W69).ext E72)
  have f75 := ((((((((((((((((((((F_narrowText_ra.ext E5).other W9 (Or.inr (slot_ne (Or.inl (hw _ (List.mem_of_getElem? (i := 61) rfl))) (Or.inl (hw _ (List.mem_of_getElem? (i := 19) rfl))) (by decide) (t := (.array .byte)) (t' := (.array .byte)) (by decide) (by decide)))).ext E12).other W16 (Or.inr (slot_ne (Or.inl (hw _ (List.mem_of_getElem? (i := 61) rfl))) (Or.inl (hw _ (List.mem_of_getElem? (i := 21) rfl))) (by decide) (t := (.array .byte)) (t' := (.array .int)) (by decide) (by decide)))).ext E19).other W23 (Or.inr (slot_ne (Or.inl (hw _ (List.mem_of_getElem? (i := 61) rfl))) (Or.inl (hw _ (List.mem_of_getElem? (i := 23) rfl))) (by decide) (t := (.array .byte)) (t' := (.array .int)) (by decide) (by decide)))).ext E26).other W30 (Or.inr (slot_ne (Or.inl (hw _ (List.mem_of_getElem? (i := 61) rfl))) (Or.inl (hw _ (List.mem_of_getElem? (i := 25) rfl))) (by decide) (t := (.array .byte)) (t' := (.array .int)) (by decide) (by decide)))).ext E33).other W37 (Or.inr (slot_ne (Or.inl (hw _ (List.mem_of_getElem? (i := 61) rfl))) (Or.inl (hw _ (List.mem_of_getElem? (i := 27) rfl))) (by decide) (t := (.array .byte)) (t' := (.array .int)) (by decide) (by decide)))).ext E40).other W44 (Or.inr (slot_ne (Or.inl (hw _ (List.mem_of_getElem? (i := 61) rfl))) (Or.inl (hw _ (List.mem_of_getElem? (i := 29) rfl))) (by decide) (t := (.array .byte)) (t' := (.array .int)) (by decide) (by decide)))).ext E47).other W51 (Or.inr (slot_ne (Or.inl (hw _ (List.mem_of_getElem? (i := 61) rfl))) (Or.inl (hw _ (List.mem_of_getElem? (i := 31) rfl))) (by decide) (t := (.array .byte)) (t' := (.array .int)) (by decide) (by decide)))).ext E54).other W58 (Or.inr (slot_ne (Or.inl (hw _ (List.mem_of_getElem? (i := 61) rfl))) (Or.inl (hw _ (List.mem_of_getElem? (i := 33) rfl))) (by decide) (t := (.array .byte)) (t' := (.array .byte)) (by decide) (by decide)))).ext E61).keep kp65 (ninS (Nat.ne_of_lt (Nat.lt_of_lt_of_le (f56.wr W58).lt (Nat.le_of_eq g61.symm))) nin0)).other W69 (Or.inr (slot_ne (Or.inl (hw _ (List.mem_of_getElem? (i := 61) rfl))) (Or.inr (hw _ (List.mem_of_getElem? (i := 59) rfl))) (by decide) (t := (.array .byte)) (t' := (.object "java/util/List")) (by decide) (by decide)))).ext E72)
  obtain ⟨T76, h76, X76, e76, W76, st76⟩ := putF X72 hx hZ hown (host := "") (Or.inl (hw _ (List.mem_of_getElem? (i := 60) rfl))) Via.refl e72 f75 f74 (Or.inl (hw _ (List.mem_of_getElem? (i := 61) rfl))) (hw _ (List.mem_of_getElem? (i := 9) rfl)) (ty := (.array .byte)) (by decide) rfl rfl (g := (mkF m 93 #[.val (.ref ra)] [(.ref b72), (.ref ra)])) rfl rfl (hb hby d3_93)
  have K76 : Keep h0 h76 [ra] := K72.wr W76 (Or.inl (by simp))
  have z76 : n0 ≤ h76.size := Nat.le_trans Z0 K76.1
  have N76 := Fr.snoc X76 N69 g_ra
  have Fw76 := f75.same W76
  have pre77 : ∀ t, Steps p.tables e below (T76.setTop (mkF m 96 #[.val (.ref ra)] [])) t → Steps p.tables e below (s₁.setTop (entryFrame m #[(.ref ra)] 1)) t := fun t k => pre73 t (st76 t k)
  have pre78 : ∀ t, Steps p.tables e below (T76.setTop (mkF m 100 #[.val (.ref ra)] [(.int (1025 : Int32)), (.ref ra)])) t → Steps p.tables e below (s₁.setTop (entryFrame m #[(.ref ra)] 1)) t := by
    intro t k
    refine pre77 t ?_
    refine XS.aloadN X76.here hx rfl (hb hby d3_96) rfl rfl ?_
    show Steps p.tables e below (T76.setTop (mkF m 97 #[.val (.ref ra)] [(.ref ra)])) _
    refine XS.sipush X76.here hx rfl (hb hby d3_97) ?_
    show Steps p.tables e below (T76.setTop (mkF m 100 #[.val (.ref ra)] [(.int (1025 : Int32)), (.ref ra)])) _
    exact k
  obtain ⟨T79, h79, k79, X79, e79, E79, A79, st79⟩ := newP X76 hx hZ (hw _ (List.mem_of_getElem? (i := 0) rfl)) e76 (g := (mkF m 100 #[.val (.ref ra)] [(.int (1025 : Int32)), (.ref ra)])) rfl (hb hby d3_100) rfl (by decide) (cap := 1025) (by decide) (by decide) (by decide) (by decide)
  obtain ⟨b79, g79⟩ : ∃ z, z = h76.size := ⟨_, rfl⟩
  rw [← g79] at A79 st79
  have g_b79 : n0 ≤ b79 := Nat.le_trans z76 (Nat.le_of_eq g79.symm)
  have sz_b79 : h0.size ≤ b79 := Nat.le_trans K76.1 (Nat.le_of_eq g79.symm)
  have K79 : Keep h0 h79 [ra] := K76.ext E79
  have z79 : n0 ≤ h79.size := Nat.le_trans Z0 K79.1
  have X79 : Stand p l e _ s m _ below meth c T79 _ 11 10244 := X79
  have pre80 : ∀ t, Steps p.tables e below (T79.setTop (mkF m 102 #[.val (.ref ra)] [(.ref b79), (.ref ra)])) t → Steps p.tables e below (s₁.setTop (entryFrame m #[(.ref ra)] 1)) t := fun t k => pre78 t (st79 t k)
  have f81 := ((f74.wr W76).ext E79)
  have f82 := ((((((((((((((((((((((F_valueStarts_ra.ext E5).other W9 (Or.inr (slot_ne (Or.inl (hw _ (List.mem_of_getElem? (i := 63) rfl))) (Or.inl (hw _ (List.mem_of_getElem? (i := 19) rfl))) (by decide) (t := (.array .int)) (t' := (.array .byte)) (by decide) (by decide)))).ext E12).other W16 (Or.inr (slot_ne (Or.inl (hw _ (List.mem_of_getElem? (i := 63) rfl))) (Or.inl (hw _ (List.mem_of_getElem? (i := 21) rfl))) (by decide) (t := (.array .int)) (t' := (.array .int)) (by decide) (by decide)))).ext E19).other W23 (Or.inr (slot_ne (Or.inl (hw _ (List.mem_of_getElem? (i := 63) rfl))) (Or.inl (hw _ (List.mem_of_getElem? (i := 23) rfl))) (by decide) (t := (.array .int)) (t' := (.array .int)) (by decide) (by decide)))).ext E26).other W30 (Or.inr (slot_ne (Or.inl (hw _ (List.mem_of_getElem? (i := 63) rfl))) (Or.inl (hw _ (List.mem_of_getElem? (i := 25) rfl))) (by decide) (t := (.array .int)) (t' := (.array .int)) (by decide) (by decide)))).ext E33).other W37 (Or.inr (slot_ne (Or.inl (hw _ (List.mem_of_getElem? (i := 63) rfl))) (Or.inl (hw _ (List.mem_of_getElem? (i := 27) rfl))) (by decide) (t := (.array .int)) (t' := (.array .int)) (by decide) (by decide)))).ext E40).other W44 (Or.inr (slot_ne (Or.inl (hw _ (List.mem_of_getElem? (i := 63) rfl))) (Or.inl (hw _ (List.mem_of_getElem? (i := 29) rfl))) (by decide) (t := (.array .int)) (t' := (.array .int)) (by decide) (by decide)))).ext E47).other W51 (Or.inr (slot_ne (Or.inl (hw _ (List.mem_of_getElem? (i := 63) rfl))) (Or.inl (hw _ (List.mem_of_getElem? (i := 31) rfl))) (by decide) (t := (.array .int)) (t' := (.array .int)) (by decide) (by decide)))).ext E54).other W58 (Or.inr (slot_ne (Or.inl (hw _ (List.mem_of_getElem? (i := 63) rfl))) (Or.inl (hw _ (List.mem_of_getElem? (i := 33) rfl))) (by decide) (t := (.array .int)) (t' := (.array .byte)) (by decide) (by decide)))).ext E61).keep kp65 (ninS (Nat.ne_of_lt (Nat.lt_of_lt_of_le (f56.wr W58).lt (Nat.le_of_eq g61.symm))) nin0)).other W69 (Or.inr (slot_ne (Or.inl (hw _ (List.mem_of_getElem? (i := 63) rfl))) (Or.inr (hw _ (List.mem_of_getElem? (i := 59) rfl))) (by decide) (t := (.array .int)) (t' := (.object "java/util/List")) (by decide) (by decide)))).ext E72).other W76 (Or.inr (slot_ne (Or.inl (hw _ (List.mem_of_getElem? (i := 63) rfl))) (Or.inl (hw _ (List.mem_of_getElem? (i := 61) rfl))) (by decide) (t := (.array .int)) (t' := (.array .byte)) (by decide) (by decide)))).ext E79)
  obtain ⟨T83, h83, X83, e83, W83, st83⟩ := putF X79 hx hZ hown (host := "") (Or.inl (hw _ (List.mem_of_getElem? (i := 62) rfl))) Via.refl e79 f82 f81 (Or.inl (hw _ (List.mem_of_getElem? (i := 63) rfl))) (hw _ (List.mem_of_getElem? (i := 9) rfl)) (ty := (.array .int)) (by decide) rfl rfl (g := (mkF m 102 #[.val (.ref ra)] [(.ref b79), (.ref ra)])) rfl rfl (hb hby d3_102)
  have K83 : Keep h0 h83 [ra] := K79.wr W83 (Or.inl (by simp))
  have z83 : n0 ≤ h83.size := Nat.le_trans Z0 K83.1
  have N83 := Fr.snoc X83 N76 g_ra
  have Fw83 := f82.same W83
  have pre84 : ∀ t, Steps p.tables e below (T83.setTop (mkF m 105 #[.val (.ref ra)] [])) t → Steps p.tables e below (s₁.setTop (entryFrame m #[(.ref ra)] 1)) t := fun t k => pre80 t (st83 t k)
  have pre85 : ∀ t, Steps p.tables e below (T83.setTop (mkF m 107 #[.val (.ref ra)] [(.int (0 : Int32)), (.ref ra)])) t → Steps p.tables e below (s₁.setTop (entryFrame m #[(.ref ra)] 1)) t := by
    intro t k
    refine pre84 t ?_
    refine XS.aloadN X83.here hx rfl (hb hby d3_105) rfl rfl ?_
    show Steps p.tables e below (T83.setTop (mkF m 106 #[.val (.ref ra)] [(.ref ra)])) _
    refine XS.iconst X83.here hx rfl (hb hby d3_106) ?_
    show Steps p.tables e below (T83.setTop (mkF m 107 #[.val (.ref ra)] [(.int (0 : Int32)), (.ref ra)])) _
    exact k
  obtain ⟨T86, h86, k86, X86, e86, E86, A86, st86⟩ := newP X83 hx hZ (hw _ (List.mem_of_getElem? (i := 0) rfl)) e83 (g := (mkF m 107 #[.val (.ref ra)] [(.int (0 : Int32)), (.ref ra)])) rfl (hb hby d3_107) rfl (by decide) (cap := 0) (by decide) (by decide) (by decide) (by decide)
  obtain ⟨b86, g86⟩ : ∃ z, z = h83.size := ⟨_, rfl⟩
  rw [← g86] at A86 st86
  have g_b86 : n0 ≤ b86 := Nat.le_trans z83 (Nat.le_of_eq g86.symm)
  have sz_b86 : h0.size ≤ b86 := Nat.le_trans K83.1 (Nat.le_of_eq g86.symm)
  have K86 : Keep h0 h86 [ra] := K83.ext E86
  have z86 : n0 ≤ h86.size := Nat.le_trans Z0 K86.1
  have V_b86 : Arv Z h86 b86 k86 .int (0 : Int32) [] (.int (0 : Int32)) := (Arv.new A86 (by decide)).pad (pad_rep [] (.int (0 : Int32)) 0)
  have X86 : Stand p l e _ s m _ below meth c T86 _ 12 10244 := X86
  have pre87 : ∀ t, Steps p.tables e below (T86.setTop (mkF m 109 #[.val (.ref ra)] [(.ref b86), (.ref ra)])) t → Steps p.tables e below (s₁.setTop (entryFrame m #[(.ref ra)] 1)) t := fun t k => pre85 t (st86 t k)
  have f88 := ((f81.wr W83).ext E86)
  have f89 := ((((((((((((((((((((((((F_instructions_ra.ext E5).other W9 (Or.inr (slot_ne (Or.inl (hw _ (List.mem_of_getElem? (i := 65) rfl))) (Or.inl (hw _ (List.mem_of_getElem? (i := 19) rfl))) (by decide) (t := (.array .int)) (t' := (.array .byte)) (by decide) (by decide)))).ext E12).other W16 (Or.inr (slot_ne (Or.inl (hw _ (List.mem_of_getElem? (i := 65) rfl))) (Or.inl (hw _ (List.mem_of_getElem? (i := 21) rfl))) (by decide) (t := (.array .int)) (t' := (.array .int)) (by decide) (by decide)))).ext E19).other W23 (Or.inr (slot_ne (Or.inl (hw _ (List.mem_of_getElem? (i := 65) rfl))) (Or.inl (hw _ (List.mem_of_getElem? (i := 23) rfl))) (by decide) (t := (.array .int)) (t' := (.array .int)) (by decide) (by decide)))).ext E26).other W30 (Or.inr (slot_ne (Or.inl (hw _ (List.mem_of_getElem? (i := 65) rfl))) (Or.inl (hw _ (List.mem_of_getElem? (i := 25) rfl))) (by decide) (t := (.array .int)) (t' := (.array .int)) (by decide) (by decide)))).ext E33).other W37 (Or.inr (slot_ne (Or.inl (hw _ (List.mem_of_getElem? (i := 65) rfl))) (Or.inl (hw _ (List.mem_of_getElem? (i := 27) rfl))) (by decide) (t := (.array .int)) (t' := (.array .int)) (by decide) (by decide)))).ext E40).other W44 (Or.inr (slot_ne (Or.inl (hw _ (List.mem_of_getElem? (i := 65) rfl))) (Or.inl (hw _ (List.mem_of_getElem? (i := 29) rfl))) (by decide) (t := (.array .int)) (t' := (.array .int)) (by decide) (by decide)))).ext E47).other W51 (Or.inr (slot_ne (Or.inl (hw _ (List.mem_of_getElem? (i := 65) rfl))) (Or.inl (hw _ (List.mem_of_getElem? (i := 31) rfl))) (by decide) (t := (.array .int)) (t' := (.array .int)) (by decide) (by decide)))).ext E54).other W58 (Or.inr (slot_ne (Or.inl (hw _ (List.mem_of_getElem? (i := 65) rfl))) (Or.inl (hw _ (List.mem_of_getElem? (i := 33) rfl))) (by decide) (t := (.array .int)) (t' := (.array .byte)) (by decide) (by decide)))).ext E61).keep kp65 (ninS (Nat.ne_of_lt (Nat.lt_of_lt_of_le (f56.wr W58).lt (Nat.le_of_eq g61.symm))) nin0)).other W69 (Or.inr (slot_ne (Or.inl (hw _ (List.mem_of_getElem? (i := 65) rfl))) (Or.inr (hw _ (List.mem_of_getElem? (i := 59) rfl))) (by decide) (t := (.array .int)) (t' := (.object "java/util/List")) (by decide) (by decide)))).ext E72).other W76 (Or.inr (slot_ne (Or.inl (hw _ (List.mem_of_getElem? (i := 65) rfl))) (Or.inl (hw _ (List.mem_of_getElem? (i := 61) rfl))) (by decide) (t := (.array .int)) (t' := (.array .byte)) (by decide) (by decide)))).ext E79).other W83 (Or.inr (slot_ne (Or.inl (hw _ (List.mem_of_getElem? (i := 65) rfl))) (Or.inl (hw _ (List.mem_of_getElem? (i := 63) rfl))) (by decide) (t := (.array .int)) (t' := (.array .int)) (by decide) (by decide)))).ext E86)
  obtain ⟨T90, h90, X90, e90, W90, st90⟩ := putF X86 hx hZ hown (host := "") (Or.inl (hw _ (List.mem_of_getElem? (i := 64) rfl))) Via.refl e86 f89 f88 (Or.inl (hw _ (List.mem_of_getElem? (i := 65) rfl))) (hw _ (List.mem_of_getElem? (i := 9) rfl)) (ty := (.array .int)) (by decide) rfl rfl (g := (mkF m 109 #[.val (.ref ra)] [(.ref b86), (.ref ra)])) rfl rfl (hb hby d3_109)
  have K90 : Keep h0 h90 [ra] := K86.wr W90 (Or.inl (by simp))
  have z90 : n0 ≤ h90.size := Nat.le_trans Z0 K90.1
  have N90 := Fr.snoc X90 N83 g_ra
  have Fw90 := f89.same W90
  have pre91 : ∀ t, Steps p.tables e below (T90.setTop (mkF m 112 #[.val (.ref ra)] [])) t → Steps p.tables e below (s₁.setTop (entryFrame m #[(.ref ra)] 1)) t := fun t k => pre87 t (st90 t k)
  have pre92 : ∀ t, Steps p.tables e below (T90.setTop (mkF m 114 #[.val (.ref ra)] [(.int (0 : Int32)), (.ref ra)])) t → Steps p.tables e below (s₁.setTop (entryFrame m #[(.ref ra)] 1)) t := by
    intro t k
    refine pre91 t ?_
    refine XS.aloadN X90.here hx rfl (hb hby d3_112) rfl rfl ?_
    show Steps p.tables e below (T90.setTop (mkF m 113 #[.val (.ref ra)] [(.ref ra)])) _
    refine XS.iconst X90.here hx rfl (hb hby d3_113) ?_
    show Steps p.tables e below (T90.setTop (mkF m 114 #[.val (.ref ra)] [(.int (0 : Int32)), (.ref ra)])) _
    exact k
  obtain ⟨T93, h93, k93, X93, e93, E93, A93, st93⟩ := newP X90 hx hZ (hw _ (List.mem_of_getElem? (i := 0) rfl)) e90 (g := (mkF m 114 #[.val (.ref ra)] [(.int (0 : Int32)), (.ref ra)])) rfl (hb hby d3_114) rfl (by decide) (cap := 0) (by decide) (by decide) (by decide) (by decide)
  obtain ⟨b93, g93⟩ : ∃ z, z = h90.size := ⟨_, rfl⟩
  rw [← g93] at A93 st93
  have g_b93 : n0 ≤ b93 := Nat.le_trans z90 (Nat.le_of_eq g93.symm)
  have sz_b93 : h0.size ≤ b93 := Nat.le_trans K90.1 (Nat.le_of_eq g93.symm)
  have K93 : Keep h0 h93 [ra] := K90.ext E93
  have z93 : n0 ≤ h93.size := Nat.le_trans Z0 K93.1
  have V_b93 : Arv Z h93 b93 k93 .int (0 : Int32) [] (.int (0 : Int32)) := (Arv.new A93 (by decide)).pad (pad_rep [] (.int (0 : Int32)) 0)
  have X93 : Stand p l e _ s m _ below meth c T93 _ 13 10244 := X93
  have pre94 : ∀ t, Steps p.tables e below (T93.setTop (mkF m 116 #[.val (.ref ra)] [(.ref b93), (.ref ra)])) t → Steps p.tables e below (s₁.setTop (entryFrame m #[(.ref ra)] 1)) t := fun t k => pre92 t (st93 t k)
  have f95 := ((f88.wr W90).ext E93)
  have f96 := ((((((((((((((((((((((((((F_instructionData_ra.ext E5).other W9 (Or.inr (slot_ne (Or.inl (hw _ (List.mem_of_getElem? (i := 67) rfl))) (Or.inl (hw _ (List.mem_of_getElem? (i := 19) rfl))) (by decide) (t := (.array .int)) (t' := (.array .byte)) (by decide) (by decide)))).ext E12).other W16 (Or.inr (slot_ne (Or.inl (hw _ (List.mem_of_getElem? (i := 67) rfl))) (Or.inl (hw _ (List.mem_of_getElem? (i := 21) rfl))) (by decide) (t := (.array .int)) (t' := (.array .int)) (by decide) (by decide)))).ext E19).other W23 (Or.inr (slot_ne (Or.inl (hw _ (List.mem_of_getElem? (i := 67) rfl))) (Or.inl (hw _ (List.mem_of_getElem? (i := 23) rfl))) (by decide) (t := (.array .int)) (t' := (.array .int)) (by decide) (by decide)))).ext E26).other W30 (Or.inr (slot_ne (Or.inl (hw _ (List.mem_of_getElem? (i := 67) rfl))) (Or.inl (hw _ (List.mem_of_getElem? (i := 25) rfl))) (by decide) (t := (.array .int)) (t' := (.array .int)) (by decide) (by decide)))).ext E33).other W37 (Or.inr (slot_ne (Or.inl (hw _ (List.mem_of_getElem? (i := 67) rfl))) (Or.inl (hw _ (List.mem_of_getElem? (i := 27) rfl))) (by decide) (t := (.array .int)) (t' := (.array .int)) (by decide) (by decide)))).ext E40).other W44 (Or.inr (slot_ne (Or.inl (hw _ (List.mem_of_getElem? (i := 67) rfl))) (Or.inl (hw _ (List.mem_of_getElem? (i := 29) rfl))) (by decide) (t := (.array .int)) (t' := (.array .int)) (by decide) (by decide)))).ext E47).other W51 (Or.inr (slot_ne (Or.inl (hw _ (List.mem_of_getElem? (i := 67) rfl))) (Or.inl (hw _ (List.mem_of_getElem? (i := 31) rfl))) (by decide) (t := (.array .int)) (t' := (.array .int)) (by decide) (by decide)))).ext E54).other W58 (Or.inr (slot_ne (Or.inl (hw _ (List.mem_of_getElem? (i := 67) rfl))) (Or.inl (hw _ (List.mem_of_getElem? (i := 33) rfl))) (by decide) (t := (.array .int)) (t' := (.array .byte)) (by decide) (by decide)))).ext E61).keep kp65 (ninS (Nat.ne_of_lt (Nat.lt_of_lt_of_le (f56.wr W58).lt (Nat.le_of_eq g61.symm))) nin0)).other W69 (Or.inr (slot_ne (Or.inl (hw _ (List.mem_of_getElem? (i := 67) rfl))) (Or.inr (hw _ (List.mem_of_getElem? (i := 59) rfl))) (by decide) (t := (.array .int)) (t' := (.object "java/util/List")) (by decide) (by decide)))).ext E72).other W76 (Or.inr (slot_ne (Or.inl (hw _ (List.mem_of_getElem? (i := 67) rfl))) (Or.inl (hw _ (List.mem_of_getElem? (i := 61) rfl))) (by decide) (t := (.array .int)) (t' := (.array .byte)) (by decide) (by decide)))).ext E79).other W83 (Or.inr (slot_ne (Or.inl (hw _ (List.mem_of_getElem? (i := 67) rfl))) (Or.inl (hw _ (List.mem_of_getElem? (i := 63) rfl))) (by decide) (t := (.array .int)) (t' := (.array .int)) (by decide) (by decide)))).ext E86).other W90 (Or.inr (slot_ne (Or.inl (hw _ (List.mem_of_getElem? (i := 67) rfl))) (Or.inl (hw _ (List.mem_of_getElem? (i := 65) rfl))) (by decide) (t := (.array .int)) (t' := (.array .int)) (by decide) (by decide)))).ext E93)
  obtain ⟨T97, h97, X97, e97, W97, st97⟩ := putF X93 hx hZ hown (host := "") (Or.inl (hw _ (List.mem_of_getElem? (i := 66) rfl))) Via.refl e93 f96 f95 (Or.inl (hw _ (List.mem_of_getElem? (i := 67) rfl))) (hw _ (List.mem_of_getElem? (i := 9) rfl)) (ty := (.array .int)) (by decide) rfl rfl (g := (mkF m 116 #[.val (.ref ra)] [(.ref b93), (.ref ra)])) rfl rfl (hb hby d3_116)
  have K97 : Keep h0 h97 [ra] := K93.wr W97 (Or.inl (by simp))
  have z97 : n0 ≤ h97.size := Nat.le_trans Z0 K97.1
  have N97 := Fr.snoc X97 N90 g_ra
  have Fw97 := f96.same W97
  have pre98 : ∀ t, Steps p.tables e below (T97.setTop (mkF m 119 #[.val (.ref ra)] [])) t → Steps p.tables e below (s₁.setTop (entryFrame m #[(.ref ra)] 1)) t := fun t k => pre94 t (st97 t k)
  obtain ⟨fs, hr, hrun, hended, hW, hsame⟩ := X97.leave (v := none) (fun _ => rfl)
  refine ⟨_, _, pre98 _ ?_, hrun, hended, _, _, rfl, ?_, ⟨_, rfl⟩, hW, hsame.mono (by decide) (by decide)⟩
  · exact X97.returnOut hx Bd.returns (hb hby d3_119) hr
  · show Q_rm_parts Z ra wl h0 n0 _ T97.heap _
    rw [e97]
    exact ⟨b5, b12, b19, b26, b33, b40, b47, b54, b61, b72, b79, b86, b93, rfl, N97, K97, (f95.wr W97), (((((((((((((((((((((((((Fw9.ext E12).other W16 (Or.inr (slot_ne (Or.inl (hw _ (List.mem_of_getElem? (i := 19) rfl))) (Or.inl (hw _ (List.mem_of_getElem? (i := 21) rfl))) (by decide) (t := (.array .byte)) (t' := (.array .int)) (by decide) (by decide)))).ext E19).other W23 (Or.inr (slot_ne (Or.inl (hw _ (List.mem_of_getElem? (i := 19) rfl))) (Or.inl (hw _ (List.mem_of_getElem? (i := 23) rfl))) (by decide) (t := (.array .byte)) (t' := (.array .int)) (by decide) (by decide)))).ext E26).other W30 (Or.inr (slot_ne (Or.inl (hw _ (List.mem_of_getElem? (i := 19) rfl))) (Or.inl (hw _ (List.mem_of_getElem? (i := 25) rfl))) (by decide) (t := (.array .byte)) (t' := (.array .int)) (by decide) (by decide)))).ext E33).other W37 (Or.inr (slot_ne (Or.inl (hw _ (List.mem_of_getElem? (i := 19) rfl))) (Or.inl (hw _ (List.mem_of_getElem? (i := 27) rfl))) (by decide) (t := (.array .byte)) (t' := (.array .int)) (by decide) (by decide)))).ext E40).other W44 (Or.inr (slot_ne (Or.inl (hw _ (List.mem_of_getElem? (i := 19) rfl))) (Or.inl (hw _ (List.mem_of_getElem? (i := 29) rfl))) (by decide) (t := (.array .byte)) (t' := (.array .int)) (by decide) (by decide)))).ext E47).other W51 (Or.inr (slot_ne (Or.inl (hw _ (List.mem_of_getElem? (i := 19) rfl))) (Or.inl (hw _ (List.mem_of_getElem? (i := 31) rfl))) (by decide) (t := (.array .byte)) (t' := (.array .int)) (by decide) (by decide)))).ext E54).other W58 (Or.inr (slot_ne (Or.inl (hw _ (List.mem_of_getElem? (i := 19) rfl))) (Or.inl (hw _ (List.mem_of_getElem? (i := 33) rfl))) (by decide) (t := (.array .byte)) (t' := (.array .byte)) (by decide) (by decide)))).ext E61).keep kp65 (ninS (Nat.ne_of_lt (Nat.lt_of_lt_of_le (f56.wr W58).lt (Nat.le_of_eq g61.symm))) nin0)).other W69 (Or.inr (slot_ne (Or.inl (hw _ (List.mem_of_getElem? (i := 19) rfl))) (Or.inr (hw _ (List.mem_of_getElem? (i := 59) rfl))) (by decide) (t := (.array .byte)) (t' := (.object "java/util/List")) (by decide) (by decide)))).ext E72).other W76 (Or.inr (slot_ne (Or.inl (hw _ (List.mem_of_getElem? (i := 19) rfl))) (Or.inl (hw _ (List.mem_of_getElem? (i := 61) rfl))) (by decide) (t := (.array .byte)) (t' := (.array .byte)) (by decide) (by decide)))).ext E79).other W83 (Or.inr (slot_ne (Or.inl (hw _ (List.mem_of_getElem? (i := 19) rfl))) (Or.inl (hw _ (List.mem_of_getElem? (i := 63) rfl))) (by decide) (t := (.array .byte)) (t' := (.array .int)) (by decide) (by decide)))).ext E86).other W90 (Or.inr (slot_ne (Or.inl (hw _ (List.mem_of_getElem? (i := 19) rfl))) (Or.inl (hw _ (List.mem_of_getElem? (i := 65) rfl))) (by decide) (t := (.array .byte)) (t' := (.array .int)) (by decide) (by decide)))).ext E93).other W97 (Or.inr (slot_ne (Or.inl (hw _ (List.mem_of_getElem? (i := 19) rfl))) (Or.inl (hw _ (List.mem_of_getElem? (i := 67) rfl))) (by decide) (t := (.array .byte)) (t' := (.array .int)) (by decide) (by decide)))), (((((((((((((((((((((((Fw16.ext E19).other W23 (Or.inr (slot_ne (Or.inl (hw _ (List.mem_of_getElem? (i := 21) rfl))) (Or.inl (hw _ (List.mem_of_getElem? (i := 23) rfl))) (by decide) (t := (.array .int)) (t' := (.array .int)) (by decide) (by decide)))).ext E26).other W30 (Or.inr (slot_ne (Or.inl (hw _ (List.mem_of_getElem? (i := 21) rfl))) (Or.inl (hw _ (List.mem_of_getElem? (i := 25) rfl))) (by decide) (t := (.array .int)) (t' := (.array .int)) (by decide) (by decide)))).ext E33).other W37 (Or.inr (slot_ne (Or.inl (hw _ (List.mem_of_getElem? (i := 21) rfl))) (Or.inl (hw _ (List.mem_of_getElem? (i := 27) rfl))) (by decide) (t := (.array .int)) (t' := (.array .int)) (by decide) (by decide)))).ext E40).other W44 (Or.inr (slot_ne (Or.inl (hw _ (List.mem_of_getElem? (i := 21) rfl))) (Or.inl (hw _ (List.mem_of_getElem? (i := 29) rfl))) (by decide) (t := (.array .int)) (t' := (.array .int)) (by decide) (by decide)))).ext E47).other W51 (Or.inr (slot_ne (Or.inl (hw _ (List.mem_of_getElem? (i := 21) rfl))) (Or.inl (hw _ (List.mem_of_getElem? (i := 31) rfl))) (by decide) (t := (.array .int)) (t' := (.array .int)) (by decide) (by decide)))).ext E54).other W58 (Or.inr (slot_ne (Or.inl (hw _ (List.mem_of_getElem? (i := 21) rfl))) (Or.inl (hw _ (List.mem_of_getElem? (i := 33) rfl))) (by decide) (t := (.array .int)) (t' := (.array .byte)) (by decide) (by decide)))).ext E61).keep kp65 (ninS (Nat.ne_of_lt (Nat.lt_of_lt_of_le (f56.wr W58).lt (Nat.le_of_eq g61.symm))) nin0)).other W69 (Or.inr (slot_ne (Or.inl (hw _ (List.mem_of_getElem? (i := 21) rfl))) (Or.inr (hw _ (List.mem_of_getElem? (i := 59) rfl))) (by decide) (t := (.array .int)) (t' := (.object "java/util/List")) (by decide) (by decide)))).ext E72).other W76 (Or.inr (slot_ne (Or.inl (hw _ (List.mem_of_getElem? (i := 21) rfl))) (Or.inl (hw _ (List.mem_of_getElem? (i := 61) rfl))) (by decide) (t := (.array .int)) (t' := (.array .byte)) (by decide) (by decide)))).ext E79).other W83 (Or.inr (slot_ne (Or.inl (hw _ (List.mem_of_getElem? (i := 21) rfl))) (Or.inl (hw _ (List.mem_of_getElem? (i := 63) rfl))) (by decide) (t := (.array .int)) (t' := (.array .int)) (by decide) (by decide)))).ext E86).other W90 (Or.inr (slot_ne (Or.inl (hw _ (List.mem_of_getElem? (i := 21) rfl))) (Or.inl (hw _ (List.mem_of_getElem? (i := 65) rfl))) (by decide) (t := (.array .int)) (t' := (.array .int)) (by decide) (by decide)))).ext E93).other W97 (Or.inr (slot_ne (Or.inl (hw _ (List.mem_of_getElem? (i := 21) rfl))) (Or.inl (hw _ (List.mem_of_getElem? (i := 67) rfl))) (by decide) (t := (.array .int)) (t' := (.array .int)) (by decide) (by decide)))), (((((((((((((((((((((Fw23.ext E26).other W30 (Or.inr (slot_ne (Or.inl (hw _ (List.mem_of_getElem? (i := 23) rfl))) (Or.inl (hw _ (List.mem_of_getElem? (i := 25) rfl))) (by decide) (t := (.array .int)) (t' := (.array .int)) (by decide) (by decide)))).ext E33).other W37 (Or.inr (slot_ne (Or.inl (hw _ (List.mem_of_getElem? (i := 23) rfl))) (Or.inl (hw _ (List.mem_of_getElem? (i := 27) rfl))) (by decide) (t := (.array .int)) (t' := (.array .int)) (by decide) (by decide)))).ext E40).other W44 (Or.inr (slot_ne (Or.inl (hw _ (List.mem_of_getElem? (i := 23) rfl))) (Or.inl (hw _ (List.mem_of_getElem? (i := 29) rfl))) (by decide) (t := (.array .int)) (t' := (.array .int)) (by decide) (by decide)))).ext E47).other W51 (Or.inr (slot_ne (Or.inl (hw _ (List.mem_of_getElem? (i := 23) rfl))) (Or.inl (hw _ (List.mem_of_getElem? (i := 31) rfl))) (by decide) (t := (.array .int)) (t' := (.array .int)) (by decide) (by decide)))).ext E54).other W58 (Or.inr (slot_ne (Or.inl (hw _ (List.mem_of_getElem? (i := 23) rfl))) (Or.inl (hw _ (List.mem_of_getElem? (i := 33) rfl))) (by decide) (t := (.array .int)) (t' := (.array .byte)) (by decide) (by decide)))).ext E61).keep kp65 (ninS (Nat.ne_of_lt (Nat.lt_of_lt_of_le (f56.wr W58).lt (Nat.le_of_eq g61.symm))) nin0)).other W69 (Or.inr (slot_ne (Or.inl (hw _ (List.mem_of_getElem? (i := 23) rfl))) (Or.inr (hw _ (List.mem_of_getElem? (i := 59) rfl))) (by decide) (t := (.array .int)) (t' := (.object "java/util/List")) (by decide) (by decide)))).ext E72).other W76 (Or.inr (slot_ne (Or.inl (hw _ (List.mem_of_getElem? (i := 23) rfl))) (Or.inl (hw _ (List.mem_of_getElem? (i := 61) rfl))) (by decide) (t := (.array .int)) (t' := (.array .byte)) (by decide) (by decide)))).ext E79).other W83 (Or.inr (slot_ne (Or.inl (hw _ (List.mem_of_getElem? (i := 23) rfl))) (Or.inl (hw _ (List.mem_of_getElem? (i := 63) rfl))) (by decide) (t := (.array .int)) (t' := (.array .int)) (by decide) (by decide)))).ext E86).other W90 (Or.inr (slot_ne (Or.inl (hw _ (List.mem_of_getElem? (i := 23) rfl))) (Or.inl (hw _ (List.mem_of_getElem? (i := 65) rfl))) (by decide) (t := (.array .int)) (t' := (.array .int)) (by decide) (by decide)))).ext E93).other W97 (Or.inr (slot_ne (Or.inl (hw _ (List.mem_of_getElem? (i := 23) rfl))) (Or.inl (hw _ (List.mem_of_getElem? (i := 67) rfl))) (by decide) (t := (.array .int)) (t' := (.array .int)) (by decide) (by decide)))), (((((((((((((((((((Fw30.ext E33).other W37 (Or.inr (slot_ne (Or.inl (hw _ (List.mem_of_getElem? (i := 25) rfl))) (Or.inl (hw _ (List.mem_of_getElem? (i := 27) rfl))) (by decide) (t := (.array .int)) (t' := (.array .int)) (by decide) (by decide)))).ext E40).other W44 (Or.inr (slot_ne (Or.inl (hw _ (List.mem_of_getElem? (i := 25) rfl))) (Or.inl (hw _ (List.mem_of_getElem? (i := 29) rfl))) (by decide) (t := (.array .int)) (t' := (.array .int)) (by decide) (by decide)))).ext E47).other W51 (Or.inr (slot_ne (Or.inl (hw _ (List.mem_of_getElem? (i := 25) rfl))) (Or.inl (hw _ (List.mem_of_getElem? (i := 31) rfl))) (by decide) (t := (.array .int)) (t' := (.array .int)) (by decide) (by decide)))).ext E54).other W58 (Or.inr (slot_ne (Or.inl (hw _ (List.mem_of_getElem? (i := 25) rfl))) (Or.inl (hw _ (List.mem_of_getElem? (i := 33) rfl))) (by decide) (t := (.array .int)) (t' := (.array .byte)) (by decide) (by decide)))).ext E61).keep kp65 (ninS (Nat.ne_of_lt (Nat.lt_of_lt_of_le (f56.wr W58).lt (Nat.le_of_eq g61.symm))) nin0)).other W69 (Or.inr (slot_ne (Or.inl (hw _ (List.mem_of_getElem? (i := 25) rfl))) (Or.inr (hw _ (List.mem_of_getElem? (i := 59) rfl))) (by decide) (t := (.array .int)) (t' := (.object "java/util/List")) (by decide) (by decide)))).ext E72).other W76 (Or.inr (slot_ne (Or.inl (hw _ (List.mem_of_getElem? (i := 25) rfl))) (Or.inl (hw _ (List.mem_of_getElem? (i := 61) rfl))) (by decide) (t := (.array .int)) (t' := (.array .byte)) (by decide) (by decide)))).ext E79).other W83 (Or.inr (slot_ne (Or.inl (hw _ (List.mem_of_getElem? (i := 25) rfl))) (Or.inl (hw _ (List.mem_of_getElem? (i := 63) rfl))) (by decide) (t := (.array .int)) (t' := (.array .int)) (by decide) (by decide)))).ext E86).other W90 (Or.inr (slot_ne (Or.inl (hw _ (List.mem_of_getElem? (i := 25) rfl))) (Or.inl (hw _ (List.mem_of_getElem? (i := 65) rfl))) (by decide) (t := (.array .int)) (t' := (.array .int)) (by decide) (by decide)))).ext E93).other W97 (Or.inr (slot_ne (Or.inl (hw _ (List.mem_of_getElem? (i := 25) rfl))) (Or.inl (hw _ (List.mem_of_getElem? (i := 67) rfl))) (by decide) (t := (.array .int)) (t' := (.array .int)) (by decide) (by decide)))), (((((((((((((((((Fw37.ext E40).other W44 (Or.inr (slot_ne (Or.inl (hw _ (List.mem_of_getElem? (i := 27) rfl))) (Or.inl (hw _ (List.mem_of_getElem? (i := 29) rfl))) (by decide) (t := (.array .int)) (t' := (.array .int)) (by decide) (by decide)))).ext E47).other W51 (Or.inr (slot_ne (Or.inl (hw _ (List.mem_of_getElem? (i := 27) rfl))) (Or.inl (hw _ (List.mem_of_getElem? (i := 31) rfl))) (by decide) (t := (.array .int)) (t' := (.array .int)) (by decide) (by decide)))).ext E54).other W58 (Or.inr (slot_ne (Or.inl (hw _ (List.mem_of_getElem? (i := 27) rfl))) (Or.inl (hw _ (List.mem_of_getElem? (i := 33) rfl))) (by decide) (t := (.array .int)) (t' := (.array .byte)) (by decide) (by decide)))).ext E61).keep kp65 (ninS (Nat.ne_of_lt (Nat.lt_of_lt_of_le (f56.wr W58).lt (Nat.le_of_eq g61.symm))) nin0)).other W69 (Or.inr (slot_ne (Or.inl (hw _ (List.mem_of_getElem? (i := 27) rfl))) (Or.inr (hw _ (List.mem_of_getElem? (i := 59) rfl))) (by decide) (t := (.array .int)) (t' := (.object "java/util/List")) (by decide) (by decide)))).ext E72).other W76 (Or.inr (slot_ne (Or.inl (hw _ (List.mem_of_getElem? (i := 27) rfl))) (Or.inl (hw _ (List.mem_of_getElem? (i := 61) rfl))) (by decide) (t := (.array .int)) (t' := (.array .byte)) (by decide) (by decide)))).ext E79).other W83 (Or.inr (slot_ne (Or.inl (hw _ (List.mem_of_getElem? (i := 27) rfl))) (Or.inl (hw _ (List.mem_of_getElem? (i := 63) rfl))) (by decide) (t := (.array .int)) (t' := (.array .int)) (by decide) (by decide)))).ext E86).other W90 (Or.inr (slot_ne (Or.inl (hw _ (List.mem_of_getElem? (i := 27) rfl))) (Or.inl (hw _ (List.mem_of_getElem? (i := 65) rfl))) (by decide) (t := (.array .int)) (t' := (.array .int)) (by decide) (by decide)))).ext E93).other W97 (Or.inr (slot_ne (Or.inl (hw _ (List.mem_of_getElem? (i := 27) rfl))) (Or.inl (hw _ (List.mem_of_getElem? (i := 67) rfl))) (by decide) (t := (.array .int)) (t' := (.array .int)) (by decide) (by decide)))), (((((((((((((((Fw44.ext E47).other W51 (Or.inr (slot_ne (Or.inl (hw _ (List.mem_of_getElem? (i := 29) rfl))) (Or.inl (hw _ (List.mem_of_getElem? (i := 31) rfl))) (by decide) (t := (.array .int)) (t' := (.array .int)) (by decide) (by decide)))).ext E54).other W58 (Or.inr (slot_ne (Or.inl (hw _ (List.mem_of_getElem? (i := 29) rfl))) (Or.inl (hw _ (List.mem_of_getElem? (i := 33) rfl))) (by decide) (t := (.array .int)) (t' := (.array .byte)) (by decide) (by decide)))).ext E61).keep kp65 (ninS (Nat.ne_of_lt (Nat.lt_of_lt_of_le (f56.wr W58).lt (Nat.le_of_eq g61.symm))) nin0)).other W69 (Or.inr (slot_ne (Or.inl (hw _ (List.mem_of_getElem? (i := 29) rfl))) (Or.inr (hw _ (List.mem_of_getElem? (i := 59) rfl))) (by decide) (t := (.array .int)) (t' := (.object "java/util/List")) (by decide) (by decide)))).ext E72).other W76 (Or.inr (slot_ne (Or.inl (hw _ (List.mem_of_getElem? (i := 29) rfl))) (Or.inl (hw _ (List.mem_of_getElem? (i := 61) rfl))) (by decide) (t := (.array .int)) (t' := (.array .byte)) (by decide) (by decide)))).ext E79).other W83 (Or.inr (slot_ne (Or.inl (hw _ (List.mem_of_getElem? (i := 29) rfl))) (Or.inl (hw _ (List.mem_of_getElem? (i := 63) rfl))) (by decide) (t := (.array .int)) (t' := (.array .int)) (by decide) (by decide)))).ext E86).other W90 (Or.inr (slot_ne (Or.inl (hw _ (List.mem_of_getElem? (i := 29) rfl))) (Or.inl (hw _ (List.mem_of_getElem? (i := 65) rfl))) (by decide) (t := (.array .int)) (t' := (.array .int)) (by decide) (by decide)))).ext E93).other W97 (Or.inr (slot_ne (Or.inl (hw _ (List.mem_of_getElem? (i := 29) rfl))) (Or.inl (hw _ (List.mem_of_getElem? (i := 67) rfl))) (by decide) (t := (.array .int)) (t' := (.array .int)) (by decide) (by decide)))), (((((((((((((Fw51.ext E54).other W58 (Or.inr (slot_ne (Or.inl (hw _ (List.mem_of_getElem? (i := 31) rfl))) (Or.inl (hw _ (List.mem_of_getElem? (i := 33) rfl))) (by decide) (t := (.array .int)) (t' := (.array .byte)) (by decide) (by decide)))).ext E61).keep kp65 (ninS (Nat.ne_of_lt (Nat.lt_of_lt_of_le (f56.wr W58).lt (Nat.le_of_eq g61.symm))) nin0)).other W69 (Or.inr (slot_ne (Or.inl (hw _ (List.mem_of_getElem? (i := 31) rfl))) (Or.inr (hw _ (List.mem_of_getElem? (i := 59) rfl))) (by decide) (t := (.array .int)) (t' := (.object "java/util/List")) (by decide) (by decide)))).ext E72).other W76 (Or.inr (slot_ne (Or.inl (hw _ (List.mem_of_getElem? (i := 31) rfl))) (Or.inl (hw _ (List.mem_of_getElem? (i := 61) rfl))) (by decide) (t := (.array .int)) (t' := (.array .byte)) (by decide) (by decide)))).ext E79).other W83 (Or.inr (slot_ne (Or.inl (hw _ (List.mem_of_getElem? (i := 31) rfl))) (Or.inl (hw _ (List.mem_of_getElem? (i := 63) rfl))) (by decide) (t := (.array .int)) (t' := (.array .int)) (by decide) (by decide)))).ext E86).other W90 (Or.inr (slot_ne (Or.inl (hw _ (List.mem_of_getElem? (i := 31) rfl))) (Or.inl (hw _ (List.mem_of_getElem? (i := 65) rfl))) (by decide) (t := (.array .int)) (t' := (.array .int)) (by decide) (by decide)))).ext E93).other W97 (Or.inr (slot_ne (Or.inl (hw _ (List.mem_of_getElem? (i := 31) rfl))) (Or.inl (hw _ (List.mem_of_getElem? (i := 67) rfl))) (by decide) (t := (.array .int)) (t' := (.array .int)) (by decide) (by decide)))), (((((((((((Fw58.ext E61).keep kp65 (ninS (Nat.ne_of_lt (Nat.lt_of_lt_of_le (f56.wr W58).lt (Nat.le_of_eq g61.symm))) nin0)).other W69 (Or.inr (slot_ne (Or.inl (hw _ (List.mem_of_getElem? (i := 33) rfl))) (Or.inr (hw _ (List.mem_of_getElem? (i := 59) rfl))) (by decide) (t := (.array .byte)) (t' := (.object "java/util/List")) (by decide) (by decide)))).ext E72).other W76 (Or.inr (slot_ne (Or.inl (hw _ (List.mem_of_getElem? (i := 33) rfl))) (Or.inl (hw _ (List.mem_of_getElem? (i := 61) rfl))) (by decide) (t := (.array .byte)) (t' := (.array .byte)) (by decide) (by decide)))).ext E79).other W83 (Or.inr (slot_ne (Or.inl (hw _ (List.mem_of_getElem? (i := 33) rfl))) (Or.inl (hw _ (List.mem_of_getElem? (i := 63) rfl))) (by decide) (t := (.array .byte)) (t' := (.array .int)) (by decide) (by decide)))).ext E86).other W90 (Or.inr (slot_ne (Or.inl (hw _ (List.mem_of_getElem? (i := 33) rfl))) (Or.inl (hw _ (List.mem_of_getElem? (i := 65) rfl))) (by decide) (t := (.array .byte)) (t' := (.array .int)) (by decide) (by decide)))).ext E93).other W97 (Or.inr (slot_ne (Or.inl (hw _ (List.mem_of_getElem? (i := 33) rfl))) (Or.inl (hw _ (List.mem_of_getElem? (i := 67) rfl))) (by decide) (t := (.array .byte)) (t' := (.array .int)) (by decide) (by decide)))), ((((((((Fw69.ext E72).other W76 (Or.inr (slot_ne (Or.inr (hw _ (List.mem_of_getElem? (i := 59) rfl))) (Or.inl (hw _ (List.mem_of_getElem? (i := 61) rfl))) (by decide) (t := (.object "java/util/List")) (t' := (.array .byte)) (by decide) (by decide)))).ext E79).other W83 (Or.inr (slot_ne (Or.inr (hw _ (List.mem_of_getElem? (i := 59) rfl))) (Or.inl (hw _ (List.mem_of_getElem? (i := 63) rfl))) (by decide) (t := (.object "java/util/List")) (t' := (.array .int)) (by decide) (by decide)))).ext E86).other W90 (Or.inr (slot_ne (Or.inr (hw _ (List.mem_of_getElem? (i := 59) rfl))) (Or.inl (hw _ (List.mem_of_getElem? (i := 65) rfl))) (by decide) (t := (.object "java/util/List")) (t' := (.array .int)) (by decide) (by decide)))).ext E93).other W97 (Or.inr (slot_ne (Or.inr (hw _ (List.mem_of_getElem? (i := 59) rfl))) (Or.inl (hw _ (List.mem_of_getElem? (i := 67) rfl))) (by decide) (t := (.object "java/util/List")) (t' := (.array .int)) (by decide) (by decide)))), ((((((Fw76.ext E79).other W83 (Or.inr (slot_ne (Or.inl (hw _ (List.mem_of_getElem? (i := 61) rfl))) (Or.inl (hw _ (List.mem_of_getElem? (i := 63) rfl))) (by decide) (t := (.array .byte)) (t' := (.array .int)) (by decide) (by decide)))).ext E86).other W90 (Or.inr (slot_ne (Or.inl (hw _ (List.mem_of_getElem? (i := 61) rfl))) (Or.inl (hw _ (List.mem_of_getElem? (i := 65) rfl))) (by decide) (t := (.array .byte)) (t' := (.array .int)) (by decide) (by decide)))).ext E93).other W97 (Or.inr (slot_ne (Or.inl (hw _ (List.mem_of_getElem? (i := 61) rfl))) (Or.inl (hw _ (List.mem_of_getElem? (i := 67) rfl))) (by decide) (t := (.array .byte)) (t' := (.array .int)) (by decide) (by decide)))), ((((Fw83.ext E86).other W90 (Or.inr (slot_ne (Or.inl (hw _ (List.mem_of_getElem? (i := 63) rfl))) (Or.inl (hw _ (List.mem_of_getElem? (i := 65) rfl))) (by decide) (t := (.array .int)) (t' := (.array .int)) (by decide) (by decide)))).ext E93).other W97 (Or.inr (slot_ne (Or.inl (hw _ (List.mem_of_getElem? (i := 63) rfl))) (Or.inl (hw _ (List.mem_of_getElem? (i := 67) rfl))) (by decide) (t := (.array .int)) (t' := (.array .int)) (by decide) (by decide)))), ((Fw90.ext E93).other W97 (Or.inr (slot_ne (Or.inl (hw _ (List.mem_of_getElem? (i := 65) rfl))) (Or.inl (hw _ (List.mem_of_getElem? (i := 67) rfl))) (by decide) (t := (.array .int)) (t' := (.array .int)) (by decide) (by decide)))), Fw97, (((((((((((((((((((((((((((F_nodeCount_ra.ext E5).other W9 (Or.inr (slot_ne (Or.inl (hw _ (List.mem_of_getElem? (i := 71) rfl))) (Or.inl (hw _ (List.mem_of_getElem? (i := 19) rfl))) (by decide) (t := .int) (t' := (.array .byte)) (by decide) (by decide)))).ext E12).other W16 (Or.inr (slot_ne (Or.inl (hw _ (List.mem_of_getElem? (i := 71) rfl))) (Or.inl (hw _ (List.mem_of_getElem? (i := 21) rfl))) (by decide) (t := .int) (t' := (.array .int)) (by decide) (by decide)))).ext E19).other W23 (Or.inr (slot_ne (Or.inl (hw _ (List.mem_of_getElem? (i := 71) rfl))) (Or.inl (hw _ (List.mem_of_getElem? (i := 23) rfl))) (by decide) (t := .int) (t' := (.array .int)) (by decide) (by decide)))).ext E26).other W30 (Or.inr (slot_ne (Or.inl (hw _ (List.mem_of_getElem? (i := 71) rfl))) (Or.inl (hw _ (List.mem_of_getElem? (i := 25) rfl))) (by decide) (t := .int) (t' := (.array .int)) (by decide) (by decide)))).ext E33).other W37 (Or.inr (slot_ne (Or.inl (hw _ (List.mem_of_getElem? (i := 71) rfl))) (Or.inl (hw _ (List.mem_of_getElem? (i := 27) rfl))) (by decide) (t := .int) (t' := (.array .int)) (by decide) (by decide)))).ext E40).other W44 (Or.inr (slot_ne (Or.inl (hw _ (List.mem_of_getElem? (i := 71) rfl))) (Or.inl (hw _ (List.mem_of_getElem? (i := 29) rfl))) (by decide) (t := .int) (t' := (.array .int)) (by decide) (by decide)))).ext E47).other W51 (Or.inr (slot_ne (Or.inl (hw _ (List.mem_of_getElem? (i := 71) rfl))) (Or.inl (hw _ (List.mem_of_getElem? (i := 31) rfl))) (by decide) (t := .int) (t' := (.array .int)) (by decide) (by decide)))).ext E54).other W58 (Or.inr (slot_ne (Or.inl (hw _ (List.mem_of_getElem? (i := 71) rfl))) (Or.inl (hw _ (List.mem_of_getElem? (i := 33) rfl))) (by decide) (t := .int) (t' := (.array .byte)) (by decide) (by decide)))).ext E61).keep kp65 (ninS (Nat.ne_of_lt (Nat.lt_of_lt_of_le (f56.wr W58).lt (Nat.le_of_eq g61.symm))) nin0)).other W69 (Or.inr (slot_ne (Or.inl (hw _ (List.mem_of_getElem? (i := 71) rfl))) (Or.inr (hw _ (List.mem_of_getElem? (i := 59) rfl))) (by decide) (t := .int) (t' := (.object "java/util/List")) (by decide) (by decide)))).ext E72).other W76 (Or.inr (slot_ne (Or.inl (hw _ (List.mem_of_getElem? (i := 71) rfl))) (Or.inl (hw _ (List.mem_of_getElem? (i := 61) rfl))) (by decide) (t := .int) (t' := (.array .byte)) (by decide) (by decide)))).ext E79).other W83 (Or.inr (slot_ne (Or.inl (hw _ (List.mem_of_getElem? (i := 71) rfl))) (Or.inl (hw _ (List.mem_of_getElem? (i := 63) rfl))) (by decide) (t := .int) (t' := (.array .int)) (by decide) (by decide)))).ext E86).other W90 (Or.inr (slot_ne (Or.inl (hw _ (List.mem_of_getElem? (i := 71) rfl))) (Or.inl (hw _ (List.mem_of_getElem? (i := 65) rfl))) (by decide) (t := .int) (t' := (.array .int)) (by decide) (by decide)))).ext E93).other W97 (Or.inr (slot_ne (Or.inl (hw _ (List.mem_of_getElem? (i := 71) rfl))) (Or.inl (hw _ (List.mem_of_getElem? (i := 67) rfl))) (by decide) (t := .int) (t' := (.array .int)) (by decide) (by decide)))), (((((((((((((((((((((((((((F_attributeCount_ra.ext E5).other W9 (Or.inr (slot_ne (Or.inl (hw _ (List.mem_of_getElem? (i := 107) rfl))) (Or.inl (hw _ (List.mem_of_getElem? (i := 19) rfl))) (by decide) (t := .int) (t' := (.array .byte)) (by decide) (by decide)))).ext E12).other W16 (Or.inr (slot_ne (Or.inl (hw _ (List.mem_of_getElem? (i := 107) rfl))) (Or.inl (hw _ (List.mem_of_getElem? (i := 21) rfl))) (by decide) (t := .int) (t' := (.array .int)) (by decide) (by decide)))).ext E19).other W23 (Or.inr (slot_ne (Or.inl (hw _ (List.mem_of_getElem? (i := 107) rfl))) (Or.inl (hw _ (List.mem_of_getElem? (i := 23) rfl))) (by decide) (t := .int) (t' := (.array .int)) (by decide) (by decide)))).ext E26).other W30 (Or.inr (slot_ne (Or.inl (hw _ (List.mem_of_getElem? (i := 107) rfl))) (Or.inl (hw _ (List.mem_of_getElem? (i := 25) rfl))) (by decide) (t := .int) (t' := (.array .int)) (by decide) (by decide)))).ext E33).other W37 (Or.inr (slot_ne (Or.inl (hw _ (List.mem_of_getElem? (i := 107) rfl))) (Or.inl (hw _ (List.mem_of_getElem? (i := 27) rfl))) (by decide) (t := .int) (t' := (.array .int)) (by decide) (by decide)))).ext E40).other W44 (Or.inr (slot_ne (Or.inl (hw _ (List.mem_of_getElem? (i := 107) rfl))) (Or.inl (hw _ (List.mem_of_getElem? (i := 29) rfl))) (by decide) (t := .int) (t' := (.array .int)) (by decide) (by decide)))).ext E47).other W51 (Or.inr (slot_ne (Or.inl (hw _ (List.mem_of_getElem? (i := 107) rfl))) (Or.inl (hw _ (List.mem_of_getElem? (i := 31) rfl))) (by decide) (t := .int) (t' := (.array .int)) (by decide) (by decide)))).ext E54).other W58 (Or.inr (slot_ne (Or.inl (hw _ (List.mem_of_getElem? (i := 107) rfl))) (Or.inl (hw _ (List.mem_of_getElem? (i := 33) rfl))) (by decide) (t := .int) (t' := (.array .byte)) (by decide) (by decide)))).ext E61).keep kp65 (ninS (Nat.ne_of_lt (Nat.lt_of_lt_of_le (f56.wr W58).lt (Nat.le_of_eq g61.symm))) nin0)).other W69 (Or.inr (slot_ne (Or.inl (hw _ (List.mem_of_getElem? (i := 107) rfl))) (Or.inr (hw _ (List.mem_of_getElem? (i := 59) rfl))) (by decide) (t := .int) (t' := (.object "java/util/List")) (by decide) (by decide)))).ext E72).other W76 (Or.inr (slot_ne (Or.inl (hw _ (List.mem_of_getElem? (i := 107) rfl))) (Or.inl (hw _ (List.mem_of_getElem? (i := 61) rfl))) (by decide) (t := .int) (t' := (.array .byte)) (by decide) (by decide)))).ext E79).other W83 (Or.inr (slot_ne (Or.inl (hw _ (List.mem_of_getElem? (i := 107) rfl))) (Or.inl (hw _ (List.mem_of_getElem? (i := 63) rfl))) (by decide) (t := .int) (t' := (.array .int)) (by decide) (by decide)))).ext E86).other W90 (Or.inr (slot_ne (Or.inl (hw _ (List.mem_of_getElem? (i := 107) rfl))) (Or.inl (hw _ (List.mem_of_getElem? (i := 65) rfl))) (by decide) (t := .int) (t' := (.array .int)) (by decide) (by decide)))).ext E93).other W97 (Or.inr (slot_ne (Or.inl (hw _ (List.mem_of_getElem? (i := 107) rfl))) (Or.inl (hw _ (List.mem_of_getElem? (i := 67) rfl))) (by decide) (t := .int) (t' := (.array .int)) (by decide) (by decide)))), (((((((((((((((((((((((((((F_wideText_ra.ext E5).other W9 (Or.inr (slot_ne (Or.inl (hw _ (List.mem_of_getElem? (i := 117) rfl))) (Or.inl (hw _ (List.mem_of_getElem? (i := 19) rfl))) (by decide) (t := (.array .char)) (t' := (.array .byte)) (by decide) (by decide)))).ext E12).other W16 (Or.inr (slot_ne (Or.inl (hw _ (List.mem_of_getElem? (i := 117) rfl))) (Or.inl (hw _ (List.mem_of_getElem? (i := 21) rfl))) (by decide) (t := (.array .char)) (t' := (.array .int)) (by decide) (by decide)))).ext E19).other W23 (Or.inr (slot_ne (Or.inl (hw _ (List.mem_of_getElem? (i := 117) rfl))) (Or.inl (hw _ (List.mem_of_getElem? (i := 23) rfl))) (by decide) (t := (.array .char)) (t' := (.array .int)) (by decide) (by decide)))).ext E26).other W30 (Or.inr (slot_ne (Or.inl (hw _ (List.mem_of_getElem? (i := 117) rfl))) (Or.inl (hw _ (List.mem_of_getElem? (i := 25) rfl))) (by decide) (t := (.array .char)) (t' := (.array .int)) (by decide) (by decide)))).ext E33).other W37 (Or.inr (slot_ne (Or.inl (hw _ (List.mem_of_getElem? (i := 117) rfl))) (Or.inl (hw _ (List.mem_of_getElem? (i := 27) rfl))) (by decide) (t := (.array .char)) (t' := (.array .int)) (by decide) (by decide)))).ext E40).other W44 (Or.inr (slot_ne (Or.inl (hw _ (List.mem_of_getElem? (i := 117) rfl))) (Or.inl (hw _ (List.mem_of_getElem? (i := 29) rfl))) (by decide) (t := (.array .char)) (t' := (.array .int)) (by decide) (by decide)))).ext E47).other W51 (Or.inr (slot_ne (Or.inl (hw _ (List.mem_of_getElem? (i := 117) rfl))) (Or.inl (hw _ (List.mem_of_getElem? (i := 31) rfl))) (by decide) (t := (.array .char)) (t' := (.array .int)) (by decide) (by decide)))).ext E54).other W58 (Or.inr (slot_ne (Or.inl (hw _ (List.mem_of_getElem? (i := 117) rfl))) (Or.inl (hw _ (List.mem_of_getElem? (i := 33) rfl))) (by decide) (t := (.array .char)) (t' := (.array .byte)) (by decide) (by decide)))).ext E61).keep kp65 (ninS (Nat.ne_of_lt (Nat.lt_of_lt_of_le (f56.wr W58).lt (Nat.le_of_eq g61.symm))) nin0)).other W69 (Or.inr (slot_ne (Or.inl (hw _ (List.mem_of_getElem? (i := 117) rfl))) (Or.inr (hw _ (List.mem_of_getElem? (i := 59) rfl))) (by decide) (t := (.array .char)) (t' := (.object "java/util/List")) (by decide) (by decide)))).ext E72).other W76 (Or.inr (slot_ne (Or.inl (hw _ (List.mem_of_getElem? (i := 117) rfl))) (Or.inl (hw _ (List.mem_of_getElem? (i := 61) rfl))) (by decide) (t := (.array .char)) (t' := (.array .byte)) (by decide) (by decide)))).ext E79).other W83 (Or.inr (slot_ne (Or.inl (hw _ (List.mem_of_getElem? (i := 117) rfl))) (Or.inl (hw _ (List.mem_of_getElem? (i := 63) rfl))) (by decide) (t := (.array .char)) (t' := (.array .int)) (by decide) (by decide)))).ext E86).other W90 (Or.inr (slot_ne (Or.inl (hw _ (List.mem_of_getElem? (i := 117) rfl))) (Or.inl (hw _ (List.mem_of_getElem? (i := 65) rfl))) (by decide) (t := (.array .char)) (t' := (.array .int)) (by decide) (by decide)))).ext E93).other W97 (Or.inr (slot_ne (Or.inl (hw _ (List.mem_of_getElem? (i := 117) rfl))) (Or.inl (hw _ (List.mem_of_getElem? (i := 67) rfl))) (by decide) (t := (.array .char)) (t' := (.array .int)) (by decide) (by decide))))⟩
theorem d8_0 : decode prog_30_method_1_code 0 = .ok (.aload_n 0, 1) := by decide +kernel
theorem d8_1 : decode prog_30_method_1_code 1 = .ok (.invokespecial 1, 3) := by decide +kernel
theorem d8_4 : decode prog_30_method_1_code 4 = .ok (.aload_n 0, 1) := by decide +kernel
theorem d8_5 : decode prog_30_method_1_code 5 = .ok (.aload_n 1, 1) := by decide +kernel
theorem d8_6 : decode prog_30_method_1_code 6 = .ok (.getfield 7, 3) := by decide +kernel
theorem d8_9 : decode prog_30_method_1_code 9 = .ok (.putfield 13, 3) := by decide +kernel
theorem d8_12 : decode prog_30_method_1_code 12 = .ok (.aload_n 0, 1) := by decide +kernel
theorem d8_13 : decode prog_30_method_1_code 13 = .ok (.aload_n 1, 1) := by decide +kernel
theorem d8_14 : decode prog_30_method_1_code 14 = .ok (.getfield 16, 3) := by decide +kernel
theorem d8_17 : decode prog_30_method_1_code 17 = .ok (.putfield 20, 3) := by decide +kernel
theorem d8_20 : decode prog_30_method_1_code 20 = .ok (.aload_n 0, 1) := by decide +kernel
theorem d8_21 : decode prog_30_method_1_code 21 = .ok (.aload_n 1, 1) := by decide +kernel
theorem d8_22 : decode prog_30_method_1_code 22 = .ok (.getfield 21, 3) := by decide +kernel
theorem d8_25 : decode prog_30_method_1_code 25 = .ok (.putfield 24, 3) := by decide +kernel
theorem d8_28 : decode prog_30_method_1_code 28 = .ok (.aload_n 0, 1) := by decide +kernel
theorem d8_29 : decode prog_30_method_1_code 29 = .ok (.aload_n 1, 1) := by decide +kernel
theorem d8_30 : decode prog_30_method_1_code 30 = .ok (.getfield 25, 3) := by decide +kernel
theorem d8_33 : decode prog_30_method_1_code 33 = .ok (.putfield 28, 3) := by decide +kernel
theorem d8_36 : decode prog_30_method_1_code 36 = .ok (.aload_n 0, 1) := by decide +kernel
theorem d8_37 : decode prog_30_method_1_code 37 = .ok (.aload_n 1, 1) := by decide +kernel
theorem d8_38 : decode prog_30_method_1_code 38 = .ok (.getfield 29, 3) := by decide +kernel
theorem d8_41 : decode prog_30_method_1_code 41 = .ok (.putfield 33, 3) := by decide +kernel
theorem d8_44 : decode prog_30_method_1_code 44 = .ok (.aload_n 0, 1) := by decide +kernel
theorem d8_45 : decode prog_30_method_1_code 45 = .ok (.aload_n 1, 1) := by decide +kernel
theorem d8_46 : decode prog_30_method_1_code 46 = .ok (.getfield 34, 3) := by decide +kernel
theorem d8_49 : decode prog_30_method_1_code 49 = .ok (.putfield 37, 3) := by decide +kernel
theorem d8_52 : decode prog_30_method_1_code 52 = .ok (.aload_n 0, 1) := by decide +kernel
theorem d8_53 : decode prog_30_method_1_code 53 = .ok (.aload_n 1, 1) := by decide +kernel
theorem d8_54 : decode prog_30_method_1_code 54 = .ok (.getfield 38, 3) := by decide +kernel
theorem d8_57 : decode prog_30_method_1_code 57 = .ok (.putfield 41, 3) := by decide +kernel
theorem d8_60 : decode prog_30_method_1_code 60 = .ok (.aload_n 0, 1) := by decide +kernel
theorem d8_61 : decode prog_30_method_1_code 61 = .ok (.aload_n 1, 1) := by decide +kernel
theorem d8_62 : decode prog_30_method_1_code 62 = .ok (.getfield 42, 3) := by decide +kernel
theorem d8_65 : decode prog_30_method_1_code 65 = .ok (.putfield 45, 3) := by decide +kernel
theorem d8_68 : decode prog_30_method_1_code 68 = .ok (.aload_n 0, 1) := by decide +kernel
theorem d8_69 : decode prog_30_method_1_code 69 = .ok (.aload_n 1, 1) := by decide +kernel
theorem d8_70 : decode prog_30_method_1_code 70 = .ok (.getfield 46, 3) := by decide +kernel
theorem d8_73 : decode prog_30_method_1_code 73 = .ok (.putfield 49, 3) := by decide +kernel
theorem d8_76 : decode prog_30_method_1_code 76 = .ok (.aload_n 0, 1) := by decide +kernel
theorem d8_77 : decode prog_30_method_1_code 77 = .ok (.aload_n 1, 1) := by decide +kernel
theorem d8_78 : decode prog_30_method_1_code 78 = .ok (.getfield 50, 3) := by decide +kernel
theorem d8_81 : decode prog_30_method_1_code 81 = .ok (.putfield 53, 3) := by decide +kernel
theorem d8_84 : decode prog_30_method_1_code 84 = .ok (.aload_n 0, 1) := by decide +kernel
theorem d8_85 : decode prog_30_method_1_code 85 = .ok (.aload_n 1, 1) := by decide +kernel
theorem d8_86 : decode prog_30_method_1_code 86 = .ok (.getfield 54, 3) := by decide +kernel
theorem d8_89 : decode prog_30_method_1_code 89 = .ok (.putfield 58, 3) := by decide +kernel
theorem d8_92 : decode prog_30_method_1_code 92 = .ok (.aload_n 0, 1) := by decide +kernel
theorem d8_93 : decode prog_30_method_1_code 93 = .ok (.aload_n 1, 1) := by decide +kernel
theorem d8_94 : decode prog_30_method_1_code 94 = .ok (.getfield 59, 3) := by decide +kernel
theorem d8_97 : decode prog_30_method_1_code 97 = .ok (.putfield 62, 3) := by decide +kernel
theorem d8_100 : decode prog_30_method_1_code 100 = .ok (.aload_n 0, 1) := by decide +kernel
theorem d8_101 : decode prog_30_method_1_code 101 = .ok (.aload_n 1, 1) := by decide +kernel
theorem d8_102 : decode prog_30_method_1_code 102 = .ok (.getfield 63, 3) := by decide +kernel
theorem d8_105 : decode prog_30_method_1_code 105 = .ok (.putfield 67, 3) := by decide +kernel
theorem d8_108 : decode prog_30_method_1_code 108 = .ok (.aload_n 0, 1) := by decide +kernel
theorem d8_109 : decode prog_30_method_1_code 109 = .ok (.aload_n 1, 1) := by decide +kernel
theorem d8_110 : decode prog_30_method_1_code 110 = .ok (.getfield 68, 3) := by decide +kernel
theorem d8_113 : decode prog_30_method_1_code 113 = .ok (.putfield 71, 3) := by decide +kernel
theorem d8_116 : decode prog_30_method_1_code 116 = .ok (.aload_n 0, 1) := by decide +kernel
theorem d8_117 : decode prog_30_method_1_code 117 = .ok (.aload_n 1, 1) := by decide +kernel
theorem d8_118 : decode prog_30_method_1_code 118 = .ok (.getfield 72, 3) := by decide +kernel
theorem d8_121 : decode prog_30_method_1_code 121 = .ok (.putfield 75, 3) := by decide +kernel
theorem d8_124 : decode prog_30_method_1_code 124 = .ok (.aload_n 0, 1) := by decide +kernel
theorem d8_125 : decode prog_30_method_1_code 125 = .ok (.aload_n 1, 1) := by decide +kernel
theorem d8_126 : decode prog_30_method_1_code 126 = .ok (.getfield 76, 3) := by decide +kernel
theorem d8_129 : decode prog_30_method_1_code 129 = .ok (.putfield 79, 3) := by decide +kernel
theorem d8_132 : decode prog_30_method_1_code 132 = .ok (.return_, 1) := by decide +kernel
theorem pn4 : plainName "com/example/xidr/xidr/xml/tree/Tree" = true := by first | (simp [plainName, overriddenIn]; done) | decide +kernel
theorem ef_rm_tree (m : MethodId) (ra : Addr) (rb : Addr) : entryFrame m #[(.ref ra), (.ref rb)] 2 = mkF m 0 #[.val (.ref ra), .val (.ref rb)] [] := by first | (simp [entryFrame, mkF, argsToLocals, Value.category]; done) | rfl
def Q_rm_tree (Z : State) (ra : Addr) (rb : Addr) (u_kinds : Addr) (u_parents : Addr) (u_nextSiblings : Addr) (u_data : Addr) (u_owners : Addr) (u_attributeNames : Addr) (u_attributeValues : Addr) (u_attributeTypes : Addr) (u_names : Addr) (u_narrowText : Addr) (u_valueStarts : Addr) (u_instructions : Addr) (u_instructionData : Addr) (u_nodeCount : Int32) (u_attributeCount : Int32) (h0 : Heap) (n0 : Nat) (v : Option Value) (h : Heap) (L : List Loc) : Prop := v = none ∧ Fr n0 L ∧ Keep h0 h [ra] ∧ Exa Z h ra "com/example/xidr/xidr/xml/tree/Tree" ∧ Fld Z h ra "com/example/xidr/xidr/xml/tree/Tree" "parents" "[I" (.ref u_parents) ∧ Fld Z h ra "com/example/xidr/xidr/xml/tree/Tree" "nextSiblings" "[I" (.ref u_nextSiblings)
set_option maxRecDepth 65536 in
set_option maxHeartbeats 40000000 in
theorem rm_tree (l : Launch) (Z : State) (a0 : Array Value) (hw : ∀ d ∈ tables_1, d.before a0 Z = true) (ws : List Jvm.Cond) (ra : Addr) (rb : Addr) (u_kinds : Addr) (u_parents : Addr) (u_nextSiblings : Addr) (u_data : Addr) (u_owners : Addr) (u_attributeNames : Addr) (u_attributeValues : Addr) (u_attributeTypes : Addr) (u_names : Addr) (u_narrowText : Addr) (u_valueStarts : Addr) (u_instructions : Addr) (u_instructionData : Addr) (u_nodeCount : Int32) (u_attributeCount : Int32) (h0 : Heap) (n0 : Nat) (Z0 : n0 ≤ h0.size) (E_ra : Exa Z h0 ra "com/example/xidr/xidr/xml/tree/Tree") (g_ra : n0 ≤ ra) (F_kinds_ra : Fld Z h0 ra "com/example/xidr/xidr/xml/tree/Tree" "kinds" "[B" .null) (F_parents_ra : Fld Z h0 ra "com/example/xidr/xidr/xml/tree/Tree" "parents" "[I" .null) (F_nextSiblings_ra : Fld Z h0 ra "com/example/xidr/xidr/xml/tree/Tree" "nextSiblings" "[I" .null) (F_data_ra : Fld Z h0 ra "com/example/xidr/xidr/xml/tree/Tree" "data" "[I" .null) (F_nodeCount_ra : Fld Z h0 ra "com/example/xidr/xidr/xml/tree/Tree" "nodeCount" "I" (.int (0 : Int32))) (F_owners_ra : Fld Z h0 ra "com/example/xidr/xidr/xml/tree/Tree" "owners" "[I" .null) (F_attributeNames_ra : Fld Z h0 ra "com/example/xidr/xidr/xml/tree/Tree" "attributeNames" "[I" .null) (F_attributeValues_ra : Fld Z h0 ra "com/example/xidr/xidr/xml/tree/Tree" "attributeValues" "[I" .null) (F_attributeTypes_ra : Fld Z h0 ra "com/example/xidr/xidr/xml/tree/Tree" "attributeTypes" "[B" .null) (F_attributeCount_ra : Fld Z h0 ra "com/example/xidr/xidr/xml/tree/Tree" "attributeCount" "I" (.int (0 : Int32))) (F_names_ra : Fld Z h0 ra "com/example/xidr/xidr/xml/tree/Tree" "names" "Ljava/util/List;" .null) (F_narrowText_ra : Fld Z h0 ra "com/example/xidr/xidr/xml/tree/Tree" "narrowText" "[B" .null) (F_wideText_ra : Fld Z h0 ra "com/example/xidr/xidr/xml/tree/Tree" "wideText" "[C" .null) (F_valueStarts_ra : Fld Z h0 ra "com/example/xidr/xidr/xml/tree/Tree" "valueStarts" "[I" .null) (F_instructions_ra : Fld Z h0 ra "com/example/xidr/xidr/xml/tree/Tree" "instructions" "[I" .null) (F_instructionData_ra : Fld Z h0 ra "com/example/xidr/xidr/xml/tree/Tree" "instructionData" "[I" .null) (P_kinds : Fld Z h0 rb "com/example/xidr/xidr/xml/tree/TreeBuilder$Parts" "kinds" "[B" (.ref u_kinds)) (P_parents : Fld Z h0 rb "com/example/xidr/xidr/xml/tree/TreeBuilder$Parts" "parents" "[I" (.ref u_parents)) (P_nextSiblings : Fld Z h0 rb "com/example/xidr/xidr/xml/tree/TreeBuilder$Parts" "nextSiblings" "[I" (.ref u_nextSiblings)) (P_data : Fld Z h0 rb "com/example/xidr/xidr/xml/tree/TreeBuilder$Parts" "data" "[I" (.ref u_data)) (P_owners : Fld Z h0 rb "com/example/xidr/xidr/xml/tree/TreeBuilder$Parts" "owners" "[I" (.ref u_owners)) (P_attributeNames : Fld Z h0 rb "com/example/xidr/xidr/xml/tree/TreeBuilder$Parts" "attributeNames" "[I" (.ref u_attributeNames)) (P_attributeValues : Fld Z h0 rb "com/example/xidr/xidr/xml/tree/TreeBuilder$Parts" "attributeValues" "[I" (.ref u_attributeValues)) (P_attributeTypes : Fld Z h0 rb "com/example/xidr/xidr/xml/tree/TreeBuilder$Parts" "attributeTypes" "[B" (.ref u_attributeTypes)) (P_names : Fld Z h0 rb "com/example/xidr/xidr/xml/tree/TreeBuilder$Parts" "names" "Ljava/util/List;" (.ref u_names)) (P_narrowText : Fld Z h0 rb "com/example/xidr/xidr/xml/tree/TreeBuilder$Parts" "narrowText" "[B" (.ref u_narrowText)) (P_valueStarts : Fld Z h0 rb "com/example/xidr/xidr/xml/tree/TreeBuilder$Parts" "valueStarts" "[I" (.ref u_valueStarts)) (P_instructions : Fld Z h0 rb "com/example/xidr/xidr/xml/tree/TreeBuilder$Parts" "instructions" "[I" (.ref u_instructions)) (P_instructionData : Fld Z h0 rb "com/example/xidr/xidr/xml/tree/TreeBuilder$Parts" "instructionData" "[I" (.ref u_instructionData)) (P_nodeCount : Fld Z h0 rb "com/example/xidr/xidr/xml/tree/TreeBuilder$Parts" "nodeCount" "I" (.int u_nodeCount)) (P_attributeCount : Fld Z h0 rb "com/example/xidr/xidr/xml/tree/TreeBuilder$Parts" "attributeCount" "I" (.int u_attributeCount)) (P_wideText : Fld Z h0 rb "com/example/xidr/xidr/xml/tree/TreeBuilder$Parts" "wideText" "[C" .null) (hne : rb ≠ ra) :
    MetFree l (⟨"com/example/xidr/xidr/xml/tree/Tree", "<init>", "(Lcom/example/xidr/xidr/xml/tree/TreeBuilder$Parts;)V"⟩ : MethodName) (head1 (Jvm.Cond.code (⟨"com/example/xidr/xidr/xml/tree/Tree", "<init>", "(Lcom/example/xidr/xidr/xml/tree/TreeBuilder$Parts;)V"⟩ : MethodName) prog_30_method_1_code 2 none :: ws) ({ frames := 1, cells := 0, slots := 0, locals := 12 } : Room)) (fun a U => a = #[(.ref ra), (.ref rb)] ∧ Z.Warmed39 U.vm ∧ U.heap = h0) (fun _ _ _ _ _ => True) (fun _ U o U' => ∃ v L, o = .returned v ∧ Q_rm_tree Z ra rb u_kinds u_parents u_nextSiblings u_data u_owners u_attributeNames u_attributeValues u_attributeTypes u_names u_narrowText u_valueStarts u_instructions u_instructionData u_nodeCount u_attributeCount h0 n0 v U'.heap L ∧ FrameEnd U o U' L ({ frames := 1, cells := 0, slots := 0, locals := 12 } : Room).cells ({ frames := 1, cells := 0, slots := 0, locals := 12 } : Room).slots) := by
  refine MetFree.of_bodySF (plainFor_of_name pn4) hisR ?_
  intro p e s m args below meth c s₁ Bd hml0 hP hK
  obtain ⟨rfl, hZ, hh⟩ := hP
  have hx := Bd.exec
  have hby := Bd.bytes
  have hml : c.maxLocals = 2 := hml0
  have hown : s.vm.findClass "com/example/xidr/xidr/xml/tree/Tree" = some m.cls := findClass_of_methodNamed Bd.named
  have hnm := (name_of_methodNamed Bd.named Bd.method).1
  have X0 : Stand p l e ({ frames := 1, cells := 0, slots := 0, locals := 12 } : Room) s m #[(.ref ra), (.ref rb)] below meth c s₁ [] 0 0 := Stand.of_body Bd
  have e0 : s₁.heap = h0 := by rw [← hh, Bd.state]; rfl
  have N0 := Fr.nil n0
  have pre0 : ∀ t, Steps p.tables e below (s₁.setTop (mkF m 0 #[.val (.ref ra), .val (.ref rb)] [])) t → Steps p.tables e below (s₁.setTop (entryFrame m #[(.ref ra), (.ref rb)] 2)) t := fun t k => castTop (ef_rm_tree m ra rb) k
  have pre1 : ∀ t, Steps p.tables e below (s₁.setTop (mkF m 1 #[.val (.ref ra), .val (.ref rb)] [(.ref ra)])) t → Steps p.tables e below (s₁.setTop (entryFrame m #[(.ref ra), (.ref rb)] 2)) t := by
    intro t k
    refine pre0 t ?_
    refine XS.aloadN X0.here hx rfl (hb hby d8_0) rfl rfl ?_
    show Steps p.tables e below (s₁.setTop (mkF m 1 #[.val (.ref ra), .val (.ref rb)] [(.ref ra)])) _
    exact k
  obtain ⟨T2, X2, e2, st2⟩ := initO X0 hx hZ hown (hw _ (List.mem_of_getElem? (i := 78) rfl)) (hw _ (List.mem_of_getElem? (i := 15) rfl)) (hw _ (List.mem_of_getElem? (i := 16) rfl)) e0 (g := (mkF m 1 #[.val (.ref ra), .val (.ref rb)] [(.ref ra)])) rfl (by rw [hml]; rfl) rfl (hb hby d8_1) (by decide) (W := 0) (by show 2 * 0 + _ ≤ _; exact Nat.le_of_eq rfl) (by decide)
  have pre3 : ∀ t, Steps p.tables e below (T2.setTop (mkF m 4 #[.val (.ref ra), .val (.ref rb)] [])) t → Steps p.tables e below (s₁.setTop (entryFrame m #[(.ref ra), (.ref rb)] 2)) t := fun t k => pre1 t (st2 t k)
  have pre4 : ∀ t, Steps p.tables e below (T2.setTop (mkF m 6 #[.val (.ref ra), .val (.ref rb)] [(.ref rb), (.ref ra)])) t → Steps p.tables e below (s₁.setTop (entryFrame m #[(.ref ra), (.ref rb)] 2)) t := by
    intro t k
    refine pre3 t ?_
    refine XS.aloadN X2.here hx rfl (hb hby d8_4) rfl rfl ?_
    show Steps p.tables e below (T2.setTop (mkF m 5 #[.val (.ref ra), .val (.ref rb)] [(.ref ra)])) _
    refine XS.aloadN X2.here hx rfl (hb hby d8_5) rfl rfl ?_
    show Steps p.tables e below (T2.setTop (mkF m 6 #[.val (.ref ra), .val (.ref rb)] [(.ref rb), (.ref ra)])) _
    exact k
  obtain ⟨T5, X5, e5, st5⟩ := getF X2 hx hZ hown (host := "") (Or.inl (hw _ (List.mem_of_getElem? (i := 79) rfl))) Via.refl e2 P_kinds (g := (mkF m 6 #[.val (.ref ra), .val (.ref rb)] [(.ref rb), (.ref ra)])) rfl rfl (hb hby d8_6)
  have pre6 : ∀ t, Steps p.tables e below (T5.setTop (mkF m 9 #[.val (.ref ra), .val (.ref rb)] [(.ref u_kinds), (.ref ra)])) t → Steps p.tables e below (s₁.setTop (entryFrame m #[(.ref ra), (.ref rb)] 2)) t := fun t k => pre4 t (st5 t k)
  obtain ⟨T7, h7, X7, e7, W7, st7⟩ := putF X5 hx hZ hown (host := "") (Or.inl (hw _ (List.mem_of_getElem? (i := 80) rfl))) Via.refl e5 F_kinds_ra E_ra (Or.inr ⟨(hw _ (List.mem_of_getElem? (i := 81) rfl)), rfl, hnm⟩) (hw _ (List.mem_of_getElem? (i := 73) rfl)) (ty := (.array .byte)) (by decide) rfl rfl (g := (mkF m 9 #[.val (.ref ra), .val (.ref rb)] [(.ref u_kinds), (.ref ra)])) rfl rfl (hb hby d8_9)
  have K7 : Keep h0 h7 [ra] := (Keep.refl h0 [ra]).wr W7 (Or.inl (by simp))
  have z7 : n0 ≤ h7.size := Nat.le_trans Z0 K7.1
  have N7 := Fr.snoc X7 N0 g_ra
  have Fw7 := F_kinds_ra.same W7
  have pre8 : ∀ t, Steps p.tables e below (T7.setTop (mkF m 12 #[.val (.ref ra), .val (.ref rb)] [])) t → Steps p.tables e below (s₁.setTop (entryFrame m #[(.ref ra), (.ref rb)] 2)) t := fun t k => pre6 t (st7 t k)
  have pre9 : ∀ t, Steps p.tables e below (T7.setTop (mkF m 14 #[.val (.ref ra), .val (.ref rb)] [(.ref rb), (.ref ra)])) t → Steps p.tables e below (s₁.setTop (entryFrame m #[(.ref ra), (.ref rb)] 2)) t := by
    intro t k
    refine pre8 t ?_
    refine XS.aloadN X7.here hx rfl (hb hby d8_12) rfl rfl ?_
    show Steps p.tables e below (T7.setTop (mkF m 13 #[.val (.ref ra), .val (.ref rb)] [(.ref ra)])) _
    refine XS.aloadN X7.here hx rfl (hb hby d8_13) rfl rfl ?_
    show Steps p.tables e below (T7.setTop (mkF m 14 #[.val (.ref ra), .val (.ref rb)] [(.ref rb), (.ref ra)])) _
    exact k
  have f10 := (P_parents.other W7 (Or.inl hne))
  obtain ⟨T11, X11, e11, st11⟩ := getF X7 hx hZ hown (host := "") (Or.inl (hw _ (List.mem_of_getElem? (i := 82) rfl))) Via.refl e7 f10 (g := (mkF m 14 #[.val (.ref ra), .val (.ref rb)] [(.ref rb), (.ref ra)])) rfl rfl (hb hby d8_14)
  have pre12 : ∀ t, Steps p.tables e below (T11.setTop (mkF m 17 #[.val (.ref ra), .val (.ref rb)] [(.ref u_parents), (.ref ra)])) t → Steps p.tables e below (s₁.setTop (entryFrame m #[(.ref ra), (.ref rb)] 2)) t := fun t k => pre9 t (st11 t k)
  have f13 := (E_ra.wr W7)
  have f14 := (F_parents_ra.other W7 (Or.inr (slot_ne (Or.inr (hw _ (List.mem_of_getElem? (i := 84) rfl))) (Or.inr (hw _ (List.mem_of_getElem? (i := 81) rfl))) (by decide) (t := (.array .int)) (t' := (.array .byte)) (by decide) (by decide))))
  obtain ⟨T15, h15, X15, e15, W15, st15⟩ := putF X11 hx hZ hown (host := "") (Or.inl (hw _ (List.mem_of_getElem? (i := 83) rfl))) Via.refl e11 f14 f13 (Or.inr ⟨(hw _ (List.mem_of_getElem? (i := 84) rfl)), rfl, hnm⟩) (hw _ (List.mem_of_getElem? (i := 73) rfl)) (ty := (.array .int)) (by decide) rfl rfl (g := (mkF m 17 #[.val (.ref ra), .val (.ref rb)] [(.ref u_parents), (.ref ra)])) rfl rfl (hb hby d8_17)
  have K15 : Keep h0 h15 [ra] := K7.wr W15 (Or.inl (by simp))
  have z15 : n0 ≤ h15.size := Nat.le_trans Z0 K15.1
  have N15 := Fr.snoc X15 N7 g_ra
  have Fw15 := f14.same W15
  have pre16 : ∀ t, Steps p.tables e below (T15.setTop (mkF m 20 #[.val (.ref ra), .val (.ref rb)] [])) t → Steps p.tables e below (s₁.setTop (entryFrame m #[(.ref ra), (.ref rb)] 2)) t := fun t k => pre12 t (st15 t k)
  have pre17 : ∀ t, Steps p.tables e below (T15.setTop (mkF m 22 #[.val (.ref ra), .val (.ref rb)] [(.ref rb), (.ref ra)])) t → Steps p.tables e below (s₁.setTop (entryFrame m #[(.ref ra), (.ref rb)] 2)) t := by
    intro t k
    refine pre16 t ?_
    refine XS.aloadN X15.here hx rfl (hb hby d8_20) rfl rfl ?_
    show Steps p.tables e below (T15.setTop (mkF m 21 #[.val (.ref ra), .val (.ref rb)] [(.ref ra)])) _
    refine XS.aloadN X15.here hx rfl (hb hby d8_21) rfl rfl ?_
    show Steps p.tables e below (T15.setTop (mkF m 22 #[.val (.ref ra), .val (.ref rb)] [(.ref rb), (.ref ra)])) _
    exact k
  have f18 := ((P_nextSiblings.other W7 (Or.inl hne)).other W15 (Or.inl hne))
  obtain ⟨T19, X19, e19, st19⟩ := getF X15 hx hZ hown (host := "") (Or.inl (hw _ (List.mem_of_getElem? (i := 85) rfl))) Via.refl e15 f18 (g := (mkF m 22 #[.val (.ref ra), .val (.ref rb)] [(.ref rb), (.ref ra)])) rfl rfl (hb hby d8_22)
  have pre20 : ∀ t, Steps p.tables e below (T19.setTop (mkF m 25 #[.val (.ref ra), .val (.ref rb)] [(.ref u_nextSiblings), (.ref ra)])) t → Steps p.tables e below (s₁.setTop (entryFrame m #[(.ref ra), (.ref rb)] 2)) t := fun t k => pre17 t (st19 t k)
  have f21 := (f13.wr W15)
  have f22 := ((F_nextSiblings_ra.other W7 (Or.inr (slot_ne (Or.inr (hw _ (List.mem_of_getElem? (i := 87) rfl))) (Or.inr (hw _ (List.mem_of_getElem? (i := 81) rfl))) (by decide) (t := (.array .int)) (t' := (.array .byte)) (by decide) (by decide)))).other W15 (Or.inr (slot_ne (Or.inr (hw _ (List.mem_of_getElem? (i := 87) rfl))) (Or.inr (hw _ (List.mem_of_getElem? (i := 84) rfl))) (by decide) (t := (.array .int)) (t' := (.array .int)) (by decide) (by decide))))
  obtain ⟨T23, h23, X23, e23, W23, st23⟩ := putF X19 hx hZ hown (host := "") (Or.inl (hw _ (List.mem_of_getElem? (i := 86) rfl))) Via.refl e19 f22 f21 (Or.inr ⟨(hw _ (List.mem_of_getElem? (i := 87) rfl)), rfl, hnm⟩) (hw _ (List.mem_of_getElem? (i := 73) rfl)) (ty := (.array .int)) (by decide) rfl rfl (g := (mkF m 25 #[.val (.ref ra), .val (.ref rb)] [(.ref u_nextSiblings), (.ref ra)])) rfl rfl (hb hby d8_25)
  have K23 : Keep h0 h23 [ra] := K15.wr W23 (Or.inl (by simp))
  have z23 : n0 ≤ h23.size := Nat.le_trans Z0 K23.1
  have N23 := Fr.snoc X23 N15 g_ra
  have Fw23 := f22.same W23
  have pre24 : ∀ t, Steps p.tables e below (T23.setTop (mkF m 28 #[.val (.ref ra), .val (.ref rb)] [])) t → Steps p.tables e below (s₁.setTop (entryFrame m #[(.ref ra), (.ref rb)] 2)) t := fun t k => pre20 t (st23 t k)
  have pre25 : ∀ t, Steps p.tables e below (T23.setTop (mkF m 30 #[.val (.ref ra), .val (.ref rb)] [(.ref rb), (.ref ra)])) t → Steps p.tables e below (s₁.setTop (entryFrame m #[(.ref ra), (.ref rb)] 2)) t := by
    intro t k
    refine pre24 t ?_
    refine XS.aloadN X23.here hx rfl (hb hby d8_28) rfl rfl ?_
    show Steps p.tables e below (T23.setTop (mkF m 29 #[.val (.ref ra), .val (.ref rb)] [(.ref ra)])) _
    refine XS.aloadN X23.here hx rfl (hb hby d8_29) rfl rfl ?_
    show Steps p.tables e below (T23.setTop (mkF m 30 #[.val (.ref ra), .val (.ref rb)] [(.ref rb), (.ref ra)])) _
    exact k
  have f26 := (((P_data.other W7 (Or.inl hne)).other W15 (Or.inl hne)).other W23 (Or.inl hne))
  obtain ⟨T27, X27, e27, st27⟩ := getF X23 hx hZ hown (host := "") (Or.inl (hw _ (List.mem_of_getElem? (i := 88) rfl))) Via.refl e23 f26 (g := (mkF m 30 #[.val (.ref ra), .val (.ref rb)] [(.ref rb), (.ref ra)])) rfl rfl (hb hby d8_30)
  have pre28 : ∀ t, Steps p.tables e below (T27.setTop (mkF m 33 #[.val (.ref ra), .val (.ref rb)] [(.ref u_data), (.ref ra)])) t → Steps p.tables e below (s₁.setTop (entryFrame m #[(.ref ra), (.ref rb)] 2)) t := fun t k => pre25 t (st27 t k)
  have f29 := (f21.wr W23)
  have f30 := (((F_data_ra.other W7 (Or.inr (slot_ne (Or.inr (hw _ (List.mem_of_getElem? (i := 90) rfl))) (Or.inr (hw _ (List.mem_of_getElem? (i := 81) rfl))) (by decide) (t := (.array .int)) (t' := (.array .byte)) (by decide) (by decide)))).other W15 (Or.inr (slot_ne (Or.inr (hw _ (List.mem_of_getElem? (i := 90) rfl))) (Or.inr (hw _ (List.mem_of_getElem? (i := 84) rfl))) (by decide) (t := (.array .int)) (t' := (.array .int)) (by decide) (by decide)))).other W23 (Or.inr (slot_ne (Or.inr (hw _ (List.mem_of_getElem? (i := 90) rfl))) (Or.inr (hw _ (List.mem_of_getElem? (i := 87) rfl))) (by decide) (t := (.array .int)) (t' := (.array .int)) (by decide) (by decide))))
  obtain ⟨T31, h31, X31, e31, W31, st31⟩ := putF X27 hx hZ hown (host := "") (Or.inl (hw _ (List.mem_of_getElem? (i := 89) rfl))) Via.refl e27 f30 f29 (Or.inr ⟨(hw _ (List.mem_of_getElem? (i := 90) rfl)), rfl, hnm⟩) (hw _ (List.mem_of_getElem? (i := 73) rfl)) (ty := (.array .int)) (by decide) rfl rfl (g := (mkF m 33 #[.val (.ref ra), .val (.ref rb)] [(.ref u_data), (.ref ra)])) rfl rfl (hb hby d8_33)
  have K31 : Keep h0 h31 [ra] := K23.wr W31 (Or.inl (by simp))
  have z31 : n0 ≤ h31.size := Nat.le_trans Z0 K31.1
  have N31 := Fr.snoc X31 N23 g_ra
  have Fw31 := f30.same W31
  have pre32 : ∀ t, Steps p.tables e below (T31.setTop (mkF m 36 #[.val (.ref ra), .val (.ref rb)] [])) t → Steps p.tables e below (s₁.setTop (entryFrame m #[(.ref ra), (.ref rb)] 2)) t := fun t k => pre28 t (st31 t k)
  have pre33 : ∀ t, Steps p.tables e below (T31.setTop (mkF m 38 #[.val (.ref ra), .val (.ref rb)] [(.ref rb), (.ref ra)])) t → Steps p.tables e below (s₁.setTop (entryFrame m #[(.ref ra), (.ref rb)] 2)) t := by
    intro t k
    refine pre32 t ?_
    refine XS.aloadN X31.here hx rfl (hb hby d8_36) rfl rfl ?_
    show Steps p.tables e below (T31.setTop (mkF m 37 #[.val (.ref ra), .val (.ref rb)] [(.ref ra)])) _
    refine XS.aloadN X31.here hx rfl (hb hby d8_37) rfl rfl ?_
    show Steps p.tables e below (T31.setTop (mkF m 38 #[.val (.ref ra), .val (.ref rb)] [(.ref rb), (.ref ra)])) _
    exact k
  have f34 := ((((P_nodeCount.other W7 (Or.inl hne)).other W15 (Or.inl hne)).other W23 (Or.inl hne)).other W31 (Or.inl hne))
  obtain ⟨T35, X35, e35, st35⟩ := getF X31 hx hZ hown (host := "") (Or.inl (hw _ (List.mem_of_getElem? (i := 91) rfl))) Via.refl e31 f34 (g := (mkF m 38 #[.val (.ref ra), .val (.ref rb)] [(.ref rb), (.ref ra)])) rfl rfl (hb hby d8_38)
  have pre36 : ∀ t, Steps p.tables e below (T35.setTop (mkF m 41 #[.val (.ref ra), .val (.ref rb)] [(.int u_nodeCount), (.ref ra)])) t → Steps p.tables e below (s₁.setTop (entryFrame m #[(.ref ra), (.ref rb)] 2)) t := fun t k => pre33 t (st35 t k)
  have f37 := (f29.wr W31)
  have f38 := ((((F_nodeCount_ra.other W7 (Or.inr (slot_ne (Or.inr (hw _ (List.mem_of_getElem? (i := 93) rfl))) (Or.inr (hw _ (List.mem_of_getElem? (i := 81) rfl))) (by decide) (t := .int) (t' := (.array .byte)) (by decide) (by decide)))).other W15 (Or.inr (slot_ne (Or.inr (hw _ (List.mem_of_getElem? (i := 93) rfl))) (Or.inr (hw _ (List.mem_of_getElem? (i := 84) rfl))) (by decide) (t := .int) (t' := (.array .int)) (by decide) (by decide)))).other W23 (Or.inr (slot_ne (Or.inr (hw _ (List.mem_of_getElem? (i := 93) rfl))) (Or.inr (hw _ (List.mem_of_getElem? (i := 87) rfl))) (by decide) (t := .int) (t' := (.array .int)) (by decide) (by decide)))).other W31 (Or.inr (slot_ne (Or.inr (hw _ (List.mem_of_getElem? (i := 93) rfl))) (Or.inr (hw _ (List.mem_of_getElem? (i := 90) rfl))) (by decide) (t := .int) (t' := (.array .int)) (by decide) (by decide))))
  obtain ⟨T39, h39, X39, e39, W39, st39⟩ := putF X35 hx hZ hown (host := "") (Or.inl (hw _ (List.mem_of_getElem? (i := 92) rfl))) Via.refl e35 f38 f37 (Or.inr ⟨(hw _ (List.mem_of_getElem? (i := 93) rfl)), rfl, hnm⟩) (hw _ (List.mem_of_getElem? (i := 73) rfl)) (ty := .int) (by decide) rfl rfl (g := (mkF m 41 #[.val (.ref ra), .val (.ref rb)] [(.int u_nodeCount), (.ref ra)])) rfl rfl (hb hby d8_41)
  have K39 : Keep h0 h39 [ra] := K31.wr W39 (Or.inl (by simp))
  have z39 : n0 ≤ h39.size := Nat.le_trans Z0 K39.1
  have N39 := Fr.snoc X39 N31 g_ra
  have Fw39 := f38.same W39
  have pre40 : ∀ t, Steps p.tables e below (T39.setTop (mkF m 44 #[.val (.ref ra), .val (.ref rb)] [])) t → Steps p.tables e below (s₁.setTop (entryFrame m #[(.ref ra), (.ref rb)] 2)) t := fun t k => pre36 t (st39 t k)
  have pre41 : ∀ t, Steps p.tables e below (T39.setTop (mkF m 46 #[.val (.ref ra), .val (.ref rb)] [(.ref rb), (.ref ra)])) t → Steps p.tables e below (s₁.setTop (entryFrame m #[(.ref ra), (.ref rb)] 2)) t := by
    intro t k
    refine pre40 t ?_
    refine XS.aloadN X39.here hx rfl (hb hby d8_44) rfl rfl ?_
    show Steps p.tables e below (T39.setTop (mkF m 45 #[.val (.ref ra), .val (.ref rb)] [(.ref ra)])) _
    refine XS.aloadN X39.here hx rfl (hb hby d8_45) rfl rfl ?_
    show Steps p.tables e below (T39.setTop (mkF m 46 #[.val (.ref ra), .val (.ref rb)] [(.ref rb), (.ref ra)])) _
    exact k
  have f42 := (((((P_owners.other W7 (Or.inl hne)).other W15 (Or.inl hne)).other W23 (Or.inl hne)).other W31 (Or.inl hne)).other W39 (Or.inl hne))
  obtain ⟨T43, X43, e43, st43⟩ := getF X39 hx hZ hown (host := "") (Or.inl (hw _ (List.mem_of_getElem? (i := 94) rfl))) Via.refl e39 f42 (g := (mkF m 46 #[.val (.ref ra), .val (.ref rb)] [(.ref rb), (.ref ra)])) rfl rfl (hb hby d8_46)
  have pre44 : ∀ t, Steps p.tables e below (T43.setTop (mkF m 49 #[.val (.ref ra), .val (.ref rb)] [(.ref u_owners), (.ref ra)])) t → Steps p.tables e below (s₁.setTop (entryFrame m #[(.ref ra), (.ref rb)] 2)) t := fun t k => pre41 t (st43 t k)
  have f45 := (f37.wr W39)
  have f46 := (((((F_owners_ra.other W7 (Or.inr (slot_ne (Or.inr (hw _ (List.mem_of_getElem? (i := 96) rfl))) (Or.inr (hw _ (List.mem_of_getElem? (i := 81) rfl))) (by decide) (t := (.array .int)) (t' := (.array .byte)) (by decide) (by decide)))).other W15 (Or.inr (slot_ne (Or.inr (hw _ (List.mem_of_getElem? (i := 96) rfl))) (Or.inr (hw _ (List.mem_of_getElem? (i := 84) rfl))) (by decide) (t := (.array .int)) (t' := (.array .int)) (by decide) (by decide)))).other W23 (Or.inr (slot_ne (Or.inr (hw _ (List.mem_of_getElem? (i := 96) rfl))) (Or.inr (hw _ (List.mem_of_getElem? (i := 87) rfl))) (by decide) (t := (.array .int)) (t' := (.array .int)) (by decide) (by decide)))).other W31 (Or.inr (slot_ne (Or.inr (hw _ (List.mem_of_getElem? (i := 96) rfl))) (Or.inr (hw _ (List.mem_of_getElem? (i := 90) rfl))) (by decide) (t := (.array .int)) (t' := (.array .int)) (by decide) (by decide)))).other W39 (Or.inr (slot_ne (Or.inr (hw _ (List.mem_of_getElem? (i := 96) rfl))) (Or.inr (hw _ (List.mem_of_getElem? (i := 93) rfl))) (by decide) (t := (.array .int)) (t' := .int) (by decide) (by decide))))
  obtain ⟨T47, h47, X47, e47, W47, st47⟩ := putF X43 hx hZ hown (host := "") (Or.inl (hw _ (List.mem_of_getElem? (i := 95) rfl))) Via.refl e43 f46 f45 (Or.inr ⟨(hw _ (List.mem_of_getElem? (i := 96) rfl)), rfl, hnm⟩) (hw _ (List.mem_of_getElem? (i := 73) rfl)) (ty := (.array .int)) (by decide) rfl rfl (g := (mkF m 49 #[.val (.ref ra), .val (.ref rb)] [(.ref u_owners), (.ref ra)])) rfl rfl (hb hby d8_49)
  have K47 : Keep h0 h47 [ra] := K39.wr W47 (Or.inl (by simp))
  have z47 : n0 ≤ h47.size := Nat.le_trans Z0 K47.1
  have N47 := Fr.snoc X47 N39 g_ra
  have Fw47 := f46.same W47
  have pre48 : ∀ t, Steps p.tables e below (T47.setTop (mkF m 52 #[.val (.ref ra), .val (.ref rb)] [])) t → Steps p.tables e below (s₁.setTop (entryFrame m #[(.ref ra), (.ref rb)] 2)) t := fun t k => pre44 t (st47 t k)
  have pre49 : ∀ t, Steps p.tables e below (T47.setTop (mkF m 54 #[.val (.ref ra), .val (.ref rb)] [(.ref rb), (.ref ra)])) t → Steps p.tables e below (s₁.setTop (entryFrame m #[(.ref ra), (.ref rb)] 2)) t := by
    intro t k
    refine pre48 t ?_
    refine XS.aloadN X47.here hx rfl (hb hby d8_52) rfl rfl ?_
    show Steps p.tables e below (T47.setTop (mkF m 53 #[.val (.ref ra), .val (.ref rb)] [(.ref ra)])) _
    refine XS.aloadN X47.here hx rfl (hb hby d8_53) rfl rfl ?_
    show Steps p.tables e below (T47.setTop (mkF m 54 #[.val (.ref ra), .val (.ref rb)] [(.ref rb), (.ref ra)])) _
    exact k
  have f50 := ((((((P_attributeNames.other W7 (Or.inl hne)).other W15 (Or.inl hne)).other W23 (Or.inl hne)).other W31 (Or.inl hne)).other W39 (Or.inl hne)).other W47 (Or.inl hne))
  obtain ⟨T51, X51, e51, st51⟩ := getF X47 hx hZ hown (host := "") (Or.inl (hw _ (List.mem_of_getElem? (i := 97) rfl))) Via.refl e47 f50 (g := (mkF m 54 #[.val (.ref ra), .val (.ref rb)] [(.ref rb), (.ref ra)])) rfl rfl (hb hby d8_54)
  have pre52 : ∀ t, Steps p.tables e below (T51.setTop (mkF m 57 #[.val (.ref ra), .val (.ref rb)] [(.ref u_attributeNames), (.ref ra)])) t → Steps p.tables e below (s₁.setTop (entryFrame m #[(.ref ra), (.ref rb)] 2)) t := fun t k => pre49 t (st51 t k)
  have f53 := (f45.wr W47)
  have f54 := ((((((F_attributeNames_ra.other W7 (Or.inr (slot_ne (Or.inr (hw _ (List.mem_of_getElem? (i := 99) rfl))) (Or.inr (hw _ (List.mem_of_getElem? (i := 81) rfl))) (by decide) (t := (.array .int)) (t' := (.array .byte)) (by decide) (by decide)))).other W15 (Or.inr (slot_ne (Or.inr (hw _ (List.mem_of_getElem? (i := 99) rfl))) (Or.inr (hw _ (List.mem_of_getElem? (i := 84) rfl))) (by decide) (t := (.array .int)) (t' := (.array .int)) (by decide) (by decide)))).other W23 (Or.inr (slot_ne (Or.inr (hw _ (List.mem_of_getElem? (i := 99) rfl))) (Or.inr (hw _ (List.mem_of_getElem? (i := 87) rfl))) (by decide) (t := (.array .int)) (t' := (.array .int)) (by decide) (by decide)))).other W31 (Or.inr (slot_ne (Or.inr (hw _ (List.mem_of_getElem? (i := 99) rfl))) (Or.inr (hw _ (List.mem_of_getElem? (i := 90) rfl))) (by decide) (t := (.array .int)) (t' := (.array .int)) (by decide) (by decide)))).other W39 (Or.inr (slot_ne (Or.inr (hw _ (List.mem_of_getElem? (i := 99) rfl))) (Or.inr (hw _ (List.mem_of_getElem? (i := 93) rfl))) (by decide) (t := (.array .int)) (t' := .int) (by decide) (by decide)))).other W47 (Or.inr (slot_ne (Or.inr (hw _ (List.mem_of_getElem? (i := 99) rfl))) (Or.inr (hw _ (List.mem_of_getElem? (i := 96) rfl))) (by decide) (t := (.array .int)) (t' := (.array .int)) (by decide) (by decide))))
  obtain ⟨T55, h55, X55, e55, W55, st55⟩ := putF X51 hx hZ hown (host := "") (Or.inl (hw _ (List.mem_of_getElem? (i := 98) rfl))) Via.refl e51 f54 f53 (Or.inr ⟨(hw _ (List.mem_of_getElem? (i := 99) rfl)), rfl, hnm⟩) (hw _ (List.mem_of_getElem? (i := 73) rfl)) (ty := (.array .int)) (by decide) rfl rfl (g := (mkF m 57 #[.val (.ref ra), .val (.ref rb)] [(.ref u_attributeNames), (.ref ra)])) rfl rfl (hb hby d8_57)
  have K55 : Keep h0 h55 [ra] := K47.wr W55 (Or.inl (by simp))
  have z55 : n0 ≤ h55.size := Nat.le_trans Z0 K55.1
  have N55 := Fr.snoc X55 N47 g_ra
  have Fw55 := f54.same W55
  have pre56 : ∀ t, Steps p.tables e below (T55.setTop (mkF m 60 #[.val (.ref ra), .val (.ref rb)] [])) t → Steps p.tables e below (s₁.setTop (entryFrame m #[(.ref ra), (.ref rb)] 2)) t := fun t k => pre52 t (st55 t k)
  have pre57 : ∀ t, Steps p.tables e below (T55.setTop (mkF m 62 #[.val (.ref ra), .val (.ref rb)] [(.ref rb), (.ref ra)])) t → Steps p.tables e below (s₁.setTop (entryFrame m #[(.ref ra), (.ref rb)] 2)) t := by
    intro t k
    refine pre56 t ?_
    refine XS.aloadN X55.here hx rfl (hb hby d8_60) rfl rfl ?_
    show Steps p.tables e below (T55.setTop (mkF m 61 #[.val (.ref ra), .val (.ref rb)] [(.ref ra)])) _
    refine XS.aloadN X55.here hx rfl (hb hby d8_61) rfl rfl ?_
    show Steps p.tables e below (T55.setTop (mkF m 62 #[.val (.ref ra), .val (.ref rb)] [(.ref rb), (.ref ra)])) _
    exact k
  have f58 := (((((((P_attributeValues.other W7 (Or.inl hne)).other W15 (Or.inl hne)).other W23 (Or.inl hne)).other W31 (Or.inl hne)).other W39 (Or.inl hne)).other W47 (Or.inl hne)).other W55 (Or.inl hne))
  obtain ⟨T59, X59, e59, st59⟩ := getF X55 hx hZ hown (host := "") (Or.inl (hw _ (List.mem_of_getElem? (i := 100) rfl))) Via.refl e55 f58 (g := (mkF m 62 #[.val (.ref ra), .val (.ref rb)] [(.ref rb), (.ref ra)])) rfl rfl (hb hby d8_62)
  have pre60 : ∀ t, Steps p.tables e below (T59.setTop (mkF m 65 #[.val (.ref ra), .val (.ref rb)] [(.ref u_attributeValues), (.ref ra)])) t → Steps p.tables e below (s₁.setTop (entryFrame m #[(.ref ra), (.ref rb)] 2)) t := fun t k => pre57 t (st59 t k)
  have f61 := (f53.wr W55)
  have f62 := (((((((F_attributeValues_ra.other W7 (Or.inr (slot_ne (Or.inr (hw _ (List.mem_of_getElem? (i := 102) rfl))) (Or.inr (hw _ (List.mem_of_getElem? (i := 81) rfl))) (by decide) (t := (.array .int)) (t' := (.array .byte)) (by decide) (by decide)))).other W15 (Or.inr (slot_ne (Or.inr (hw _ (List.mem_of_getElem? (i := 102) rfl))) (Or.inr (hw _ (List.mem_of_getElem? (i := 84) rfl))) (by decide) (t := (.array .int)) (t' := (.array .int)) (by decide) (by decide)))).other W23 (Or.inr (slot_ne (Or.inr (hw _ (List.mem_of_getElem? (i := 102) rfl))) (Or.inr (hw _ (List.mem_of_getElem? (i := 87) rfl))) (by decide) (t := (.array .int)) (t' := (.array .int)) (by decide) (by decide)))).other W31 (Or.inr (slot_ne (Or.inr (hw _ (List.mem_of_getElem? (i := 102) rfl))) (Or.inr (hw _ (List.mem_of_getElem? (i := 90) rfl))) (by decide) (t := (.array .int)) (t' := (.array .int)) (by decide) (by decide)))).other W39 (Or.inr (slot_ne (Or.inr (hw _ (List.mem_of_getElem? (i := 102) rfl))) (Or.inr (hw _ (List.mem_of_getElem? (i := 93) rfl))) (by decide) (t := (.array .int)) (t' := .int) (by decide) (by decide)))).other W47 (Or.inr (slot_ne (Or.inr (hw _ (List.mem_of_getElem? (i := 102) rfl))) (Or.inr (hw _ (List.mem_of_getElem? (i := 96) rfl))) (by decide) (t := (.array .int)) (t' := (.array .int)) (by decide) (by decide)))).other W55 (Or.inr (slot_ne (Or.inr (hw _ (List.mem_of_getElem? (i := 102) rfl))) (Or.inr (hw _ (List.mem_of_getElem? (i := 99) rfl))) (by decide) (t := (.array .int)) (t' := (.array .int)) (by decide) (by decide))))
  obtain ⟨T63, h63, X63, e63, W63, st63⟩ := putF X59 hx hZ hown (host := "") (Or.inl (hw _ (List.mem_of_getElem? (i := 101) rfl))) Via.refl e59 f62 f61 (Or.inr ⟨(hw _ (List.mem_of_getElem? (i := 102) rfl)), rfl, hnm⟩) (hw _ (List.mem_of_getElem? (i := 73) rfl)) (ty := (.array .int)) (by decide) rfl rfl (g := (mkF m 65 #[.val (.ref ra), .val (.ref rb)] [(.ref u_attributeValues), (.ref ra)])) rfl rfl (hb hby d8_65)
  have K63 : Keep h0 h63 [ra] := K55.wr W63 (Or.inl (by simp))
  have z63 : n0 ≤ h63.size := Nat.le_trans Z0 K63.1
  have N63 := Fr.snoc X63 N55 g_ra
  have Fw63 := f62.same W63
  have pre64 : ∀ t, Steps p.tables e below (T63.setTop (mkF m 68 #[.val (.ref ra), .val (.ref rb)] [])) t → Steps p.tables e below (s₁.setTop (entryFrame m #[(.ref ra), (.ref rb)] 2)) t := fun t k => pre60 t (st63 t k)
  have pre65 : ∀ t, Steps p.tables e below (T63.setTop (mkF m 70 #[.val (.ref ra), .val (.ref rb)] [(.ref rb), (.ref ra)])) t → Steps p.tables e below (s₁.setTop (entryFrame m #[(.ref ra), (.ref rb)] 2)) t := by
    intro t k
    refine pre64 t ?_
    refine XS.aloadN X63.here hx rfl (hb hby d8_68) rfl rfl ?_
    show Steps p.tables e below (T63.setTop (mkF m 69 #[.val (.ref ra), .val (.ref rb)] [(.ref ra)])) _
    refine XS.aloadN X63.here hx rfl (hb hby d8_69) rfl rfl ?_
    show Steps p.tables e below (T63.setTop (mkF m 70 #[.val (.ref ra), .val (.ref rb)] [(.ref rb), (.ref ra)])) _
    exact k
  have f66 := ((((((((P_attributeTypes.other W7 (Or.inl hne)).other W15 (Or.inl hne)).other W23 (Or.inl hne)).other W31 (Or.inl hne)).other W39 (Or.inl hne)).other W47 (Or.inl hne)).other W55 (Or.inl hne)).other W63 (Or.inl hne))
  obtain ⟨T67, X67, e67, st67⟩ := getF X63 hx hZ hown (host := "") (Or.inl (hw _ (List.mem_of_getElem? (i := 103) rfl))) Via.refl e63 f66 (g := (mkF m 70 #[.val (.ref ra), .val (.ref rb)] [(.ref rb), (.ref ra)])) rfl rfl (hb hby d8_70)
  have pre68 : ∀ t, Steps p.tables e below (T67.setTop (mkF m 73 #[.val (.ref ra), .val (.ref rb)] [(.ref u_attributeTypes), (.ref ra)])) t → Steps p.tables e below (s₁.setTop (entryFrame m #[(.ref ra), (.ref rb)] 2)) t := fun t k => pre65 t (st67 t k)
  have f69 := (f61.wr W63)
  have f70 := ((((((((F_attributeTypes_ra.other W7 (Or.inr (slot_ne (Or.inr (hw _ (List.mem_of_getElem? (i := 105) rfl))) (Or.inr (hw _ (List.mem_of_getElem? (i := 81) rfl))) (by decide) (t := (.array .byte)) (t' := (.array .byte)) (by decide) (by decide)))).other W15 (Or.inr (slot_ne (Or.inr (hw _ (List.mem_of_getElem? (i := 105) rfl))) (Or.inr (hw _ (List.mem_of_getElem? (i := 84) rfl))) (by decide) (t := (.array .byte)) (t' := (.array .int)) (by decide) (by decide)))).other W23 (Or.inr (slot_ne (Or.inr (hw _ (List.mem_of_getElem? (i := 105) rfl))) (Or.inr (hw _ (List.mem_of_getElem? (i := 87) rfl))) (by decide) (t := (.array .byte)) (t' := (.array .int)) (by decide) (by decide)))).other W31 (Or.inr (slot_ne (Or.inr (hw _ (List.mem_of_getElem? (i := 105) rfl))) (Or.inr (hw _ (List.mem_of_getElem? (i := 90) rfl))) (by decide) (t := (.array .byte)) (t' := (.array .int)) (by decide) (by decide)))).other W39 (Or.inr (slot_ne (Or.inr (hw _ (List.mem_of_getElem? (i := 105) rfl))) (Or.inr (hw _ (List.mem_of_getElem? (i := 93) rfl))) (by decide) (t := (.array .byte)) (t' := .int) (by decide) (by decide)))).other W47 (Or.inr (slot_ne (Or.inr (hw _ (List.mem_of_getElem? (i := 105) rfl))) (Or.inr (hw _ (List.mem_of_getElem? (i := 96) rfl))) (by decide) (t := (.array .byte)) (t' := (.array .int)) (by decide) (by decide)))).other W55 (Or.inr (slot_ne (Or.inr (hw _ (List.mem_of_getElem? (i := 105) rfl))) (Or.inr (hw _ (List.mem_of_getElem? (i := 99) rfl))) (by decide) (t := (.array .byte)) (t' := (.array .int)) (by decide) (by decide)))).other W63 (Or.inr (slot_ne (Or.inr (hw _ (List.mem_of_getElem? (i := 105) rfl))) (Or.inr (hw _ (List.mem_of_getElem? (i := 102) rfl))) (by decide) (t := (.array .byte)) (t' := (.array .int)) (by decide) (by decide))))
  obtain ⟨T71, h71, X71, e71, W71, st71⟩ := putF X67 hx hZ hown (host := "") (Or.inl (hw _ (List.mem_of_getElem? (i := 104) rfl))) Via.refl e67 f70 f69 (Or.inr ⟨(hw _ (List.mem_of_getElem? (i := 105) rfl)), rfl, hnm⟩) (hw _ (List.mem_of_getElem? (i := 73) rfl)) (ty := (.array .byte)) (by decide) rfl rfl (g := (mkF m 73 #[.val (.ref ra), .val (.ref rb)] [(.ref u_attributeTypes), (.ref ra)])) rfl rfl (hb hby d8_73)
  have K71 : Keep h0 h71 [ra] := K63.wr W71 (Or.inl (by simp))
  have z71 : n0 ≤ h71.size := Nat.le_trans Z0 K71.1
  have N71 := Fr.snoc X71 N63 g_ra
  have Fw71 := f70.same W71
  have pre72 : ∀ t, Steps p.tables e below (T71.setTop (mkF m 76 #[.val (.ref ra), .val (.ref rb)] [])) t → Steps p.tables e below (s₁.setTop (entryFrame m #[(.ref ra), (.ref rb)] 2)) t := fun t k => pre68 t (st71 t k)
  have pre73 : ∀ t, Steps p.tables e below (T71.setTop (mkF m 78 #[.val (.ref ra), .val (.ref rb)] [(.ref rb), (.ref ra)])) t → Steps p.tables e below (s₁.setTop (entryFrame m #[(.ref ra), (.ref rb)] 2)) t := by
    intro t k
    refine pre72 t ?_
    refine XS.aloadN X71.here hx rfl (hb hby d8_76) rfl rfl ?_
    show Steps p.tables e below (T71.setTop (mkF m 77 #[.val (.ref ra), .val (.ref rb)] [(.ref ra)])) _
    refine XS.aloadN X71.here hx rfl (hb hby d8_77) rfl rfl ?_
    show Steps p.tables e below (T71.setTop (mkF m 78 #[.val (.ref ra), .val (.ref rb)] [(.ref rb), (.ref ra)])) _
    exact k
  have f74 := (((((((((P_attributeCount.other W7 (Or.inl hne)).other W15 (Or.inl hne)).other W23 (Or.inl hne)).other W31 (Or.inl hne)).other W39 (Or.inl hne)).other W47 (Or.inl hne)).other W55 (Or.inl hne)).other W63 (Or.inl hne)).other W71 (Or.inl hne))
  obtain ⟨T75, X75, e75, st75⟩ := getF X71 hx hZ hown (host := "") (Or.inl (hw _ (List.mem_of_getElem? (i := 106) rfl))) Via.refl e71 f74 (g := (mkF m 78 #[.val (.ref ra), .val (.ref rb)] [(.ref rb), (.ref ra)])) rfl rfl (hb hby d8_78)
  have pre76 : ∀ t, Steps p.tables e below (T75.setTop (mkF m 81 #[.val (.ref ra), .val (.ref rb)] [(.int u_attributeCount), (.ref ra)])) t → Steps p.tables e below (s₁.setTop (entryFrame m #[(.ref ra), (.ref rb)] 2)) t := fun t k => pre73 t (st75 t k)
  have f77 := (f69.wr W71)
  have f78 := (((((((((F_attributeCount_ra.other W7 (Or.inr (slot_ne (Or.inr (hw _ (List.mem_of_getElem? (i := 109) rfl))) (Or.inr (hw _ (List.mem_of_getElem? (i := 81) rfl))) (by decide) (t := .int) (t' := (.array .byte)) (by decide) (by decide)))).other W15 (Or.inr (slot_ne (Or.inr (hw _ (List.mem_of_getElem? (i := 109) rfl))) (Or.inr (hw _ (List.mem_of_getElem? (i := 84) rfl))) (by decide) (t := .int) (t' := (.array .int)) (by decide) (by decide)))).other W23 (Or.inr (slot_ne (Or.inr (hw _ (List.mem_of_getElem? (i := 109) rfl))) (Or.inr (hw _ (List.mem_of_getElem? (i := 87) rfl))) (by decide) (t := .int) (t' := (.array .int)) (by decide) (by decide)))).other W31 (Or.inr (slot_ne (Or.inr (hw _ (List.mem_of_getElem? (i := 109) rfl))) (Or.inr (hw _ (List.mem_of_getElem? (i := 90) rfl))) (by decide) (t := .int) (t' := (.array .int)) (by decide) (by decide)))).other W39 (Or.inr (slot_ne (Or.inr (hw _ (List.mem_of_getElem? (i := 109) rfl))) (Or.inr (hw _ (List.mem_of_getElem? (i := 93) rfl))) (by decide) (t := .int) (t' := .int) (by decide) (by decide)))).other W47 (Or.inr (slot_ne (Or.inr (hw _ (List.mem_of_getElem? (i := 109) rfl))) (Or.inr (hw _ (List.mem_of_getElem? (i := 96) rfl))) (by decide) (t := .int) (t' := (.array .int)) (by decide) (by decide)))).other W55 (Or.inr (slot_ne (Or.inr (hw _ (List.mem_of_getElem? (i := 109) rfl))) (Or.inr (hw _ (List.mem_of_getElem? (i := 99) rfl))) (by decide) (t := .int) (t' := (.array .int)) (by decide) (by decide)))).other W63 (Or.inr (slot_ne (Or.inr (hw _ (List.mem_of_getElem? (i := 109) rfl))) (Or.inr (hw _ (List.mem_of_getElem? (i := 102) rfl))) (by decide) (t := .int) (t' := (.array .int)) (by decide) (by decide)))).other W71 (Or.inr (slot_ne (Or.inr (hw _ (List.mem_of_getElem? (i := 109) rfl))) (Or.inr (hw _ (List.mem_of_getElem? (i := 105) rfl))) (by decide) (t := .int) (t' := (.array .byte)) (by decide) (by decide))))
  obtain ⟨T79, h79, X79, e79, W79, st79⟩ := putF X75 hx hZ hown (host := "") (Or.inl (hw _ (List.mem_of_getElem? (i := 108) rfl))) Via.refl e75 f78 f77 (Or.inr ⟨(hw _ (List.mem_of_getElem? (i := 109) rfl)), rfl, hnm⟩) (hw _ (List.mem_of_getElem? (i := 73) rfl)) (ty := .int) (by decide) rfl rfl (g := (mkF m 81 #[.val (.ref ra), .val (.ref rb)] [(.int u_attributeCount), (.ref ra)])) rfl rfl (hb hby d8_81)
  have K79 : Keep h0 h79 [ra] := K71.wr W79 (Or.inl (by simp))
  have z79 : n0 ≤ h79.size := Nat.le_trans Z0 K79.1
  have N79 := Fr.snoc X79 N71 g_ra
  have Fw79 := f78.same W79
  have pre80 : ∀ t, Steps p.tables e below (T79.setTop (mkF m 84 #[.val (.ref ra), .val (.ref rb)] [])) t → Steps p.tables e below (s₁.setTop (entryFrame m #[(.ref ra), (.ref rb)] 2)) t := fun t k => pre76 t (st79 t k)
  have pre81 : ∀ t, Steps p.tables e below (T79.setTop (mkF m 86 #[.val (.ref ra), .val (.ref rb)] [(.ref rb), (.ref ra)])) t → Steps p.tables e below (s₁.setTop (entryFrame m #[(.ref ra), (.ref rb)] 2)) t := by
    intro t k
    refine pre80 t ?_
    refine XS.aloadN X79.here hx rfl (hb hby d8_84) rfl rfl ?_
    show Steps p.tables e below (T79.setTop (mkF m 85 #[.val (.ref ra), .val (.ref rb)] [(.ref ra)])) _
    refine XS.aloadN X79.here hx rfl (hb hby d8_85) rfl rfl ?_
    show Steps p.tables e below (T79.setTop (mkF m 86 #[.val (.ref ra), .val (.ref rb)] [(.ref rb), (.ref ra)])) _
    exact k
  have f82 := ((((((((((P_names.other W7 (Or.inl hne)).other W15 (Or.inl hne)).other W23 (Or.inl hne)).other W31 (Or.inl hne)).other W39 (Or.inl hne)).other W47 (Or.inl hne)).other W55 (Or.inl hne)).other W63 (Or.inl hne)).other W71 (Or.inl hne)).other W79 (Or.inl hne))
  obtain ⟨T83, X83, e83, st83⟩ := getF X79 hx hZ hown (host := "") (Or.inl (hw _ (List.mem_of_getElem? (i := 110) rfl))) Via.refl e79 f82 (g := (mkF m 86 #[.val (.ref ra), .val (.ref rb)] [(.ref rb), (.ref ra)])) rfl rfl (hb hby d8_86)
  have pre84 : ∀ t, Steps p.tables e below (T83.setTop (mkF m 89 #[.val (.ref ra), .val (.ref rb)] [(.ref u_names), (.ref ra)])) t → Steps p.tables e below (s₁.setTop (entryFrame m #[(.ref ra), (.ref rb)] 2)) t := fun t k => pre81 t (st83 t k)
  have f85 := (f77.wr W79)
  have f86 := ((((((((((F_names_ra.other W7 (Or.inr (slot_ne (Or.inr (hw _ (List.mem_of_getElem? (i := 112) rfl))) (Or.inr (hw _ (List.mem_of_getElem? (i := 81) rfl))) (by decide) (t := (.object "java/util/List")) (t' := (.array .byte)) (by decide) (by decide)))).other W15 (Or.inr (slot_ne (Or.inr (hw _ (List.mem_of_getElem? (i := 112) rfl))) (Or.inr (hw _ (List.mem_of_getElem? (i := 84) rfl))) (by decide) (t := (.object "java/util/List")) (t' := (.array .int)) (by decide) (by decide)))).other W23 (Or.inr (slot_ne (Or.inr (hw _ (List.mem_of_getElem? (i := 112) rfl))) (Or.inr (hw _ (List.mem_of_getElem? (i := 87) rfl))) (by decide) (t := (.object "java/util/List")) (t' := (.array .int)) (by decide) (by decide)))).other W31 (Or.inr (slot_ne (Or.inr (hw _ (List.mem_of_getElem? (i := 112) rfl))) (Or.inr (hw _ (List.mem_of_getElem? (i := 90) rfl))) (by decide) (t := (.object "java/util/List")) (t' := (.array .int)) (by decide) (by decide)))).other W39 (Or.inr (slot_ne (Or.inr (hw _ (List.mem_of_getElem? (i := 112) rfl))) (Or.inr (hw _ (List.mem_of_getElem? (i := 93) rfl))) (by decide) (t := (.object "java/util/List")) (t' := .int) (by decide) (by decide)))).other W47 (Or.inr (slot_ne (Or.inr (hw _ (List.mem_of_getElem? (i := 112) rfl))) (Or.inr (hw _ (List.mem_of_getElem? (i := 96) rfl))) (by decide) (t := (.object "java/util/List")) (t' := (.array .int)) (by decide) (by decide)))).other W55 (Or.inr (slot_ne (Or.inr (hw _ (List.mem_of_getElem? (i := 112) rfl))) (Or.inr (hw _ (List.mem_of_getElem? (i := 99) rfl))) (by decide) (t := (.object "java/util/List")) (t' := (.array .int)) (by decide) (by decide)))).other W63 (Or.inr (slot_ne (Or.inr (hw _ (List.mem_of_getElem? (i := 112) rfl))) (Or.inr (hw _ (List.mem_of_getElem? (i := 102) rfl))) (by decide) (t := (.object "java/util/List")) (t' := (.array .int)) (by decide) (by decide)))).other W71 (Or.inr (slot_ne (Or.inr (hw _ (List.mem_of_getElem? (i := 112) rfl))) (Or.inr (hw _ (List.mem_of_getElem? (i := 105) rfl))) (by decide) (t := (.object "java/util/List")) (t' := (.array .byte)) (by decide) (by decide)))).other W79 (Or.inr (slot_ne (Or.inr (hw _ (List.mem_of_getElem? (i := 112) rfl))) (Or.inr (hw _ (List.mem_of_getElem? (i := 109) rfl))) (by decide) (t := (.object "java/util/List")) (t' := .int) (by decide) (by decide))))
  obtain ⟨T87, h87, X87, e87, W87, st87⟩ := putF X83 hx hZ hown (host := "") (Or.inl (hw _ (List.mem_of_getElem? (i := 111) rfl))) Via.refl e83 f86 f85 (Or.inr ⟨(hw _ (List.mem_of_getElem? (i := 112) rfl)), rfl, hnm⟩) (hw _ (List.mem_of_getElem? (i := 73) rfl)) (ty := (.object "java/util/List")) (by decide) rfl rfl (g := (mkF m 89 #[.val (.ref ra), .val (.ref rb)] [(.ref u_names), (.ref ra)])) rfl rfl (hb hby d8_89)
  have K87 : Keep h0 h87 [ra] := K79.wr W87 (Or.inl (by simp))
  have z87 : n0 ≤ h87.size := Nat.le_trans Z0 K87.1
  have N87 := Fr.snoc X87 N79 g_ra
  have Fw87 := f86.same W87
  have pre88 : ∀ t, Steps p.tables e below (T87.setTop (mkF m 92 #[.val (.ref ra), .val (.ref rb)] [])) t → Steps p.tables e below (s₁.setTop (entryFrame m #[(.ref ra), (.ref rb)] 2)) t := fun t k => pre84 t (st87 t k)
  have pre89 : ∀ t, Steps p.tables e below (T87.setTop (mkF m 94 #[.val (.ref ra), .val (.ref rb)] [(.ref rb), (.ref ra)])) t → Steps p.tables e below (s₁.setTop (entryFrame m #[(.ref ra), (.ref rb)] 2)) t := by
    intro t k
    refine pre88 t ?_
    refine XS.aloadN X87.here hx rfl (hb hby d8_92) rfl rfl ?_
    show Steps p.tables e below (T87.setTop (mkF m 93 #[.val (.ref ra), .val (.ref rb)] [(.ref ra)])) _
    refine XS.aloadN X87.here hx rfl (hb hby d8_93) rfl rfl ?_
    show Steps p.tables e below (T87.setTop (mkF m 94 #[.val (.ref ra), .val (.ref rb)] [(.ref rb), (.ref ra)])) _
    exact k
  have f90 := (((((((((((P_narrowText.other W7 (Or.inl hne)).other W15 (Or.inl hne)).other W23 (Or.inl hne)).other W31 (Or.inl hne)).other W39 (Or.inl hne)).other W47 (Or.inl hne)).other W55 (Or.inl hne)).other W63 (Or.inl hne)).other W71 (Or.inl hne)).other W79 (Or.inl hne)).other W87 (Or.inl hne))
  obtain ⟨T91, X91, e91, st91⟩ := getF X87 hx hZ hown (host := "") (Or.inl (hw _ (List.mem_of_getElem? (i := 113) rfl))) Via.refl e87 f90 (g := (mkF m 94 #[.val (.ref ra), .val (.ref rb)] [(.ref rb), (.ref ra)])) rfl rfl (hb hby d8_94)
  have pre92 : ∀ t, Steps p.tables e below (T91.setTop (mkF m 97 #[.val (.ref ra), .val (.ref rb)] [(.ref u_narrowText), (.ref ra)])) t → Steps p.tables e below (s₁.setTop (entryFrame m #[(.ref ra), (.ref rb)] 2)) t := fun t k => pre89 t (st91 t k)
  have f93 := (f85.wr W87)
  have f94 := (((((((((((F_narrowText_ra.other W7 (Or.inr (slot_ne (Or.inr (hw _ (List.mem_of_getElem? (i := 115) rfl))) (Or.inr (hw _ (List.mem_of_getElem? (i := 81) rfl))) (by decide) (t := (.array .byte)) (t' := (.array .byte)) (by decide) (by decide)))).other W15 (Or.inr (slot_ne (Or.inr (hw _ (List.mem_of_getElem? (i := 115) rfl))) (Or.inr (hw _ (List.mem_of_getElem? (i := 84) rfl))) (by decide) (t := (.array .byte)) (t' := (.array .int)) (by decide) (by decide)))).other W23 (Or.inr (slot_ne (Or.inr (hw _ (List.mem_of_getElem? (i := 115) rfl))) (Or.inr (hw _ (List.mem_of_getElem? (i := 87) rfl))) (by decide) (t := (.array .byte)) (t' := (.array .int)) (by decide) (by decide)))).other W31 (Or.inr (slot_ne (Or.inr (hw _ (List.mem_of_getElem? (i := 115) rfl))) (Or.inr (hw _ (List.mem_of_getElem? (i := 90) rfl))) (by decide) (t := (.array .byte)) (t' := (.array .int)) (by decide) (by decide)))).other W39 (Or.inr (slot_ne (Or.inr (hw _ (List.mem_of_getElem? (i := 115) rfl))) (Or.inr (hw _ (List.mem_of_getElem? (i := 93) rfl))) (by decide) (t := (.array .byte)) (t' := .int) (by decide) (by decide)))).other W47 (Or.inr (slot_ne (Or.inr (hw _ (List.mem_of_getElem? (i := 115) rfl))) (Or.inr (hw _ (List.mem_of_getElem? (i := 96) rfl))) (by decide) (t := (.array .byte)) (t' := (.array .int)) (by decide) (by decide)))).other W55 (Or.inr (slot_ne (Or.inr (hw _ (List.mem_of_getElem? (i := 115) rfl))) (Or.inr (hw _ (List.mem_of_getElem? (i := 99) rfl))) (by decide) (t := (.array .byte)) (t' := (.array .int)) (by decide) (by decide)))).other W63 (Or.inr (slot_ne (Or.inr (hw _ (List.mem_of_getElem? (i := 115) rfl))) (Or.inr (hw _ (List.mem_of_getElem? (i := 102) rfl))) (by decide) (t := (.array .byte)) (t' := (.array .int)) (by decide) (by decide)))).other W71 (Or.inr (slot_ne (Or.inr (hw _ (List.mem_of_getElem? (i := 115) rfl))) (Or.inr (hw _ (List.mem_of_getElem? (i := 105) rfl))) (by decide) (t := (.array .byte)) (t' := (.array .byte)) (by decide) (by decide)))).other W79 (Or.inr (slot_ne (Or.inr (hw _ (List.mem_of_getElem? (i := 115) rfl))) (Or.inr (hw _ (List.mem_of_getElem? (i := 109) rfl))) (by decide) (t := (.array .byte)) (t' := .int) (by decide) (by decide)))).other W87 (Or.inr (slot_ne (Or.inr (hw _ (List.mem_of_getElem? (i := 115) rfl))) (Or.inr (hw _ (List.mem_of_getElem? (i := 112) rfl))) (by decide) (t := (.array .byte)) (t' := (.object "java/util/List")) (by decide) (by decide))))
  obtain ⟨T95, h95, X95, e95, W95, st95⟩ := putF X91 hx hZ hown (host := "") (Or.inl (hw _ (List.mem_of_getElem? (i := 114) rfl))) Via.refl e91 f94 f93 (Or.inr ⟨(hw _ (List.mem_of_getElem? (i := 115) rfl)), rfl, hnm⟩) (hw _ (List.mem_of_getElem? (i := 73) rfl)) (ty := (.array .byte)) (by decide) rfl rfl (g := (mkF m 97 #[.val (.ref ra), .val (.ref rb)] [(.ref u_narrowText), (.ref ra)])) rfl rfl (hb hby d8_97)
  have K95 : Keep h0 h95 [ra] := K87.wr W95 (Or.inl (by simp))
  have z95 : n0 ≤ h95.size := Nat.le_trans Z0 K95.1
  have N95 := Fr.snoc X95 N87 g_ra
  have Fw95 := f94.same W95
  have pre96 : ∀ t, Steps p.tables e below (T95.setTop (mkF m 100 #[.val (.ref ra), .val (.ref rb)] [])) t → Steps p.tables e below (s₁.setTop (entryFrame m #[(.ref ra), (.ref rb)] 2)) t := fun t k => pre92 t (st95 t k)
  have pre97 : ∀ t, Steps p.tables e below (T95.setTop (mkF m 102 #[.val (.ref ra), .val (.ref rb)] [(.ref rb), (.ref ra)])) t → Steps p.tables e below (s₁.setTop (entryFrame m #[(.ref ra), (.ref rb)] 2)) t := by
    intro t k
    refine pre96 t ?_
    refine XS.aloadN X95.here hx rfl (hb hby d8_100) rfl rfl ?_
    show Steps p.tables e below (T95.setTop (mkF m 101 #[.val (.ref ra), .val (.ref rb)] [(.ref ra)])) _
    refine XS.aloadN X95.here hx rfl (hb hby d8_101) rfl rfl ?_
    show Steps p.tables e below (T95.setTop (mkF m 102 #[.val (.ref ra), .val (.ref rb)] [(.ref rb), (.ref ra)])) _
    exact k
  have f98 := ((((((((((((P_wideText.other W7 (Or.inl hne)).other W15 (Or.inl hne)).other W23 (Or.inl hne)).other W31 (Or.inl hne)).other W39 (Or.inl hne)).other W47 (Or.inl hne)).other W55 (Or.inl hne)).other W63 (Or.inl hne)).other W71 (Or.inl hne)).other W79 (Or.inl hne)).other W87 (Or.inl hne)).other W95 (Or.inl hne))
  obtain ⟨T99, X99, e99, st99⟩ := getF X95 hx hZ hown (host := "") (Or.inl (hw _ (List.mem_of_getElem? (i := 116) rfl))) Via.refl e95 f98 (g := (mkF m 102 #[.val (.ref ra), .val (.ref rb)] [(.ref rb), (.ref ra)])) rfl rfl (hb hby d8_102)
  have pre100 : ∀ t, Steps p.tables e below (T99.setTop (mkF m 105 #[.val (.ref ra), .val (.ref rb)] [.null, (.ref ra)])) t → Steps p.tables e below (s₁.setTop (entryFrame m #[(.ref ra), (.ref rb)] 2)) t := fun t k => pre97 t (st99 t k)
  have f101 := (f93.wr W95)
  have f102 := ((((((((((((F_wideText_ra.other W7 (Or.inr (slot_ne (Or.inr (hw _ (List.mem_of_getElem? (i := 119) rfl))) (Or.inr (hw _ (List.mem_of_getElem? (i := 81) rfl))) (by decide) (t := (.array .char)) (t' := (.array .byte)) (by decide) (by decide)))).other W15 (Or.inr (slot_ne (Or.inr (hw _ (List.mem_of_getElem? (i := 119) rfl))) (Or.inr (hw _ (List.mem_of_getElem? (i := 84) rfl))) (by decide) (t := (.array .char)) (t' := (.array .int)) (by decide) (by decide)))).other W23 (Or.inr (slot_ne (Or.inr (hw _ (List.mem_of_getElem? (i := 119) rfl))) (Or.inr (hw _ (List.mem_of_getElem? (i := 87) rfl))) (by decide) (t := (.array .char)) (t' := (.array .int)) (by decide) (by decide)))).other W31 (Or.inr (slot_ne (Or.inr (hw _ (List.mem_of_getElem? (i := 119) rfl))) (Or.inr (hw _ (List.mem_of_getElem? (i := 90) rfl))) (by decide) (t := (.array .char)) (t' := (.array .int)) (by decide) (by decide)))).other W39 (Or.inr (slot_ne (Or.inr (hw _ (List.mem_of_getElem? (i := 119) rfl))) (Or.inr (hw _ (List.mem_of_getElem? (i := 93) rfl))) (by decide) (t := (.array .char)) (t' := .int) (by decide) (by decide)))).other W47 (Or.inr (slot_ne (Or.inr (hw _ (List.mem_of_getElem? (i := 119) rfl))) (Or.inr (hw _ (List.mem_of_getElem? (i := 96) rfl))) (by decide) (t := (.array .char)) (t' := (.array .int)) (by decide) (by decide)))).other W55 (Or.inr (slot_ne (Or.inr (hw _ (List.mem_of_getElem? (i := 119) rfl))) (Or.inr (hw _ (List.mem_of_getElem? (i := 99) rfl))) (by decide) (t := (.array .char)) (t' := (.array .int)) (by decide) (by decide)))).other W63 (Or.inr (slot_ne (Or.inr (hw _ (List.mem_of_getElem? (i := 119) rfl))) (Or.inr (hw _ (List.mem_of_getElem? (i := 102) rfl))) (by decide) (t := (.array .char)) (t' := (.array .int)) (by decide) (by decide)))).other W71 (Or.inr (slot_ne (Or.inr (hw _ (List.mem_of_getElem? (i := 119) rfl))) (Or.inr (hw _ (List.mem_of_getElem? (i := 105) rfl))) (by decide) (t := (.array .char)) (t' := (.array .byte)) (by decide) (by decide)))).other W79 (Or.inr (slot_ne (Or.inr (hw _ (List.mem_of_getElem? (i := 119) rfl))) (Or.inr (hw _ (List.mem_of_getElem? (i := 109) rfl))) (by decide) (t := (.array .char)) (t' := .int) (by decide) (by decide)))).other W87 (Or.inr (slot_ne (Or.inr (hw _ (List.mem_of_getElem? (i := 119) rfl))) (Or.inr (hw _ (List.mem_of_getElem? (i := 112) rfl))) (by decide) (t := (.array .char)) (t' := (.object "java/util/List")) (by decide) (by decide)))).other W95 (Or.inr (slot_ne (Or.inr (hw _ (List.mem_of_getElem? (i := 119) rfl))) (Or.inr (hw _ (List.mem_of_getElem? (i := 115) rfl))) (by decide) (t := (.array .char)) (t' := (.array .byte)) (by decide) (by decide))))
  obtain ⟨T103, h103, X103, e103, W103, st103⟩ := putF X99 hx hZ hown (host := "") (Or.inl (hw _ (List.mem_of_getElem? (i := 118) rfl))) Via.refl e99 f102 f101 (Or.inr ⟨(hw _ (List.mem_of_getElem? (i := 119) rfl)), rfl, hnm⟩) (hw _ (List.mem_of_getElem? (i := 73) rfl)) (ty := (.array .char)) (by decide) rfl rfl (g := (mkF m 105 #[.val (.ref ra), .val (.ref rb)] [.null, (.ref ra)])) rfl rfl (hb hby d8_105)
  have K103 : Keep h0 h103 [ra] := K95.wr W103 (Or.inl (by simp))
  have z103 : n0 ≤ h103.size := Nat.le_trans Z0 K103.1
  have N103 := Fr.snoc X103 N95 g_ra
  have Fw103 := f102.same W103
  have pre104 : ∀ t, Steps p.tables e below (T103.setTop (mkF m 108 #[.val (.ref ra), .val (.ref rb)] [])) t → Steps p.tables e below (s₁.setTop (entryFrame m #[(.ref ra), (.ref rb)] 2)) t := fun t k => pre100 t (st103 t k)
  have pre105 : ∀ t, Steps p.tables e below (T103.setTop (mkF m 110 #[.val (.ref ra), .val (.ref rb)] [(.ref rb), (.ref ra)])) t → Steps p.tables e below (s₁.setTop (entryFrame m #[(.ref ra), (.ref rb)] 2)) t := by
    intro t k
    refine pre104 t ?_
    refine XS.aloadN X103.here hx rfl (hb hby d8_108) rfl rfl ?_
    show Steps p.tables e below (T103.setTop (mkF m 109 #[.val (.ref ra), .val (.ref rb)] [(.ref ra)])) _
    refine XS.aloadN X103.here hx rfl (hb hby d8_109) rfl rfl ?_
    show Steps p.tables e below (T103.setTop (mkF m 110 #[.val (.ref ra), .val (.ref rb)] [(.ref rb), (.ref ra)])) _
    exact k
  have f106 := (((((((((((((P_valueStarts.other W7 (Or.inl hne)).other W15 (Or.inl hne)).other W23 (Or.inl hne)).other W31 (Or.inl hne)).other W39 (Or.inl hne)).other W47 (Or.inl hne)).other W55 (Or.inl hne)).other W63 (Or.inl hne)).other W71 (Or.inl hne)).other W79 (Or.inl hne)).other W87 (Or.inl hne)).other W95 (Or.inl hne)).other W103 (Or.inl hne))
  obtain ⟨T107, X107, e107, st107⟩ := getF X103 hx hZ hown (host := "") (Or.inl (hw _ (List.mem_of_getElem? (i := 120) rfl))) Via.refl e103 f106 (g := (mkF m 110 #[.val (.ref ra), .val (.ref rb)] [(.ref rb), (.ref ra)])) rfl rfl (hb hby d8_110)
  have pre108 : ∀ t, Steps p.tables e below (T107.setTop (mkF m 113 #[.val (.ref ra), .val (.ref rb)] [(.ref u_valueStarts), (.ref ra)])) t → Steps p.tables e below (s₁.setTop (entryFrame m #[(.ref ra), (.ref rb)] 2)) t := fun t k => pre105 t (st107 t k)
  have f109 := (f101.wr W103)
  have f110 := (((((((((((((F_valueStarts_ra.other W7 (Or.inr (slot_ne (Or.inr (hw _ (List.mem_of_getElem? (i := 122) rfl))) (Or.inr (hw _ (List.mem_of_getElem? (i := 81) rfl))) (by decide) (t := (.array .int)) (t' := (.array .byte)) (by decide) (by decide)))).other W15 (Or.inr (slot_ne (Or.inr (hw _ (List.mem_of_getElem? (i := 122) rfl))) (Or.inr (hw _ (List.mem_of_getElem? (i := 84) rfl))) (by decide) (t := (.array .int)) (t' := (.array .int)) (by decide) (by decide)))).other W23 (Or.inr (slot_ne (Or.inr (hw _ (List.mem_of_getElem? (i := 122) rfl))) (Or.inr (hw _ (List.mem_of_getElem? (i := 87) rfl))) (by decide) (t := (.array .int)) (t' := (.array .int)) (by decide) (by decide)))).other W31 (Or.inr (slot_ne (Or.inr (hw _ (List.mem_of_getElem? (i := 122) rfl))) (Or.inr (hw _ (List.mem_of_getElem? (i := 90) rfl))) (by decide) (t := (.array .int)) (t' := (.array .int)) (by decide) (by decide)))).other W39 (Or.inr (slot_ne (Or.inr (hw _ (List.mem_of_getElem? (i := 122) rfl))) (Or.inr (hw _ (List.mem_of_getElem? (i := 93) rfl))) (by decide) (t := (.array .int)) (t' := .int) (by decide) (by decide)))).other W47 (Or.inr (slot_ne (Or.inr (hw _ (List.mem_of_getElem? (i := 122) rfl))) (Or.inr (hw _ (List.mem_of_getElem? (i := 96) rfl))) (by decide) (t := (.array .int)) (t' := (.array .int)) (by decide) (by decide)))).other W55 (Or.inr (slot_ne (Or.inr (hw _ (List.mem_of_getElem? (i := 122) rfl))) (Or.inr (hw _ (List.mem_of_getElem? (i := 99) rfl))) (by decide) (t := (.array .int)) (t' := (.array .int)) (by decide) (by decide)))).other W63 (Or.inr (slot_ne (Or.inr (hw _ (List.mem_of_getElem? (i := 122) rfl))) (Or.inr (hw _ (List.mem_of_getElem? (i := 102) rfl))) (by decide) (t := (.array .int)) (t' := (.array .int)) (by decide) (by decide)))).other W71 (Or.inr (slot_ne (Or.inr (hw _ (List.mem_of_getElem? (i := 122) rfl))) (Or.inr (hw _ (List.mem_of_getElem? (i := 105) rfl))) (by decide) (t := (.array .int)) (t' := (.array .byte)) (by decide) (by decide)))).other W79 (Or.inr (slot_ne (Or.inr (hw _ (List.mem_of_getElem? (i := 122) rfl))) (Or.inr (hw _ (List.mem_of_getElem? (i := 109) rfl))) (by decide) (t := (.array .int)) (t' := .int) (by decide) (by decide)))).other W87 (Or.inr (slot_ne (Or.inr (hw _ (List.mem_of_getElem? (i := 122) rfl))) (Or.inr (hw _ (List.mem_of_getElem? (i := 112) rfl))) (by decide) (t := (.array .int)) (t' := (.object "java/util/List")) (by decide) (by decide)))).other W95 (Or.inr (slot_ne (Or.inr (hw _ (List.mem_of_getElem? (i := 122) rfl))) (Or.inr (hw _ (List.mem_of_getElem? (i := 115) rfl))) (by decide) (t := (.array .int)) (t' := (.array .byte)) (by decide) (by decide)))).other W103 (Or.inr (slot_ne (Or.inr (hw _ (List.mem_of_getElem? (i := 122) rfl))) (Or.inr (hw _ (List.mem_of_getElem? (i := 119) rfl))) (by decide) (t := (.array .int)) (t' := (.array .char)) (by decide) (by decide))))
  obtain ⟨T111, h111, X111, e111, W111, st111⟩ := putF X107 hx hZ hown (host := "") (Or.inl (hw _ (List.mem_of_getElem? (i := 121) rfl))) Via.refl e107 f110 f109 (Or.inr ⟨(hw _ (List.mem_of_getElem? (i := 122) rfl)), rfl, hnm⟩) (hw _ (List.mem_of_getElem? (i := 73) rfl)) (ty := (.array .int)) (by decide) rfl rfl (g := (mkF m 113 #[.val (.ref ra), .val (.ref rb)] [(.ref u_valueStarts), (.ref ra)])) rfl rfl (hb hby d8_113)
  have K111 : Keep h0 h111 [ra] := K103.wr W111 (Or.inl (by simp))
  have z111 : n0 ≤ h111.size := Nat.le_trans Z0 K111.1
  have N111 := Fr.snoc X111 N103 g_ra
  have Fw111 := f110.same W111
  have pre112 : ∀ t, Steps p.tables e below (T111.setTop (mkF m 116 #[.val (.ref ra), .val (.ref rb)] [])) t → Steps p.tables e below (s₁.setTop (entryFrame m #[(.ref ra), (.ref rb)] 2)) t := fun t k => pre108 t (st111 t k)
  have pre113 : ∀ t, Steps p.tables e below (T111.setTop (mkF m 118 #[.val (.ref ra), .val (.ref rb)] [(.ref rb), (.ref ra)])) t → Steps p.tables e below (s₁.setTop (entryFrame m #[(.ref ra), (.ref rb)] 2)) t := by
    intro t k
    refine pre112 t ?_
    refine XS.aloadN X111.here hx rfl (hb hby d8_116) rfl rfl ?_
    show Steps p.tables e below (T111.setTop (mkF m 117 #[.val (.ref ra), .val (.ref rb)] [(.ref ra)])) _
    refine XS.aloadN X111.here hx rfl (hb hby d8_117) rfl rfl ?_
    show Steps p.tables e below (T111.setTop (mkF m 118 #[.val (.ref ra), .val (.ref rb)] [(.ref rb), (.ref ra)])) _
    exact k
  have f114 := ((((((((((((((P_instructions.other W7 (Or.inl hne)).other W15 (Or.inl hne)).other W23 (Or.inl hne)).other W31 (Or.inl hne)).other W39 (Or.inl hne)).other W47 (Or.inl hne)).other W55 (Or.inl hne)).other W63 (Or.inl hne)).other W71 (Or.inl hne)).other W79 (Or.inl hne)).other W87 (Or.inl hne)).other W95 (Or.inl hne)).other W103 (Or.inl hne)).other W111 (Or.inl hne))
  obtain ⟨T115, X115, e115, st115⟩ := getF X111 hx hZ hown (host := "") (Or.inl (hw _ (List.mem_of_getElem? (i := 123) rfl))) Via.refl e111 f114 (g := (mkF m 118 #[.val (.ref ra), .val (.ref rb)] [(.ref rb), (.ref ra)])) rfl rfl (hb hby d8_118)
  have pre116 : ∀ t, Steps p.tables e below (T115.setTop (mkF m 121 #[.val (.ref ra), .val (.ref rb)] [(.ref u_instructions), (.ref ra)])) t → Steps p.tables e below (s₁.setTop (entryFrame m #[(.ref ra), (.ref rb)] 2)) t := fun t k => pre113 t (st115 t k)
  have f117 := (f109.wr W111)
  have f118 := ((((((((((((((F_instructions_ra.other W7 (Or.inr (slot_ne (Or.inr (hw _ (List.mem_of_getElem? (i := 125) rfl))) (Or.inr (hw _ (List.mem_of_getElem? (i := 81) rfl))) (by decide) (t := (.array .int)) (t' := (.array .byte)) (by decide) (by decide)))).other W15 (Or.inr (slot_ne (Or.inr (hw _ (List.mem_of_getElem? (i := 125) rfl))) (Or.inr (hw _ (List.mem_of_getElem? (i := 84) rfl))) (by decide) (t := (.array .int)) (t' := (.array .int)) (by decide) (by decide)))).other W23 (Or.inr (slot_ne (Or.inr (hw _ (List.mem_of_getElem? (i := 125) rfl))) (Or.inr (hw _ (List.mem_of_getElem? (i := 87) rfl))) (by decide) (t := (.array .int)) (t' := (.array .int)) (by decide) (by decide)))).other W31 (Or.inr (slot_ne (Or.inr (hw _ (List.mem_of_getElem? (i := 125) rfl))) (Or.inr (hw _ (List.mem_of_getElem? (i := 90) rfl))) (by decide) (t := (.array .int)) (t' := (.array .int)) (by decide) (by decide)))).other W39 (Or.inr (slot_ne (Or.inr (hw _ (List.mem_of_getElem? (i := 125) rfl))) (Or.inr (hw _ (List.mem_of_getElem? (i := 93) rfl))) (by decide) (t := (.array .int)) (t' := .int) (by decide) (by decide)))).other W47 (Or.inr (slot_ne (Or.inr (hw _ (List.mem_of_getElem? (i := 125) rfl))) (Or.inr (hw _ (List.mem_of_getElem? (i := 96) rfl))) (by decide) (t := (.array .int)) (t' := (.array .int)) (by decide) (by decide)))).other W55 (Or.inr (slot_ne (Or.inr (hw _ (List.mem_of_getElem? (i := 125) rfl))) (Or.inr (hw _ (List.mem_of_getElem? (i := 99) rfl))) (by decide) (t := (.array .int)) (t' := (.array .int)) (by decide) (by decide)))).other W63 (Or.inr (slot_ne (Or.inr (hw _ (List.mem_of_getElem? (i := 125) rfl))) (Or.inr (hw _ (List.mem_of_getElem? (i := 102) rfl))) (by decide) (t := (.array .int)) (t' := (.array .int)) (by decide) (by decide)))).other W71 (Or.inr (slot_ne (Or.inr (hw _ (List.mem_of_getElem? (i := 125) rfl))) (Or.inr (hw _ (List.mem_of_getElem? (i := 105) rfl))) (by decide) (t := (.array .int)) (t' := (.array .byte)) (by decide) (by decide)))).other W79 (Or.inr (slot_ne (Or.inr (hw _ (List.mem_of_getElem? (i := 125) rfl))) (Or.inr (hw _ (List.mem_of_getElem? (i := 109) rfl))) (by decide) (t := (.array .int)) (t' := .int) (by decide) (by decide)))).other W87 (Or.inr (slot_ne (Or.inr (hw _ (List.mem_of_getElem? (i := 125) rfl))) (Or.inr (hw _ (List.mem_of_getElem? (i := 112) rfl))) (by decide) (t := (.array .int)) (t' := (.object "java/util/List")) (by decide) (by decide)))).other W95 (Or.inr (slot_ne (Or.inr (hw _ (List.mem_of_getElem? (i := 125) rfl))) (Or.inr (hw _ (List.mem_of_getElem? (i := 115) rfl))) (by decide) (t := (.array .int)) (t' := (.array .byte)) (by decide) (by decide)))).other W103 (Or.inr (slot_ne (Or.inr (hw _ (List.mem_of_getElem? (i := 125) rfl))) (Or.inr (hw _ (List.mem_of_getElem? (i := 119) rfl))) (by decide) (t := (.array .int)) (t' := (.array .char)) (by decide) (by decide)))).other W111 (Or.inr (slot_ne (Or.inr (hw _ (List.mem_of_getElem? (i := 125) rfl))) (Or.inr (hw _ (List.mem_of_getElem? (i := 122) rfl))) (by decide) (t := (.array .int)) (t' := (.array .int)) (by decide) (by decide))))
  obtain ⟨T119, h119, X119, e119, W119, st119⟩ := putF X115 hx hZ hown (host := "") (Or.inl (hw _ (List.mem_of_getElem? (i := 124) rfl))) Via.refl e115 f118 f117 (Or.inr ⟨(hw _ (List.mem_of_getElem? (i := 125) rfl)), rfl, hnm⟩) (hw _ (List.mem_of_getElem? (i := 73) rfl)) (ty := (.array .int)) (by decide) rfl rfl (g := (mkF m 121 #[.val (.ref ra), .val (.ref rb)] [(.ref u_instructions), (.ref ra)])) rfl rfl (hb hby d8_121)
  have K119 : Keep h0 h119 [ra] := K111.wr W119 (Or.inl (by simp))
  have z119 : n0 ≤ h119.size := Nat.le_trans Z0 K119.1
  have N119 := Fr.snoc X119 N111 g_ra
  have Fw119 := f118.same W119
  have pre120 : ∀ t, Steps p.tables e below (T119.setTop (mkF m 124 #[.val (.ref ra), .val (.ref rb)] [])) t → Steps p.tables e below (s₁.setTop (entryFrame m #[(.ref ra), (.ref rb)] 2)) t := fun t k => pre116 t (st119 t k)
  have pre121 : ∀ t, Steps p.tables e below (T119.setTop (mkF m 126 #[.val (.ref ra), .val (.ref rb)] [(.ref rb), (.ref ra)])) t → Steps p.tables e below (s₁.setTop (entryFrame m #[(.ref ra), (.ref rb)] 2)) t := by
    intro t k
    refine pre120 t ?_
    refine XS.aloadN X119.here hx rfl (hb hby d8_124) rfl rfl ?_
    show Steps p.tables e below (T119.setTop (mkF m 125 #[.val (.ref ra), .val (.ref rb)] [(.ref ra)])) _
    refine XS.aloadN X119.here hx rfl (hb hby d8_125) rfl rfl ?_
    show Steps p.tables e below (T119.setTop (mkF m 126 #[.val (.ref ra), .val (.ref rb)] [(.ref rb), (.ref ra)])) _
    exact k
  have f122 := (((((((((((((((P_instructionData.other W7 (Or.inl hne)).other W15 (Or.inl hne)).other W23 (Or.inl hne)).other W31 (Or.inl hne)).other W39 (Or.inl hne)).other W47 (Or.inl hne)).other W55 (Or.inl hne)).other W63 (Or.inl hne)).other W71 (Or.inl hne)).other W79 (Or.inl hne)).other W87 (Or.inl hne)).other W95 (Or.inl hne)).other W103 (Or.inl hne)).other W111 (Or.inl hne)).other W119 (Or.inl hne))
  obtain ⟨T123, X123, e123, st123⟩ := getF X119 hx hZ hown (host := "") (Or.inl (hw _ (List.mem_of_getElem? (i := 126) rfl))) Via.refl e119 f122 (g := (mkF m 126 #[.val (.ref ra), .val (.ref rb)] [(.ref rb), (.ref ra)])) rfl rfl (hb hby d8_126)
  have pre124 : ∀ t, Steps p.tables e below (T123.setTop (mkF m 129 #[.val (.ref ra), .val (.ref rb)] [(.ref u_instructionData), (.ref ra)])) t → Steps p.tables e below (s₁.setTop (entryFrame m #[(.ref ra), (.ref rb)] 2)) t := fun t k => pre121 t (st123 t k)
  have f125 := (f117.wr W119)
  have f126 := (((((((((((((((F_instructionData_ra.other W7 (Or.inr (slot_ne (Or.inr (hw _ (List.mem_of_getElem? (i := 128) rfl))) (Or.inr (hw _ (List.mem_of_getElem? (i := 81) rfl))) (by decide) (t := (.array .int)) (t' := (.array .byte)) (by decide) (by decide)))).other W15 (Or.inr (slot_ne (Or.inr (hw _ (List.mem_of_getElem? (i := 128) rfl))) (Or.inr (hw _ (List.mem_of_getElem? (i := 84) rfl))) (by decide) (t := (.array .int)) (t' := (.array .int)) (by decide) (by decide)))).other W23 (Or.inr (slot_ne (Or.inr (hw _ (List.mem_of_getElem? (i := 128) rfl))) (Or.inr (hw _ (List.mem_of_getElem? (i := 87) rfl))) (by decide) (t := (.array .int)) (t' := (.array .int)) (by decide) (by decide)))).other W31 (Or.inr (slot_ne (Or.inr (hw _ (List.mem_of_getElem? (i := 128) rfl))) (Or.inr (hw _ (List.mem_of_getElem? (i := 90) rfl))) (by decide) (t := (.array .int)) (t' := (.array .int)) (by decide) (by decide)))).other W39 (Or.inr (slot_ne (Or.inr (hw _ (List.mem_of_getElem? (i := 128) rfl))) (Or.inr (hw _ (List.mem_of_getElem? (i := 93) rfl))) (by decide) (t := (.array .int)) (t' := .int) (by decide) (by decide)))).other W47 (Or.inr (slot_ne (Or.inr (hw _ (List.mem_of_getElem? (i := 128) rfl))) (Or.inr (hw _ (List.mem_of_getElem? (i := 96) rfl))) (by decide) (t := (.array .int)) (t' := (.array .int)) (by decide) (by decide)))).other W55 (Or.inr (slot_ne (Or.inr (hw _ (List.mem_of_getElem? (i := 128) rfl))) (Or.inr (hw _ (List.mem_of_getElem? (i := 99) rfl))) (by decide) (t := (.array .int)) (t' := (.array .int)) (by decide) (by decide)))).other W63 (Or.inr (slot_ne (Or.inr (hw _ (List.mem_of_getElem? (i := 128) rfl))) (Or.inr (hw _ (List.mem_of_getElem? (i := 102) rfl))) (by decide) (t := (.array .int)) (t' := (.array .int)) (by decide) (by decide)))).other W71 (Or.inr (slot_ne (Or.inr (hw _ (List.mem_of_getElem? (i := 128) rfl))) (Or.inr (hw _ (List.mem_of_getElem? (i := 105) rfl))) (by decide) (t := (.array .int)) (t' := (.array .byte)) (by decide) (by decide)))).other W79 (Or.inr (slot_ne (Or.inr (hw _ (List.mem_of_getElem? (i := 128) rfl))) (Or.inr (hw _ (List.mem_of_getElem? (i := 109) rfl))) (by decide) (t := (.array .int)) (t' := .int) (by decide) (by decide)))).other W87 (Or.inr (slot_ne (Or.inr (hw _ (List.mem_of_getElem? (i := 128) rfl))) (Or.inr (hw _ (List.mem_of_getElem? (i := 112) rfl))) (by decide) (t := (.array .int)) (t' := (.object "java/util/List")) (by decide) (by decide)))).other W95 (Or.inr (slot_ne (Or.inr (hw _ (List.mem_of_getElem? (i := 128) rfl))) (Or.inr (hw _ (List.mem_of_getElem? (i := 115) rfl))) (by decide) (t := (.array .int)) (t' := (.array .byte)) (by decide) (by decide)))).other W103 (Or.inr (slot_ne (Or.inr (hw _ (List.mem_of_getElem? (i := 128) rfl))) (Or.inr (hw _ (List.mem_of_getElem? (i := 119) rfl))) (by decide) (t := (.array .int)) (t' := (.array .char)) (by decide) (by decide)))).other W111 (Or.inr (slot_ne (Or.inr (hw _ (List.mem_of_getElem? (i := 128) rfl))) (Or.inr (hw _ (List.mem_of_getElem? (i := 122) rfl))) (by decide) (t := (.array .int)) (t' := (.array .int)) (by decide) (by decide)))).other W119 (Or.inr (slot_ne (Or.inr (hw _ (List.mem_of_getElem? (i := 128) rfl))) (Or.inr (hw _ (List.mem_of_getElem? (i := 125) rfl))) (by decide) (t := (.array .int)) (t' := (.array .int)) (by decide) (by decide))))
  obtain ⟨T127, h127, X127, e127, W127, st127⟩ := putF X123 hx hZ hown (host := "") (Or.inl (hw _ (List.mem_of_getElem? (i := 127) rfl))) Via.refl e123 f126 f125 (Or.inr ⟨(hw _ (List.mem_of_getElem? (i := 128) rfl)), rfl, hnm⟩) (hw _ (List.mem_of_getElem? (i := 73) rfl)) (ty := (.array .int)) (by decide) rfl rfl (g := (mkF m 129 #[.val (.ref ra), .val (.ref rb)] [(.ref u_instructionData), (.ref ra)])) rfl rfl (hb hby d8_129)
  have K127 : Keep h0 h127 [ra] := K119.wr W127 (Or.inl (by simp))
  have z127 : n0 ≤ h127.size := Nat.le_trans Z0 K127.1
  have N127 := Fr.snoc X127 N119 g_ra
  have Fw127 := f126.same W127
  have pre128 : ∀ t, Steps p.tables e below (T127.setTop (mkF m 132 #[.val (.ref ra), .val (.ref rb)] [])) t → Steps p.tables e below (s₁.setTop (entryFrame m #[(.ref ra), (.ref rb)] 2)) t := fun t k => pre124 t (st127 t k)
  obtain ⟨fs, hr, hrun, hended, hW, hsame⟩ := X127.leave (v := none) (fun _ => rfl)
  refine ⟨_, _, pre128 _ ?_, hrun, hended, _, _, rfl, ?_, ⟨_, rfl⟩, hW, hsame.mono (by decide) (by decide)⟩
  · exact X127.returnOut hx Bd.returns (hb hby d8_132) hr
  · show Q_rm_tree Z ra rb u_kinds u_parents u_nextSiblings u_data u_owners u_attributeNames u_attributeValues u_attributeTypes u_names u_narrowText u_valueStarts u_instructions u_instructionData u_nodeCount u_attributeCount h0 n0 _ T127.heap _
    rw [e127]
    exact ⟨rfl, N127, K127, (f125.wr W127), ((((((((((((((Fw15.other W23 (Or.inr (slot_ne (Or.inr (hw _ (List.mem_of_getElem? (i := 84) rfl))) (Or.inr (hw _ (List.mem_of_getElem? (i := 87) rfl))) (by decide) (t := (.array .int)) (t' := (.array .int)) (by decide) (by decide)))).other W31 (Or.inr (slot_ne (Or.inr (hw _ (List.mem_of_getElem? (i := 84) rfl))) (Or.inr (hw _ (List.mem_of_getElem? (i := 90) rfl))) (by decide) (t := (.array .int)) (t' := (.array .int)) (by decide) (by decide)))).other W39 (Or.inr (slot_ne (Or.inr (hw _ (List.mem_of_getElem? (i := 84) rfl))) (Or.inr (hw _ (List.mem_of_getElem? (i := 93) rfl))) (by decide) (t := (.array .int)) (t' := .int) (by decide) (by decide)))).other W47 (Or.inr (slot_ne (Or.inr (hw _ (List.mem_of_getElem? (i := 84) rfl))) (Or.inr (hw _ (List.mem_of_getElem? (i := 96) rfl))) (by decide) (t := (.array .int)) (t' := (.array .int)) (by decide) (by decide)))).other W55 (Or.inr (slot_ne (Or.inr (hw _ (List.mem_of_getElem? (i := 84) rfl))) (Or.inr (hw _ (List.mem_of_getElem? (i := 99) rfl))) (by decide) (t := (.array .int)) (t' := (.array .int)) (by decide) (by decide)))).other W63 (Or.inr (slot_ne (Or.inr (hw _ (List.mem_of_getElem? (i := 84) rfl))) (Or.inr (hw _ (List.mem_of_getElem? (i := 102) rfl))) (by decide) (t := (.array .int)) (t' := (.array .int)) (by decide) (by decide)))).other W71 (Or.inr (slot_ne (Or.inr (hw _ (List.mem_of_getElem? (i := 84) rfl))) (Or.inr (hw _ (List.mem_of_getElem? (i := 105) rfl))) (by decide) (t := (.array .int)) (t' := (.array .byte)) (by decide) (by decide)))).other W79 (Or.inr (slot_ne (Or.inr (hw _ (List.mem_of_getElem? (i := 84) rfl))) (Or.inr (hw _ (List.mem_of_getElem? (i := 109) rfl))) (by decide) (t := (.array .int)) (t' := .int) (by decide) (by decide)))).other W87 (Or.inr (slot_ne (Or.inr (hw _ (List.mem_of_getElem? (i := 84) rfl))) (Or.inr (hw _ (List.mem_of_getElem? (i := 112) rfl))) (by decide) (t := (.array .int)) (t' := (.object "java/util/List")) (by decide) (by decide)))).other W95 (Or.inr (slot_ne (Or.inr (hw _ (List.mem_of_getElem? (i := 84) rfl))) (Or.inr (hw _ (List.mem_of_getElem? (i := 115) rfl))) (by decide) (t := (.array .int)) (t' := (.array .byte)) (by decide) (by decide)))).other W103 (Or.inr (slot_ne (Or.inr (hw _ (List.mem_of_getElem? (i := 84) rfl))) (Or.inr (hw _ (List.mem_of_getElem? (i := 119) rfl))) (by decide) (t := (.array .int)) (t' := (.array .char)) (by decide) (by decide)))).other W111 (Or.inr (slot_ne (Or.inr (hw _ (List.mem_of_getElem? (i := 84) rfl))) (Or.inr (hw _ (List.mem_of_getElem? (i := 122) rfl))) (by decide) (t := (.array .int)) (t' := (.array .int)) (by decide) (by decide)))).other W119 (Or.inr (slot_ne (Or.inr (hw _ (List.mem_of_getElem? (i := 84) rfl))) (Or.inr (hw _ (List.mem_of_getElem? (i := 125) rfl))) (by decide) (t := (.array .int)) (t' := (.array .int)) (by decide) (by decide)))).other W127 (Or.inr (slot_ne (Or.inr (hw _ (List.mem_of_getElem? (i := 84) rfl))) (Or.inr (hw _ (List.mem_of_getElem? (i := 128) rfl))) (by decide) (t := (.array .int)) (t' := (.array .int)) (by decide) (by decide)))), (((((((((((((Fw23.other W31 (Or.inr (slot_ne (Or.inr (hw _ (List.mem_of_getElem? (i := 87) rfl))) (Or.inr (hw _ (List.mem_of_getElem? (i := 90) rfl))) (by decide) (t := (.array .int)) (t' := (.array .int)) (by decide) (by decide)))).other W39 (Or.inr (slot_ne (Or.inr (hw _ (List.mem_of_getElem? (i := 87) rfl))) (Or.inr (hw _ (List.mem_of_getElem? (i := 93) rfl))) (by decide) (t := (.array .int)) (t' := .int) (by decide) (by decide)))).other W47 (Or.inr (slot_ne (Or.inr (hw _ (List.mem_of_getElem? (i := 87) rfl))) (Or.inr (hw _ (List.mem_of_getElem? (i := 96) rfl))) (by decide) (t := (.array .int)) (t' := (.array .int)) (by decide) (by decide)))).other W55 (Or.inr (slot_ne (Or.inr (hw _ (List.mem_of_getElem? (i := 87) rfl))) (Or.inr (hw _ (List.mem_of_getElem? (i := 99) rfl))) (by decide) (t := (.array .int)) (t' := (.array .int)) (by decide) (by decide)))).other W63 (Or.inr (slot_ne (Or.inr (hw _ (List.mem_of_getElem? (i := 87) rfl))) (Or.inr (hw _ (List.mem_of_getElem? (i := 102) rfl))) (by decide) (t := (.array .int)) (t' := (.array .int)) (by decide) (by decide)))).other W71 (Or.inr (slot_ne (Or.inr (hw _ (List.mem_of_getElem? (i := 87) rfl))) (Or.inr (hw _ (List.mem_of_getElem? (i := 105) rfl))) (by decide) (t := (.array .int)) (t' := (.array .byte)) (by decide) (by decide)))).other W79 (Or.inr (slot_ne (Or.inr (hw _ (List.mem_of_getElem? (i := 87) rfl))) (Or.inr (hw _ (List.mem_of_getElem? (i := 109) rfl))) (by decide) (t := (.array .int)) (t' := .int) (by decide) (by decide)))).other W87 (Or.inr (slot_ne (Or.inr (hw _ (List.mem_of_getElem? (i := 87) rfl))) (Or.inr (hw _ (List.mem_of_getElem? (i := 112) rfl))) (by decide) (t := (.array .int)) (t' := (.object "java/util/List")) (by decide) (by decide)))).other W95 (Or.inr (slot_ne (Or.inr (hw _ (List.mem_of_getElem? (i := 87) rfl))) (Or.inr (hw _ (List.mem_of_getElem? (i := 115) rfl))) (by decide) (t := (.array .int)) (t' := (.array .byte)) (by decide) (by decide)))).other W103 (Or.inr (slot_ne (Or.inr (hw _ (List.mem_of_getElem? (i := 87) rfl))) (Or.inr (hw _ (List.mem_of_getElem? (i := 119) rfl))) (by decide) (t := (.array .int)) (t' := (.array .char)) (by decide) (by decide)))).other W111 (Or.inr (slot_ne (Or.inr (hw _ (List.mem_of_getElem? (i := 87) rfl))) (Or.inr (hw _ (List.mem_of_getElem? (i := 122) rfl))) (by decide) (t := (.array .int)) (t' := (.array .int)) (by decide) (by decide)))).other W119 (Or.inr (slot_ne (Or.inr (hw _ (List.mem_of_getElem? (i := 87) rfl))) (Or.inr (hw _ (List.mem_of_getElem? (i := 125) rfl))) (by decide) (t := (.array .int)) (t' := (.array .int)) (by decide) (by decide)))).other W127 (Or.inr (slot_ne (Or.inr (hw _ (List.mem_of_getElem? (i := 87) rfl))) (Or.inr (hw _ (List.mem_of_getElem? (i := 128) rfl))) (by decide) (t := (.array .int)) (t' := (.array .int)) (by decide) (by decide))))⟩
def own_st (xs : List Int32) (j k a : Int32) : Int32 := if j < k then (if (0 : Int32) < a then own_at xs a else a) else a
def own_up (xs : List Int32) (a k : Int32) : Int32 := (own_st xs 3 k (own_st xs 2 k (own_st xs 1 k (own_st xs 0 k a))))
def own_cl (xs : List Int32) : Prop := ∀ a : Int32, own_in a → (0 : Int32) < a → own_in (own_at xs a)
theorem own_stin {xs : List Int32} {j k a v : Int32} (hc : own_cl xs) (ha : own_in a) (hv : v = own_st xs j k a) : own_in v := by
  rw [hv, own_st]
  split
  · split
    · first | exact ha | (rename_i h; exact hc a ha h)
    · first | exact ha | (rename_i h; exact hc a ha h)
  · exact ha
theorem own_same (xs : List Int32) (a k k' : Int32) (h0 : ((0 : Int32) < k) = ((0 : Int32) < k')) (h1 : ((1 : Int32) < k) = ((1 : Int32) < k')) (h2 : ((2 : Int32) < k) = ((2 : Int32) < k')) (h3 : ((3 : Int32) < k) = ((3 : Int32) < k')) : own_up xs a k = own_up xs a k' := by
  unfold own_up own_st
  simp only [h0, h1, h2, h3]
theorem own_sat (k : Int32) : ∃ c : Fin 5, ∀ (xs : List Int32) (a : Int32), own_up xs a k = own_up xs a (own_n c) := by
  have z : (0 : Int32).toInt = 0 ∧ (1 : Int32).toInt = 1 ∧ (2 : Int32).toInt = 2 ∧ (3 : Int32).toInt = 3 := ⟨rfl, rfl, rfl, rfl⟩
  by_cases c0 : ¬ ((0 : Int32) < k)
  · exact ⟨0, fun xs a => own_same xs a _ _ (propext ⟨fun q => absurd (show (0 : Int32) < k from q) (by rw [Int32.lt_iff_toInt_lt] at *; omega), fun q => absurd q (by decide)⟩) (propext ⟨fun q => absurd (show (1 : Int32) < k from q) (by rw [Int32.lt_iff_toInt_lt] at *; omega), fun q => absurd q (by decide)⟩) (propext ⟨fun q => absurd (show (2 : Int32) < k from q) (by rw [Int32.lt_iff_toInt_lt] at *; omega), fun q => absurd q (by decide)⟩) (propext ⟨fun q => absurd (show (3 : Int32) < k from q) (by rw [Int32.lt_iff_toInt_lt] at *; omega), fun q => absurd q (by decide)⟩)⟩
  by_cases c1 : ¬ ((1 : Int32) < k)
  · exact ⟨1, fun xs a => own_same xs a _ _ (propext ⟨fun _ => by decide, fun _ => by rw [Int32.lt_iff_toInt_lt] at *; omega⟩) (propext ⟨fun q => absurd (show (1 : Int32) < k from q) (by rw [Int32.lt_iff_toInt_lt] at *; omega), fun q => absurd q (by decide)⟩) (propext ⟨fun q => absurd (show (2 : Int32) < k from q) (by rw [Int32.lt_iff_toInt_lt] at *; omega), fun q => absurd q (by decide)⟩) (propext ⟨fun q => absurd (show (3 : Int32) < k from q) (by rw [Int32.lt_iff_toInt_lt] at *; omega), fun q => absurd q (by decide)⟩)⟩
  by_cases c2 : ¬ ((2 : Int32) < k)
  · exact ⟨2, fun xs a => own_same xs a _ _ (propext ⟨fun _ => by decide, fun _ => by rw [Int32.lt_iff_toInt_lt] at *; omega⟩) (propext ⟨fun _ => by decide, fun _ => by rw [Int32.lt_iff_toInt_lt] at *; omega⟩) (propext ⟨fun q => absurd (show (2 : Int32) < k from q) (by rw [Int32.lt_iff_toInt_lt] at *; omega), fun q => absurd q (by decide)⟩) (propext ⟨fun q => absurd (show (3 : Int32) < k from q) (by rw [Int32.lt_iff_toInt_lt] at *; omega), fun q => absurd q (by decide)⟩)⟩
  by_cases c3 : ¬ ((3 : Int32) < k)
  · exact ⟨3, fun xs a => own_same xs a _ _ (propext ⟨fun _ => by decide, fun _ => by rw [Int32.lt_iff_toInt_lt] at *; omega⟩) (propext ⟨fun _ => by decide, fun _ => by rw [Int32.lt_iff_toInt_lt] at *; omega⟩) (propext ⟨fun _ => by decide, fun _ => by rw [Int32.lt_iff_toInt_lt] at *; omega⟩) (propext ⟨fun q => absurd (show (3 : Int32) < k from q) (by rw [Int32.lt_iff_toInt_lt] at *; omega), fun q => absurd q (by decide)⟩)⟩
  exact ⟨4, fun xs a => own_same xs a _ _ (propext ⟨fun _ => by decide, fun _ => by rw [Int32.lt_iff_toInt_lt] at *; omega⟩) (propext ⟨fun _ => by decide, fun _ => by rw [Int32.lt_iff_toInt_lt] at *; omega⟩) (propext ⟨fun _ => by decide, fun _ => by rw [Int32.lt_iff_toInt_lt] at *; omega⟩) (propext ⟨fun _ => by decide, fun _ => by rw [Int32.lt_iff_toInt_lt] at *; omega⟩)⟩
def own_P2 (c2 : Fin 2) : Int32 := own_up ([(-1 : Int32), (0 : Int32), (0 : Int32), (0 : Int32), (0 : Int32), (0 : Int32)] : List Int32) (1 : Int32) (own_n c2)
def own_G2 (p2 : Int32) : Prop := ∃ (c2 : Fin 2), p2 = (own_P2 c2)
theorem own_cl2 : own_cl ([(-1 : Int32), (0 : Int32), (0 : Int32), (0 : Int32), (0 : Int32), (0 : Int32)] : List Int32) := by
  intro a ha hn
  obtain ⟨i, rfl⟩ := own_in_fin a ha
  revert i
  decide +kernel
theorem own_g2 (p2 xk : Int32) (h : p2 = own_up ([(-1 : Int32), (0 : Int32), (0 : Int32), (0 : Int32), (0 : Int32), (0 : Int32)] : List Int32) (1 : Int32) xk) : own_G2 p2 := by
  obtain ⟨c, hc⟩ := own_sat xk
  obtain ⟨c2, e⟩ := (by decide +kernel : ∀ c : Fin 5, ∃ c2 : Fin 2, own_up ([(-1 : Int32), (0 : Int32), (0 : Int32), (0 : Int32), (0 : Int32), (0 : Int32)] : List Int32) (1 : Int32) (own_n c) = (own_P2 c2))  c
  exact ⟨c2, h.trans ((hc _ _).trans e)⟩
def own_P3 (c2 : Fin 2) (c3 : Fin 3) : Int32 := own_up ([(-1 : Int32), (0 : Int32), (own_P2 c2), (0 : Int32), (0 : Int32), (0 : Int32)] : List Int32) (2 : Int32) (own_n c3)
def own_G3 (p2 p3 : Int32) : Prop := ∃ (c2 : Fin 2) (c3 : Fin 3), p2 = (own_P2 c2) ∧ p3 = (own_P3 c2 c3)
theorem own_cl3 (p2 : Int32) (G : own_G2 p2) : own_cl ([(-1 : Int32), (0 : Int32), p2, (0 : Int32), (0 : Int32), (0 : Int32)] : List Int32) := by
  obtain ⟨c2, rfl⟩ := G
  intro a ha hn
  obtain ⟨i, rfl⟩ := own_in_fin a ha
  revert c2 i
  decide +kernel
theorem own_g3 (p2 : Int32) (p3 xk : Int32) (G : own_G2 p2) (h : p3 = own_up ([(-1 : Int32), (0 : Int32), p2, (0 : Int32), (0 : Int32), (0 : Int32)] : List Int32) (2 : Int32) xk) : own_G3 p2 p3 := by
  obtain ⟨c2, rfl⟩ := G
  obtain ⟨c, hc⟩ := own_sat xk
  obtain ⟨c3, e⟩ := (by decide +kernel : ∀ c2 : Fin 2, ∀ c : Fin 5, ∃ c3 : Fin 3, own_up ([(-1 : Int32), (0 : Int32), (own_P2 c2), (0 : Int32), (0 : Int32), (0 : Int32)] : List Int32) (2 : Int32) (own_n c) = (own_P3 c2 c3)) c2 c
  exact ⟨c2, c3, rfl, h.trans ((hc _ _).trans e)⟩
def own_P4 (c2 : Fin 2) (c3 : Fin 3) (c4 : Fin 4) : Int32 := own_up ([(-1 : Int32), (0 : Int32), (own_P2 c2), (own_P3 c2 c3), (0 : Int32), (0 : Int32)] : List Int32) (3 : Int32) (own_n c4)
def own_G4 (p2 p3 p4 : Int32) : Prop := ∃ (c2 : Fin 2) (c3 : Fin 3) (c4 : Fin 4), p2 = (own_P2 c2) ∧ p3 = (own_P3 c2 c3) ∧ p4 = (own_P4 c2 c3 c4)
theorem own_cl4 (p2 p3 : Int32) (G : own_G3 p2 p3) : own_cl ([(-1 : Int32), (0 : Int32), p2, p3, (0 : Int32), (0 : Int32)] : List Int32) := by
  obtain ⟨c2, c3, rfl, rfl⟩ := G
  intro a ha hn
  obtain ⟨i, rfl⟩ := own_in_fin a ha
  revert c2 c3 i
  decide +kernel
theorem own_g4 (p2 p3 : Int32) (p4 xk : Int32) (G : own_G3 p2 p3) (h : p4 = own_up ([(-1 : Int32), (0 : Int32), p2, p3, (0 : Int32), (0 : Int32)] : List Int32) (3 : Int32) xk) : own_G4 p2 p3 p4 := by
  obtain ⟨c2, c3, rfl, rfl⟩ := G
  obtain ⟨c, hc⟩ := own_sat xk
  obtain ⟨c4, e⟩ := (by decide +kernel : ∀ c2 : Fin 2, ∀ c3 : Fin 3, ∀ c : Fin 5, ∃ c4 : Fin 4, own_up ([(-1 : Int32), (0 : Int32), (own_P2 c2), (own_P3 c2 c3), (0 : Int32), (0 : Int32)] : List Int32) (3 : Int32) (own_n c) = (own_P4 c2 c3 c4)) c2 c3 c
  exact ⟨c2, c3, c4, rfl, rfl, h.trans ((hc _ _).trans e)⟩
def own_P5 (c2 : Fin 2) (c3 : Fin 3) (c4 : Fin 4) (c5 : Fin 5) : Int32 := own_up ([(-1 : Int32), (0 : Int32), (own_P2 c2), (own_P3 c2 c3), (own_P4 c2 c3 c4), (0 : Int32)] : List Int32) (4 : Int32) (own_n c5)
def own_G5 (p2 p3 p4 p5 : Int32) : Prop := ∃ (c2 : Fin 2) (c3 : Fin 3) (c4 : Fin 4) (c5 : Fin 5), p2 = (own_P2 c2) ∧ p3 = (own_P3 c2 c3) ∧ p4 = (own_P4 c2 c3 c4) ∧ p5 = (own_P5 c2 c3 c4 c5)
theorem own_cl5 (p2 p3 p4 : Int32) (G : own_G4 p2 p3 p4) : own_cl ([(-1 : Int32), (0 : Int32), p2, p3, p4, (0 : Int32)] : List Int32) := by
  obtain ⟨c2, c3, c4, rfl, rfl, rfl⟩ := G
  intro a ha hn
  obtain ⟨i, rfl⟩ := own_in_fin a ha
  revert c2 c3 c4 i
  decide +kernel
theorem own_g5 (p2 p3 p4 : Int32) (p5 xk : Int32) (G : own_G4 p2 p3 p4) (h : p5 = own_up ([(-1 : Int32), (0 : Int32), p2, p3, p4, (0 : Int32)] : List Int32) (4 : Int32) xk) : own_G5 p2 p3 p4 p5 := by
  obtain ⟨c2, c3, c4, rfl, rfl, rfl⟩ := G
  obtain ⟨c, hc⟩ := own_sat xk
  obtain ⟨c5, e⟩ := (by decide +kernel : ∀ c2 : Fin 2, ∀ c3 : Fin 3, ∀ c4 : Fin 4, ∀ c : Fin 5, ∃ c5 : Fin 5, own_up ([(-1 : Int32), (0 : Int32), (own_P2 c2), (own_P3 c2 c3), (own_P4 c2 c3 c4), (0 : Int32)] : List Int32) (4 : Int32) (own_n c) = (own_P5 c2 c3 c4 c5)) c2 c3 c4 c
  exact ⟨c2, c3, c4, c5, rfl, rfl, rfl, h.trans ((hc _ _).trans e)⟩
theorem own_un {i : Int32} {E : Prop} [Decidable E] {r : Bool} (h : (decide (own_in i) && (decide E || r)) = true) : own_in i ∧ (¬ E → r = true) := by
  rw [Bool.and_eq_true, Bool.or_eq_true] at h
  exact ⟨of_decide_eq_true h.1, fun hn => h.2.resolve_left fun q => hn (of_decide_eq_true q)⟩
theorem own_un2 {i : Int32} {E F : Prop} [Decidable E] [Decidable F] {r : Bool} (h : (decide (own_in i) && (decide E || (decide F || r))) = true) : own_in i ∧ (¬ E → ¬ F → r = true) := by
  rw [Bool.and_eq_true, Bool.or_eq_true, Bool.or_eq_true] at h
  exact ⟨of_decide_eq_true h.1, fun hn hm => (h.2.resolve_left fun q => hn (of_decide_eq_true q)).resolve_left fun q => hm (of_decide_eq_true q)⟩
theorem d1_0 : decode method_3_code 0 = .ok (.iload_n 1, 1) := by decide +kernel
theorem d1_1 : decode method_3_code 1 = .ok (.istore_n 3, 1) := by decide +kernel
theorem d1_2 : decode method_3_code 2 = .ok (.iload_n 2, 1) := by decide +kernel
theorem d1_3 : decode method_3_code 3 = .ok (.ifCond .le 11, 3) := by decide +kernel
theorem d1_6 : decode method_3_code 6 = .ok (.iload_n 3, 1) := by decide +kernel
theorem d1_7 : decode method_3_code 7 = .ok (.ifCond .le 7, 3) := by decide +kernel
theorem d1_10 : decode method_3_code 10 = .ok (.aload_n 0, 1) := by decide +kernel
theorem d1_11 : decode method_3_code 11 = .ok (.iload_n 3, 1) := by decide +kernel
theorem d1_12 : decode method_3_code 12 = .ok (.iaload, 1) := by decide +kernel
theorem d1_13 : decode method_3_code 13 = .ok (.istore_n 3, 1) := by decide +kernel
theorem d1_14 : decode method_3_code 14 = .ok (.iload_n 2, 1) := by decide +kernel
theorem d1_15 : decode method_3_code 15 = .ok (.iconst 1, 1) := by decide +kernel
theorem d1_16 : decode method_3_code 16 = .ok (.if_icmp .le 11, 3) := by decide +kernel
theorem d1_19 : decode method_3_code 19 = .ok (.iload_n 3, 1) := by decide +kernel
theorem d1_20 : decode method_3_code 20 = .ok (.ifCond .le 7, 3) := by decide +kernel
theorem d1_23 : decode method_3_code 23 = .ok (.aload_n 0, 1) := by decide +kernel
theorem d1_24 : decode method_3_code 24 = .ok (.iload_n 3, 1) := by decide +kernel
theorem d1_25 : decode method_3_code 25 = .ok (.iaload, 1) := by decide +kernel
theorem d1_26 : decode method_3_code 26 = .ok (.istore_n 3, 1) := by decide +kernel
theorem d1_27 : decode method_3_code 27 = .ok (.iload_n 2, 1) := by decide +kernel
theorem d1_28 : decode method_3_code 28 = .ok (.iconst 2, 1) := by decide +kernel
theorem d1_29 : decode method_3_code 29 = .ok (.if_icmp .le 11, 3) := by decide +kernel
theorem d1_32 : decode method_3_code 32 = .ok (.iload_n 3, 1) := by decide +kernel
theorem d1_33 : decode method_3_code 33 = .ok (.ifCond .le 7, 3) := by decide +kernel
theorem d1_36 : decode method_3_code 36 = .ok (.aload_n 0, 1) := by decide +kernel
theorem d1_37 : decode method_3_code 37 = .ok (.iload_n 3, 1) := by decide +kernel
theorem d1_38 : decode method_3_code 38 = .ok (.iaload, 1) := by decide +kernel
theorem d1_39 : decode method_3_code 39 = .ok (.istore_n 3, 1) := by decide +kernel
theorem d1_40 : decode method_3_code 40 = .ok (.iload_n 2, 1) := by decide +kernel
theorem d1_41 : decode method_3_code 41 = .ok (.iconst 3, 1) := by decide +kernel
theorem d1_42 : decode method_3_code 42 = .ok (.if_icmp .le 11, 3) := by decide +kernel
theorem d1_45 : decode method_3_code 45 = .ok (.iload_n 3, 1) := by decide +kernel
theorem d1_46 : decode method_3_code 46 = .ok (.ifCond .le 7, 3) := by decide +kernel
theorem d1_49 : decode method_3_code 49 = .ok (.aload_n 0, 1) := by decide +kernel
theorem d1_50 : decode method_3_code 50 = .ok (.iload_n 3, 1) := by decide +kernel
theorem d1_51 : decode method_3_code 51 = .ok (.iaload, 1) := by decide +kernel
theorem d1_52 : decode method_3_code 52 = .ok (.istore_n 3, 1) := by decide +kernel
theorem d1_53 : decode method_3_code 53 = .ok (.iload_n 3, 1) := by decide +kernel
theorem d1_54 : decode method_3_code 54 = .ok (.ireturn, 1) := by decide +kernel
theorem pn5 : plainName "com/example/xidr/xidr/xml/tree/TreeAfterSubtreePinLaw" = true := by first | (simp [plainName, overriddenIn]; done) | decide +kernel
theorem ef_rm_up (m : MethodId) (ra : Addr) (xn : Int32) (xk : Int32) : entryFrame m #[(.ref ra), (.int xn), (.int xk)] 4 = mkF m 0 #[.val (.ref ra), .val (.int xn), .val (.int xk), .unset] [] := by first | (simp [entryFrame, mkF, argsToLocals, Value.category]; done) | rfl
def Q_rm_up (Z : State) (ra : Addr) (xn : Int32) (xk : Int32) (ki : ClassId) (xs : List Int32) (h0 : Heap) (n0 : Nat) (v : Option Value) (h : Heap) (L : List Loc) : Prop := v = some (.int (own_up xs xn xk)) ∧ Fr n0 L ∧ h = h0
set_option maxRecDepth 65536 in
set_option maxHeartbeats 40000000 in
theorem rm_up (l : Launch) (Z : State) (a0 : Array Value) (hw : ∀ d ∈ tables_1, d.before a0 Z = true) (ws : List Jvm.Cond) (ra : Addr) (xn : Int32) (xk : Int32) (ki : ClassId) (xs : List Int32) (h0 : Heap) (n0 : Nat) (Z0 : n0 ≤ h0.size) (V1 : Arv Z h0 ra ki .int (6 : Int32) (xs.map Value.int) (.int (0 : Int32))) (hxn : own_in xn) (hcl : own_cl xs) :
    MetFree l (⟨"com/example/xidr/xidr/xml/tree/TreeAfterSubtreePinLaw", "up", "([III)I"⟩ : MethodName) (head1 (Jvm.Cond.code (⟨"com/example/xidr/xidr/xml/tree/TreeAfterSubtreePinLaw", "up", "([III)I"⟩ : MethodName) method_3_code 4 (some .int) :: ws) ({ frames := 0, cells := 0, slots := 0, locals := 0 } : Room)) (fun a U => a = #[(.ref ra), (.int xn), (.int xk)] ∧ Z.Warmed39 U.vm ∧ U.heap = h0) (fun _ _ _ _ _ => True) (fun _ U o U' => ∃ v L, o = .returned v ∧ Q_rm_up Z ra xn xk ki xs h0 n0 v U'.heap L ∧ FrameEnd U o U' L ({ frames := 0, cells := 0, slots := 0, locals := 0 } : Room).cells ({ frames := 0, cells := 0, slots := 0, locals := 0 } : Room).slots) := by
  refine MetFree.of_bodySF (plainFor_of_name pn5) hisR ?_
  intro p e s m args below meth c s₁ Bd hml0 hP hK
  obtain ⟨rfl, hZ, hh⟩ := hP
  have hx := Bd.exec
  have hby := Bd.bytes
  have hml : c.maxLocals = 4 := hml0
  have hown : s.vm.findClass "com/example/xidr/xidr/xml/tree/TreeAfterSubtreePinLaw" = some m.cls := findClass_of_methodNamed Bd.named
  have hnm := (name_of_methodNamed Bd.named Bd.method).1
  have X0 : Stand p l e ({ frames := 0, cells := 0, slots := 0, locals := 0 } : Room) s m #[(.ref ra), (.int xn), (.int xk)] below meth c s₁ [] 0 0 := Stand.of_body Bd
  have e0 : s₁.heap = h0 := by rw [← hh, Bd.state]; rfl
  have N0 := Fr.nil n0
  have pre0 : ∀ t, Steps p.tables e below (s₁.setTop (mkF m 0 #[.val (.ref ra), .val (.int xn), .val (.int xk), .unset] [])) t → Steps p.tables e below (s₁.setTop (entryFrame m #[(.ref ra), (.int xn), (.int xk)] 4)) t := fun t k => castTop (ef_rm_up m ra xn xk) k
  have pre1 : ∀ t, Steps p.tables e below (s₁.setTop (mkF m 2 #[.val (.ref ra), .val (.int xn), .val (.int xk), .val (.int xn)] [])) t → Steps p.tables e below (s₁.setTop (entryFrame m #[(.ref ra), (.int xn), (.int xk)] 4)) t := by
    intro t k
    refine pre0 t ?_
    refine XS.iloadN X0.here hx rfl (hb hby d1_0) rfl ?_
    show Steps p.tables e below (s₁.setTop (mkF m 1 #[.val (.ref ra), .val (.int xn), .val (.int xk), .unset] [(.int xn)])) _
    refine XS.istoreN X0.here hx rfl (hb hby d1_1) rfl (l' := #[.val (.ref ra), .val (.int xn), .val (.int xk), .val (.int xn)]) rfl ?_
    show Steps p.tables e below (s₁.setTop (mkF m 2 #[.val (.ref ra), .val (.int xn), .val (.int xk), .val (.int xn)] [])) _
    exact k
  obtain ⟨v2, hv2⟩ : ∃ z : Int32, z = (if (0 : Int32) < xk then (if (0 : Int32) < xn then (own_at xs xn) else xn) else xn) := ⟨_, rfl⟩
  have pre3 : ∀ t, Steps p.tables e below (s₁.setTop (mkF m 14 #[.val (.ref ra), .val (.int xn), .val (.int xk), .val (.int v2)] [])) t → Steps p.tables e below (s₁.setTop (entryFrame m #[(.ref ra), (.int xn), (.int xk)] 4)) t := by
    intro t k
    refine pre1 t ?_
    refine XS.iloadN X0.here hx rfl (hb hby d1_2) rfl ?_
    show Steps p.tables e below (s₁.setTop (mkF m 3 #[.val (.ref ra), .val (.int xn), .val (.int xk), .val (.int xn)] [(.int xk)])) _
    by_cases hc3 : (0 : Int32) < xk
    · refine XS.ifNo X0.here hx rfl (hb hby d1_3) rfl ((if0 _ _).trans (tlt hc3).2.2.2) ?_
      show Steps p.tables e below (s₁.setTop (mkF m 6 #[.val (.ref ra), .val (.int xn), .val (.int xk), .val (.int xn)] [])) _
      refine XS.iloadN X0.here hx rfl (hb hby d1_6) rfl ?_
      show Steps p.tables e below (s₁.setTop (mkF m 7 #[.val (.ref ra), .val (.int xn), .val (.int xk), .val (.int xn)] [(.int xn)])) _
      by_cases hc7 : (0 : Int32) < xn
      · refine XS.ifNo X0.here hx rfl (hb hby d1_7) rfl ((if0 _ _).trans (tlt hc7).2.2.2) ?_
        show Steps p.tables e below (s₁.setTop (mkF m 10 #[.val (.ref ra), .val (.int xn), .val (.int xk), .val (.int xn)] [])) _
        refine XS.aloadN X0.here hx rfl (hb hby d1_10) rfl rfl ?_
        show Steps p.tables e below (s₁.setTop (mkF m 11 #[.val (.ref ra), .val (.int xn), .val (.int xk), .val (.int xn)] [(.ref ra)])) _
        refine XS.iloadN X0.here hx rfl (hb hby d1_11) rfl ?_
        show Steps p.tables e below (s₁.setTop (mkF m 12 #[.val (.ref ra), .val (.int xn), .val (.int xk), .val (.int xn)] [(.int xn), (.ref ra)])) _
        obtain ⟨c2, a2, q2, s2, m2, i2, u2⟩ := id V1
        have hin2 := inb_of (j := xn) s2 hxn
        refine X0.iaload hx (j := xn) (v := (.int (own_at xs xn))) (by rw [e0]; exact a2.1) (State.isArrayOf_alike hZ.alike a2.2.1) a2.2.2 hin2 (i2.at hin2 (own_getD xs _)) (g := (mkF m 12 #[.val (.ref ra), .val (.int xn), .val (.int xk), .val (.int xn)] [(.int xn), (.ref ra)])) rfl rfl (hb hby d1_12) _ ?_
        show Steps p.tables e below (s₁.setTop (mkF m 13 #[.val (.ref ra), .val (.int xn), .val (.int xk), .val (.int xn)] [(.int (own_at xs xn))])) _
        refine XS.istoreN X0.here hx rfl (hb hby d1_13) rfl (l' := #[.val (.ref ra), .val (.int xn), .val (.int xk), .val (.int (own_at xs xn))]) rfl ?_
        show Steps p.tables e below (s₁.setTop (mkF m 14 #[.val (.ref ra), .val (.int xn), .val (.int xk), .val (.int (own_at xs xn))] [])) _
        rw [show v2 = (own_at xs xn) from by rw [hv2, if_pos hc3, if_pos hc7]] at k
        exact k
      · refine XS.ifYes X0.here hx rfl (pc0 := 7) (pc' := 14) rfl (hb hby d1_7) rfl ((if0 _ _).trans (flt hc7).2.2.2) (by decide) (by decide) ?_
        show Steps p.tables e below (s₁.setTop (mkF m 14 #[.val (.ref ra), .val (.int xn), .val (.int xk), .val (.int xn)] [])) _
        rw [show v2 = xn from by rw [hv2, if_pos hc3, if_neg hc7]] at k
        exact k
    · refine XS.ifYes X0.here hx rfl (pc0 := 3) (pc' := 14) rfl (hb hby d1_3) rfl ((if0 _ _).trans (flt hc3).2.2.2) (by decide) (by decide) ?_
      show Steps p.tables e below (s₁.setTop (mkF m 14 #[.val (.ref ra), .val (.int xn), .val (.int xk), .val (.int xn)] [])) _
      rw [show v2 = xn from by rw [hv2, if_neg hc3]] at k
      exact k
  obtain ⟨v14, hv14⟩ : ∃ z : Int32, z = (if (1 : Int32) < xk then (if (0 : Int32) < v2 then (own_at xs v2) else v2) else v2) := ⟨_, rfl⟩
  have pre5 : ∀ t, Steps p.tables e below (s₁.setTop (mkF m 27 #[.val (.ref ra), .val (.int xn), .val (.int xk), .val (.int v14)] [])) t → Steps p.tables e below (s₁.setTop (entryFrame m #[(.ref ra), (.int xn), (.int xk)] 4)) t := by
    intro t k
    refine pre3 t ?_
    refine XS.iloadN X0.here hx rfl (hb hby d1_14) rfl ?_
    show Steps p.tables e below (s₁.setTop (mkF m 15 #[.val (.ref ra), .val (.int xn), .val (.int xk), .val (.int v2)] [(.int xk)])) _
    refine XS.iconst X0.here hx rfl (hb hby d1_15) ?_
    show Steps p.tables e below (s₁.setTop (mkF m 16 #[.val (.ref ra), .val (.int xn), .val (.int xk), .val (.int v2)] [(.int (1 : Int32)), (.int xk)])) _
    by_cases hc16 : (1 : Int32) < xk
    · refine XS.icmpNo X0.here hx rfl (hb hby d1_16) rfl (tlt hc16).2.2.2 ?_
      show Steps p.tables e below (s₁.setTop (mkF m 19 #[.val (.ref ra), .val (.int xn), .val (.int xk), .val (.int v2)] [])) _
      refine XS.iloadN X0.here hx rfl (hb hby d1_19) rfl ?_
      show Steps p.tables e below (s₁.setTop (mkF m 20 #[.val (.ref ra), .val (.int xn), .val (.int xk), .val (.int v2)] [(.int v2)])) _
      by_cases hc20 : (0 : Int32) < v2
      · refine XS.ifNo X0.here hx rfl (hb hby d1_20) rfl ((if0 _ _).trans (tlt hc20).2.2.2) ?_
        show Steps p.tables e below (s₁.setTop (mkF m 23 #[.val (.ref ra), .val (.int xn), .val (.int xk), .val (.int v2)] [])) _
        refine XS.aloadN X0.here hx rfl (hb hby d1_23) rfl rfl ?_
        show Steps p.tables e below (s₁.setTop (mkF m 24 #[.val (.ref ra), .val (.int xn), .val (.int xk), .val (.int v2)] [(.ref ra)])) _
        refine XS.iloadN X0.here hx rfl (hb hby d1_24) rfl ?_
        show Steps p.tables e below (s₁.setTop (mkF m 25 #[.val (.ref ra), .val (.int xn), .val (.int xk), .val (.int v2)] [(.int v2), (.ref ra)])) _
        obtain ⟨c4, a4, q4, s4, m4, i4, u4⟩ := id V1
        have hin4 := inb_of (j := v2) s4 (own_stin (j := 0) (k := xk) hcl hxn hv2)
        refine X0.iaload hx (j := v2) (v := (.int (own_at xs v2))) (by rw [e0]; exact a4.1) (State.isArrayOf_alike hZ.alike a4.2.1) a4.2.2 hin4 (i4.at hin4 (own_getD xs _)) (g := (mkF m 25 #[.val (.ref ra), .val (.int xn), .val (.int xk), .val (.int v2)] [(.int v2), (.ref ra)])) rfl rfl (hb hby d1_25) _ ?_
        show Steps p.tables e below (s₁.setTop (mkF m 26 #[.val (.ref ra), .val (.int xn), .val (.int xk), .val (.int v2)] [(.int (own_at xs v2))])) _
        refine XS.istoreN X0.here hx rfl (hb hby d1_26) rfl (l' := #[.val (.ref ra), .val (.int xn), .val (.int xk), .val (.int (own_at xs v2))]) rfl ?_
        show Steps p.tables e below (s₁.setTop (mkF m 27 #[.val (.ref ra), .val (.int xn), .val (.int xk), .val (.int (own_at xs v2))] [])) _
        rw [show v14 = (own_at xs v2) from by rw [hv14, if_pos hc16, if_pos hc20]] at k
        exact k
      · refine XS.ifYes X0.here hx rfl (pc0 := 20) (pc' := 27) rfl (hb hby d1_20) rfl ((if0 _ _).trans (flt hc20).2.2.2) (by decide) (by decide) ?_
        show Steps p.tables e below (s₁.setTop (mkF m 27 #[.val (.ref ra), .val (.int xn), .val (.int xk), .val (.int v2)] [])) _
        rw [show v14 = v2 from by rw [hv14, if_pos hc16, if_neg hc20]] at k
        exact k
    · refine XS.icmpYes X0.here hx rfl (pc0 := 16) (pc' := 27) rfl (hb hby d1_16) rfl (flt hc16).2.2.2 (by decide) (by decide) ?_
      show Steps p.tables e below (s₁.setTop (mkF m 27 #[.val (.ref ra), .val (.int xn), .val (.int xk), .val (.int v2)] [])) _
      rw [show v14 = v2 from by rw [hv14, if_neg hc16]] at k
      exact k
  obtain ⟨v27, hv27⟩ : ∃ z : Int32, z = (if (2 : Int32) < xk then (if (0 : Int32) < v14 then (own_at xs v14) else v14) else v14) := ⟨_, rfl⟩
  have pre7 : ∀ t, Steps p.tables e below (s₁.setTop (mkF m 40 #[.val (.ref ra), .val (.int xn), .val (.int xk), .val (.int v27)] [])) t → Steps p.tables e below (s₁.setTop (entryFrame m #[(.ref ra), (.int xn), (.int xk)] 4)) t := by
    intro t k
    refine pre5 t ?_
    refine XS.iloadN X0.here hx rfl (hb hby d1_27) rfl ?_
    show Steps p.tables e below (s₁.setTop (mkF m 28 #[.val (.ref ra), .val (.int xn), .val (.int xk), .val (.int v14)] [(.int xk)])) _
    refine XS.iconst X0.here hx rfl (hb hby d1_28) ?_
    show Steps p.tables e below (s₁.setTop (mkF m 29 #[.val (.ref ra), .val (.int xn), .val (.int xk), .val (.int v14)] [(.int (2 : Int32)), (.int xk)])) _
    by_cases hc29 : (2 : Int32) < xk
    · refine XS.icmpNo X0.here hx rfl (hb hby d1_29) rfl (tlt hc29).2.2.2 ?_
      show Steps p.tables e below (s₁.setTop (mkF m 32 #[.val (.ref ra), .val (.int xn), .val (.int xk), .val (.int v14)] [])) _
      refine XS.iloadN X0.here hx rfl (hb hby d1_32) rfl ?_
      show Steps p.tables e below (s₁.setTop (mkF m 33 #[.val (.ref ra), .val (.int xn), .val (.int xk), .val (.int v14)] [(.int v14)])) _
      by_cases hc33 : (0 : Int32) < v14
      · refine XS.ifNo X0.here hx rfl (hb hby d1_33) rfl ((if0 _ _).trans (tlt hc33).2.2.2) ?_
        show Steps p.tables e below (s₁.setTop (mkF m 36 #[.val (.ref ra), .val (.int xn), .val (.int xk), .val (.int v14)] [])) _
        refine XS.aloadN X0.here hx rfl (hb hby d1_36) rfl rfl ?_
        show Steps p.tables e below (s₁.setTop (mkF m 37 #[.val (.ref ra), .val (.int xn), .val (.int xk), .val (.int v14)] [(.ref ra)])) _
        refine XS.iloadN X0.here hx rfl (hb hby d1_37) rfl ?_
        show Steps p.tables e below (s₁.setTop (mkF m 38 #[.val (.ref ra), .val (.int xn), .val (.int xk), .val (.int v14)] [(.int v14), (.ref ra)])) _
        obtain ⟨c6, a6, q6, s6, m6, i6, u6⟩ := id V1
        have hin6 := inb_of (j := v14) s6 (own_stin (j := 1) (k := xk) hcl (own_stin (j := 0) (k := xk) hcl hxn hv2) hv14)
        refine X0.iaload hx (j := v14) (v := (.int (own_at xs v14))) (by rw [e0]; exact a6.1) (State.isArrayOf_alike hZ.alike a6.2.1) a6.2.2 hin6 (i6.at hin6 (own_getD xs _)) (g := (mkF m 38 #[.val (.ref ra), .val (.int xn), .val (.int xk), .val (.int v14)] [(.int v14), (.ref ra)])) rfl rfl (hb hby d1_38) _ ?_
        show Steps p.tables e below (s₁.setTop (mkF m 39 #[.val (.ref ra), .val (.int xn), .val (.int xk), .val (.int v14)] [(.int (own_at xs v14))])) _
        refine XS.istoreN X0.here hx rfl (hb hby d1_39) rfl (l' := #[.val (.ref ra), .val (.int xn), .val (.int xk), .val (.int (own_at xs v14))]) rfl ?_
        show Steps p.tables e below (s₁.setTop (mkF m 40 #[.val (.ref ra), .val (.int xn), .val (.int xk), .val (.int (own_at xs v14))] [])) _
        rw [show v27 = (own_at xs v14) from by rw [hv27, if_pos hc29, if_pos hc33]] at k
        exact k
      · refine XS.ifYes X0.here hx rfl (pc0 := 33) (pc' := 40) rfl (hb hby d1_33) rfl ((if0 _ _).trans (flt hc33).2.2.2) (by decide) (by decide) ?_
        show Steps p.tables e below (s₁.setTop (mkF m 40 #[.val (.ref ra), .val (.int xn), .val (.int xk), .val (.int v14)] [])) _
        rw [show v27 = v14 from by rw [hv27, if_pos hc29, if_neg hc33]] at k
        exact k
    · refine XS.icmpYes X0.here hx rfl (pc0 := 29) (pc' := 40) rfl (hb hby d1_29) rfl (flt hc29).2.2.2 (by decide) (by decide) ?_
      show Steps p.tables e below (s₁.setTop (mkF m 40 #[.val (.ref ra), .val (.int xn), .val (.int xk), .val (.int v14)] [])) _
      rw [show v27 = v14 from by rw [hv27, if_neg hc29]] at k
      exact k
  obtain ⟨v40, hv40⟩ : ∃ z : Int32, z = (if (3 : Int32) < xk then (if (0 : Int32) < v27 then (own_at xs v27) else v27) else v27) := ⟨_, rfl⟩
  have pre9 : ∀ t, Steps p.tables e below (s₁.setTop (mkF m 53 #[.val (.ref ra), .val (.int xn), .val (.int xk), .val (.int v40)] [])) t → Steps p.tables e below (s₁.setTop (entryFrame m #[(.ref ra), (.int xn), (.int xk)] 4)) t := by
    intro t k
    refine pre7 t ?_
    refine XS.iloadN X0.here hx rfl (hb hby d1_40) rfl ?_
    show Steps p.tables e below (s₁.setTop (mkF m 41 #[.val (.ref ra), .val (.int xn), .val (.int xk), .val (.int v27)] [(.int xk)])) _
    refine XS.iconst X0.here hx rfl (hb hby d1_41) ?_
    show Steps p.tables e below (s₁.setTop (mkF m 42 #[.val (.ref ra), .val (.int xn), .val (.int xk), .val (.int v27)] [(.int (3 : Int32)), (.int xk)])) _
    by_cases hc42 : (3 : Int32) < xk
    · refine XS.icmpNo X0.here hx rfl (hb hby d1_42) rfl (tlt hc42).2.2.2 ?_
      show Steps p.tables e below (s₁.setTop (mkF m 45 #[.val (.ref ra), .val (.int xn), .val (.int xk), .val (.int v27)] [])) _
      refine XS.iloadN X0.here hx rfl (hb hby d1_45) rfl ?_
      show Steps p.tables e below (s₁.setTop (mkF m 46 #[.val (.ref ra), .val (.int xn), .val (.int xk), .val (.int v27)] [(.int v27)])) _
      by_cases hc46 : (0 : Int32) < v27
      · refine XS.ifNo X0.here hx rfl (hb hby d1_46) rfl ((if0 _ _).trans (tlt hc46).2.2.2) ?_
        show Steps p.tables e below (s₁.setTop (mkF m 49 #[.val (.ref ra), .val (.int xn), .val (.int xk), .val (.int v27)] [])) _
        refine XS.aloadN X0.here hx rfl (hb hby d1_49) rfl rfl ?_
        show Steps p.tables e below (s₁.setTop (mkF m 50 #[.val (.ref ra), .val (.int xn), .val (.int xk), .val (.int v27)] [(.ref ra)])) _
        refine XS.iloadN X0.here hx rfl (hb hby d1_50) rfl ?_
        show Steps p.tables e below (s₁.setTop (mkF m 51 #[.val (.ref ra), .val (.int xn), .val (.int xk), .val (.int v27)] [(.int v27), (.ref ra)])) _
        obtain ⟨c8, a8, q8, s8, m8, i8, u8⟩ := id V1
        have hin8 := inb_of (j := v27) s8 (own_stin (j := 2) (k := xk) hcl (own_stin (j := 1) (k := xk) hcl (own_stin (j := 0) (k := xk) hcl hxn hv2) hv14) hv27)
        refine X0.iaload hx (j := v27) (v := (.int (own_at xs v27))) (by rw [e0]; exact a8.1) (State.isArrayOf_alike hZ.alike a8.2.1) a8.2.2 hin8 (i8.at hin8 (own_getD xs _)) (g := (mkF m 51 #[.val (.ref ra), .val (.int xn), .val (.int xk), .val (.int v27)] [(.int v27), (.ref ra)])) rfl rfl (hb hby d1_51) _ ?_
        show Steps p.tables e below (s₁.setTop (mkF m 52 #[.val (.ref ra), .val (.int xn), .val (.int xk), .val (.int v27)] [(.int (own_at xs v27))])) _
        refine XS.istoreN X0.here hx rfl (hb hby d1_52) rfl (l' := #[.val (.ref ra), .val (.int xn), .val (.int xk), .val (.int (own_at xs v27))]) rfl ?_
        show Steps p.tables e below (s₁.setTop (mkF m 53 #[.val (.ref ra), .val (.int xn), .val (.int xk), .val (.int (own_at xs v27))] [])) _
        rw [show v40 = (own_at xs v27) from by rw [hv40, if_pos hc42, if_pos hc46]] at k
        exact k
      · refine XS.ifYes X0.here hx rfl (pc0 := 46) (pc' := 53) rfl (hb hby d1_46) rfl ((if0 _ _).trans (flt hc46).2.2.2) (by decide) (by decide) ?_
        show Steps p.tables e below (s₁.setTop (mkF m 53 #[.val (.ref ra), .val (.int xn), .val (.int xk), .val (.int v27)] [])) _
        rw [show v40 = v27 from by rw [hv40, if_pos hc42, if_neg hc46]] at k
        exact k
    · refine XS.icmpYes X0.here hx rfl (pc0 := 42) (pc' := 53) rfl (hb hby d1_42) rfl (flt hc42).2.2.2 (by decide) (by decide) ?_
      show Steps p.tables e below (s₁.setTop (mkF m 53 #[.val (.ref ra), .val (.int xn), .val (.int xk), .val (.int v27)] [])) _
      rw [show v40 = v27 from by rw [hv40, if_neg hc42]] at k
      exact k
  have pre10 : ∀ t, Steps p.tables e below (s₁.setTop (mkF m 54 #[.val (.ref ra), .val (.int xn), .val (.int xk), .val (.int v40)] [(.int v40)])) t → Steps p.tables e below (s₁.setTop (entryFrame m #[(.ref ra), (.int xn), (.int xk)] 4)) t := by
    intro t k
    refine pre9 t ?_
    refine XS.iloadN X0.here hx rfl (hb hby d1_53) rfl ?_
    show Steps p.tables e below (s₁.setTop (mkF m 54 #[.val (.ref ra), .val (.int xn), .val (.int xk), .val (.int v40)] [(.int v40)])) _
    exact k
  obtain ⟨fs, hr, hrun, hended, hW, hsame⟩ := X0.leave (v := some (.int v40)) (fun h => by rw [Bd.returns] at h; cases h)
  refine ⟨_, _, pre10 _ ?_, hrun, hended, _, _, rfl, ?_, ⟨_, rfl⟩, hW, hsame.mono (by decide) (by decide)⟩
  · exact retI X0 hx Bd.returns (hb hby d1_54) hr
  · show Q_rm_up Z ra xn xk ki xs h0 n0 _ s₁.heap _
    rw [e0]
    exact ⟨congrArg (fun z => some (Value.int z)) (show v40 = own_up xs xn xk from by rw [show v40 = own_st xs 3 xk v27 from hv40, show v27 = own_st xs 2 xk v14 from hv27, show v14 = own_st xs 1 xk v2 from hv14, show v2 = own_st xs 0 xk xn from hv2]; rfl), N0, rfl⟩
theorem d2_0 : decode method_4_code 0 = .ok (.iload_n 1, 1) := by decide +kernel
theorem d2_1 : decode method_4_code 1 = .ok (.iconst 1, 1) := by decide +kernel
theorem d2_2 : decode method_4_code 2 = .ok (.if_icmp .ge 14, 3) := by decide +kernel
theorem d2_5 : decode method_4_code 5 = .ok (.aload_n 0, 1) := by decide +kernel
theorem d2_6 : decode method_4_code 6 = .ok (.iconst 1, 1) := by decide +kernel
theorem d2_7 : decode method_4_code 7 = .ok (.iaload, 1) := by decide +kernel
theorem d2_8 : decode method_4_code 8 = .ok (.aload_n 0, 1) := by decide +kernel
theorem d2_9 : decode method_4_code 9 = .ok (.iload_n 1, 1) := by decide +kernel
theorem d2_10 : decode method_4_code 10 = .ok (.iaload, 1) := by decide +kernel
theorem d2_11 : decode method_4_code 11 = .ok (.if_icmp .ne 5, 3) := by decide +kernel
theorem d2_14 : decode method_4_code 14 = .ok (.iconst 1, 1) := by decide +kernel
theorem d2_15 : decode method_4_code 15 = .ok (.ireturn, 1) := by decide +kernel
theorem d2_16 : decode method_4_code 16 = .ok (.iload_n 1, 1) := by decide +kernel
theorem d2_17 : decode method_4_code 17 = .ok (.iconst 2, 1) := by decide +kernel
theorem d2_18 : decode method_4_code 18 = .ok (.if_icmp .ge 14, 3) := by decide +kernel
theorem d2_21 : decode method_4_code 21 = .ok (.aload_n 0, 1) := by decide +kernel
theorem d2_22 : decode method_4_code 22 = .ok (.iconst 2, 1) := by decide +kernel
theorem d2_23 : decode method_4_code 23 = .ok (.iaload, 1) := by decide +kernel
theorem d2_24 : decode method_4_code 24 = .ok (.aload_n 0, 1) := by decide +kernel
theorem d2_25 : decode method_4_code 25 = .ok (.iload_n 1, 1) := by decide +kernel
theorem d2_26 : decode method_4_code 26 = .ok (.iaload, 1) := by decide +kernel
theorem d2_27 : decode method_4_code 27 = .ok (.if_icmp .ne 5, 3) := by decide +kernel
theorem d2_30 : decode method_4_code 30 = .ok (.iconst 2, 1) := by decide +kernel
theorem d2_31 : decode method_4_code 31 = .ok (.ireturn, 1) := by decide +kernel
theorem d2_32 : decode method_4_code 32 = .ok (.iload_n 1, 1) := by decide +kernel
theorem d2_33 : decode method_4_code 33 = .ok (.iconst 3, 1) := by decide +kernel
theorem d2_34 : decode method_4_code 34 = .ok (.if_icmp .ge 14, 3) := by decide +kernel
theorem d2_37 : decode method_4_code 37 = .ok (.aload_n 0, 1) := by decide +kernel
theorem d2_38 : decode method_4_code 38 = .ok (.iconst 3, 1) := by decide +kernel
theorem d2_39 : decode method_4_code 39 = .ok (.iaload, 1) := by decide +kernel
theorem d2_40 : decode method_4_code 40 = .ok (.aload_n 0, 1) := by decide +kernel
theorem d2_41 : decode method_4_code 41 = .ok (.iload_n 1, 1) := by decide +kernel
theorem d2_42 : decode method_4_code 42 = .ok (.iaload, 1) := by decide +kernel
theorem d2_43 : decode method_4_code 43 = .ok (.if_icmp .ne 5, 3) := by decide +kernel
theorem d2_46 : decode method_4_code 46 = .ok (.iconst 3, 1) := by decide +kernel
theorem d2_47 : decode method_4_code 47 = .ok (.ireturn, 1) := by decide +kernel
theorem d2_48 : decode method_4_code 48 = .ok (.iload_n 1, 1) := by decide +kernel
theorem d2_49 : decode method_4_code 49 = .ok (.iconst 4, 1) := by decide +kernel
theorem d2_50 : decode method_4_code 50 = .ok (.if_icmp .ge 14, 3) := by decide +kernel
theorem d2_53 : decode method_4_code 53 = .ok (.aload_n 0, 1) := by decide +kernel
theorem d2_54 : decode method_4_code 54 = .ok (.iconst 4, 1) := by decide +kernel
theorem d2_55 : decode method_4_code 55 = .ok (.iaload, 1) := by decide +kernel
theorem d2_56 : decode method_4_code 56 = .ok (.aload_n 0, 1) := by decide +kernel
theorem d2_57 : decode method_4_code 57 = .ok (.iload_n 1, 1) := by decide +kernel
theorem d2_58 : decode method_4_code 58 = .ok (.iaload, 1) := by decide +kernel
theorem d2_59 : decode method_4_code 59 = .ok (.if_icmp .ne 5, 3) := by decide +kernel
theorem d2_62 : decode method_4_code 62 = .ok (.iconst 4, 1) := by decide +kernel
theorem d2_63 : decode method_4_code 63 = .ok (.ireturn, 1) := by decide +kernel
theorem d2_64 : decode method_4_code 64 = .ok (.iload_n 1, 1) := by decide +kernel
theorem d2_65 : decode method_4_code 65 = .ok (.iconst 5, 1) := by decide +kernel
theorem d2_66 : decode method_4_code 66 = .ok (.if_icmp .ge 14, 3) := by decide +kernel
theorem d2_69 : decode method_4_code 69 = .ok (.aload_n 0, 1) := by decide +kernel
theorem d2_70 : decode method_4_code 70 = .ok (.iconst 5, 1) := by decide +kernel
theorem d2_71 : decode method_4_code 71 = .ok (.iaload, 1) := by decide +kernel
theorem d2_72 : decode method_4_code 72 = .ok (.aload_n 0, 1) := by decide +kernel
theorem d2_73 : decode method_4_code 73 = .ok (.iload_n 1, 1) := by decide +kernel
theorem d2_74 : decode method_4_code 74 = .ok (.iaload, 1) := by decide +kernel
theorem d2_75 : decode method_4_code 75 = .ok (.if_icmp .ne 5, 3) := by decide +kernel
theorem d2_78 : decode method_4_code 78 = .ok (.iconst 5, 1) := by decide +kernel
theorem d2_79 : decode method_4_code 79 = .ok (.ireturn, 1) := by decide +kernel
theorem d2_80 : decode method_4_code 80 = .ok (.iconst (-1), 1) := by decide +kernel
theorem d2_81 : decode method_4_code 81 = .ok (.ireturn, 1) := by decide +kernel
def F_rm_next (xi : Int32) (xs : List Int32) : Int32 := (if xi < (1 : Int32) then (if (own_at xs (1 : Int32)) = (own_at xs xi) then (1 : Int32) else (if xi < (2 : Int32) then (if (own_at xs (2 : Int32)) = (own_at xs xi) then (2 : Int32) else (if xi < (3 : Int32) then (if (own_at xs (3 : Int32)) = (own_at xs xi) then (3 : Int32) else (if xi < (4 : Int32) then (if (own_at xs (4 : Int32)) = (own_at xs xi) then (4 : Int32) else (if xi < (5 : Int32) then (if (own_at xs (5 : Int32)) = (own_at xs xi) then (5 : Int32) else (-1 : Int32)) else (-1 : Int32))) else (if xi < (5 : Int32) then (if (own_at xs (5 : Int32)) = (own_at xs xi) then (5 : Int32) else (-1 : Int32)) else (-1 : Int32)))) else (if xi < (4 : Int32) then (if (own_at xs (4 : Int32)) = (own_at xs xi) then (4 : Int32) else (if xi < (5 : Int32) then (if (own_at xs (5 : Int32)) = (own_at xs xi) then (5 : Int32) else (-1 : Int32)) else (-1 : Int32))) else (if xi < (5 : Int32) then (if (own_at xs (5 : Int32)) = (own_at xs xi) then (5 : Int32) else (-1 : Int32)) else (-1 : Int32))))) else (if xi < (3 : Int32) then (if (own_at xs (3 : Int32)) = (own_at xs xi) then (3 : Int32) else (if xi < (4 : Int32) then (if (own_at xs (4 : Int32)) = (own_at xs xi) then (4 : Int32) else (if xi < (5 : Int32) then (if (own_at xs (5 : Int32)) = (own_at xs xi) then (5 : Int32) else (-1 : Int32)) else (-1 : Int32))) else (if xi < (5 : Int32) then (if (own_at xs (5 : Int32)) = (own_at xs xi) then (5 : Int32) else (-1 : Int32)) else (-1 : Int32)))) else (if xi < (4 : Int32) then (if (own_at xs (4 : Int32)) = (own_at xs xi) then (4 : Int32) else (if xi < (5 : Int32) then (if (own_at xs (5 : Int32)) = (own_at xs xi) then (5 : Int32) else (-1 : Int32)) else (-1 : Int32))) else (if xi < (5 : Int32) then (if (own_at xs (5 : Int32)) = (own_at xs xi) then (5 : Int32) else (-1 : Int32)) else (-1 : Int32)))))) else (if xi < (2 : Int32) then (if (own_at xs (2 : Int32)) = (own_at xs xi) then (2 : Int32) else (if xi < (3 : Int32) then (if (own_at xs (3 : Int32)) = (own_at xs xi) then (3 : Int32) else (if xi < (4 : Int32) then (if (own_at xs (4 : Int32)) = (own_at xs xi) then (4 : Int32) else (if xi < (5 : Int32) then (if (own_at xs (5 : Int32)) = (own_at xs xi) then (5 : Int32) else (-1 : Int32)) else (-1 : Int32))) else (if xi < (5 : Int32) then (if (own_at xs (5 : Int32)) = (own_at xs xi) then (5 : Int32) else (-1 : Int32)) else (-1 : Int32)))) else (if xi < (4 : Int32) then (if (own_at xs (4 : Int32)) = (own_at xs xi) then (4 : Int32) else (if xi < (5 : Int32) then (if (own_at xs (5 : Int32)) = (own_at xs xi) then (5 : Int32) else (-1 : Int32)) else (-1 : Int32))) else (if xi < (5 : Int32) then (if (own_at xs (5 : Int32)) = (own_at xs xi) then (5 : Int32) else (-1 : Int32)) else (-1 : Int32))))) else (if xi < (3 : Int32) then (if (own_at xs (3 : Int32)) = (own_at xs xi) then (3 : Int32) else (if xi < (4 : Int32) then (if (own_at xs (4 : Int32)) = (own_at xs xi) then (4 : Int32) else (if xi < (5 : Int32) then (if (own_at xs (5 : Int32)) = (own_at xs xi) then (5 : Int32) else (-1 : Int32)) else (-1 : Int32))) else (if xi < (5 : Int32) then (if (own_at xs (5 : Int32)) = (own_at xs xi) then (5 : Int32) else (-1 : Int32)) else (-1 : Int32)))) else (if xi < (4 : Int32) then (if (own_at xs (4 : Int32)) = (own_at xs xi) then (4 : Int32) else (if xi < (5 : Int32) then (if (own_at xs (5 : Int32)) = (own_at xs xi) then (5 : Int32) else (-1 : Int32)) else (-1 : Int32))) else (if xi < (5 : Int32) then (if (own_at xs (5 : Int32)) = (own_at xs xi) then (5 : Int32) else (-1 : Int32)) else (-1 : Int32))))))
theorem ef_rm_next (m : MethodId) (ra : Addr) (xi : Int32) : entryFrame m #[(.ref ra), (.int xi)] 2 = mkF m 0 #[.val (.ref ra), .val (.int xi)] [] := by first | (simp [entryFrame, mkF, argsToLocals, Value.category]; done) | rfl
def Q_rm_next (Z : State) (ra : Addr) (xi : Int32) (ki : ClassId) (xs : List Int32) (h0 : Heap) (n0 : Nat) (v : Option Value) (h : Heap) (L : List Loc) : Prop := v = some (.int (F_rm_next xi xs)) ∧ Fr n0 L ∧ h = h0
set_option maxRecDepth 65536 in
set_option maxHeartbeats 40000000 in
theorem rm_next (l : Launch) (Z : State) (a0 : Array Value) (hw : ∀ d ∈ tables_1, d.before a0 Z = true) (ws : List Jvm.Cond) (ra : Addr) (xi : Int32) (ki : ClassId) (xs : List Int32) (h0 : Heap) (n0 : Nat) (Z0 : n0 ≤ h0.size) (V1 : Arv Z h0 ra ki .int (6 : Int32) (xs.map Value.int) (.int (0 : Int32))) (hi : own_in xi) :
    MetFree l (⟨"com/example/xidr/xidr/xml/tree/TreeAfterSubtreePinLaw", "next", "([II)I"⟩ : MethodName) (head1 (Jvm.Cond.code (⟨"com/example/xidr/xidr/xml/tree/TreeAfterSubtreePinLaw", "next", "([II)I"⟩ : MethodName) method_4_code 2 (some .int) :: ws) ({ frames := 0, cells := 0, slots := 0, locals := 0 } : Room)) (fun a U => a = #[(.ref ra), (.int xi)] ∧ Z.Warmed39 U.vm ∧ U.heap = h0) (fun _ _ _ _ _ => True) (fun _ U o U' => ∃ v L, o = .returned v ∧ Q_rm_next Z ra xi ki xs h0 n0 v U'.heap L ∧ FrameEnd U o U' L ({ frames := 0, cells := 0, slots := 0, locals := 0 } : Room).cells ({ frames := 0, cells := 0, slots := 0, locals := 0 } : Room).slots) := by
  refine MetFree.of_bodySF (plainFor_of_name pn5) hisR ?_
  intro p e s m args below meth c s₁ Bd hml0 hP hK
  obtain ⟨rfl, hZ, hh⟩ := hP
  have hx := Bd.exec
  have hby := Bd.bytes
  have hml : c.maxLocals = 2 := hml0
  have hown : s.vm.findClass "com/example/xidr/xidr/xml/tree/TreeAfterSubtreePinLaw" = some m.cls := findClass_of_methodNamed Bd.named
  have hnm := (name_of_methodNamed Bd.named Bd.method).1
  have X0 : Stand p l e ({ frames := 0, cells := 0, slots := 0, locals := 0 } : Room) s m #[(.ref ra), (.int xi)] below meth c s₁ [] 0 0 := Stand.of_body Bd
  have e0 : s₁.heap = h0 := by rw [← hh, Bd.state]; rfl
  have N0 := Fr.nil n0
  have pre0 : ∀ t, Steps p.tables e below (s₁.setTop (mkF m 0 #[.val (.ref ra), .val (.int xi)] [])) t → Steps p.tables e below (s₁.setTop (entryFrame m #[(.ref ra), (.int xi)] 2)) t := fun t k => castTop (ef_rm_next m ra xi) k
  have pre1 : ∀ t, Steps p.tables e below (s₁.setTop (mkF m 2 #[.val (.ref ra), .val (.int xi)] [(.int (1 : Int32)), (.int xi)])) t → Steps p.tables e below (s₁.setTop (entryFrame m #[(.ref ra), (.int xi)] 2)) t := by
    intro t k
    refine pre0 t ?_
    refine XS.iloadN X0.here hx rfl (hb hby d2_0) rfl ?_
    show Steps p.tables e below (s₁.setTop (mkF m 1 #[.val (.ref ra), .val (.int xi)] [(.int xi)])) _
    refine XS.iconst X0.here hx rfl (hb hby d2_1) ?_
    show Steps p.tables e below (s₁.setTop (mkF m 2 #[.val (.ref ra), .val (.int xi)] [(.int (1 : Int32)), (.int xi)])) _
    exact k
  by_cases hc2 : xi < (1 : Int32)
  · have pre4 : ∀ t, Steps p.tables e below (s₁.setTop (mkF m 11 #[.val (.ref ra), .val (.int xi)] [(.int (own_at xs xi)), (.int (own_at xs (1 : Int32)))])) t → Steps p.tables e below (s₁.setTop (entryFrame m #[(.ref ra), (.int xi)] 2)) t := by
      intro t k
      refine pre1 t ?_
      refine XS.icmpNo X0.here hx rfl (hb hby d2_2) rfl (tlt hc2).2.1 ?_
      show Steps p.tables e below (s₁.setTop (mkF m 5 #[.val (.ref ra), .val (.int xi)] [])) _
      refine XS.aloadN X0.here hx rfl (hb hby d2_5) rfl rfl ?_
      show Steps p.tables e below (s₁.setTop (mkF m 6 #[.val (.ref ra), .val (.int xi)] [(.ref ra)])) _
      refine XS.iconst X0.here hx rfl (hb hby d2_6) ?_
      show Steps p.tables e below (s₁.setTop (mkF m 7 #[.val (.ref ra), .val (.int xi)] [(.int (1 : Int32)), (.ref ra)])) _
      obtain ⟨c2, a2, q2, s2, m2, i2, u2⟩ := id V1
      have hin2 := inb_of (j := (1 : Int32)) s2 (by decide)
      refine X0.iaload hx (j := (1 : Int32)) (v := (.int (own_at xs (1 : Int32)))) (by rw [e0]; exact a2.1) (State.isArrayOf_alike hZ.alike a2.2.1) a2.2.2 hin2 (i2.at hin2 (own_getD xs _)) (g := (mkF m 7 #[.val (.ref ra), .val (.int xi)] [(.int (1 : Int32)), (.ref ra)])) rfl rfl (hb hby d2_7) _ ?_
      show Steps p.tables e below (s₁.setTop (mkF m 8 #[.val (.ref ra), .val (.int xi)] [(.int (own_at xs (1 : Int32)))])) _
      refine XS.aloadN X0.here hx rfl (hb hby d2_8) rfl rfl ?_
      show Steps p.tables e below (s₁.setTop (mkF m 9 #[.val (.ref ra), .val (.int xi)] [(.ref ra), (.int (own_at xs (1 : Int32)))])) _
      refine XS.iloadN X0.here hx rfl (hb hby d2_9) rfl ?_
      show Steps p.tables e below (s₁.setTop (mkF m 10 #[.val (.ref ra), .val (.int xi)] [(.int xi), (.ref ra), (.int (own_at xs (1 : Int32)))])) _
      obtain ⟨c3, a3, q3, s3, m3, i3, u3⟩ := id V1
      have hin3 := inb_of (j := xi) s3 hi
      refine X0.iaload hx (j := xi) (v := (.int (own_at xs xi))) (by rw [e0]; exact a3.1) (State.isArrayOf_alike hZ.alike a3.2.1) a3.2.2 hin3 (i3.at hin3 (own_getD xs _)) (g := (mkF m 10 #[.val (.ref ra), .val (.int xi)] [(.int xi), (.ref ra), (.int (own_at xs (1 : Int32)))])) rfl rfl (hb hby d2_10) _ ?_
      show Steps p.tables e below (s₁.setTop (mkF m 11 #[.val (.ref ra), .val (.int xi)] [(.int (own_at xs xi)), (.int (own_at xs (1 : Int32)))])) _
      exact k
    by_cases hc11 : (own_at xs (1 : Int32)) = (own_at xs xi)
    · have pre5 : ∀ t, Steps p.tables e below (s₁.setTop (mkF m 15 #[.val (.ref ra), .val (.int xi)] [(.int (1 : Int32))])) t → Steps p.tables e below (s₁.setTop (entryFrame m #[(.ref ra), (.int xi)] 2)) t := by
        intro t k
        refine pre4 t ?_
        refine XS.icmpNo X0.here hx rfl (hb hby d2_11) rfl (teq hc11).2 ?_
        show Steps p.tables e below (s₁.setTop (mkF m 14 #[.val (.ref ra), .val (.int xi)] [])) _
        refine XS.iconst X0.here hx rfl (hb hby d2_14) ?_
        show Steps p.tables e below (s₁.setTop (mkF m 15 #[.val (.ref ra), .val (.int xi)] [(.int (1 : Int32))])) _
        exact k
      obtain ⟨fs, hr, hrun, hended, hW, hsame⟩ := X0.leave (v := some (.int (1 : Int32))) (fun h => by rw [Bd.returns] at h; cases h)
      refine ⟨_, _, pre5 _ ?_, hrun, hended, _, _, rfl, ?_, ⟨_, rfl⟩, hW, hsame.mono (by decide) (by decide)⟩
      · exact retI X0 hx Bd.returns (hb hby d2_15) hr
      · show Q_rm_next Z ra xi ki xs h0 n0 _ s₁.heap _
        rw [e0]
        exact ⟨congrArg (fun z => some (Value.int z)) (show (1 : Int32) = (F_rm_next xi xs) from by rw [F_rm_next, if_pos hc2, if_pos hc11]), N0, rfl⟩
    · have pre6 : ∀ t, Steps p.tables e below (s₁.setTop (mkF m 18 #[.val (.ref ra), .val (.int xi)] [(.int (2 : Int32)), (.int xi)])) t → Steps p.tables e below (s₁.setTop (entryFrame m #[(.ref ra), (.int xi)] 2)) t := by
        intro t k
        refine pre4 t ?_
        refine XS.icmpYes X0.here hx rfl (pc0 := 11) (pc' := 16) rfl (hb hby d2_11) rfl (feq hc11).2 (by decide) (by decide) ?_
        show Steps p.tables e below (s₁.setTop (mkF m 16 #[.val (.ref ra), .val (.int xi)] [])) _
        refine XS.iloadN X0.here hx rfl (hb hby d2_16) rfl ?_
        show Steps p.tables e below (s₁.setTop (mkF m 17 #[.val (.ref ra), .val (.int xi)] [(.int xi)])) _
        refine XS.iconst X0.here hx rfl (hb hby d2_17) ?_
        show Steps p.tables e below (s₁.setTop (mkF m 18 #[.val (.ref ra), .val (.int xi)] [(.int (2 : Int32)), (.int xi)])) _
        exact k
      by_cases hc18 : xi < (2 : Int32)
      · have pre9 : ∀ t, Steps p.tables e below (s₁.setTop (mkF m 27 #[.val (.ref ra), .val (.int xi)] [(.int (own_at xs xi)), (.int (own_at xs (2 : Int32)))])) t → Steps p.tables e below (s₁.setTop (entryFrame m #[(.ref ra), (.int xi)] 2)) t := by
          intro t k
          refine pre6 t ?_
          refine XS.icmpNo X0.here hx rfl (hb hby d2_18) rfl (tlt hc18).2.1 ?_
          show Steps p.tables e below (s₁.setTop (mkF m 21 #[.val (.ref ra), .val (.int xi)] [])) _
          refine XS.aloadN X0.here hx rfl (hb hby d2_21) rfl rfl ?_
          show Steps p.tables e below (s₁.setTop (mkF m 22 #[.val (.ref ra), .val (.int xi)] [(.ref ra)])) _
          refine XS.iconst X0.here hx rfl (hb hby d2_22) ?_
          show Steps p.tables e below (s₁.setTop (mkF m 23 #[.val (.ref ra), .val (.int xi)] [(.int (2 : Int32)), (.ref ra)])) _
          obtain ⟨c7, a7, q7, s7, m7, i7, u7⟩ := id V1
          have hin7 := inb_of (j := (2 : Int32)) s7 (by decide)
          refine X0.iaload hx (j := (2 : Int32)) (v := (.int (own_at xs (2 : Int32)))) (by rw [e0]; exact a7.1) (State.isArrayOf_alike hZ.alike a7.2.1) a7.2.2 hin7 (i7.at hin7 (own_getD xs _)) (g := (mkF m 23 #[.val (.ref ra), .val (.int xi)] [(.int (2 : Int32)), (.ref ra)])) rfl rfl (hb hby d2_23) _ ?_
          show Steps p.tables e below (s₁.setTop (mkF m 24 #[.val (.ref ra), .val (.int xi)] [(.int (own_at xs (2 : Int32)))])) _
          refine XS.aloadN X0.here hx rfl (hb hby d2_24) rfl rfl ?_
          show Steps p.tables e below (s₁.setTop (mkF m 25 #[.val (.ref ra), .val (.int xi)] [(.ref ra), (.int (own_at xs (2 : Int32)))])) _
          refine XS.iloadN X0.here hx rfl (hb hby d2_25) rfl ?_
          show Steps p.tables e below (s₁.setTop (mkF m 26 #[.val (.ref ra), .val (.int xi)] [(.int xi), (.ref ra), (.int (own_at xs (2 : Int32)))])) _
          obtain ⟨c8, a8, q8, s8, m8, i8, u8⟩ := id V1
          have hin8 := inb_of (j := xi) s8 hi
          refine X0.iaload hx (j := xi) (v := (.int (own_at xs xi))) (by rw [e0]; exact a8.1) (State.isArrayOf_alike hZ.alike a8.2.1) a8.2.2 hin8 (i8.at hin8 (own_getD xs _)) (g := (mkF m 26 #[.val (.ref ra), .val (.int xi)] [(.int xi), (.ref ra), (.int (own_at xs (2 : Int32)))])) rfl rfl (hb hby d2_26) _ ?_
          show Steps p.tables e below (s₁.setTop (mkF m 27 #[.val (.ref ra), .val (.int xi)] [(.int (own_at xs xi)), (.int (own_at xs (2 : Int32)))])) _
          exact k
        by_cases hc27 : (own_at xs (2 : Int32)) = (own_at xs xi)
        · have pre10 : ∀ t, Steps p.tables e below (s₁.setTop (mkF m 31 #[.val (.ref ra), .val (.int xi)] [(.int (2 : Int32))])) t → Steps p.tables e below (s₁.setTop (entryFrame m #[(.ref ra), (.int xi)] 2)) t := by
            intro t k
            refine pre9 t ?_
            refine XS.icmpNo X0.here hx rfl (hb hby d2_27) rfl (teq hc27).2 ?_
            show Steps p.tables e below (s₁.setTop (mkF m 30 #[.val (.ref ra), .val (.int xi)] [])) _
            refine XS.iconst X0.here hx rfl (hb hby d2_30) ?_
            show Steps p.tables e below (s₁.setTop (mkF m 31 #[.val (.ref ra), .val (.int xi)] [(.int (2 : Int32))])) _
            exact k
          obtain ⟨fs, hr, hrun, hended, hW, hsame⟩ := X0.leave (v := some (.int (2 : Int32))) (fun h => by rw [Bd.returns] at h; cases h)
          refine ⟨_, _, pre10 _ ?_, hrun, hended, _, _, rfl, ?_, ⟨_, rfl⟩, hW, hsame.mono (by decide) (by decide)⟩
          · exact retI X0 hx Bd.returns (hb hby d2_31) hr
          · show Q_rm_next Z ra xi ki xs h0 n0 _ s₁.heap _
            rw [e0]
            exact ⟨congrArg (fun z => some (Value.int z)) (show (2 : Int32) = (F_rm_next xi xs) from by rw [F_rm_next, if_pos hc2, if_neg hc11, if_pos hc18, if_pos hc27]), N0, rfl⟩
        · have pre11 : ∀ t, Steps p.tables e below (s₁.setTop (mkF m 34 #[.val (.ref ra), .val (.int xi)] [(.int (3 : Int32)), (.int xi)])) t → Steps p.tables e below (s₁.setTop (entryFrame m #[(.ref ra), (.int xi)] 2)) t := by
            intro t k
            refine pre9 t ?_
            refine XS.icmpYes X0.here hx rfl (pc0 := 27) (pc' := 32) rfl (hb hby d2_27) rfl (feq hc27).2 (by decide) (by decide) ?_
            show Steps p.tables e below (s₁.setTop (mkF m 32 #[.val (.ref ra), .val (.int xi)] [])) _
            refine XS.iloadN X0.here hx rfl (hb hby d2_32) rfl ?_
            show Steps p.tables e below (s₁.setTop (mkF m 33 #[.val (.ref ra), .val (.int xi)] [(.int xi)])) _
            refine XS.iconst X0.here hx rfl (hb hby d2_33) ?_
            show Steps p.tables e below (s₁.setTop (mkF m 34 #[.val (.ref ra), .val (.int xi)] [(.int (3 : Int32)), (.int xi)])) _
            exact k
          by_cases hc34 : xi < (3 : Int32)
          · have pre14 : ∀ t, Steps p.tables e below (s₁.setTop (mkF m 43 #[.val (.ref ra), .val (.int xi)] [(.int (own_at xs xi)), (.int (own_at xs (3 : Int32)))])) t → Steps p.tables e below (s₁.setTop (entryFrame m #[(.ref ra), (.int xi)] 2)) t := by
              intro t k
              refine pre11 t ?_
              refine XS.icmpNo X0.here hx rfl (hb hby d2_34) rfl (tlt hc34).2.1 ?_
              show Steps p.tables e below (s₁.setTop (mkF m 37 #[.val (.ref ra), .val (.int xi)] [])) _
              refine XS.aloadN X0.here hx rfl (hb hby d2_37) rfl rfl ?_
              show Steps p.tables e below (s₁.setTop (mkF m 38 #[.val (.ref ra), .val (.int xi)] [(.ref ra)])) _
              refine XS.iconst X0.here hx rfl (hb hby d2_38) ?_
              show Steps p.tables e below (s₁.setTop (mkF m 39 #[.val (.ref ra), .val (.int xi)] [(.int (3 : Int32)), (.ref ra)])) _
              obtain ⟨c12, a12, q12, s12, m12, i12, u12⟩ := id V1
              have hin12 := inb_of (j := (3 : Int32)) s12 (by decide)
              refine X0.iaload hx (j := (3 : Int32)) (v := (.int (own_at xs (3 : Int32)))) (by rw [e0]; exact a12.1) (State.isArrayOf_alike hZ.alike a12.2.1) a12.2.2 hin12 (i12.at hin12 (own_getD xs _)) (g := (mkF m 39 #[.val (.ref ra), .val (.int xi)] [(.int (3 : Int32)), (.ref ra)])) rfl rfl (hb hby d2_39) _ ?_
              show Steps p.tables e below (s₁.setTop (mkF m 40 #[.val (.ref ra), .val (.int xi)] [(.int (own_at xs (3 : Int32)))])) _
              refine XS.aloadN X0.here hx rfl (hb hby d2_40) rfl rfl ?_
              show Steps p.tables e below (s₁.setTop (mkF m 41 #[.val (.ref ra), .val (.int xi)] [(.ref ra), (.int (own_at xs (3 : Int32)))])) _
              refine XS.iloadN X0.here hx rfl (hb hby d2_41) rfl ?_
              show Steps p.tables e below (s₁.setTop (mkF m 42 #[.val (.ref ra), .val (.int xi)] [(.int xi), (.ref ra), (.int (own_at xs (3 : Int32)))])) _
              obtain ⟨c13, a13, q13, s13, m13, i13, u13⟩ := id V1
              have hin13 := inb_of (j := xi) s13 hi
              refine X0.iaload hx (j := xi) (v := (.int (own_at xs xi))) (by rw [e0]; exact a13.1) (State.isArrayOf_alike hZ.alike a13.2.1) a13.2.2 hin13 (i13.at hin13 (own_getD xs _)) (g := (mkF m 42 #[.val (.ref ra), .val (.int xi)] [(.int xi), (.ref ra), (.int (own_at xs (3 : Int32)))])) rfl rfl (hb hby d2_42) _ ?_
              show Steps p.tables e below (s₁.setTop (mkF m 43 #[.val (.ref ra), .val (.int xi)] [(.int (own_at xs xi)), (.int (own_at xs (3 : Int32)))])) _
              exact k
            by_cases hc43 : (own_at xs (3 : Int32)) = (own_at xs xi)
            · have pre15 : ∀ t, Steps p.tables e below (s₁.setTop (mkF m 47 #[.val (.ref ra), .val (.int xi)] [(.int (3 : Int32))])) t → Steps p.tables e below (s₁.setTop (entryFrame m #[(.ref ra), (.int xi)] 2)) t := by
                intro t k
                refine pre14 t ?_
                refine XS.icmpNo X0.here hx rfl (hb hby d2_43) rfl (teq hc43).2 ?_
                show Steps p.tables e below (s₁.setTop (mkF m 46 #[.val (.ref ra), .val (.int xi)] [])) _
                refine XS.iconst X0.here hx rfl (hb hby d2_46) ?_
                show Steps p.tables e below (s₁.setTop (mkF m 47 #[.val (.ref ra), .val (.int xi)] [(.int (3 : Int32))])) _
                exact k
              obtain ⟨fs, hr, hrun, hended, hW, hsame⟩ := X0.leave (v := some (.int (3 : Int32))) (fun h => by rw [Bd.returns] at h; cases h)
              refine ⟨_, _, pre15 _ ?_, hrun, hended, _, _, rfl, ?_, ⟨_, rfl⟩, hW, hsame.mono (by decide) (by decide)⟩
              · exact retI X0 hx Bd.returns (hb hby d2_47) hr
              · show Q_rm_next Z ra xi ki xs h0 n0 _ s₁.heap _
                rw [e0]
                exact ⟨congrArg (fun z => some (Value.int z)) (show (3 : Int32) = (F_rm_next xi xs) from by rw [F_rm_next, if_pos hc2, if_neg hc11, if_pos hc18, if_neg hc27, if_pos hc34, if_pos hc43]), N0, rfl⟩
            · have pre16 : ∀ t, Steps p.tables e below (s₁.setTop (mkF m 50 #[.val (.ref ra), .val (.int xi)] [(.int (4 : Int32)), (.int xi)])) t → Steps p.tables e below (s₁.setTop (entryFrame m #[(.ref ra), (.int xi)] 2)) t := by
                intro t k
                refine pre14 t ?_
                refine XS.icmpYes X0.here hx rfl (pc0 := 43) (pc' := 48) rfl (hb hby d2_43) rfl (feq hc43).2 (by decide) (by decide) ?_
                show Steps p.tables e below (s₁.setTop (mkF m 48 #[.val (.ref ra), .val (.int xi)] [])) _
                refine XS.iloadN X0.here hx rfl (hb hby d2_48) rfl ?_
                show Steps p.tables e below (s₁.setTop (mkF m 49 #[.val (.ref ra), .val (.int xi)] [(.int xi)])) _
                refine XS.iconst X0.here hx rfl (hb hby d2_49) ?_
                show Steps p.tables e below (s₁.setTop (mkF m 50 #[.val (.ref ra), .val (.int xi)] [(.int (4 : Int32)), (.int xi)])) _
                exact k
              by_cases hc50 : xi < (4 : Int32)
              · have pre19 : ∀ t, Steps p.tables e below (s₁.setTop (mkF m 59 #[.val (.ref ra), .val (.int xi)] [(.int (own_at xs xi)), (.int (own_at xs (4 : Int32)))])) t → Steps p.tables e below (s₁.setTop (entryFrame m #[(.ref ra), (.int xi)] 2)) t := by
                  intro t k
                  refine pre16 t ?_
                  refine XS.icmpNo X0.here hx rfl (hb hby d2_50) rfl (tlt hc50).2.1 ?_
                  show Steps p.tables e below (s₁.setTop (mkF m 53 #[.val (.ref ra), .val (.int xi)] [])) _
                  refine XS.aloadN X0.here hx rfl (hb hby d2_53) rfl rfl ?_
                  show Steps p.tables e below (s₁.setTop (mkF m 54 #[.val (.ref ra), .val (.int xi)] [(.ref ra)])) _
                  refine XS.iconst X0.here hx rfl (hb hby d2_54) ?_
                  show Steps p.tables e below (s₁.setTop (mkF m 55 #[.val (.ref ra), .val (.int xi)] [(.int (4 : Int32)), (.ref ra)])) _
                  obtain ⟨c17, a17, q17, s17, m17, i17, u17⟩ := id V1
                  have hin17 := inb_of (j := (4 : Int32)) s17 (by decide)
                  refine X0.iaload hx (j := (4 : Int32)) (v := (.int (own_at xs (4 : Int32)))) (by rw [e0]; exact a17.1) (State.isArrayOf_alike hZ.alike a17.2.1) a17.2.2 hin17 (i17.at hin17 (own_getD xs _)) (g := (mkF m 55 #[.val (.ref ra), .val (.int xi)] [(.int (4 : Int32)), (.ref ra)])) rfl rfl (hb hby d2_55) _ ?_
                  show Steps p.tables e below (s₁.setTop (mkF m 56 #[.val (.ref ra), .val (.int xi)] [(.int (own_at xs (4 : Int32)))])) _
                  refine XS.aloadN X0.here hx rfl (hb hby d2_56) rfl rfl ?_
                  show Steps p.tables e below (s₁.setTop (mkF m 57 #[.val (.ref ra), .val (.int xi)] [(.ref ra), (.int (own_at xs (4 : Int32)))])) _
                  refine XS.iloadN X0.here hx rfl (hb hby d2_57) rfl ?_
                  show Steps p.tables e below (s₁.setTop (mkF m 58 #[.val (.ref ra), .val (.int xi)] [(.int xi), (.ref ra), (.int (own_at xs (4 : Int32)))])) _
                  obtain ⟨c18, a18, q18, s18, m18, i18, u18⟩ := id V1
                  have hin18 := inb_of (j := xi) s18 hi
                  refine X0.iaload hx (j := xi) (v := (.int (own_at xs xi))) (by rw [e0]; exact a18.1) (State.isArrayOf_alike hZ.alike a18.2.1) a18.2.2 hin18 (i18.at hin18 (own_getD xs _)) (g := (mkF m 58 #[.val (.ref ra), .val (.int xi)] [(.int xi), (.ref ra), (.int (own_at xs (4 : Int32)))])) rfl rfl (hb hby d2_58) _ ?_
                  show Steps p.tables e below (s₁.setTop (mkF m 59 #[.val (.ref ra), .val (.int xi)] [(.int (own_at xs xi)), (.int (own_at xs (4 : Int32)))])) _
                  exact k
                by_cases hc59 : (own_at xs (4 : Int32)) = (own_at xs xi)
                · have pre20 : ∀ t, Steps p.tables e below (s₁.setTop (mkF m 63 #[.val (.ref ra), .val (.int xi)] [(.int (4 : Int32))])) t → Steps p.tables e below (s₁.setTop (entryFrame m #[(.ref ra), (.int xi)] 2)) t := by
                    intro t k
                    refine pre19 t ?_
                    refine XS.icmpNo X0.here hx rfl (hb hby d2_59) rfl (teq hc59).2 ?_
                    show Steps p.tables e below (s₁.setTop (mkF m 62 #[.val (.ref ra), .val (.int xi)] [])) _
                    refine XS.iconst X0.here hx rfl (hb hby d2_62) ?_
                    show Steps p.tables e below (s₁.setTop (mkF m 63 #[.val (.ref ra), .val (.int xi)] [(.int (4 : Int32))])) _
                    exact k
                  obtain ⟨fs, hr, hrun, hended, hW, hsame⟩ := X0.leave (v := some (.int (4 : Int32))) (fun h => by rw [Bd.returns] at h; cases h)
                  refine ⟨_, _, pre20 _ ?_, hrun, hended, _, _, rfl, ?_, ⟨_, rfl⟩, hW, hsame.mono (by decide) (by decide)⟩
                  · exact retI X0 hx Bd.returns (hb hby d2_63) hr
                  · show Q_rm_next Z ra xi ki xs h0 n0 _ s₁.heap _
                    rw [e0]
                    exact ⟨congrArg (fun z => some (Value.int z)) (show (4 : Int32) = (F_rm_next xi xs) from by rw [F_rm_next, if_pos hc2, if_neg hc11, if_pos hc18, if_neg hc27, if_pos hc34, if_neg hc43, if_pos hc50, if_pos hc59]), N0, rfl⟩
                · have pre21 : ∀ t, Steps p.tables e below (s₁.setTop (mkF m 66 #[.val (.ref ra), .val (.int xi)] [(.int (5 : Int32)), (.int xi)])) t → Steps p.tables e below (s₁.setTop (entryFrame m #[(.ref ra), (.int xi)] 2)) t := by
                    intro t k
                    refine pre19 t ?_
                    refine XS.icmpYes X0.here hx rfl (pc0 := 59) (pc' := 64) rfl (hb hby d2_59) rfl (feq hc59).2 (by decide) (by decide) ?_
                    show Steps p.tables e below (s₁.setTop (mkF m 64 #[.val (.ref ra), .val (.int xi)] [])) _
                    refine XS.iloadN X0.here hx rfl (hb hby d2_64) rfl ?_
                    show Steps p.tables e below (s₁.setTop (mkF m 65 #[.val (.ref ra), .val (.int xi)] [(.int xi)])) _
                    refine XS.iconst X0.here hx rfl (hb hby d2_65) ?_
                    show Steps p.tables e below (s₁.setTop (mkF m 66 #[.val (.ref ra), .val (.int xi)] [(.int (5 : Int32)), (.int xi)])) _
                    exact k
                  by_cases hc66 : xi < (5 : Int32)
                  · have pre24 : ∀ t, Steps p.tables e below (s₁.setTop (mkF m 75 #[.val (.ref ra), .val (.int xi)] [(.int (own_at xs xi)), (.int (own_at xs (5 : Int32)))])) t → Steps p.tables e below (s₁.setTop (entryFrame m #[(.ref ra), (.int xi)] 2)) t := by
                      intro t k
                      refine pre21 t ?_
                      refine XS.icmpNo X0.here hx rfl (hb hby d2_66) rfl (tlt hc66).2.1 ?_
                      show Steps p.tables e below (s₁.setTop (mkF m 69 #[.val (.ref ra), .val (.int xi)] [])) _
                      refine XS.aloadN X0.here hx rfl (hb hby d2_69) rfl rfl ?_
                      show Steps p.tables e below (s₁.setTop (mkF m 70 #[.val (.ref ra), .val (.int xi)] [(.ref ra)])) _
                      refine XS.iconst X0.here hx rfl (hb hby d2_70) ?_
                      show Steps p.tables e below (s₁.setTop (mkF m 71 #[.val (.ref ra), .val (.int xi)] [(.int (5 : Int32)), (.ref ra)])) _
                      obtain ⟨c22, a22, q22, s22, m22, i22, u22⟩ := id V1
                      have hin22 := inb_of (j := (5 : Int32)) s22 (by decide)
                      refine X0.iaload hx (j := (5 : Int32)) (v := (.int (own_at xs (5 : Int32)))) (by rw [e0]; exact a22.1) (State.isArrayOf_alike hZ.alike a22.2.1) a22.2.2 hin22 (i22.at hin22 (own_getD xs _)) (g := (mkF m 71 #[.val (.ref ra), .val (.int xi)] [(.int (5 : Int32)), (.ref ra)])) rfl rfl (hb hby d2_71) _ ?_
                      show Steps p.tables e below (s₁.setTop (mkF m 72 #[.val (.ref ra), .val (.int xi)] [(.int (own_at xs (5 : Int32)))])) _
                      refine XS.aloadN X0.here hx rfl (hb hby d2_72) rfl rfl ?_
                      show Steps p.tables e below (s₁.setTop (mkF m 73 #[.val (.ref ra), .val (.int xi)] [(.ref ra), (.int (own_at xs (5 : Int32)))])) _
                      refine XS.iloadN X0.here hx rfl (hb hby d2_73) rfl ?_
                      show Steps p.tables e below (s₁.setTop (mkF m 74 #[.val (.ref ra), .val (.int xi)] [(.int xi), (.ref ra), (.int (own_at xs (5 : Int32)))])) _
                      obtain ⟨c23, a23, q23, s23, m23, i23, u23⟩ := id V1
                      have hin23 := inb_of (j := xi) s23 hi
                      refine X0.iaload hx (j := xi) (v := (.int (own_at xs xi))) (by rw [e0]; exact a23.1) (State.isArrayOf_alike hZ.alike a23.2.1) a23.2.2 hin23 (i23.at hin23 (own_getD xs _)) (g := (mkF m 74 #[.val (.ref ra), .val (.int xi)] [(.int xi), (.ref ra), (.int (own_at xs (5 : Int32)))])) rfl rfl (hb hby d2_74) _ ?_
                      show Steps p.tables e below (s₁.setTop (mkF m 75 #[.val (.ref ra), .val (.int xi)] [(.int (own_at xs xi)), (.int (own_at xs (5 : Int32)))])) _
                      exact k
                    by_cases hc75 : (own_at xs (5 : Int32)) = (own_at xs xi)
                    · have pre25 : ∀ t, Steps p.tables e below (s₁.setTop (mkF m 79 #[.val (.ref ra), .val (.int xi)] [(.int (5 : Int32))])) t → Steps p.tables e below (s₁.setTop (entryFrame m #[(.ref ra), (.int xi)] 2)) t := by
                        intro t k
                        refine pre24 t ?_
                        refine XS.icmpNo X0.here hx rfl (hb hby d2_75) rfl (teq hc75).2 ?_
                        show Steps p.tables e below (s₁.setTop (mkF m 78 #[.val (.ref ra), .val (.int xi)] [])) _
                        refine XS.iconst X0.here hx rfl (hb hby d2_78) ?_
                        show Steps p.tables e below (s₁.setTop (mkF m 79 #[.val (.ref ra), .val (.int xi)] [(.int (5 : Int32))])) _
                        exact k
                      obtain ⟨fs, hr, hrun, hended, hW, hsame⟩ := X0.leave (v := some (.int (5 : Int32))) (fun h => by rw [Bd.returns] at h; cases h)
                      refine ⟨_, _, pre25 _ ?_, hrun, hended, _, _, rfl, ?_, ⟨_, rfl⟩, hW, hsame.mono (by decide) (by decide)⟩
                      · exact retI X0 hx Bd.returns (hb hby d2_79) hr
                      · show Q_rm_next Z ra xi ki xs h0 n0 _ s₁.heap _
                        rw [e0]
                        exact ⟨congrArg (fun z => some (Value.int z)) (show (5 : Int32) = (F_rm_next xi xs) from by rw [F_rm_next, if_pos hc2, if_neg hc11, if_pos hc18, if_neg hc27, if_pos hc34, if_neg hc43, if_pos hc50, if_neg hc59, if_pos hc66, if_pos hc75]), N0, rfl⟩
                    · have pre26 : ∀ t, Steps p.tables e below (s₁.setTop (mkF m 81 #[.val (.ref ra), .val (.int xi)] [(.int (-1 : Int32))])) t → Steps p.tables e below (s₁.setTop (entryFrame m #[(.ref ra), (.int xi)] 2)) t := by
                        intro t k
                        refine pre24 t ?_
                        refine XS.icmpYes X0.here hx rfl (pc0 := 75) (pc' := 80) rfl (hb hby d2_75) rfl (feq hc75).2 (by decide) (by decide) ?_
                        show Steps p.tables e below (s₁.setTop (mkF m 80 #[.val (.ref ra), .val (.int xi)] [])) _
                        refine XS.iconst X0.here hx rfl (hb hby d2_80) ?_
                        show Steps p.tables e below (s₁.setTop (mkF m 81 #[.val (.ref ra), .val (.int xi)] [(.int (-1 : Int32))])) _
                        exact k
                      obtain ⟨fs, hr, hrun, hended, hW, hsame⟩ := X0.leave (v := some (.int (-1 : Int32))) (fun h => by rw [Bd.returns] at h; cases h)
                      refine ⟨_, _, pre26 _ ?_, hrun, hended, _, _, rfl, ?_, ⟨_, rfl⟩, hW, hsame.mono (by decide) (by decide)⟩
                      · exact retI X0 hx Bd.returns (hb hby d2_81) hr
                      · show Q_rm_next Z ra xi ki xs h0 n0 _ s₁.heap _
                        rw [e0]
                        exact ⟨congrArg (fun z => some (Value.int z)) (show (-1 : Int32) = (F_rm_next xi xs) from by rw [F_rm_next, if_pos hc2, if_neg hc11, if_pos hc18, if_neg hc27, if_pos hc34, if_neg hc43, if_pos hc50, if_neg hc59, if_pos hc66, if_neg hc75]), N0, rfl⟩
                  · have pre27 : ∀ t, Steps p.tables e below (s₁.setTop (mkF m 81 #[.val (.ref ra), .val (.int xi)] [(.int (-1 : Int32))])) t → Steps p.tables e below (s₁.setTop (entryFrame m #[(.ref ra), (.int xi)] 2)) t := by
                      intro t k
                      refine pre21 t ?_
                      refine XS.icmpYes X0.here hx rfl (pc0 := 66) (pc' := 80) rfl (hb hby d2_66) rfl (flt hc66).2.1 (by decide) (by decide) ?_
                      show Steps p.tables e below (s₁.setTop (mkF m 80 #[.val (.ref ra), .val (.int xi)] [])) _
                      refine XS.iconst X0.here hx rfl (hb hby d2_80) ?_
                      show Steps p.tables e below (s₁.setTop (mkF m 81 #[.val (.ref ra), .val (.int xi)] [(.int (-1 : Int32))])) _
                      exact k
                    obtain ⟨fs, hr, hrun, hended, hW, hsame⟩ := X0.leave (v := some (.int (-1 : Int32))) (fun h => by rw [Bd.returns] at h; cases h)
                    refine ⟨_, _, pre27 _ ?_, hrun, hended, _, _, rfl, ?_, ⟨_, rfl⟩, hW, hsame.mono (by decide) (by decide)⟩
                    · exact retI X0 hx Bd.returns (hb hby d2_81) hr
                    · show Q_rm_next Z ra xi ki xs h0 n0 _ s₁.heap _
                      rw [e0]
                      exact ⟨congrArg (fun z => some (Value.int z)) (show (-1 : Int32) = (F_rm_next xi xs) from by rw [F_rm_next, if_pos hc2, if_neg hc11, if_pos hc18, if_neg hc27, if_pos hc34, if_neg hc43, if_pos hc50, if_neg hc59, if_neg hc66]), N0, rfl⟩
              · have pre28 : ∀ t, Steps p.tables e below (s₁.setTop (mkF m 66 #[.val (.ref ra), .val (.int xi)] [(.int (5 : Int32)), (.int xi)])) t → Steps p.tables e below (s₁.setTop (entryFrame m #[(.ref ra), (.int xi)] 2)) t := by
                  intro t k
                  refine pre16 t ?_
                  refine XS.icmpYes X0.here hx rfl (pc0 := 50) (pc' := 64) rfl (hb hby d2_50) rfl (flt hc50).2.1 (by decide) (by decide) ?_
                  show Steps p.tables e below (s₁.setTop (mkF m 64 #[.val (.ref ra), .val (.int xi)] [])) _
                  refine XS.iloadN X0.here hx rfl (hb hby d2_64) rfl ?_
                  show Steps p.tables e below (s₁.setTop (mkF m 65 #[.val (.ref ra), .val (.int xi)] [(.int xi)])) _
                  refine XS.iconst X0.here hx rfl (hb hby d2_65) ?_
                  show Steps p.tables e below (s₁.setTop (mkF m 66 #[.val (.ref ra), .val (.int xi)] [(.int (5 : Int32)), (.int xi)])) _
                  exact k
                by_cases hc66 : xi < (5 : Int32)
                · have pre31 : ∀ t, Steps p.tables e below (s₁.setTop (mkF m 75 #[.val (.ref ra), .val (.int xi)] [(.int (own_at xs xi)), (.int (own_at xs (5 : Int32)))])) t → Steps p.tables e below (s₁.setTop (entryFrame m #[(.ref ra), (.int xi)] 2)) t := by
                    intro t k
                    refine pre28 t ?_
                    refine XS.icmpNo X0.here hx rfl (hb hby d2_66) rfl (tlt hc66).2.1 ?_
                    show Steps p.tables e below (s₁.setTop (mkF m 69 #[.val (.ref ra), .val (.int xi)] [])) _
                    refine XS.aloadN X0.here hx rfl (hb hby d2_69) rfl rfl ?_
                    show Steps p.tables e below (s₁.setTop (mkF m 70 #[.val (.ref ra), .val (.int xi)] [(.ref ra)])) _
                    refine XS.iconst X0.here hx rfl (hb hby d2_70) ?_
                    show Steps p.tables e below (s₁.setTop (mkF m 71 #[.val (.ref ra), .val (.int xi)] [(.int (5 : Int32)), (.ref ra)])) _
                    obtain ⟨c29, a29, q29, s29, m29, i29, u29⟩ := id V1
                    have hin29 := inb_of (j := (5 : Int32)) s29 (by decide)
                    refine X0.iaload hx (j := (5 : Int32)) (v := (.int (own_at xs (5 : Int32)))) (by rw [e0]; exact a29.1) (State.isArrayOf_alike hZ.alike a29.2.1) a29.2.2 hin29 (i29.at hin29 (own_getD xs _)) (g := (mkF m 71 #[.val (.ref ra), .val (.int xi)] [(.int (5 : Int32)), (.ref ra)])) rfl rfl (hb hby d2_71) _ ?_
                    show Steps p.tables e below (s₁.setTop (mkF m 72 #[.val (.ref ra), .val (.int xi)] [(.int (own_at xs (5 : Int32)))])) _
                    refine XS.aloadN X0.here hx rfl (hb hby d2_72) rfl rfl ?_
                    show Steps p.tables e below (s₁.setTop (mkF m 73 #[.val (.ref ra), .val (.int xi)] [(.ref ra), (.int (own_at xs (5 : Int32)))])) _
                    refine XS.iloadN X0.here hx rfl (hb hby d2_73) rfl ?_
                    show Steps p.tables e below (s₁.setTop (mkF m 74 #[.val (.ref ra), .val (.int xi)] [(.int xi), (.ref ra), (.int (own_at xs (5 : Int32)))])) _
                    obtain ⟨c30, a30, q30, s30, m30, i30, u30⟩ := id V1
                    have hin30 := inb_of (j := xi) s30 hi
                    refine X0.iaload hx (j := xi) (v := (.int (own_at xs xi))) (by rw [e0]; exact a30.1) (State.isArrayOf_alike hZ.alike a30.2.1) a30.2.2 hin30 (i30.at hin30 (own_getD xs _)) (g := (mkF m 74 #[.val (.ref ra), .val (.int xi)] [(.int xi), (.ref ra), (.int (own_at xs (5 : Int32)))])) rfl rfl (hb hby d2_74) _ ?_
                    show Steps p.tables e below (s₁.setTop (mkF m 75 #[.val (.ref ra), .val (.int xi)] [(.int (own_at xs xi)), (.int (own_at xs (5 : Int32)))])) _
                    exact k
                  by_cases hc75 : (own_at xs (5 : Int32)) = (own_at xs xi)
                  · have pre32 : ∀ t, Steps p.tables e below (s₁.setTop (mkF m 79 #[.val (.ref ra), .val (.int xi)] [(.int (5 : Int32))])) t → Steps p.tables e below (s₁.setTop (entryFrame m #[(.ref ra), (.int xi)] 2)) t := by
                      intro t k
                      refine pre31 t ?_
                      refine XS.icmpNo X0.here hx rfl (hb hby d2_75) rfl (teq hc75).2 ?_
                      show Steps p.tables e below (s₁.setTop (mkF m 78 #[.val (.ref ra), .val (.int xi)] [])) _
                      refine XS.iconst X0.here hx rfl (hb hby d2_78) ?_
                      show Steps p.tables e below (s₁.setTop (mkF m 79 #[.val (.ref ra), .val (.int xi)] [(.int (5 : Int32))])) _
                      exact k
                    obtain ⟨fs, hr, hrun, hended, hW, hsame⟩ := X0.leave (v := some (.int (5 : Int32))) (fun h => by rw [Bd.returns] at h; cases h)
                    refine ⟨_, _, pre32 _ ?_, hrun, hended, _, _, rfl, ?_, ⟨_, rfl⟩, hW, hsame.mono (by decide) (by decide)⟩
                    · exact retI X0 hx Bd.returns (hb hby d2_79) hr
                    · show Q_rm_next Z ra xi ki xs h0 n0 _ s₁.heap _
                      rw [e0]
                      exact ⟨congrArg (fun z => some (Value.int z)) (show (5 : Int32) = (F_rm_next xi xs) from by rw [F_rm_next, if_pos hc2, if_neg hc11, if_pos hc18, if_neg hc27, if_pos hc34, if_neg hc43, if_neg hc50, if_pos hc66, if_pos hc75]), N0, rfl⟩
                  · have pre33 : ∀ t, Steps p.tables e below (s₁.setTop (mkF m 81 #[.val (.ref ra), .val (.int xi)] [(.int (-1 : Int32))])) t → Steps p.tables e below (s₁.setTop (entryFrame m #[(.ref ra), (.int xi)] 2)) t := by
                      intro t k
                      refine pre31 t ?_
                      refine XS.icmpYes X0.here hx rfl (pc0 := 75) (pc' := 80) rfl (hb hby d2_75) rfl (feq hc75).2 (by decide) (by decide) ?_
                      show Steps p.tables e below (s₁.setTop (mkF m 80 #[.val (.ref ra), .val (.int xi)] [])) _
                      refine XS.iconst X0.here hx rfl (hb hby d2_80) ?_
                      show Steps p.tables e below (s₁.setTop (mkF m 81 #[.val (.ref ra), .val (.int xi)] [(.int (-1 : Int32))])) _
                      exact k
                    obtain ⟨fs, hr, hrun, hended, hW, hsame⟩ := X0.leave (v := some (.int (-1 : Int32))) (fun h => by rw [Bd.returns] at h; cases h)
                    refine ⟨_, _, pre33 _ ?_, hrun, hended, _, _, rfl, ?_, ⟨_, rfl⟩, hW, hsame.mono (by decide) (by decide)⟩
                    · exact retI X0 hx Bd.returns (hb hby d2_81) hr
                    · show Q_rm_next Z ra xi ki xs h0 n0 _ s₁.heap _
                      rw [e0]
                      exact ⟨congrArg (fun z => some (Value.int z)) (show (-1 : Int32) = (F_rm_next xi xs) from by rw [F_rm_next, if_pos hc2, if_neg hc11, if_pos hc18, if_neg hc27, if_pos hc34, if_neg hc43, if_neg hc50, if_pos hc66, if_neg hc75]), N0, rfl⟩
                · have pre34 : ∀ t, Steps p.tables e below (s₁.setTop (mkF m 81 #[.val (.ref ra), .val (.int xi)] [(.int (-1 : Int32))])) t → Steps p.tables e below (s₁.setTop (entryFrame m #[(.ref ra), (.int xi)] 2)) t := by
                    intro t k
                    refine pre28 t ?_
                    refine XS.icmpYes X0.here hx rfl (pc0 := 66) (pc' := 80) rfl (hb hby d2_66) rfl (flt hc66).2.1 (by decide) (by decide) ?_
                    show Steps p.tables e below (s₁.setTop (mkF m 80 #[.val (.ref ra), .val (.int xi)] [])) _
                    refine XS.iconst X0.here hx rfl (hb hby d2_80) ?_
                    show Steps p.tables e below (s₁.setTop (mkF m 81 #[.val (.ref ra), .val (.int xi)] [(.int (-1 : Int32))])) _
                    exact k
                  obtain ⟨fs, hr, hrun, hended, hW, hsame⟩ := X0.leave (v := some (.int (-1 : Int32))) (fun h => by rw [Bd.returns] at h; cases h)
                  refine ⟨_, _, pre34 _ ?_, hrun, hended, _, _, rfl, ?_, ⟨_, rfl⟩, hW, hsame.mono (by decide) (by decide)⟩
                  · exact retI X0 hx Bd.returns (hb hby d2_81) hr
                  · show Q_rm_next Z ra xi ki xs h0 n0 _ s₁.heap _
                    rw [e0]
                    exact ⟨congrArg (fun z => some (Value.int z)) (show (-1 : Int32) = (F_rm_next xi xs) from by rw [F_rm_next, if_pos hc2, if_neg hc11, if_pos hc18, if_neg hc27, if_pos hc34, if_neg hc43, if_neg hc50, if_neg hc66]), N0, rfl⟩
          · have pre35 : ∀ t, Steps p.tables e below (s₁.setTop (mkF m 50 #[.val (.ref ra), .val (.int xi)] [(.int (4 : Int32)), (.int xi)])) t → Steps p.tables e below (s₁.setTop (entryFrame m #[(.ref ra), (.int xi)] 2)) t := by
              intro t k
              refine pre11 t ?_
              refine XS.icmpYes X0.here hx rfl (pc0 := 34) (pc' := 48) rfl (hb hby d2_34) rfl (flt hc34).2.1 (by decide) (by decide) ?_
              show Steps p.tables e below (s₁.setTop (mkF m 48 #[.val (.ref ra), .val (.int xi)] [])) _
              refine XS.iloadN X0.here hx rfl (hb hby d2_48) rfl ?_
              show Steps p.tables e below (s₁.setTop (mkF m 49 #[.val (.ref ra), .val (.int xi)] [(.int xi)])) _
              refine XS.iconst X0.here hx rfl (hb hby d2_49) ?_
              show Steps p.tables e below (s₁.setTop (mkF m 50 #[.val (.ref ra), .val (.int xi)] [(.int (4 : Int32)), (.int xi)])) _
              exact k
            by_cases hc50 : xi < (4 : Int32)
            · have pre38 : ∀ t, Steps p.tables e below (s₁.setTop (mkF m 59 #[.val (.ref ra), .val (.int xi)] [(.int (own_at xs xi)), (.int (own_at xs (4 : Int32)))])) t → Steps p.tables e below (s₁.setTop (entryFrame m #[(.ref ra), (.int xi)] 2)) t := by
                intro t k
                refine pre35 t ?_
                refine XS.icmpNo X0.here hx rfl (hb hby d2_50) rfl (tlt hc50).2.1 ?_
                show Steps p.tables e below (s₁.setTop (mkF m 53 #[.val (.ref ra), .val (.int xi)] [])) _
                refine XS.aloadN X0.here hx rfl (hb hby d2_53) rfl rfl ?_
                show Steps p.tables e below (s₁.setTop (mkF m 54 #[.val (.ref ra), .val (.int xi)] [(.ref ra)])) _
                refine XS.iconst X0.here hx rfl (hb hby d2_54) ?_
                show Steps p.tables e below (s₁.setTop (mkF m 55 #[.val (.ref ra), .val (.int xi)] [(.int (4 : Int32)), (.ref ra)])) _
                obtain ⟨c36, a36, q36, s36, m36, i36, u36⟩ := id V1
                have hin36 := inb_of (j := (4 : Int32)) s36 (by decide)
                refine X0.iaload hx (j := (4 : Int32)) (v := (.int (own_at xs (4 : Int32)))) (by rw [e0]; exact a36.1) (State.isArrayOf_alike hZ.alike a36.2.1) a36.2.2 hin36 (i36.at hin36 (own_getD xs _)) (g := (mkF m 55 #[.val (.ref ra), .val (.int xi)] [(.int (4 : Int32)), (.ref ra)])) rfl rfl (hb hby d2_55) _ ?_
                show Steps p.tables e below (s₁.setTop (mkF m 56 #[.val (.ref ra), .val (.int xi)] [(.int (own_at xs (4 : Int32)))])) _
                refine XS.aloadN X0.here hx rfl (hb hby d2_56) rfl rfl ?_
                show Steps p.tables e below (s₁.setTop (mkF m 57 #[.val (.ref ra), .val (.int xi)] [(.ref ra), (.int (own_at xs (4 : Int32)))])) _
                refine XS.iloadN X0.here hx rfl (hb hby d2_57) rfl ?_
                show Steps p.tables e below (s₁.setTop (mkF m 58 #[.val (.ref ra), .val (.int xi)] [(.int xi), (.ref ra), (.int (own_at xs (4 : Int32)))])) _
                obtain ⟨c37, a37, q37, s37, m37, i37, u37⟩ := id V1
                have hin37 := inb_of (j := xi) s37 hi
                refine X0.iaload hx (j := xi) (v := (.int (own_at xs xi))) (by rw [e0]; exact a37.1) (State.isArrayOf_alike hZ.alike a37.2.1) a37.2.2 hin37 (i37.at hin37 (own_getD xs _)) (g := (mkF m 58 #[.val (.ref ra), .val (.int xi)] [(.int xi), (.ref ra), (.int (own_at xs (4 : Int32)))])) rfl rfl (hb hby d2_58) _ ?_
                show Steps p.tables e below (s₁.setTop (mkF m 59 #[.val (.ref ra), .val (.int xi)] [(.int (own_at xs xi)), (.int (own_at xs (4 : Int32)))])) _
                exact k
              by_cases hc59 : (own_at xs (4 : Int32)) = (own_at xs xi)
              · have pre39 : ∀ t, Steps p.tables e below (s₁.setTop (mkF m 63 #[.val (.ref ra), .val (.int xi)] [(.int (4 : Int32))])) t → Steps p.tables e below (s₁.setTop (entryFrame m #[(.ref ra), (.int xi)] 2)) t := by
                  intro t k
                  refine pre38 t ?_
                  refine XS.icmpNo X0.here hx rfl (hb hby d2_59) rfl (teq hc59).2 ?_
                  show Steps p.tables e below (s₁.setTop (mkF m 62 #[.val (.ref ra), .val (.int xi)] [])) _
                  refine XS.iconst X0.here hx rfl (hb hby d2_62) ?_
                  show Steps p.tables e below (s₁.setTop (mkF m 63 #[.val (.ref ra), .val (.int xi)] [(.int (4 : Int32))])) _
                  exact k
                obtain ⟨fs, hr, hrun, hended, hW, hsame⟩ := X0.leave (v := some (.int (4 : Int32))) (fun h => by rw [Bd.returns] at h; cases h)
                refine ⟨_, _, pre39 _ ?_, hrun, hended, _, _, rfl, ?_, ⟨_, rfl⟩, hW, hsame.mono (by decide) (by decide)⟩
                · exact retI X0 hx Bd.returns (hb hby d2_63) hr
                · show Q_rm_next Z ra xi ki xs h0 n0 _ s₁.heap _
                  rw [e0]
                  exact ⟨congrArg (fun z => some (Value.int z)) (show (4 : Int32) = (F_rm_next xi xs) from by rw [F_rm_next, if_pos hc2, if_neg hc11, if_pos hc18, if_neg hc27, if_neg hc34, if_pos hc50, if_pos hc59]), N0, rfl⟩
              · have pre40 : ∀ t, Steps p.tables e below (s₁.setTop (mkF m 66 #[.val (.ref ra), .val (.int xi)] [(.int (5 : Int32)), (.int xi)])) t → Steps p.tables e below (s₁.setTop (entryFrame m #[(.ref ra), (.int xi)] 2)) t := by
                  intro t k
                  refine pre38 t ?_
                  refine XS.icmpYes X0.here hx rfl (pc0 := 59) (pc' := 64) rfl (hb hby d2_59) rfl (feq hc59).2 (by decide) (by decide) ?_
                  show Steps p.tables e below (s₁.setTop (mkF m 64 #[.val (.ref ra), .val (.int xi)] [])) _
                  refine XS.iloadN X0.here hx rfl (hb hby d2_64) rfl ?_
                  show Steps p.tables e below (s₁.setTop (mkF m 65 #[.val (.ref ra), .val (.int xi)] [(.int xi)])) _
                  refine XS.iconst X0.here hx rfl (hb hby d2_65) ?_
                  show Steps p.tables e below (s₁.setTop (mkF m 66 #[.val (.ref ra), .val (.int xi)] [(.int (5 : Int32)), (.int xi)])) _
                  exact k
                by_cases hc66 : xi < (5 : Int32)
                · have pre43 : ∀ t, Steps p.tables e below (s₁.setTop (mkF m 75 #[.val (.ref ra), .val (.int xi)] [(.int (own_at xs xi)), (.int (own_at xs (5 : Int32)))])) t → Steps p.tables e below (s₁.setTop (entryFrame m #[(.ref ra), (.int xi)] 2)) t := by
                    intro t k
                    refine pre40 t ?_
                    refine XS.icmpNo X0.here hx rfl (hb hby d2_66) rfl (tlt hc66).2.1 ?_
                    show Steps p.tables e below (s₁.setTop (mkF m 69 #[.val (.ref ra), .val (.int xi)] [])) _
                    refine XS.aloadN X0.here hx rfl (hb hby d2_69) rfl rfl ?_
                    show Steps p.tables e below (s₁.setTop (mkF m 70 #[.val (.ref ra), .val (.int xi)] [(.ref ra)])) _
                    refine XS.iconst X0.here hx rfl (hb hby d2_70) ?_
                    show Steps p.tables e below (s₁.setTop (mkF m 71 #[.val (.ref ra), .val (.int xi)] [(.int (5 : Int32)), (.ref ra)])) _
                    obtain ⟨c41, a41, q41, s41, m41, i41, u41⟩ := id V1
                    have hin41 := inb_of (j := (5 : Int32)) s41 (by decide)
                    refine X0.iaload hx (j := (5 : Int32)) (v := (.int (own_at xs (5 : Int32)))) (by rw [e0]; exact a41.1) (State.isArrayOf_alike hZ.alike a41.2.1) a41.2.2 hin41 (i41.at hin41 (own_getD xs _)) (g := (mkF m 71 #[.val (.ref ra), .val (.int xi)] [(.int (5 : Int32)), (.ref ra)])) rfl rfl (hb hby d2_71) _ ?_
                    show Steps p.tables e below (s₁.setTop (mkF m 72 #[.val (.ref ra), .val (.int xi)] [(.int (own_at xs (5 : Int32)))])) _
                    refine XS.aloadN X0.here hx rfl (hb hby d2_72) rfl rfl ?_
                    show Steps p.tables e below (s₁.setTop (mkF m 73 #[.val (.ref ra), .val (.int xi)] [(.ref ra), (.int (own_at xs (5 : Int32)))])) _
                    refine XS.iloadN X0.here hx rfl (hb hby d2_73) rfl ?_
                    show Steps p.tables e below (s₁.setTop (mkF m 74 #[.val (.ref ra), .val (.int xi)] [(.int xi), (.ref ra), (.int (own_at xs (5 : Int32)))])) _
                    obtain ⟨c42, a42, q42, s42, m42, i42, u42⟩ := id V1
                    have hin42 := inb_of (j := xi) s42 hi
                    refine X0.iaload hx (j := xi) (v := (.int (own_at xs xi))) (by rw [e0]; exact a42.1) (State.isArrayOf_alike hZ.alike a42.2.1) a42.2.2 hin42 (i42.at hin42 (own_getD xs _)) (g := (mkF m 74 #[.val (.ref ra), .val (.int xi)] [(.int xi), (.ref ra), (.int (own_at xs (5 : Int32)))])) rfl rfl (hb hby d2_74) _ ?_
                    show Steps p.tables e below (s₁.setTop (mkF m 75 #[.val (.ref ra), .val (.int xi)] [(.int (own_at xs xi)), (.int (own_at xs (5 : Int32)))])) _
                    exact k
                  by_cases hc75 : (own_at xs (5 : Int32)) = (own_at xs xi)
                  · have pre44 : ∀ t, Steps p.tables e below (s₁.setTop (mkF m 79 #[.val (.ref ra), .val (.int xi)] [(.int (5 : Int32))])) t → Steps p.tables e below (s₁.setTop (entryFrame m #[(.ref ra), (.int xi)] 2)) t := by
                      intro t k
                      refine pre43 t ?_
                      refine XS.icmpNo X0.here hx rfl (hb hby d2_75) rfl (teq hc75).2 ?_
                      show Steps p.tables e below (s₁.setTop (mkF m 78 #[.val (.ref ra), .val (.int xi)] [])) _
                      refine XS.iconst X0.here hx rfl (hb hby d2_78) ?_
                      show Steps p.tables e below (s₁.setTop (mkF m 79 #[.val (.ref ra), .val (.int xi)] [(.int (5 : Int32))])) _
                      exact k
                    obtain ⟨fs, hr, hrun, hended, hW, hsame⟩ := X0.leave (v := some (.int (5 : Int32))) (fun h => by rw [Bd.returns] at h; cases h)
                    refine ⟨_, _, pre44 _ ?_, hrun, hended, _, _, rfl, ?_, ⟨_, rfl⟩, hW, hsame.mono (by decide) (by decide)⟩
                    · exact retI X0 hx Bd.returns (hb hby d2_79) hr
                    · show Q_rm_next Z ra xi ki xs h0 n0 _ s₁.heap _
                      rw [e0]
                      exact ⟨congrArg (fun z => some (Value.int z)) (show (5 : Int32) = (F_rm_next xi xs) from by rw [F_rm_next, if_pos hc2, if_neg hc11, if_pos hc18, if_neg hc27, if_neg hc34, if_pos hc50, if_neg hc59, if_pos hc66, if_pos hc75]), N0, rfl⟩
                  · have pre45 : ∀ t, Steps p.tables e below (s₁.setTop (mkF m 81 #[.val (.ref ra), .val (.int xi)] [(.int (-1 : Int32))])) t → Steps p.tables e below (s₁.setTop (entryFrame m #[(.ref ra), (.int xi)] 2)) t := by
                      intro t k
                      refine pre43 t ?_
                      refine XS.icmpYes X0.here hx rfl (pc0 := 75) (pc' := 80) rfl (hb hby d2_75) rfl (feq hc75).2 (by decide) (by decide) ?_
                      show Steps p.tables e below (s₁.setTop (mkF m 80 #[.val (.ref ra), .val (.int xi)] [])) _
                      refine XS.iconst X0.here hx rfl (hb hby d2_80) ?_
                      show Steps p.tables e below (s₁.setTop (mkF m 81 #[.val (.ref ra), .val (.int xi)] [(.int (-1 : Int32))])) _
                      exact k
                    obtain ⟨fs, hr, hrun, hended, hW, hsame⟩ := X0.leave (v := some (.int (-1 : Int32))) (fun h => by rw [Bd.returns] at h; cases h)
                    refine ⟨_, _, pre45 _ ?_, hrun, hended, _, _, rfl, ?_, ⟨_, rfl⟩, hW, hsame.mono (by decide) (by decide)⟩
                    · exact retI X0 hx Bd.returns (hb hby d2_81) hr
                    · show Q_rm_next Z ra xi ki xs h0 n0 _ s₁.heap _
                      rw [e0]
                      exact ⟨congrArg (fun z => some (Value.int z)) (show (-1 : Int32) = (F_rm_next xi xs) from by rw [F_rm_next, if_pos hc2, if_neg hc11, if_pos hc18, if_neg hc27, if_neg hc34, if_pos hc50, if_neg hc59, if_pos hc66, if_neg hc75]), N0, rfl⟩
                · have pre46 : ∀ t, Steps p.tables e below (s₁.setTop (mkF m 81 #[.val (.ref ra), .val (.int xi)] [(.int (-1 : Int32))])) t → Steps p.tables e below (s₁.setTop (entryFrame m #[(.ref ra), (.int xi)] 2)) t := by
                    intro t k
                    refine pre40 t ?_
                    refine XS.icmpYes X0.here hx rfl (pc0 := 66) (pc' := 80) rfl (hb hby d2_66) rfl (flt hc66).2.1 (by decide) (by decide) ?_
                    show Steps p.tables e below (s₁.setTop (mkF m 80 #[.val (.ref ra), .val (.int xi)] [])) _
                    refine XS.iconst X0.here hx rfl (hb hby d2_80) ?_
                    show Steps p.tables e below (s₁.setTop (mkF m 81 #[.val (.ref ra), .val (.int xi)] [(.int (-1 : Int32))])) _
                    exact k
                  obtain ⟨fs, hr, hrun, hended, hW, hsame⟩ := X0.leave (v := some (.int (-1 : Int32))) (fun h => by rw [Bd.returns] at h; cases h)
                  refine ⟨_, _, pre46 _ ?_, hrun, hended, _, _, rfl, ?_, ⟨_, rfl⟩, hW, hsame.mono (by decide) (by decide)⟩
                  · exact retI X0 hx Bd.returns (hb hby d2_81) hr
                  · show Q_rm_next Z ra xi ki xs h0 n0 _ s₁.heap _
                    rw [e0]
                    exact ⟨congrArg (fun z => some (Value.int z)) (show (-1 : Int32) = (F_rm_next xi xs) from by rw [F_rm_next, if_pos hc2, if_neg hc11, if_pos hc18, if_neg hc27, if_neg hc34, if_pos hc50, if_neg hc59, if_neg hc66]), N0, rfl⟩
            · have pre47 : ∀ t, Steps p.tables e below (s₁.setTop (mkF m 66 #[.val (.ref ra), .val (.int xi)] [(.int (5 : Int32)), (.int xi)])) t → Steps p.tables e below (s₁.setTop (entryFrame m #[(.ref ra), (.int xi)] 2)) t := by
                intro t k
                refine pre35 t ?_
                refine XS.icmpYes X0.here hx rfl (pc0 := 50) (pc' := 64) rfl (hb hby d2_50) rfl (flt hc50).2.1 (by decide) (by decide) ?_
                show Steps p.tables e below (s₁.setTop (mkF m 64 #[.val (.ref ra), .val (.int xi)] [])) _
                refine XS.iloadN X0.here hx rfl (hb hby d2_64) rfl ?_
                show Steps p.tables e below (s₁.setTop (mkF m 65 #[.val (.ref ra), .val (.int xi)] [(.int xi)])) _
                refine XS.iconst X0.here hx rfl (hb hby d2_65) ?_
                show Steps p.tables e below (s₁.setTop (mkF m 66 #[.val (.ref ra), .val (.int xi)] [(.int (5 : Int32)), (.int xi)])) _
                exact k
              by_cases hc66 : xi < (5 : Int32)
              · have pre50 : ∀ t, Steps p.tables e below (s₁.setTop (mkF m 75 #[.val (.ref ra), .val (.int xi)] [(.int (own_at xs xi)), (.int (own_at xs (5 : Int32)))])) t → Steps p.tables e below (s₁.setTop (entryFrame m #[(.ref ra), (.int xi)] 2)) t := by
                  intro t k
                  refine pre47 t ?_
                  refine XS.icmpNo X0.here hx rfl (hb hby d2_66) rfl (tlt hc66).2.1 ?_
                  show Steps p.tables e below (s₁.setTop (mkF m 69 #[.val (.ref ra), .val (.int xi)] [])) _
                  refine XS.aloadN X0.here hx rfl (hb hby d2_69) rfl rfl ?_
                  show Steps p.tables e below (s₁.setTop (mkF m 70 #[.val (.ref ra), .val (.int xi)] [(.ref ra)])) _
                  refine XS.iconst X0.here hx rfl (hb hby d2_70) ?_
                  show Steps p.tables e below (s₁.setTop (mkF m 71 #[.val (.ref ra), .val (.int xi)] [(.int (5 : Int32)), (.ref ra)])) _
                  obtain ⟨c48, a48, q48, s48, m48, i48, u48⟩ := id V1
                  have hin48 := inb_of (j := (5 : Int32)) s48 (by decide)
                  refine X0.iaload hx (j := (5 : Int32)) (v := (.int (own_at xs (5 : Int32)))) (by rw [e0]; exact a48.1) (State.isArrayOf_alike hZ.alike a48.2.1) a48.2.2 hin48 (i48.at hin48 (own_getD xs _)) (g := (mkF m 71 #[.val (.ref ra), .val (.int xi)] [(.int (5 : Int32)), (.ref ra)])) rfl rfl (hb hby d2_71) _ ?_
                  show Steps p.tables e below (s₁.setTop (mkF m 72 #[.val (.ref ra), .val (.int xi)] [(.int (own_at xs (5 : Int32)))])) _
                  refine XS.aloadN X0.here hx rfl (hb hby d2_72) rfl rfl ?_
                  show Steps p.tables e below (s₁.setTop (mkF m 73 #[.val (.ref ra), .val (.int xi)] [(.ref ra), (.int (own_at xs (5 : Int32)))])) _
                  refine XS.iloadN X0.here hx rfl (hb hby d2_73) rfl ?_
                  show Steps p.tables e below (s₁.setTop (mkF m 74 #[.val (.ref ra), .val (.int xi)] [(.int xi), (.ref ra), (.int (own_at xs (5 : Int32)))])) _
                  obtain ⟨c49, a49, q49, s49, m49, i49, u49⟩ := id V1
                  have hin49 := inb_of (j := xi) s49 hi
                  refine X0.iaload hx (j := xi) (v := (.int (own_at xs xi))) (by rw [e0]; exact a49.1) (State.isArrayOf_alike hZ.alike a49.2.1) a49.2.2 hin49 (i49.at hin49 (own_getD xs _)) (g := (mkF m 74 #[.val (.ref ra), .val (.int xi)] [(.int xi), (.ref ra), (.int (own_at xs (5 : Int32)))])) rfl rfl (hb hby d2_74) _ ?_
                  show Steps p.tables e below (s₁.setTop (mkF m 75 #[.val (.ref ra), .val (.int xi)] [(.int (own_at xs xi)), (.int (own_at xs (5 : Int32)))])) _
                  exact k
                by_cases hc75 : (own_at xs (5 : Int32)) = (own_at xs xi)
                · have pre51 : ∀ t, Steps p.tables e below (s₁.setTop (mkF m 79 #[.val (.ref ra), .val (.int xi)] [(.int (5 : Int32))])) t → Steps p.tables e below (s₁.setTop (entryFrame m #[(.ref ra), (.int xi)] 2)) t := by
                    intro t k
                    refine pre50 t ?_
                    refine XS.icmpNo X0.here hx rfl (hb hby d2_75) rfl (teq hc75).2 ?_
                    show Steps p.tables e below (s₁.setTop (mkF m 78 #[.val (.ref ra), .val (.int xi)] [])) _
                    refine XS.iconst X0.here hx rfl (hb hby d2_78) ?_
                    show Steps p.tables e below (s₁.setTop (mkF m 79 #[.val (.ref ra), .val (.int xi)] [(.int (5 : Int32))])) _
                    exact k
                  obtain ⟨fs, hr, hrun, hended, hW, hsame⟩ := X0.leave (v := some (.int (5 : Int32))) (fun h => by rw [Bd.returns] at h; cases h)
                  refine ⟨_, _, pre51 _ ?_, hrun, hended, _, _, rfl, ?_, ⟨_, rfl⟩, hW, hsame.mono (by decide) (by decide)⟩
                  · exact retI X0 hx Bd.returns (hb hby d2_79) hr
                  · show Q_rm_next Z ra xi ki xs h0 n0 _ s₁.heap _
                    rw [e0]
                    exact ⟨congrArg (fun z => some (Value.int z)) (show (5 : Int32) = (F_rm_next xi xs) from by rw [F_rm_next, if_pos hc2, if_neg hc11, if_pos hc18, if_neg hc27, if_neg hc34, if_neg hc50, if_pos hc66, if_pos hc75]), N0, rfl⟩
                · have pre52 : ∀ t, Steps p.tables e below (s₁.setTop (mkF m 81 #[.val (.ref ra), .val (.int xi)] [(.int (-1 : Int32))])) t → Steps p.tables e below (s₁.setTop (entryFrame m #[(.ref ra), (.int xi)] 2)) t := by
                    intro t k
                    refine pre50 t ?_
                    refine XS.icmpYes X0.here hx rfl (pc0 := 75) (pc' := 80) rfl (hb hby d2_75) rfl (feq hc75).2 (by decide) (by decide) ?_
                    show Steps p.tables e below (s₁.setTop (mkF m 80 #[.val (.ref ra), .val (.int xi)] [])) _
                    refine XS.iconst X0.here hx rfl (hb hby d2_80) ?_
                    show Steps p.tables e below (s₁.setTop (mkF m 81 #[.val (.ref ra), .val (.int xi)] [(.int (-1 : Int32))])) _
                    exact k
                  obtain ⟨fs, hr, hrun, hended, hW, hsame⟩ := X0.leave (v := some (.int (-1 : Int32))) (fun h => by rw [Bd.returns] at h; cases h)
                  refine ⟨_, _, pre52 _ ?_, hrun, hended, _, _, rfl, ?_, ⟨_, rfl⟩, hW, hsame.mono (by decide) (by decide)⟩
                  · exact retI X0 hx Bd.returns (hb hby d2_81) hr
                  · show Q_rm_next Z ra xi ki xs h0 n0 _ s₁.heap _
                    rw [e0]
                    exact ⟨congrArg (fun z => some (Value.int z)) (show (-1 : Int32) = (F_rm_next xi xs) from by rw [F_rm_next, if_pos hc2, if_neg hc11, if_pos hc18, if_neg hc27, if_neg hc34, if_neg hc50, if_pos hc66, if_neg hc75]), N0, rfl⟩
              · have pre53 : ∀ t, Steps p.tables e below (s₁.setTop (mkF m 81 #[.val (.ref ra), .val (.int xi)] [(.int (-1 : Int32))])) t → Steps p.tables e below (s₁.setTop (entryFrame m #[(.ref ra), (.int xi)] 2)) t := by
                  intro t k
                  refine pre47 t ?_
                  refine XS.icmpYes X0.here hx rfl (pc0 := 66) (pc' := 80) rfl (hb hby d2_66) rfl (flt hc66).2.1 (by decide) (by decide) ?_
                  show Steps p.tables e below (s₁.setTop (mkF m 80 #[.val (.ref ra), .val (.int xi)] [])) _
                  refine XS.iconst X0.here hx rfl (hb hby d2_80) ?_
                  show Steps p.tables e below (s₁.setTop (mkF m 81 #[.val (.ref ra), .val (.int xi)] [(.int (-1 : Int32))])) _
                  exact k
                obtain ⟨fs, hr, hrun, hended, hW, hsame⟩ := X0.leave (v := some (.int (-1 : Int32))) (fun h => by rw [Bd.returns] at h; cases h)
                refine ⟨_, _, pre53 _ ?_, hrun, hended, _, _, rfl, ?_, ⟨_, rfl⟩, hW, hsame.mono (by decide) (by decide)⟩
                · exact retI X0 hx Bd.returns (hb hby d2_81) hr
                · show Q_rm_next Z ra xi ki xs h0 n0 _ s₁.heap _
                  rw [e0]
                  exact ⟨congrArg (fun z => some (Value.int z)) (show (-1 : Int32) = (F_rm_next xi xs) from by rw [F_rm_next, if_pos hc2, if_neg hc11, if_pos hc18, if_neg hc27, if_neg hc34, if_neg hc50, if_neg hc66]), N0, rfl⟩
      · have pre54 : ∀ t, Steps p.tables e below (s₁.setTop (mkF m 34 #[.val (.ref ra), .val (.int xi)] [(.int (3 : Int32)), (.int xi)])) t → Steps p.tables e below (s₁.setTop (entryFrame m #[(.ref ra), (.int xi)] 2)) t := by
          intro t k
          refine pre6 t ?_
          refine XS.icmpYes X0.here hx rfl (pc0 := 18) (pc' := 32) rfl (hb hby d2_18) rfl (flt hc18).2.1 (by decide) (by decide) ?_
          show Steps p.tables e below (s₁.setTop (mkF m 32 #[.val (.ref ra), .val (.int xi)] [])) _
          refine XS.iloadN X0.here hx rfl (hb hby d2_32) rfl ?_
          show Steps p.tables e below (s₁.setTop (mkF m 33 #[.val (.ref ra), .val (.int xi)] [(.int xi)])) _
          refine XS.iconst X0.here hx rfl (hb hby d2_33) ?_
          show Steps p.tables e below (s₁.setTop (mkF m 34 #[.val (.ref ra), .val (.int xi)] [(.int (3 : Int32)), (.int xi)])) _
          exact k
        by_cases hc34 : xi < (3 : Int32)
        · have pre57 : ∀ t, Steps p.tables e below (s₁.setTop (mkF m 43 #[.val (.ref ra), .val (.int xi)] [(.int (own_at xs xi)), (.int (own_at xs (3 : Int32)))])) t → Steps p.tables e below (s₁.setTop (entryFrame m #[(.ref ra), (.int xi)] 2)) t := by
            intro t k
            refine pre54 t ?_
            refine XS.icmpNo X0.here hx rfl (hb hby d2_34) rfl (tlt hc34).2.1 ?_
            show Steps p.tables e below (s₁.setTop (mkF m 37 #[.val (.ref ra), .val (.int xi)] [])) _
            refine XS.aloadN X0.here hx rfl (hb hby d2_37) rfl rfl ?_
            show Steps p.tables e below (s₁.setTop (mkF m 38 #[.val (.ref ra), .val (.int xi)] [(.ref ra)])) _
            refine XS.iconst X0.here hx rfl (hb hby d2_38) ?_
            show Steps p.tables e below (s₁.setTop (mkF m 39 #[.val (.ref ra), .val (.int xi)] [(.int (3 : Int32)), (.ref ra)])) _
            obtain ⟨c55, a55, q55, s55, m55, i55, u55⟩ := id V1
            have hin55 := inb_of (j := (3 : Int32)) s55 (by decide)
            refine X0.iaload hx (j := (3 : Int32)) (v := (.int (own_at xs (3 : Int32)))) (by rw [e0]; exact a55.1) (State.isArrayOf_alike hZ.alike a55.2.1) a55.2.2 hin55 (i55.at hin55 (own_getD xs _)) (g := (mkF m 39 #[.val (.ref ra), .val (.int xi)] [(.int (3 : Int32)), (.ref ra)])) rfl rfl (hb hby d2_39) _ ?_
            show Steps p.tables e below (s₁.setTop (mkF m 40 #[.val (.ref ra), .val (.int xi)] [(.int (own_at xs (3 : Int32)))])) _
            refine XS.aloadN X0.here hx rfl (hb hby d2_40) rfl rfl ?_
            show Steps p.tables e below (s₁.setTop (mkF m 41 #[.val (.ref ra), .val (.int xi)] [(.ref ra), (.int (own_at xs (3 : Int32)))])) _
            refine XS.iloadN X0.here hx rfl (hb hby d2_41) rfl ?_
            show Steps p.tables e below (s₁.setTop (mkF m 42 #[.val (.ref ra), .val (.int xi)] [(.int xi), (.ref ra), (.int (own_at xs (3 : Int32)))])) _
            obtain ⟨c56, a56, q56, s56, m56, i56, u56⟩ := id V1
            have hin56 := inb_of (j := xi) s56 hi
            refine X0.iaload hx (j := xi) (v := (.int (own_at xs xi))) (by rw [e0]; exact a56.1) (State.isArrayOf_alike hZ.alike a56.2.1) a56.2.2 hin56 (i56.at hin56 (own_getD xs _)) (g := (mkF m 42 #[.val (.ref ra), .val (.int xi)] [(.int xi), (.ref ra), (.int (own_at xs (3 : Int32)))])) rfl rfl (hb hby d2_42) _ ?_
            show Steps p.tables e below (s₁.setTop (mkF m 43 #[.val (.ref ra), .val (.int xi)] [(.int (own_at xs xi)), (.int (own_at xs (3 : Int32)))])) _
            exact k
          by_cases hc43 : (own_at xs (3 : Int32)) = (own_at xs xi)
          · have pre58 : ∀ t, Steps p.tables e below (s₁.setTop (mkF m 47 #[.val (.ref ra), .val (.int xi)] [(.int (3 : Int32))])) t → Steps p.tables e below (s₁.setTop (entryFrame m #[(.ref ra), (.int xi)] 2)) t := by
              intro t k
              refine pre57 t ?_
              refine XS.icmpNo X0.here hx rfl (hb hby d2_43) rfl (teq hc43).2 ?_
              show Steps p.tables e below (s₁.setTop (mkF m 46 #[.val (.ref ra), .val (.int xi)] [])) _
              refine XS.iconst X0.here hx rfl (hb hby d2_46) ?_
              show Steps p.tables e below (s₁.setTop (mkF m 47 #[.val (.ref ra), .val (.int xi)] [(.int (3 : Int32))])) _
              exact k
            obtain ⟨fs, hr, hrun, hended, hW, hsame⟩ := X0.leave (v := some (.int (3 : Int32))) (fun h => by rw [Bd.returns] at h; cases h)
            refine ⟨_, _, pre58 _ ?_, hrun, hended, _, _, rfl, ?_, ⟨_, rfl⟩, hW, hsame.mono (by decide) (by decide)⟩
            · exact retI X0 hx Bd.returns (hb hby d2_47) hr
            · show Q_rm_next Z ra xi ki xs h0 n0 _ s₁.heap _
              rw [e0]
              exact ⟨congrArg (fun z => some (Value.int z)) (show (3 : Int32) = (F_rm_next xi xs) from by rw [F_rm_next, if_pos hc2, if_neg hc11, if_neg hc18, if_pos hc34, if_pos hc43]), N0, rfl⟩
          · have pre59 : ∀ t, Steps p.tables e below (s₁.setTop (mkF m 50 #[.val (.ref ra), .val (.int xi)] [(.int (4 : Int32)), (.int xi)])) t → Steps p.tables e below (s₁.setTop (entryFrame m #[(.ref ra), (.int xi)] 2)) t := by
              intro t k
              refine pre57 t ?_
              refine XS.icmpYes X0.here hx rfl (pc0 := 43) (pc' := 48) rfl (hb hby d2_43) rfl (feq hc43).2 (by decide) (by decide) ?_
              show Steps p.tables e below (s₁.setTop (mkF m 48 #[.val (.ref ra), .val (.int xi)] [])) _
              refine XS.iloadN X0.here hx rfl (hb hby d2_48) rfl ?_
              show Steps p.tables e below (s₁.setTop (mkF m 49 #[.val (.ref ra), .val (.int xi)] [(.int xi)])) _
              refine XS.iconst X0.here hx rfl (hb hby d2_49) ?_
              show Steps p.tables e below (s₁.setTop (mkF m 50 #[.val (.ref ra), .val (.int xi)] [(.int (4 : Int32)), (.int xi)])) _
              exact k
            by_cases hc50 : xi < (4 : Int32)
            · have pre62 : ∀ t, Steps p.tables e below (s₁.setTop (mkF m 59 #[.val (.ref ra), .val (.int xi)] [(.int (own_at xs xi)), (.int (own_at xs (4 : Int32)))])) t → Steps p.tables e below (s₁.setTop (entryFrame m #[(.ref ra), (.int xi)] 2)) t := by
                intro t k
                refine pre59 t ?_
                refine XS.icmpNo X0.here hx rfl (hb hby d2_50) rfl (tlt hc50).2.1 ?_
                show Steps p.tables e below (s₁.setTop (mkF m 53 #[.val (.ref ra), .val (.int xi)] [])) _
                refine XS.aloadN X0.here hx rfl (hb hby d2_53) rfl rfl ?_
                show Steps p.tables e below (s₁.setTop (mkF m 54 #[.val (.ref ra), .val (.int xi)] [(.ref ra)])) _
                refine XS.iconst X0.here hx rfl (hb hby d2_54) ?_
                show Steps p.tables e below (s₁.setTop (mkF m 55 #[.val (.ref ra), .val (.int xi)] [(.int (4 : Int32)), (.ref ra)])) _
                obtain ⟨c60, a60, q60, s60, m60, i60, u60⟩ := id V1
                have hin60 := inb_of (j := (4 : Int32)) s60 (by decide)
                refine X0.iaload hx (j := (4 : Int32)) (v := (.int (own_at xs (4 : Int32)))) (by rw [e0]; exact a60.1) (State.isArrayOf_alike hZ.alike a60.2.1) a60.2.2 hin60 (i60.at hin60 (own_getD xs _)) (g := (mkF m 55 #[.val (.ref ra), .val (.int xi)] [(.int (4 : Int32)), (.ref ra)])) rfl rfl (hb hby d2_55) _ ?_
                show Steps p.tables e below (s₁.setTop (mkF m 56 #[.val (.ref ra), .val (.int xi)] [(.int (own_at xs (4 : Int32)))])) _
                refine XS.aloadN X0.here hx rfl (hb hby d2_56) rfl rfl ?_
                show Steps p.tables e below (s₁.setTop (mkF m 57 #[.val (.ref ra), .val (.int xi)] [(.ref ra), (.int (own_at xs (4 : Int32)))])) _
                refine XS.iloadN X0.here hx rfl (hb hby d2_57) rfl ?_
                show Steps p.tables e below (s₁.setTop (mkF m 58 #[.val (.ref ra), .val (.int xi)] [(.int xi), (.ref ra), (.int (own_at xs (4 : Int32)))])) _
                obtain ⟨c61, a61, q61, s61, m61, i61, u61⟩ := id V1
                have hin61 := inb_of (j := xi) s61 hi
                refine X0.iaload hx (j := xi) (v := (.int (own_at xs xi))) (by rw [e0]; exact a61.1) (State.isArrayOf_alike hZ.alike a61.2.1) a61.2.2 hin61 (i61.at hin61 (own_getD xs _)) (g := (mkF m 58 #[.val (.ref ra), .val (.int xi)] [(.int xi), (.ref ra), (.int (own_at xs (4 : Int32)))])) rfl rfl (hb hby d2_58) _ ?_
                show Steps p.tables e below (s₁.setTop (mkF m 59 #[.val (.ref ra), .val (.int xi)] [(.int (own_at xs xi)), (.int (own_at xs (4 : Int32)))])) _
                exact k
              by_cases hc59 : (own_at xs (4 : Int32)) = (own_at xs xi)
              · have pre63 : ∀ t, Steps p.tables e below (s₁.setTop (mkF m 63 #[.val (.ref ra), .val (.int xi)] [(.int (4 : Int32))])) t → Steps p.tables e below (s₁.setTop (entryFrame m #[(.ref ra), (.int xi)] 2)) t := by
                  intro t k
                  refine pre62 t ?_
                  refine XS.icmpNo X0.here hx rfl (hb hby d2_59) rfl (teq hc59).2 ?_
                  show Steps p.tables e below (s₁.setTop (mkF m 62 #[.val (.ref ra), .val (.int xi)] [])) _
                  refine XS.iconst X0.here hx rfl (hb hby d2_62) ?_
                  show Steps p.tables e below (s₁.setTop (mkF m 63 #[.val (.ref ra), .val (.int xi)] [(.int (4 : Int32))])) _
                  exact k
                obtain ⟨fs, hr, hrun, hended, hW, hsame⟩ := X0.leave (v := some (.int (4 : Int32))) (fun h => by rw [Bd.returns] at h; cases h)
                refine ⟨_, _, pre63 _ ?_, hrun, hended, _, _, rfl, ?_, ⟨_, rfl⟩, hW, hsame.mono (by decide) (by decide)⟩
                · exact retI X0 hx Bd.returns (hb hby d2_63) hr
                · show Q_rm_next Z ra xi ki xs h0 n0 _ s₁.heap _
                  rw [e0]
                  exact ⟨congrArg (fun z => some (Value.int z)) (show (4 : Int32) = (F_rm_next xi xs) from by rw [F_rm_next, if_pos hc2, if_neg hc11, if_neg hc18, if_pos hc34, if_neg hc43, if_pos hc50, if_pos hc59]), N0, rfl⟩
              · have pre64 : ∀ t, Steps p.tables e below (s₁.setTop (mkF m 66 #[.val (.ref ra), .val (.int xi)] [(.int (5 : Int32)), (.int xi)])) t → Steps p.tables e below (s₁.setTop (entryFrame m #[(.ref ra), (.int xi)] 2)) t := by
                  intro t k
                  refine pre62 t ?_
                  refine XS.icmpYes X0.here hx rfl (pc0 := 59) (pc' := 64) rfl (hb hby d2_59) rfl (feq hc59).2 (by decide) (by decide) ?_
                  show Steps p.tables e below (s₁.setTop (mkF m 64 #[.val (.ref ra), .val (.int xi)] [])) _
                  refine XS.iloadN X0.here hx rfl (hb hby d2_64) rfl ?_
                  show Steps p.tables e below (s₁.setTop (mkF m 65 #[.val (.ref ra), .val (.int xi)] [(.int xi)])) _
                  refine XS.iconst X0.here hx rfl (hb hby d2_65) ?_
                  show Steps p.tables e below (s₁.setTop (mkF m 66 #[.val (.ref ra), .val (.int xi)] [(.int (5 : Int32)), (.int xi)])) _
                  exact k
                by_cases hc66 : xi < (5 : Int32)
                · have pre67 : ∀ t, Steps p.tables e below (s₁.setTop (mkF m 75 #[.val (.ref ra), .val (.int xi)] [(.int (own_at xs xi)), (.int (own_at xs (5 : Int32)))])) t → Steps p.tables e below (s₁.setTop (entryFrame m #[(.ref ra), (.int xi)] 2)) t := by
                    intro t k
                    refine pre64 t ?_
                    refine XS.icmpNo X0.here hx rfl (hb hby d2_66) rfl (tlt hc66).2.1 ?_
                    show Steps p.tables e below (s₁.setTop (mkF m 69 #[.val (.ref ra), .val (.int xi)] [])) _
                    refine XS.aloadN X0.here hx rfl (hb hby d2_69) rfl rfl ?_
                    show Steps p.tables e below (s₁.setTop (mkF m 70 #[.val (.ref ra), .val (.int xi)] [(.ref ra)])) _
                    refine XS.iconst X0.here hx rfl (hb hby d2_70) ?_
                    show Steps p.tables e below (s₁.setTop (mkF m 71 #[.val (.ref ra), .val (.int xi)] [(.int (5 : Int32)), (.ref ra)])) _
                    obtain ⟨c65, a65, q65, s65, m65, i65, u65⟩ := id V1
                    have hin65 := inb_of (j := (5 : Int32)) s65 (by decide)
                    refine X0.iaload hx (j := (5 : Int32)) (v := (.int (own_at xs (5 : Int32)))) (by rw [e0]; exact a65.1) (State.isArrayOf_alike hZ.alike a65.2.1) a65.2.2 hin65 (i65.at hin65 (own_getD xs _)) (g := (mkF m 71 #[.val (.ref ra), .val (.int xi)] [(.int (5 : Int32)), (.ref ra)])) rfl rfl (hb hby d2_71) _ ?_
                    show Steps p.tables e below (s₁.setTop (mkF m 72 #[.val (.ref ra), .val (.int xi)] [(.int (own_at xs (5 : Int32)))])) _
                    refine XS.aloadN X0.here hx rfl (hb hby d2_72) rfl rfl ?_
                    show Steps p.tables e below (s₁.setTop (mkF m 73 #[.val (.ref ra), .val (.int xi)] [(.ref ra), (.int (own_at xs (5 : Int32)))])) _
                    refine XS.iloadN X0.here hx rfl (hb hby d2_73) rfl ?_
                    show Steps p.tables e below (s₁.setTop (mkF m 74 #[.val (.ref ra), .val (.int xi)] [(.int xi), (.ref ra), (.int (own_at xs (5 : Int32)))])) _
                    obtain ⟨c66, a66, q66, s66, m66, i66, u66⟩ := id V1
                    have hin66 := inb_of (j := xi) s66 hi
                    refine X0.iaload hx (j := xi) (v := (.int (own_at xs xi))) (by rw [e0]; exact a66.1) (State.isArrayOf_alike hZ.alike a66.2.1) a66.2.2 hin66 (i66.at hin66 (own_getD xs _)) (g := (mkF m 74 #[.val (.ref ra), .val (.int xi)] [(.int xi), (.ref ra), (.int (own_at xs (5 : Int32)))])) rfl rfl (hb hby d2_74) _ ?_
                    show Steps p.tables e below (s₁.setTop (mkF m 75 #[.val (.ref ra), .val (.int xi)] [(.int (own_at xs xi)), (.int (own_at xs (5 : Int32)))])) _
                    exact k
                  by_cases hc75 : (own_at xs (5 : Int32)) = (own_at xs xi)
                  · have pre68 : ∀ t, Steps p.tables e below (s₁.setTop (mkF m 79 #[.val (.ref ra), .val (.int xi)] [(.int (5 : Int32))])) t → Steps p.tables e below (s₁.setTop (entryFrame m #[(.ref ra), (.int xi)] 2)) t := by
                      intro t k
                      refine pre67 t ?_
                      refine XS.icmpNo X0.here hx rfl (hb hby d2_75) rfl (teq hc75).2 ?_
                      show Steps p.tables e below (s₁.setTop (mkF m 78 #[.val (.ref ra), .val (.int xi)] [])) _
                      refine XS.iconst X0.here hx rfl (hb hby d2_78) ?_
                      show Steps p.tables e below (s₁.setTop (mkF m 79 #[.val (.ref ra), .val (.int xi)] [(.int (5 : Int32))])) _
                      exact k
                    obtain ⟨fs, hr, hrun, hended, hW, hsame⟩ := X0.leave (v := some (.int (5 : Int32))) (fun h => by rw [Bd.returns] at h; cases h)
                    refine ⟨_, _, pre68 _ ?_, hrun, hended, _, _, rfl, ?_, ⟨_, rfl⟩, hW, hsame.mono (by decide) (by decide)⟩
                    · exact retI X0 hx Bd.returns (hb hby d2_79) hr
                    · show Q_rm_next Z ra xi ki xs h0 n0 _ s₁.heap _
                      rw [e0]
                      exact ⟨congrArg (fun z => some (Value.int z)) (show (5 : Int32) = (F_rm_next xi xs) from by rw [F_rm_next, if_pos hc2, if_neg hc11, if_neg hc18, if_pos hc34, if_neg hc43, if_pos hc50, if_neg hc59, if_pos hc66, if_pos hc75]), N0, rfl⟩
                  · have pre69 : ∀ t, Steps p.tables e below (s₁.setTop (mkF m 81 #[.val (.ref ra), .val (.int xi)] [(.int (-1 : Int32))])) t → Steps p.tables e below (s₁.setTop (entryFrame m #[(.ref ra), (.int xi)] 2)) t := by
                      intro t k
                      refine pre67 t ?_
                      refine XS.icmpYes X0.here hx rfl (pc0 := 75) (pc' := 80) rfl (hb hby d2_75) rfl (feq hc75).2 (by decide) (by decide) ?_
                      show Steps p.tables e below (s₁.setTop (mkF m 80 #[.val (.ref ra), .val (.int xi)] [])) _
                      refine XS.iconst X0.here hx rfl (hb hby d2_80) ?_
                      show Steps p.tables e below (s₁.setTop (mkF m 81 #[.val (.ref ra), .val (.int xi)] [(.int (-1 : Int32))])) _
                      exact k
                    obtain ⟨fs, hr, hrun, hended, hW, hsame⟩ := X0.leave (v := some (.int (-1 : Int32))) (fun h => by rw [Bd.returns] at h; cases h)
                    refine ⟨_, _, pre69 _ ?_, hrun, hended, _, _, rfl, ?_, ⟨_, rfl⟩, hW, hsame.mono (by decide) (by decide)⟩
                    · exact retI X0 hx Bd.returns (hb hby d2_81) hr
                    · show Q_rm_next Z ra xi ki xs h0 n0 _ s₁.heap _
                      rw [e0]
                      exact ⟨congrArg (fun z => some (Value.int z)) (show (-1 : Int32) = (F_rm_next xi xs) from by rw [F_rm_next, if_pos hc2, if_neg hc11, if_neg hc18, if_pos hc34, if_neg hc43, if_pos hc50, if_neg hc59, if_pos hc66, if_neg hc75]), N0, rfl⟩
                · have pre70 : ∀ t, Steps p.tables e below (s₁.setTop (mkF m 81 #[.val (.ref ra), .val (.int xi)] [(.int (-1 : Int32))])) t → Steps p.tables e below (s₁.setTop (entryFrame m #[(.ref ra), (.int xi)] 2)) t := by
                    intro t k
                    refine pre64 t ?_
                    refine XS.icmpYes X0.here hx rfl (pc0 := 66) (pc' := 80) rfl (hb hby d2_66) rfl (flt hc66).2.1 (by decide) (by decide) ?_
                    show Steps p.tables e below (s₁.setTop (mkF m 80 #[.val (.ref ra), .val (.int xi)] [])) _
                    refine XS.iconst X0.here hx rfl (hb hby d2_80) ?_
                    show Steps p.tables e below (s₁.setTop (mkF m 81 #[.val (.ref ra), .val (.int xi)] [(.int (-1 : Int32))])) _
                    exact k
                  obtain ⟨fs, hr, hrun, hended, hW, hsame⟩ := X0.leave (v := some (.int (-1 : Int32))) (fun h => by rw [Bd.returns] at h; cases h)
                  refine ⟨_, _, pre70 _ ?_, hrun, hended, _, _, rfl, ?_, ⟨_, rfl⟩, hW, hsame.mono (by decide) (by decide)⟩
                  · exact retI X0 hx Bd.returns (hb hby d2_81) hr
                  · show Q_rm_next Z ra xi ki xs h0 n0 _ s₁.heap _
                    rw [e0]
                    exact ⟨congrArg (fun z => some (Value.int z)) (show (-1 : Int32) = (F_rm_next xi xs) from by rw [F_rm_next, if_pos hc2, if_neg hc11, if_neg hc18, if_pos hc34, if_neg hc43, if_pos hc50, if_neg hc59, if_neg hc66]), N0, rfl⟩
            · have pre71 : ∀ t, Steps p.tables e below (s₁.setTop (mkF m 66 #[.val (.ref ra), .val (.int xi)] [(.int (5 : Int32)), (.int xi)])) t → Steps p.tables e below (s₁.setTop (entryFrame m #[(.ref ra), (.int xi)] 2)) t := by
                intro t k
                refine pre59 t ?_
                refine XS.icmpYes X0.here hx rfl (pc0 := 50) (pc' := 64) rfl (hb hby d2_50) rfl (flt hc50).2.1 (by decide) (by decide) ?_
                show Steps p.tables e below (s₁.setTop (mkF m 64 #[.val (.ref ra), .val (.int xi)] [])) _
                refine XS.iloadN X0.here hx rfl (hb hby d2_64) rfl ?_
                show Steps p.tables e below (s₁.setTop (mkF m 65 #[.val (.ref ra), .val (.int xi)] [(.int xi)])) _
                refine XS.iconst X0.here hx rfl (hb hby d2_65) ?_
                show Steps p.tables e below (s₁.setTop (mkF m 66 #[.val (.ref ra), .val (.int xi)] [(.int (5 : Int32)), (.int xi)])) _
                exact k
              by_cases hc66 : xi < (5 : Int32)
              · have pre74 : ∀ t, Steps p.tables e below (s₁.setTop (mkF m 75 #[.val (.ref ra), .val (.int xi)] [(.int (own_at xs xi)), (.int (own_at xs (5 : Int32)))])) t → Steps p.tables e below (s₁.setTop (entryFrame m #[(.ref ra), (.int xi)] 2)) t := by
                  intro t k
                  refine pre71 t ?_
                  refine XS.icmpNo X0.here hx rfl (hb hby d2_66) rfl (tlt hc66).2.1 ?_
                  show Steps p.tables e below (s₁.setTop (mkF m 69 #[.val (.ref ra), .val (.int xi)] [])) _
                  refine XS.aloadN X0.here hx rfl (hb hby d2_69) rfl rfl ?_
                  show Steps p.tables e below (s₁.setTop (mkF m 70 #[.val (.ref ra), .val (.int xi)] [(.ref ra)])) _
                  refine XS.iconst X0.here hx rfl (hb hby d2_70) ?_
                  show Steps p.tables e below (s₁.setTop (mkF m 71 #[.val (.ref ra), .val (.int xi)] [(.int (5 : Int32)), (.ref ra)])) _
                  obtain ⟨c72, a72, q72, s72, m72, i72, u72⟩ := id V1
                  have hin72 := inb_of (j := (5 : Int32)) s72 (by decide)
                  refine X0.iaload hx (j := (5 : Int32)) (v := (.int (own_at xs (5 : Int32)))) (by rw [e0]; exact a72.1) (State.isArrayOf_alike hZ.alike a72.2.1) a72.2.2 hin72 (i72.at hin72 (own_getD xs _)) (g := (mkF m 71 #[.val (.ref ra), .val (.int xi)] [(.int (5 : Int32)), (.ref ra)])) rfl rfl (hb hby d2_71) _ ?_
                  show Steps p.tables e below (s₁.setTop (mkF m 72 #[.val (.ref ra), .val (.int xi)] [(.int (own_at xs (5 : Int32)))])) _
                  refine XS.aloadN X0.here hx rfl (hb hby d2_72) rfl rfl ?_
                  show Steps p.tables e below (s₁.setTop (mkF m 73 #[.val (.ref ra), .val (.int xi)] [(.ref ra), (.int (own_at xs (5 : Int32)))])) _
                  refine XS.iloadN X0.here hx rfl (hb hby d2_73) rfl ?_
                  show Steps p.tables e below (s₁.setTop (mkF m 74 #[.val (.ref ra), .val (.int xi)] [(.int xi), (.ref ra), (.int (own_at xs (5 : Int32)))])) _
                  obtain ⟨c73, a73, q73, s73, m73, i73, u73⟩ := id V1
                  have hin73 := inb_of (j := xi) s73 hi
                  refine X0.iaload hx (j := xi) (v := (.int (own_at xs xi))) (by rw [e0]; exact a73.1) (State.isArrayOf_alike hZ.alike a73.2.1) a73.2.2 hin73 (i73.at hin73 (own_getD xs _)) (g := (mkF m 74 #[.val (.ref ra), .val (.int xi)] [(.int xi), (.ref ra), (.int (own_at xs (5 : Int32)))])) rfl rfl (hb hby d2_74) _ ?_
                  show Steps p.tables e below (s₁.setTop (mkF m 75 #[.val (.ref ra), .val (.int xi)] [(.int (own_at xs xi)), (.int (own_at xs (5 : Int32)))])) _
                  exact k
                by_cases hc75 : (own_at xs (5 : Int32)) = (own_at xs xi)
                · have pre75 : ∀ t, Steps p.tables e below (s₁.setTop (mkF m 79 #[.val (.ref ra), .val (.int xi)] [(.int (5 : Int32))])) t → Steps p.tables e below (s₁.setTop (entryFrame m #[(.ref ra), (.int xi)] 2)) t := by
                    intro t k
                    refine pre74 t ?_
                    refine XS.icmpNo X0.here hx rfl (hb hby d2_75) rfl (teq hc75).2 ?_
                    show Steps p.tables e below (s₁.setTop (mkF m 78 #[.val (.ref ra), .val (.int xi)] [])) _
                    refine XS.iconst X0.here hx rfl (hb hby d2_78) ?_
                    show Steps p.tables e below (s₁.setTop (mkF m 79 #[.val (.ref ra), .val (.int xi)] [(.int (5 : Int32))])) _
                    exact k
                  obtain ⟨fs, hr, hrun, hended, hW, hsame⟩ := X0.leave (v := some (.int (5 : Int32))) (fun h => by rw [Bd.returns] at h; cases h)
                  refine ⟨_, _, pre75 _ ?_, hrun, hended, _, _, rfl, ?_, ⟨_, rfl⟩, hW, hsame.mono (by decide) (by decide)⟩
                  · exact retI X0 hx Bd.returns (hb hby d2_79) hr
                  · show Q_rm_next Z ra xi ki xs h0 n0 _ s₁.heap _
                    rw [e0]
                    exact ⟨congrArg (fun z => some (Value.int z)) (show (5 : Int32) = (F_rm_next xi xs) from by rw [F_rm_next, if_pos hc2, if_neg hc11, if_neg hc18, if_pos hc34, if_neg hc43, if_neg hc50, if_pos hc66, if_pos hc75]), N0, rfl⟩
                · have pre76 : ∀ t, Steps p.tables e below (s₁.setTop (mkF m 81 #[.val (.ref ra), .val (.int xi)] [(.int (-1 : Int32))])) t → Steps p.tables e below (s₁.setTop (entryFrame m #[(.ref ra), (.int xi)] 2)) t := by
                    intro t k
                    refine pre74 t ?_
                    refine XS.icmpYes X0.here hx rfl (pc0 := 75) (pc' := 80) rfl (hb hby d2_75) rfl (feq hc75).2 (by decide) (by decide) ?_
                    show Steps p.tables e below (s₁.setTop (mkF m 80 #[.val (.ref ra), .val (.int xi)] [])) _
                    refine XS.iconst X0.here hx rfl (hb hby d2_80) ?_
                    show Steps p.tables e below (s₁.setTop (mkF m 81 #[.val (.ref ra), .val (.int xi)] [(.int (-1 : Int32))])) _
                    exact k
                  obtain ⟨fs, hr, hrun, hended, hW, hsame⟩ := X0.leave (v := some (.int (-1 : Int32))) (fun h => by rw [Bd.returns] at h; cases h)
                  refine ⟨_, _, pre76 _ ?_, hrun, hended, _, _, rfl, ?_, ⟨_, rfl⟩, hW, hsame.mono (by decide) (by decide)⟩
                  · exact retI X0 hx Bd.returns (hb hby d2_81) hr
                  · show Q_rm_next Z ra xi ki xs h0 n0 _ s₁.heap _
                    rw [e0]
                    exact ⟨congrArg (fun z => some (Value.int z)) (show (-1 : Int32) = (F_rm_next xi xs) from by rw [F_rm_next, if_pos hc2, if_neg hc11, if_neg hc18, if_pos hc34, if_neg hc43, if_neg hc50, if_pos hc66, if_neg hc75]), N0, rfl⟩
              · have pre77 : ∀ t, Steps p.tables e below (s₁.setTop (mkF m 81 #[.val (.ref ra), .val (.int xi)] [(.int (-1 : Int32))])) t → Steps p.tables e below (s₁.setTop (entryFrame m #[(.ref ra), (.int xi)] 2)) t := by
                  intro t k
                  refine pre71 t ?_
                  refine XS.icmpYes X0.here hx rfl (pc0 := 66) (pc' := 80) rfl (hb hby d2_66) rfl (flt hc66).2.1 (by decide) (by decide) ?_
                  show Steps p.tables e below (s₁.setTop (mkF m 80 #[.val (.ref ra), .val (.int xi)] [])) _
                  refine XS.iconst X0.here hx rfl (hb hby d2_80) ?_
                  show Steps p.tables e below (s₁.setTop (mkF m 81 #[.val (.ref ra), .val (.int xi)] [(.int (-1 : Int32))])) _
                  exact k
                obtain ⟨fs, hr, hrun, hended, hW, hsame⟩ := X0.leave (v := some (.int (-1 : Int32))) (fun h => by rw [Bd.returns] at h; cases h)
                refine ⟨_, _, pre77 _ ?_, hrun, hended, _, _, rfl, ?_, ⟨_, rfl⟩, hW, hsame.mono (by decide) (by decide)⟩
                · exact retI X0 hx Bd.returns (hb hby d2_81) hr
                · show Q_rm_next Z ra xi ki xs h0 n0 _ s₁.heap _
                  rw [e0]
                  exact ⟨congrArg (fun z => some (Value.int z)) (show (-1 : Int32) = (F_rm_next xi xs) from by rw [F_rm_next, if_pos hc2, if_neg hc11, if_neg hc18, if_pos hc34, if_neg hc43, if_neg hc50, if_neg hc66]), N0, rfl⟩
        · have pre78 : ∀ t, Steps p.tables e below (s₁.setTop (mkF m 50 #[.val (.ref ra), .val (.int xi)] [(.int (4 : Int32)), (.int xi)])) t → Steps p.tables e below (s₁.setTop (entryFrame m #[(.ref ra), (.int xi)] 2)) t := by
            intro t k
            refine pre54 t ?_
            refine XS.icmpYes X0.here hx rfl (pc0 := 34) (pc' := 48) rfl (hb hby d2_34) rfl (flt hc34).2.1 (by decide) (by decide) ?_
            show Steps p.tables e below (s₁.setTop (mkF m 48 #[.val (.ref ra), .val (.int xi)] [])) _
            refine XS.iloadN X0.here hx rfl (hb hby d2_48) rfl ?_
            show Steps p.tables e below (s₁.setTop (mkF m 49 #[.val (.ref ra), .val (.int xi)] [(.int xi)])) _
            refine XS.iconst X0.here hx rfl (hb hby d2_49) ?_
            show Steps p.tables e below (s₁.setTop (mkF m 50 #[.val (.ref ra), .val (.int xi)] [(.int (4 : Int32)), (.int xi)])) _
            exact k
          by_cases hc50 : xi < (4 : Int32)
          · have pre81 : ∀ t, Steps p.tables e below (s₁.setTop (mkF m 59 #[.val (.ref ra), .val (.int xi)] [(.int (own_at xs xi)), (.int (own_at xs (4 : Int32)))])) t → Steps p.tables e below (s₁.setTop (entryFrame m #[(.ref ra), (.int xi)] 2)) t := by
              intro t k
              refine pre78 t ?_
              refine XS.icmpNo X0.here hx rfl (hb hby d2_50) rfl (tlt hc50).2.1 ?_
              show Steps p.tables e below (s₁.setTop (mkF m 53 #[.val (.ref ra), .val (.int xi)] [])) _
              refine XS.aloadN X0.here hx rfl (hb hby d2_53) rfl rfl ?_
              show Steps p.tables e below (s₁.setTop (mkF m 54 #[.val (.ref ra), .val (.int xi)] [(.ref ra)])) _
              refine XS.iconst X0.here hx rfl (hb hby d2_54) ?_
              show Steps p.tables e below (s₁.setTop (mkF m 55 #[.val (.ref ra), .val (.int xi)] [(.int (4 : Int32)), (.ref ra)])) _
              obtain ⟨c79, a79, q79, s79, m79, i79, u79⟩ := id V1
              have hin79 := inb_of (j := (4 : Int32)) s79 (by decide)
              refine X0.iaload hx (j := (4 : Int32)) (v := (.int (own_at xs (4 : Int32)))) (by rw [e0]; exact a79.1) (State.isArrayOf_alike hZ.alike a79.2.1) a79.2.2 hin79 (i79.at hin79 (own_getD xs _)) (g := (mkF m 55 #[.val (.ref ra), .val (.int xi)] [(.int (4 : Int32)), (.ref ra)])) rfl rfl (hb hby d2_55) _ ?_
              show Steps p.tables e below (s₁.setTop (mkF m 56 #[.val (.ref ra), .val (.int xi)] [(.int (own_at xs (4 : Int32)))])) _
              refine XS.aloadN X0.here hx rfl (hb hby d2_56) rfl rfl ?_
              show Steps p.tables e below (s₁.setTop (mkF m 57 #[.val (.ref ra), .val (.int xi)] [(.ref ra), (.int (own_at xs (4 : Int32)))])) _
              refine XS.iloadN X0.here hx rfl (hb hby d2_57) rfl ?_
              show Steps p.tables e below (s₁.setTop (mkF m 58 #[.val (.ref ra), .val (.int xi)] [(.int xi), (.ref ra), (.int (own_at xs (4 : Int32)))])) _
              obtain ⟨c80, a80, q80, s80, m80, i80, u80⟩ := id V1
              have hin80 := inb_of (j := xi) s80 hi
              refine X0.iaload hx (j := xi) (v := (.int (own_at xs xi))) (by rw [e0]; exact a80.1) (State.isArrayOf_alike hZ.alike a80.2.1) a80.2.2 hin80 (i80.at hin80 (own_getD xs _)) (g := (mkF m 58 #[.val (.ref ra), .val (.int xi)] [(.int xi), (.ref ra), (.int (own_at xs (4 : Int32)))])) rfl rfl (hb hby d2_58) _ ?_
              show Steps p.tables e below (s₁.setTop (mkF m 59 #[.val (.ref ra), .val (.int xi)] [(.int (own_at xs xi)), (.int (own_at xs (4 : Int32)))])) _
              exact k
            by_cases hc59 : (own_at xs (4 : Int32)) = (own_at xs xi)
            · have pre82 : ∀ t, Steps p.tables e below (s₁.setTop (mkF m 63 #[.val (.ref ra), .val (.int xi)] [(.int (4 : Int32))])) t → Steps p.tables e below (s₁.setTop (entryFrame m #[(.ref ra), (.int xi)] 2)) t := by
                intro t k
                refine pre81 t ?_
                refine XS.icmpNo X0.here hx rfl (hb hby d2_59) rfl (teq hc59).2 ?_
                show Steps p.tables e below (s₁.setTop (mkF m 62 #[.val (.ref ra), .val (.int xi)] [])) _
                refine XS.iconst X0.here hx rfl (hb hby d2_62) ?_
                show Steps p.tables e below (s₁.setTop (mkF m 63 #[.val (.ref ra), .val (.int xi)] [(.int (4 : Int32))])) _
                exact k
              obtain ⟨fs, hr, hrun, hended, hW, hsame⟩ := X0.leave (v := some (.int (4 : Int32))) (fun h => by rw [Bd.returns] at h; cases h)
              refine ⟨_, _, pre82 _ ?_, hrun, hended, _, _, rfl, ?_, ⟨_, rfl⟩, hW, hsame.mono (by decide) (by decide)⟩
              · exact retI X0 hx Bd.returns (hb hby d2_63) hr
              · show Q_rm_next Z ra xi ki xs h0 n0 _ s₁.heap _
                rw [e0]
                exact ⟨congrArg (fun z => some (Value.int z)) (show (4 : Int32) = (F_rm_next xi xs) from by rw [F_rm_next, if_pos hc2, if_neg hc11, if_neg hc18, if_neg hc34, if_pos hc50, if_pos hc59]), N0, rfl⟩
            · have pre83 : ∀ t, Steps p.tables e below (s₁.setTop (mkF m 66 #[.val (.ref ra), .val (.int xi)] [(.int (5 : Int32)), (.int xi)])) t → Steps p.tables e below (s₁.setTop (entryFrame m #[(.ref ra), (.int xi)] 2)) t := by
                intro t k
                refine pre81 t ?_
                refine XS.icmpYes X0.here hx rfl (pc0 := 59) (pc' := 64) rfl (hb hby d2_59) rfl (feq hc59).2 (by decide) (by decide) ?_
                show Steps p.tables e below (s₁.setTop (mkF m 64 #[.val (.ref ra), .val (.int xi)] [])) _
                refine XS.iloadN X0.here hx rfl (hb hby d2_64) rfl ?_
                show Steps p.tables e below (s₁.setTop (mkF m 65 #[.val (.ref ra), .val (.int xi)] [(.int xi)])) _
                refine XS.iconst X0.here hx rfl (hb hby d2_65) ?_
                show Steps p.tables e below (s₁.setTop (mkF m 66 #[.val (.ref ra), .val (.int xi)] [(.int (5 : Int32)), (.int xi)])) _
                exact k
              by_cases hc66 : xi < (5 : Int32)
              · have pre86 : ∀ t, Steps p.tables e below (s₁.setTop (mkF m 75 #[.val (.ref ra), .val (.int xi)] [(.int (own_at xs xi)), (.int (own_at xs (5 : Int32)))])) t → Steps p.tables e below (s₁.setTop (entryFrame m #[(.ref ra), (.int xi)] 2)) t := by
                  intro t k
                  refine pre83 t ?_
                  refine XS.icmpNo X0.here hx rfl (hb hby d2_66) rfl (tlt hc66).2.1 ?_
                  show Steps p.tables e below (s₁.setTop (mkF m 69 #[.val (.ref ra), .val (.int xi)] [])) _
                  refine XS.aloadN X0.here hx rfl (hb hby d2_69) rfl rfl ?_
                  show Steps p.tables e below (s₁.setTop (mkF m 70 #[.val (.ref ra), .val (.int xi)] [(.ref ra)])) _
                  refine XS.iconst X0.here hx rfl (hb hby d2_70) ?_
                  show Steps p.tables e below (s₁.setTop (mkF m 71 #[.val (.ref ra), .val (.int xi)] [(.int (5 : Int32)), (.ref ra)])) _
                  obtain ⟨c84, a84, q84, s84, m84, i84, u84⟩ := id V1
                  have hin84 := inb_of (j := (5 : Int32)) s84 (by decide)
                  refine X0.iaload hx (j := (5 : Int32)) (v := (.int (own_at xs (5 : Int32)))) (by rw [e0]; exact a84.1) (State.isArrayOf_alike hZ.alike a84.2.1) a84.2.2 hin84 (i84.at hin84 (own_getD xs _)) (g := (mkF m 71 #[.val (.ref ra), .val (.int xi)] [(.int (5 : Int32)), (.ref ra)])) rfl rfl (hb hby d2_71) _ ?_
                  show Steps p.tables e below (s₁.setTop (mkF m 72 #[.val (.ref ra), .val (.int xi)] [(.int (own_at xs (5 : Int32)))])) _
                  refine XS.aloadN X0.here hx rfl (hb hby d2_72) rfl rfl ?_
                  show Steps p.tables e below (s₁.setTop (mkF m 73 #[.val (.ref ra), .val (.int xi)] [(.ref ra), (.int (own_at xs (5 : Int32)))])) _
                  refine XS.iloadN X0.here hx rfl (hb hby d2_73) rfl ?_
                  show Steps p.tables e below (s₁.setTop (mkF m 74 #[.val (.ref ra), .val (.int xi)] [(.int xi), (.ref ra), (.int (own_at xs (5 : Int32)))])) _
                  obtain ⟨c85, a85, q85, s85, m85, i85, u85⟩ := id V1
                  have hin85 := inb_of (j := xi) s85 hi
                  refine X0.iaload hx (j := xi) (v := (.int (own_at xs xi))) (by rw [e0]; exact a85.1) (State.isArrayOf_alike hZ.alike a85.2.1) a85.2.2 hin85 (i85.at hin85 (own_getD xs _)) (g := (mkF m 74 #[.val (.ref ra), .val (.int xi)] [(.int xi), (.ref ra), (.int (own_at xs (5 : Int32)))])) rfl rfl (hb hby d2_74) _ ?_
                  show Steps p.tables e below (s₁.setTop (mkF m 75 #[.val (.ref ra), .val (.int xi)] [(.int (own_at xs xi)), (.int (own_at xs (5 : Int32)))])) _
                  exact k
                by_cases hc75 : (own_at xs (5 : Int32)) = (own_at xs xi)
                · have pre87 : ∀ t, Steps p.tables e below (s₁.setTop (mkF m 79 #[.val (.ref ra), .val (.int xi)] [(.int (5 : Int32))])) t → Steps p.tables e below (s₁.setTop (entryFrame m #[(.ref ra), (.int xi)] 2)) t := by
                    intro t k
                    refine pre86 t ?_
                    refine XS.icmpNo X0.here hx rfl (hb hby d2_75) rfl (teq hc75).2 ?_
                    show Steps p.tables e below (s₁.setTop (mkF m 78 #[.val (.ref ra), .val (.int xi)] [])) _
                    refine XS.iconst X0.here hx rfl (hb hby d2_78) ?_
                    show Steps p.tables e below (s₁.setTop (mkF m 79 #[.val (.ref ra), .val (.int xi)] [(.int (5 : Int32))])) _
                    exact k
                  obtain ⟨fs, hr, hrun, hended, hW, hsame⟩ := X0.leave (v := some (.int (5 : Int32))) (fun h => by rw [Bd.returns] at h; cases h)
                  refine ⟨_, _, pre87 _ ?_, hrun, hended, _, _, rfl, ?_, ⟨_, rfl⟩, hW, hsame.mono (by decide) (by decide)⟩
                  · exact retI X0 hx Bd.returns (hb hby d2_79) hr
                  · show Q_rm_next Z ra xi ki xs h0 n0 _ s₁.heap _
                    rw [e0]
                    exact ⟨congrArg (fun z => some (Value.int z)) (show (5 : Int32) = (F_rm_next xi xs) from by rw [F_rm_next, if_pos hc2, if_neg hc11, if_neg hc18, if_neg hc34, if_pos hc50, if_neg hc59, if_pos hc66, if_pos hc75]), N0, rfl⟩
                · have pre88 : ∀ t, Steps p.tables e below (s₁.setTop (mkF m 81 #[.val (.ref ra), .val (.int xi)] [(.int (-1 : Int32))])) t → Steps p.tables e below (s₁.setTop (entryFrame m #[(.ref ra), (.int xi)] 2)) t := by
                    intro t k
                    refine pre86 t ?_
                    refine XS.icmpYes X0.here hx rfl (pc0 := 75) (pc' := 80) rfl (hb hby d2_75) rfl (feq hc75).2 (by decide) (by decide) ?_
                    show Steps p.tables e below (s₁.setTop (mkF m 80 #[.val (.ref ra), .val (.int xi)] [])) _
                    refine XS.iconst X0.here hx rfl (hb hby d2_80) ?_
                    show Steps p.tables e below (s₁.setTop (mkF m 81 #[.val (.ref ra), .val (.int xi)] [(.int (-1 : Int32))])) _
                    exact k
                  obtain ⟨fs, hr, hrun, hended, hW, hsame⟩ := X0.leave (v := some (.int (-1 : Int32))) (fun h => by rw [Bd.returns] at h; cases h)
                  refine ⟨_, _, pre88 _ ?_, hrun, hended, _, _, rfl, ?_, ⟨_, rfl⟩, hW, hsame.mono (by decide) (by decide)⟩
                  · exact retI X0 hx Bd.returns (hb hby d2_81) hr
                  · show Q_rm_next Z ra xi ki xs h0 n0 _ s₁.heap _
                    rw [e0]
                    exact ⟨congrArg (fun z => some (Value.int z)) (show (-1 : Int32) = (F_rm_next xi xs) from by rw [F_rm_next, if_pos hc2, if_neg hc11, if_neg hc18, if_neg hc34, if_pos hc50, if_neg hc59, if_pos hc66, if_neg hc75]), N0, rfl⟩
              · have pre89 : ∀ t, Steps p.tables e below (s₁.setTop (mkF m 81 #[.val (.ref ra), .val (.int xi)] [(.int (-1 : Int32))])) t → Steps p.tables e below (s₁.setTop (entryFrame m #[(.ref ra), (.int xi)] 2)) t := by
                  intro t k
                  refine pre83 t ?_
                  refine XS.icmpYes X0.here hx rfl (pc0 := 66) (pc' := 80) rfl (hb hby d2_66) rfl (flt hc66).2.1 (by decide) (by decide) ?_
                  show Steps p.tables e below (s₁.setTop (mkF m 80 #[.val (.ref ra), .val (.int xi)] [])) _
                  refine XS.iconst X0.here hx rfl (hb hby d2_80) ?_
                  show Steps p.tables e below (s₁.setTop (mkF m 81 #[.val (.ref ra), .val (.int xi)] [(.int (-1 : Int32))])) _
                  exact k
                obtain ⟨fs, hr, hrun, hended, hW, hsame⟩ := X0.leave (v := some (.int (-1 : Int32))) (fun h => by rw [Bd.returns] at h; cases h)
                refine ⟨_, _, pre89 _ ?_, hrun, hended, _, _, rfl, ?_, ⟨_, rfl⟩, hW, hsame.mono (by decide) (by decide)⟩
                · exact retI X0 hx Bd.returns (hb hby d2_81) hr
                · show Q_rm_next Z ra xi ki xs h0 n0 _ s₁.heap _
                  rw [e0]
                  exact ⟨congrArg (fun z => some (Value.int z)) (show (-1 : Int32) = (F_rm_next xi xs) from by rw [F_rm_next, if_pos hc2, if_neg hc11, if_neg hc18, if_neg hc34, if_pos hc50, if_neg hc59, if_neg hc66]), N0, rfl⟩
          · have pre90 : ∀ t, Steps p.tables e below (s₁.setTop (mkF m 66 #[.val (.ref ra), .val (.int xi)] [(.int (5 : Int32)), (.int xi)])) t → Steps p.tables e below (s₁.setTop (entryFrame m #[(.ref ra), (.int xi)] 2)) t := by
              intro t k
              refine pre78 t ?_
              refine XS.icmpYes X0.here hx rfl (pc0 := 50) (pc' := 64) rfl (hb hby d2_50) rfl (flt hc50).2.1 (by decide) (by decide) ?_
              show Steps p.tables e below (s₁.setTop (mkF m 64 #[.val (.ref ra), .val (.int xi)] [])) _
              refine XS.iloadN X0.here hx rfl (hb hby d2_64) rfl ?_
              show Steps p.tables e below (s₁.setTop (mkF m 65 #[.val (.ref ra), .val (.int xi)] [(.int xi)])) _
              refine XS.iconst X0.here hx rfl (hb hby d2_65) ?_
              show Steps p.tables e below (s₁.setTop (mkF m 66 #[.val (.ref ra), .val (.int xi)] [(.int (5 : Int32)), (.int xi)])) _
              exact k
            by_cases hc66 : xi < (5 : Int32)
            · have pre93 : ∀ t, Steps p.tables e below (s₁.setTop (mkF m 75 #[.val (.ref ra), .val (.int xi)] [(.int (own_at xs xi)), (.int (own_at xs (5 : Int32)))])) t → Steps p.tables e below (s₁.setTop (entryFrame m #[(.ref ra), (.int xi)] 2)) t := by
                intro t k
                refine pre90 t ?_
                refine XS.icmpNo X0.here hx rfl (hb hby d2_66) rfl (tlt hc66).2.1 ?_
                show Steps p.tables e below (s₁.setTop (mkF m 69 #[.val (.ref ra), .val (.int xi)] [])) _
                refine XS.aloadN X0.here hx rfl (hb hby d2_69) rfl rfl ?_
                show Steps p.tables e below (s₁.setTop (mkF m 70 #[.val (.ref ra), .val (.int xi)] [(.ref ra)])) _
                refine XS.iconst X0.here hx rfl (hb hby d2_70) ?_
                show Steps p.tables e below (s₁.setTop (mkF m 71 #[.val (.ref ra), .val (.int xi)] [(.int (5 : Int32)), (.ref ra)])) _
                obtain ⟨c91, a91, q91, s91, m91, i91, u91⟩ := id V1
                have hin91 := inb_of (j := (5 : Int32)) s91 (by decide)
                refine X0.iaload hx (j := (5 : Int32)) (v := (.int (own_at xs (5 : Int32)))) (by rw [e0]; exact a91.1) (State.isArrayOf_alike hZ.alike a91.2.1) a91.2.2 hin91 (i91.at hin91 (own_getD xs _)) (g := (mkF m 71 #[.val (.ref ra), .val (.int xi)] [(.int (5 : Int32)), (.ref ra)])) rfl rfl (hb hby d2_71) _ ?_
                show Steps p.tables e below (s₁.setTop (mkF m 72 #[.val (.ref ra), .val (.int xi)] [(.int (own_at xs (5 : Int32)))])) _
                refine XS.aloadN X0.here hx rfl (hb hby d2_72) rfl rfl ?_
                show Steps p.tables e below (s₁.setTop (mkF m 73 #[.val (.ref ra), .val (.int xi)] [(.ref ra), (.int (own_at xs (5 : Int32)))])) _
                refine XS.iloadN X0.here hx rfl (hb hby d2_73) rfl ?_
                show Steps p.tables e below (s₁.setTop (mkF m 74 #[.val (.ref ra), .val (.int xi)] [(.int xi), (.ref ra), (.int (own_at xs (5 : Int32)))])) _
                obtain ⟨c92, a92, q92, s92, m92, i92, u92⟩ := id V1
                have hin92 := inb_of (j := xi) s92 hi
                refine X0.iaload hx (j := xi) (v := (.int (own_at xs xi))) (by rw [e0]; exact a92.1) (State.isArrayOf_alike hZ.alike a92.2.1) a92.2.2 hin92 (i92.at hin92 (own_getD xs _)) (g := (mkF m 74 #[.val (.ref ra), .val (.int xi)] [(.int xi), (.ref ra), (.int (own_at xs (5 : Int32)))])) rfl rfl (hb hby d2_74) _ ?_
                show Steps p.tables e below (s₁.setTop (mkF m 75 #[.val (.ref ra), .val (.int xi)] [(.int (own_at xs xi)), (.int (own_at xs (5 : Int32)))])) _
                exact k
              by_cases hc75 : (own_at xs (5 : Int32)) = (own_at xs xi)
              · have pre94 : ∀ t, Steps p.tables e below (s₁.setTop (mkF m 79 #[.val (.ref ra), .val (.int xi)] [(.int (5 : Int32))])) t → Steps p.tables e below (s₁.setTop (entryFrame m #[(.ref ra), (.int xi)] 2)) t := by
                  intro t k
                  refine pre93 t ?_
                  refine XS.icmpNo X0.here hx rfl (hb hby d2_75) rfl (teq hc75).2 ?_
                  show Steps p.tables e below (s₁.setTop (mkF m 78 #[.val (.ref ra), .val (.int xi)] [])) _
                  refine XS.iconst X0.here hx rfl (hb hby d2_78) ?_
                  show Steps p.tables e below (s₁.setTop (mkF m 79 #[.val (.ref ra), .val (.int xi)] [(.int (5 : Int32))])) _
                  exact k
                obtain ⟨fs, hr, hrun, hended, hW, hsame⟩ := X0.leave (v := some (.int (5 : Int32))) (fun h => by rw [Bd.returns] at h; cases h)
                refine ⟨_, _, pre94 _ ?_, hrun, hended, _, _, rfl, ?_, ⟨_, rfl⟩, hW, hsame.mono (by decide) (by decide)⟩
                · exact retI X0 hx Bd.returns (hb hby d2_79) hr
                · show Q_rm_next Z ra xi ki xs h0 n0 _ s₁.heap _
                  rw [e0]
                  exact ⟨congrArg (fun z => some (Value.int z)) (show (5 : Int32) = (F_rm_next xi xs) from by rw [F_rm_next, if_pos hc2, if_neg hc11, if_neg hc18, if_neg hc34, if_neg hc50, if_pos hc66, if_pos hc75]), N0, rfl⟩
              · have pre95 : ∀ t, Steps p.tables e below (s₁.setTop (mkF m 81 #[.val (.ref ra), .val (.int xi)] [(.int (-1 : Int32))])) t → Steps p.tables e below (s₁.setTop (entryFrame m #[(.ref ra), (.int xi)] 2)) t := by
                  intro t k
                  refine pre93 t ?_
                  refine XS.icmpYes X0.here hx rfl (pc0 := 75) (pc' := 80) rfl (hb hby d2_75) rfl (feq hc75).2 (by decide) (by decide) ?_
                  show Steps p.tables e below (s₁.setTop (mkF m 80 #[.val (.ref ra), .val (.int xi)] [])) _
                  refine XS.iconst X0.here hx rfl (hb hby d2_80) ?_
                  show Steps p.tables e below (s₁.setTop (mkF m 81 #[.val (.ref ra), .val (.int xi)] [(.int (-1 : Int32))])) _
                  exact k
                obtain ⟨fs, hr, hrun, hended, hW, hsame⟩ := X0.leave (v := some (.int (-1 : Int32))) (fun h => by rw [Bd.returns] at h; cases h)
                refine ⟨_, _, pre95 _ ?_, hrun, hended, _, _, rfl, ?_, ⟨_, rfl⟩, hW, hsame.mono (by decide) (by decide)⟩
                · exact retI X0 hx Bd.returns (hb hby d2_81) hr
                · show Q_rm_next Z ra xi ki xs h0 n0 _ s₁.heap _
                  rw [e0]
                  exact ⟨congrArg (fun z => some (Value.int z)) (show (-1 : Int32) = (F_rm_next xi xs) from by rw [F_rm_next, if_pos hc2, if_neg hc11, if_neg hc18, if_neg hc34, if_neg hc50, if_pos hc66, if_neg hc75]), N0, rfl⟩
            · have pre96 : ∀ t, Steps p.tables e below (s₁.setTop (mkF m 81 #[.val (.ref ra), .val (.int xi)] [(.int (-1 : Int32))])) t → Steps p.tables e below (s₁.setTop (entryFrame m #[(.ref ra), (.int xi)] 2)) t := by
                intro t k
                refine pre90 t ?_
                refine XS.icmpYes X0.here hx rfl (pc0 := 66) (pc' := 80) rfl (hb hby d2_66) rfl (flt hc66).2.1 (by decide) (by decide) ?_
                show Steps p.tables e below (s₁.setTop (mkF m 80 #[.val (.ref ra), .val (.int xi)] [])) _
                refine XS.iconst X0.here hx rfl (hb hby d2_80) ?_
                show Steps p.tables e below (s₁.setTop (mkF m 81 #[.val (.ref ra), .val (.int xi)] [(.int (-1 : Int32))])) _
                exact k
              obtain ⟨fs, hr, hrun, hended, hW, hsame⟩ := X0.leave (v := some (.int (-1 : Int32))) (fun h => by rw [Bd.returns] at h; cases h)
              refine ⟨_, _, pre96 _ ?_, hrun, hended, _, _, rfl, ?_, ⟨_, rfl⟩, hW, hsame.mono (by decide) (by decide)⟩
              · exact retI X0 hx Bd.returns (hb hby d2_81) hr
              · show Q_rm_next Z ra xi ki xs h0 n0 _ s₁.heap _
                rw [e0]
                exact ⟨congrArg (fun z => some (Value.int z)) (show (-1 : Int32) = (F_rm_next xi xs) from by rw [F_rm_next, if_pos hc2, if_neg hc11, if_neg hc18, if_neg hc34, if_neg hc50, if_neg hc66]), N0, rfl⟩
  · have pre97 : ∀ t, Steps p.tables e below (s₁.setTop (mkF m 18 #[.val (.ref ra), .val (.int xi)] [(.int (2 : Int32)), (.int xi)])) t → Steps p.tables e below (s₁.setTop (entryFrame m #[(.ref ra), (.int xi)] 2)) t := by
      intro t k
      refine pre1 t ?_
      refine XS.icmpYes X0.here hx rfl (pc0 := 2) (pc' := 16) rfl (hb hby d2_2) rfl (flt hc2).2.1 (by decide) (by decide) ?_
      show Steps p.tables e below (s₁.setTop (mkF m 16 #[.val (.ref ra), .val (.int xi)] [])) _
      refine XS.iloadN X0.here hx rfl (hb hby d2_16) rfl ?_
      show Steps p.tables e below (s₁.setTop (mkF m 17 #[.val (.ref ra), .val (.int xi)] [(.int xi)])) _
      refine XS.iconst X0.here hx rfl (hb hby d2_17) ?_
      show Steps p.tables e below (s₁.setTop (mkF m 18 #[.val (.ref ra), .val (.int xi)] [(.int (2 : Int32)), (.int xi)])) _
      exact k
    by_cases hc18 : xi < (2 : Int32)
    · have pre100 : ∀ t, Steps p.tables e below (s₁.setTop (mkF m 27 #[.val (.ref ra), .val (.int xi)] [(.int (own_at xs xi)), (.int (own_at xs (2 : Int32)))])) t → Steps p.tables e below (s₁.setTop (entryFrame m #[(.ref ra), (.int xi)] 2)) t := by
        intro t k
        refine pre97 t ?_
        refine XS.icmpNo X0.here hx rfl (hb hby d2_18) rfl (tlt hc18).2.1 ?_
        show Steps p.tables e below (s₁.setTop (mkF m 21 #[.val (.ref ra), .val (.int xi)] [])) _
        refine XS.aloadN X0.here hx rfl (hb hby d2_21) rfl rfl ?_
        show Steps p.tables e below (s₁.setTop (mkF m 22 #[.val (.ref ra), .val (.int xi)] [(.ref ra)])) _
        refine XS.iconst X0.here hx rfl (hb hby d2_22) ?_
        show Steps p.tables e below (s₁.setTop (mkF m 23 #[.val (.ref ra), .val (.int xi)] [(.int (2 : Int32)), (.ref ra)])) _
        obtain ⟨c98, a98, q98, s98, m98, i98, u98⟩ := id V1
        have hin98 := inb_of (j := (2 : Int32)) s98 (by decide)
        refine X0.iaload hx (j := (2 : Int32)) (v := (.int (own_at xs (2 : Int32)))) (by rw [e0]; exact a98.1) (State.isArrayOf_alike hZ.alike a98.2.1) a98.2.2 hin98 (i98.at hin98 (own_getD xs _)) (g := (mkF m 23 #[.val (.ref ra), .val (.int xi)] [(.int (2 : Int32)), (.ref ra)])) rfl rfl (hb hby d2_23) _ ?_
        show Steps p.tables e below (s₁.setTop (mkF m 24 #[.val (.ref ra), .val (.int xi)] [(.int (own_at xs (2 : Int32)))])) _
        refine XS.aloadN X0.here hx rfl (hb hby d2_24) rfl rfl ?_
        show Steps p.tables e below (s₁.setTop (mkF m 25 #[.val (.ref ra), .val (.int xi)] [(.ref ra), (.int (own_at xs (2 : Int32)))])) _
        refine XS.iloadN X0.here hx rfl (hb hby d2_25) rfl ?_
        show Steps p.tables e below (s₁.setTop (mkF m 26 #[.val (.ref ra), .val (.int xi)] [(.int xi), (.ref ra), (.int (own_at xs (2 : Int32)))])) _
        obtain ⟨c99, a99, q99, s99, m99, i99, u99⟩ := id V1
        have hin99 := inb_of (j := xi) s99 hi
        refine X0.iaload hx (j := xi) (v := (.int (own_at xs xi))) (by rw [e0]; exact a99.1) (State.isArrayOf_alike hZ.alike a99.2.1) a99.2.2 hin99 (i99.at hin99 (own_getD xs _)) (g := (mkF m 26 #[.val (.ref ra), .val (.int xi)] [(.int xi), (.ref ra), (.int (own_at xs (2 : Int32)))])) rfl rfl (hb hby d2_26) _ ?_
        show Steps p.tables e below (s₁.setTop (mkF m 27 #[.val (.ref ra), .val (.int xi)] [(.int (own_at xs xi)), (.int (own_at xs (2 : Int32)))])) _
        exact k
      by_cases hc27 : (own_at xs (2 : Int32)) = (own_at xs xi)
      · have pre101 : ∀ t, Steps p.tables e below (s₁.setTop (mkF m 31 #[.val (.ref ra), .val (.int xi)] [(.int (2 : Int32))])) t → Steps p.tables e below (s₁.setTop (entryFrame m #[(.ref ra), (.int xi)] 2)) t := by
          intro t k
          refine pre100 t ?_
          refine XS.icmpNo X0.here hx rfl (hb hby d2_27) rfl (teq hc27).2 ?_
          show Steps p.tables e below (s₁.setTop (mkF m 30 #[.val (.ref ra), .val (.int xi)] [])) _
          refine XS.iconst X0.here hx rfl (hb hby d2_30) ?_
          show Steps p.tables e below (s₁.setTop (mkF m 31 #[.val (.ref ra), .val (.int xi)] [(.int (2 : Int32))])) _
          exact k
        obtain ⟨fs, hr, hrun, hended, hW, hsame⟩ := X0.leave (v := some (.int (2 : Int32))) (fun h => by rw [Bd.returns] at h; cases h)
        refine ⟨_, _, pre101 _ ?_, hrun, hended, _, _, rfl, ?_, ⟨_, rfl⟩, hW, hsame.mono (by decide) (by decide)⟩
        · exact retI X0 hx Bd.returns (hb hby d2_31) hr
        · show Q_rm_next Z ra xi ki xs h0 n0 _ s₁.heap _
          rw [e0]
          exact ⟨congrArg (fun z => some (Value.int z)) (show (2 : Int32) = (F_rm_next xi xs) from by rw [F_rm_next, if_neg hc2, if_pos hc18, if_pos hc27]), N0, rfl⟩
      · have pre102 : ∀ t, Steps p.tables e below (s₁.setTop (mkF m 34 #[.val (.ref ra), .val (.int xi)] [(.int (3 : Int32)), (.int xi)])) t → Steps p.tables e below (s₁.setTop (entryFrame m #[(.ref ra), (.int xi)] 2)) t := by
          intro t k
          refine pre100 t ?_
          refine XS.icmpYes X0.here hx rfl (pc0 := 27) (pc' := 32) rfl (hb hby d2_27) rfl (feq hc27).2 (by decide) (by decide) ?_
          show Steps p.tables e below (s₁.setTop (mkF m 32 #[.val (.ref ra), .val (.int xi)] [])) _
          refine XS.iloadN X0.here hx rfl (hb hby d2_32) rfl ?_
          show Steps p.tables e below (s₁.setTop (mkF m 33 #[.val (.ref ra), .val (.int xi)] [(.int xi)])) _
          refine XS.iconst X0.here hx rfl (hb hby d2_33) ?_
          show Steps p.tables e below (s₁.setTop (mkF m 34 #[.val (.ref ra), .val (.int xi)] [(.int (3 : Int32)), (.int xi)])) _
          exact k
        by_cases hc34 : xi < (3 : Int32)
        · have pre105 : ∀ t, Steps p.tables e below (s₁.setTop (mkF m 43 #[.val (.ref ra), .val (.int xi)] [(.int (own_at xs xi)), (.int (own_at xs (3 : Int32)))])) t → Steps p.tables e below (s₁.setTop (entryFrame m #[(.ref ra), (.int xi)] 2)) t := by
            intro t k
            refine pre102 t ?_
            refine XS.icmpNo X0.here hx rfl (hb hby d2_34) rfl (tlt hc34).2.1 ?_
            show Steps p.tables e below (s₁.setTop (mkF m 37 #[.val (.ref ra), .val (.int xi)] [])) _
            refine XS.aloadN X0.here hx rfl (hb hby d2_37) rfl rfl ?_
            show Steps p.tables e below (s₁.setTop (mkF m 38 #[.val (.ref ra), .val (.int xi)] [(.ref ra)])) _
            refine XS.iconst X0.here hx rfl (hb hby d2_38) ?_
            show Steps p.tables e below (s₁.setTop (mkF m 39 #[.val (.ref ra), .val (.int xi)] [(.int (3 : Int32)), (.ref ra)])) _
            obtain ⟨c103, a103, q103, s103, m103, i103, u103⟩ := id V1
            have hin103 := inb_of (j := (3 : Int32)) s103 (by decide)
            refine X0.iaload hx (j := (3 : Int32)) (v := (.int (own_at xs (3 : Int32)))) (by rw [e0]; exact a103.1) (State.isArrayOf_alike hZ.alike a103.2.1) a103.2.2 hin103 (i103.at hin103 (own_getD xs _)) (g := (mkF m 39 #[.val (.ref ra), .val (.int xi)] [(.int (3 : Int32)), (.ref ra)])) rfl rfl (hb hby d2_39) _ ?_
            show Steps p.tables e below (s₁.setTop (mkF m 40 #[.val (.ref ra), .val (.int xi)] [(.int (own_at xs (3 : Int32)))])) _
            refine XS.aloadN X0.here hx rfl (hb hby d2_40) rfl rfl ?_
            show Steps p.tables e below (s₁.setTop (mkF m 41 #[.val (.ref ra), .val (.int xi)] [(.ref ra), (.int (own_at xs (3 : Int32)))])) _
            refine XS.iloadN X0.here hx rfl (hb hby d2_41) rfl ?_
            show Steps p.tables e below (s₁.setTop (mkF m 42 #[.val (.ref ra), .val (.int xi)] [(.int xi), (.ref ra), (.int (own_at xs (3 : Int32)))])) _
            obtain ⟨c104, a104, q104, s104, m104, i104, u104⟩ := id V1
            have hin104 := inb_of (j := xi) s104 hi
            refine X0.iaload hx (j := xi) (v := (.int (own_at xs xi))) (by rw [e0]; exact a104.1) (State.isArrayOf_alike hZ.alike a104.2.1) a104.2.2 hin104 (i104.at hin104 (own_getD xs _)) (g := (mkF m 42 #[.val (.ref ra), .val (.int xi)] [(.int xi), (.ref ra), (.int (own_at xs (3 : Int32)))])) rfl rfl (hb hby d2_42) _ ?_
            show Steps p.tables e below (s₁.setTop (mkF m 43 #[.val (.ref ra), .val (.int xi)] [(.int (own_at xs xi)), (.int (own_at xs (3 : Int32)))])) _
            exact k
          by_cases hc43 : (own_at xs (3 : Int32)) = (own_at xs xi)
          · have pre106 : ∀ t, Steps p.tables e below (s₁.setTop (mkF m 47 #[.val (.ref ra), .val (.int xi)] [(.int (3 : Int32))])) t → Steps p.tables e below (s₁.setTop (entryFrame m #[(.ref ra), (.int xi)] 2)) t := by
              intro t k
              refine pre105 t ?_
              refine XS.icmpNo X0.here hx rfl (hb hby d2_43) rfl (teq hc43).2 ?_
              show Steps p.tables e below (s₁.setTop (mkF m 46 #[.val (.ref ra), .val (.int xi)] [])) _
              refine XS.iconst X0.here hx rfl (hb hby d2_46) ?_
              show Steps p.tables e below (s₁.setTop (mkF m 47 #[.val (.ref ra), .val (.int xi)] [(.int (3 : Int32))])) _
              exact k
            obtain ⟨fs, hr, hrun, hended, hW, hsame⟩ := X0.leave (v := some (.int (3 : Int32))) (fun h => by rw [Bd.returns] at h; cases h)
            refine ⟨_, _, pre106 _ ?_, hrun, hended, _, _, rfl, ?_, ⟨_, rfl⟩, hW, hsame.mono (by decide) (by decide)⟩
            · exact retI X0 hx Bd.returns (hb hby d2_47) hr
            · show Q_rm_next Z ra xi ki xs h0 n0 _ s₁.heap _
              rw [e0]
              exact ⟨congrArg (fun z => some (Value.int z)) (show (3 : Int32) = (F_rm_next xi xs) from by rw [F_rm_next, if_neg hc2, if_pos hc18, if_neg hc27, if_pos hc34, if_pos hc43]), N0, rfl⟩
          · have pre107 : ∀ t, Steps p.tables e below (s₁.setTop (mkF m 50 #[.val (.ref ra), .val (.int xi)] [(.int (4 : Int32)), (.int xi)])) t → Steps p.tables e below (s₁.setTop (entryFrame m #[(.ref ra), (.int xi)] 2)) t := by
              intro t k
              refine pre105 t ?_
              refine XS.icmpYes X0.here hx rfl (pc0 := 43) (pc' := 48) rfl (hb hby d2_43) rfl (feq hc43).2 (by decide) (by decide) ?_
              show Steps p.tables e below (s₁.setTop (mkF m 48 #[.val (.ref ra), .val (.int xi)] [])) _
              refine XS.iloadN X0.here hx rfl (hb hby d2_48) rfl ?_
              show Steps p.tables e below (s₁.setTop (mkF m 49 #[.val (.ref ra), .val (.int xi)] [(.int xi)])) _
              refine XS.iconst X0.here hx rfl (hb hby d2_49) ?_
              show Steps p.tables e below (s₁.setTop (mkF m 50 #[.val (.ref ra), .val (.int xi)] [(.int (4 : Int32)), (.int xi)])) _
              exact k
            by_cases hc50 : xi < (4 : Int32)
            · have pre110 : ∀ t, Steps p.tables e below (s₁.setTop (mkF m 59 #[.val (.ref ra), .val (.int xi)] [(.int (own_at xs xi)), (.int (own_at xs (4 : Int32)))])) t → Steps p.tables e below (s₁.setTop (entryFrame m #[(.ref ra), (.int xi)] 2)) t := by
                intro t k
                refine pre107 t ?_
                refine XS.icmpNo X0.here hx rfl (hb hby d2_50) rfl (tlt hc50).2.1 ?_
                show Steps p.tables e below (s₁.setTop (mkF m 53 #[.val (.ref ra), .val (.int xi)] [])) _
                refine XS.aloadN X0.here hx rfl (hb hby d2_53) rfl rfl ?_
                show Steps p.tables e below (s₁.setTop (mkF m 54 #[.val (.ref ra), .val (.int xi)] [(.ref ra)])) _
                refine XS.iconst X0.here hx rfl (hb hby d2_54) ?_
                show Steps p.tables e below (s₁.setTop (mkF m 55 #[.val (.ref ra), .val (.int xi)] [(.int (4 : Int32)), (.ref ra)])) _
                obtain ⟨c108, a108, q108, s108, m108, i108, u108⟩ := id V1
                have hin108 := inb_of (j := (4 : Int32)) s108 (by decide)
                refine X0.iaload hx (j := (4 : Int32)) (v := (.int (own_at xs (4 : Int32)))) (by rw [e0]; exact a108.1) (State.isArrayOf_alike hZ.alike a108.2.1) a108.2.2 hin108 (i108.at hin108 (own_getD xs _)) (g := (mkF m 55 #[.val (.ref ra), .val (.int xi)] [(.int (4 : Int32)), (.ref ra)])) rfl rfl (hb hby d2_55) _ ?_
                show Steps p.tables e below (s₁.setTop (mkF m 56 #[.val (.ref ra), .val (.int xi)] [(.int (own_at xs (4 : Int32)))])) _
                refine XS.aloadN X0.here hx rfl (hb hby d2_56) rfl rfl ?_
                show Steps p.tables e below (s₁.setTop (mkF m 57 #[.val (.ref ra), .val (.int xi)] [(.ref ra), (.int (own_at xs (4 : Int32)))])) _
                refine XS.iloadN X0.here hx rfl (hb hby d2_57) rfl ?_
                show Steps p.tables e below (s₁.setTop (mkF m 58 #[.val (.ref ra), .val (.int xi)] [(.int xi), (.ref ra), (.int (own_at xs (4 : Int32)))])) _
                obtain ⟨c109, a109, q109, s109, m109, i109, u109⟩ := id V1
                have hin109 := inb_of (j := xi) s109 hi
                refine X0.iaload hx (j := xi) (v := (.int (own_at xs xi))) (by rw [e0]; exact a109.1) (State.isArrayOf_alike hZ.alike a109.2.1) a109.2.2 hin109 (i109.at hin109 (own_getD xs _)) (g := (mkF m 58 #[.val (.ref ra), .val (.int xi)] [(.int xi), (.ref ra), (.int (own_at xs (4 : Int32)))])) rfl rfl (hb hby d2_58) _ ?_
                show Steps p.tables e below (s₁.setTop (mkF m 59 #[.val (.ref ra), .val (.int xi)] [(.int (own_at xs xi)), (.int (own_at xs (4 : Int32)))])) _
                exact k
              by_cases hc59 : (own_at xs (4 : Int32)) = (own_at xs xi)
              · have pre111 : ∀ t, Steps p.tables e below (s₁.setTop (mkF m 63 #[.val (.ref ra), .val (.int xi)] [(.int (4 : Int32))])) t → Steps p.tables e below (s₁.setTop (entryFrame m #[(.ref ra), (.int xi)] 2)) t := by
                  intro t k
                  refine pre110 t ?_
                  refine XS.icmpNo X0.here hx rfl (hb hby d2_59) rfl (teq hc59).2 ?_
                  show Steps p.tables e below (s₁.setTop (mkF m 62 #[.val (.ref ra), .val (.int xi)] [])) _
                  refine XS.iconst X0.here hx rfl (hb hby d2_62) ?_
                  show Steps p.tables e below (s₁.setTop (mkF m 63 #[.val (.ref ra), .val (.int xi)] [(.int (4 : Int32))])) _
                  exact k
                obtain ⟨fs, hr, hrun, hended, hW, hsame⟩ := X0.leave (v := some (.int (4 : Int32))) (fun h => by rw [Bd.returns] at h; cases h)
                refine ⟨_, _, pre111 _ ?_, hrun, hended, _, _, rfl, ?_, ⟨_, rfl⟩, hW, hsame.mono (by decide) (by decide)⟩
                · exact retI X0 hx Bd.returns (hb hby d2_63) hr
                · show Q_rm_next Z ra xi ki xs h0 n0 _ s₁.heap _
                  rw [e0]
                  exact ⟨congrArg (fun z => some (Value.int z)) (show (4 : Int32) = (F_rm_next xi xs) from by rw [F_rm_next, if_neg hc2, if_pos hc18, if_neg hc27, if_pos hc34, if_neg hc43, if_pos hc50, if_pos hc59]), N0, rfl⟩
              · have pre112 : ∀ t, Steps p.tables e below (s₁.setTop (mkF m 66 #[.val (.ref ra), .val (.int xi)] [(.int (5 : Int32)), (.int xi)])) t → Steps p.tables e below (s₁.setTop (entryFrame m #[(.ref ra), (.int xi)] 2)) t := by
                  intro t k
                  refine pre110 t ?_
                  refine XS.icmpYes X0.here hx rfl (pc0 := 59) (pc' := 64) rfl (hb hby d2_59) rfl (feq hc59).2 (by decide) (by decide) ?_
                  show Steps p.tables e below (s₁.setTop (mkF m 64 #[.val (.ref ra), .val (.int xi)] [])) _
                  refine XS.iloadN X0.here hx rfl (hb hby d2_64) rfl ?_
                  show Steps p.tables e below (s₁.setTop (mkF m 65 #[.val (.ref ra), .val (.int xi)] [(.int xi)])) _
                  refine XS.iconst X0.here hx rfl (hb hby d2_65) ?_
                  show Steps p.tables e below (s₁.setTop (mkF m 66 #[.val (.ref ra), .val (.int xi)] [(.int (5 : Int32)), (.int xi)])) _
                  exact k
                by_cases hc66 : xi < (5 : Int32)
                · have pre115 : ∀ t, Steps p.tables e below (s₁.setTop (mkF m 75 #[.val (.ref ra), .val (.int xi)] [(.int (own_at xs xi)), (.int (own_at xs (5 : Int32)))])) t → Steps p.tables e below (s₁.setTop (entryFrame m #[(.ref ra), (.int xi)] 2)) t := by
                    intro t k
                    refine pre112 t ?_
                    refine XS.icmpNo X0.here hx rfl (hb hby d2_66) rfl (tlt hc66).2.1 ?_
                    show Steps p.tables e below (s₁.setTop (mkF m 69 #[.val (.ref ra), .val (.int xi)] [])) _
                    refine XS.aloadN X0.here hx rfl (hb hby d2_69) rfl rfl ?_
                    show Steps p.tables e below (s₁.setTop (mkF m 70 #[.val (.ref ra), .val (.int xi)] [(.ref ra)])) _
                    refine XS.iconst X0.here hx rfl (hb hby d2_70) ?_
                    show Steps p.tables e below (s₁.setTop (mkF m 71 #[.val (.ref ra), .val (.int xi)] [(.int (5 : Int32)), (.ref ra)])) _
                    obtain ⟨c113, a113, q113, s113, m113, i113, u113⟩ := id V1
                    have hin113 := inb_of (j := (5 : Int32)) s113 (by decide)
                    refine X0.iaload hx (j := (5 : Int32)) (v := (.int (own_at xs (5 : Int32)))) (by rw [e0]; exact a113.1) (State.isArrayOf_alike hZ.alike a113.2.1) a113.2.2 hin113 (i113.at hin113 (own_getD xs _)) (g := (mkF m 71 #[.val (.ref ra), .val (.int xi)] [(.int (5 : Int32)), (.ref ra)])) rfl rfl (hb hby d2_71) _ ?_
                    show Steps p.tables e below (s₁.setTop (mkF m 72 #[.val (.ref ra), .val (.int xi)] [(.int (own_at xs (5 : Int32)))])) _
                    refine XS.aloadN X0.here hx rfl (hb hby d2_72) rfl rfl ?_
                    show Steps p.tables e below (s₁.setTop (mkF m 73 #[.val (.ref ra), .val (.int xi)] [(.ref ra), (.int (own_at xs (5 : Int32)))])) _
                    refine XS.iloadN X0.here hx rfl (hb hby d2_73) rfl ?_
                    show Steps p.tables e below (s₁.setTop (mkF m 74 #[.val (.ref ra), .val (.int xi)] [(.int xi), (.ref ra), (.int (own_at xs (5 : Int32)))])) _
                    obtain ⟨c114, a114, q114, s114, m114, i114, u114⟩ := id V1
                    have hin114 := inb_of (j := xi) s114 hi
                    refine X0.iaload hx (j := xi) (v := (.int (own_at xs xi))) (by rw [e0]; exact a114.1) (State.isArrayOf_alike hZ.alike a114.2.1) a114.2.2 hin114 (i114.at hin114 (own_getD xs _)) (g := (mkF m 74 #[.val (.ref ra), .val (.int xi)] [(.int xi), (.ref ra), (.int (own_at xs (5 : Int32)))])) rfl rfl (hb hby d2_74) _ ?_
                    show Steps p.tables e below (s₁.setTop (mkF m 75 #[.val (.ref ra), .val (.int xi)] [(.int (own_at xs xi)), (.int (own_at xs (5 : Int32)))])) _
                    exact k
                  by_cases hc75 : (own_at xs (5 : Int32)) = (own_at xs xi)
                  · have pre116 : ∀ t, Steps p.tables e below (s₁.setTop (mkF m 79 #[.val (.ref ra), .val (.int xi)] [(.int (5 : Int32))])) t → Steps p.tables e below (s₁.setTop (entryFrame m #[(.ref ra), (.int xi)] 2)) t := by
                      intro t k
                      refine pre115 t ?_
                      refine XS.icmpNo X0.here hx rfl (hb hby d2_75) rfl (teq hc75).2 ?_
                      show Steps p.tables e below (s₁.setTop (mkF m 78 #[.val (.ref ra), .val (.int xi)] [])) _
                      refine XS.iconst X0.here hx rfl (hb hby d2_78) ?_
                      show Steps p.tables e below (s₁.setTop (mkF m 79 #[.val (.ref ra), .val (.int xi)] [(.int (5 : Int32))])) _
                      exact k
                    obtain ⟨fs, hr, hrun, hended, hW, hsame⟩ := X0.leave (v := some (.int (5 : Int32))) (fun h => by rw [Bd.returns] at h; cases h)
                    refine ⟨_, _, pre116 _ ?_, hrun, hended, _, _, rfl, ?_, ⟨_, rfl⟩, hW, hsame.mono (by decide) (by decide)⟩
                    · exact retI X0 hx Bd.returns (hb hby d2_79) hr
                    · show Q_rm_next Z ra xi ki xs h0 n0 _ s₁.heap _
                      rw [e0]
                      exact ⟨congrArg (fun z => some (Value.int z)) (show (5 : Int32) = (F_rm_next xi xs) from by rw [F_rm_next, if_neg hc2, if_pos hc18, if_neg hc27, if_pos hc34, if_neg hc43, if_pos hc50, if_neg hc59, if_pos hc66, if_pos hc75]), N0, rfl⟩
                  · have pre117 : ∀ t, Steps p.tables e below (s₁.setTop (mkF m 81 #[.val (.ref ra), .val (.int xi)] [(.int (-1 : Int32))])) t → Steps p.tables e below (s₁.setTop (entryFrame m #[(.ref ra), (.int xi)] 2)) t := by
                      intro t k
                      refine pre115 t ?_
                      refine XS.icmpYes X0.here hx rfl (pc0 := 75) (pc' := 80) rfl (hb hby d2_75) rfl (feq hc75).2 (by decide) (by decide) ?_
                      show Steps p.tables e below (s₁.setTop (mkF m 80 #[.val (.ref ra), .val (.int xi)] [])) _
                      refine XS.iconst X0.here hx rfl (hb hby d2_80) ?_
                      show Steps p.tables e below (s₁.setTop (mkF m 81 #[.val (.ref ra), .val (.int xi)] [(.int (-1 : Int32))])) _
                      exact k
                    obtain ⟨fs, hr, hrun, hended, hW, hsame⟩ := X0.leave (v := some (.int (-1 : Int32))) (fun h => by rw [Bd.returns] at h; cases h)
                    refine ⟨_, _, pre117 _ ?_, hrun, hended, _, _, rfl, ?_, ⟨_, rfl⟩, hW, hsame.mono (by decide) (by decide)⟩
                    · exact retI X0 hx Bd.returns (hb hby d2_81) hr
                    · show Q_rm_next Z ra xi ki xs h0 n0 _ s₁.heap _
                      rw [e0]
                      exact ⟨congrArg (fun z => some (Value.int z)) (show (-1 : Int32) = (F_rm_next xi xs) from by rw [F_rm_next, if_neg hc2, if_pos hc18, if_neg hc27, if_pos hc34, if_neg hc43, if_pos hc50, if_neg hc59, if_pos hc66, if_neg hc75]), N0, rfl⟩
                · have pre118 : ∀ t, Steps p.tables e below (s₁.setTop (mkF m 81 #[.val (.ref ra), .val (.int xi)] [(.int (-1 : Int32))])) t → Steps p.tables e below (s₁.setTop (entryFrame m #[(.ref ra), (.int xi)] 2)) t := by
                    intro t k
                    refine pre112 t ?_
                    refine XS.icmpYes X0.here hx rfl (pc0 := 66) (pc' := 80) rfl (hb hby d2_66) rfl (flt hc66).2.1 (by decide) (by decide) ?_
                    show Steps p.tables e below (s₁.setTop (mkF m 80 #[.val (.ref ra), .val (.int xi)] [])) _
                    refine XS.iconst X0.here hx rfl (hb hby d2_80) ?_
                    show Steps p.tables e below (s₁.setTop (mkF m 81 #[.val (.ref ra), .val (.int xi)] [(.int (-1 : Int32))])) _
                    exact k
                  obtain ⟨fs, hr, hrun, hended, hW, hsame⟩ := X0.leave (v := some (.int (-1 : Int32))) (fun h => by rw [Bd.returns] at h; cases h)
                  refine ⟨_, _, pre118 _ ?_, hrun, hended, _, _, rfl, ?_, ⟨_, rfl⟩, hW, hsame.mono (by decide) (by decide)⟩
                  · exact retI X0 hx Bd.returns (hb hby d2_81) hr
                  · show Q_rm_next Z ra xi ki xs h0 n0 _ s₁.heap _
                    rw [e0]
                    exact ⟨congrArg (fun z => some (Value.int z)) (show (-1 : Int32) = (F_rm_next xi xs) from by rw [F_rm_next, if_neg hc2, if_pos hc18, if_neg hc27, if_pos hc34, if_neg hc43, if_pos hc50, if_neg hc59, if_neg hc66]), N0, rfl⟩
            · have pre119 : ∀ t, Steps p.tables e below (s₁.setTop (mkF m 66 #[.val (.ref ra), .val (.int xi)] [(.int (5 : Int32)), (.int xi)])) t → Steps p.tables e below (s₁.setTop (entryFrame m #[(.ref ra), (.int xi)] 2)) t := by
                intro t k
                refine pre107 t ?_
                refine XS.icmpYes X0.here hx rfl (pc0 := 50) (pc' := 64) rfl (hb hby d2_50) rfl (flt hc50).2.1 (by decide) (by decide) ?_
                show Steps p.tables e below (s₁.setTop (mkF m 64 #[.val (.ref ra), .val (.int xi)] [])) _
                refine XS.iloadN X0.here hx rfl (hb hby d2_64) rfl ?_
                show Steps p.tables e below (s₁.setTop (mkF m 65 #[.val (.ref ra), .val (.int xi)] [(.int xi)])) _
                refine XS.iconst X0.here hx rfl (hb hby d2_65) ?_
                show Steps p.tables e below (s₁.setTop (mkF m 66 #[.val (.ref ra), .val (.int xi)] [(.int (5 : Int32)), (.int xi)])) _
                exact k
              by_cases hc66 : xi < (5 : Int32)
              · have pre122 : ∀ t, Steps p.tables e below (s₁.setTop (mkF m 75 #[.val (.ref ra), .val (.int xi)] [(.int (own_at xs xi)), (.int (own_at xs (5 : Int32)))])) t → Steps p.tables e below (s₁.setTop (entryFrame m #[(.ref ra), (.int xi)] 2)) t := by
                  intro t k
                  refine pre119 t ?_
                  refine XS.icmpNo X0.here hx rfl (hb hby d2_66) rfl (tlt hc66).2.1 ?_
                  show Steps p.tables e below (s₁.setTop (mkF m 69 #[.val (.ref ra), .val (.int xi)] [])) _
                  refine XS.aloadN X0.here hx rfl (hb hby d2_69) rfl rfl ?_
                  show Steps p.tables e below (s₁.setTop (mkF m 70 #[.val (.ref ra), .val (.int xi)] [(.ref ra)])) _
                  refine XS.iconst X0.here hx rfl (hb hby d2_70) ?_
                  show Steps p.tables e below (s₁.setTop (mkF m 71 #[.val (.ref ra), .val (.int xi)] [(.int (5 : Int32)), (.ref ra)])) _
                  obtain ⟨c120, a120, q120, s120, m120, i120, u120⟩ := id V1
                  have hin120 := inb_of (j := (5 : Int32)) s120 (by decide)
                  refine X0.iaload hx (j := (5 : Int32)) (v := (.int (own_at xs (5 : Int32)))) (by rw [e0]; exact a120.1) (State.isArrayOf_alike hZ.alike a120.2.1) a120.2.2 hin120 (i120.at hin120 (own_getD xs _)) (g := (mkF m 71 #[.val (.ref ra), .val (.int xi)] [(.int (5 : Int32)), (.ref ra)])) rfl rfl (hb hby d2_71) _ ?_
                  show Steps p.tables e below (s₁.setTop (mkF m 72 #[.val (.ref ra), .val (.int xi)] [(.int (own_at xs (5 : Int32)))])) _
                  refine XS.aloadN X0.here hx rfl (hb hby d2_72) rfl rfl ?_
                  show Steps p.tables e below (s₁.setTop (mkF m 73 #[.val (.ref ra), .val (.int xi)] [(.ref ra), (.int (own_at xs (5 : Int32)))])) _
                  refine XS.iloadN X0.here hx rfl (hb hby d2_73) rfl ?_
                  show Steps p.tables e below (s₁.setTop (mkF m 74 #[.val (.ref ra), .val (.int xi)] [(.int xi), (.ref ra), (.int (own_at xs (5 : Int32)))])) _
                  obtain ⟨c121, a121, q121, s121, m121, i121, u121⟩ := id V1
                  have hin121 := inb_of (j := xi) s121 hi
                  refine X0.iaload hx (j := xi) (v := (.int (own_at xs xi))) (by rw [e0]; exact a121.1) (State.isArrayOf_alike hZ.alike a121.2.1) a121.2.2 hin121 (i121.at hin121 (own_getD xs _)) (g := (mkF m 74 #[.val (.ref ra), .val (.int xi)] [(.int xi), (.ref ra), (.int (own_at xs (5 : Int32)))])) rfl rfl (hb hby d2_74) _ ?_
                  show Steps p.tables e below (s₁.setTop (mkF m 75 #[.val (.ref ra), .val (.int xi)] [(.int (own_at xs xi)), (.int (own_at xs (5 : Int32)))])) _
                  exact k
                by_cases hc75 : (own_at xs (5 : Int32)) = (own_at xs xi)
                · have pre123 : ∀ t, Steps p.tables e below (s₁.setTop (mkF m 79 #[.val (.ref ra), .val (.int xi)] [(.int (5 : Int32))])) t → Steps p.tables e below (s₁.setTop (entryFrame m #[(.ref ra), (.int xi)] 2)) t := by
                    intro t k
                    refine pre122 t ?_
                    refine XS.icmpNo X0.here hx rfl (hb hby d2_75) rfl (teq hc75).2 ?_
                    show Steps p.tables e below (s₁.setTop (mkF m 78 #[.val (.ref ra), .val (.int xi)] [])) _
                    refine XS.iconst X0.here hx rfl (hb hby d2_78) ?_
                    show Steps p.tables e below (s₁.setTop (mkF m 79 #[.val (.ref ra), .val (.int xi)] [(.int (5 : Int32))])) _
                    exact k
                  obtain ⟨fs, hr, hrun, hended, hW, hsame⟩ := X0.leave (v := some (.int (5 : Int32))) (fun h => by rw [Bd.returns] at h; cases h)
                  refine ⟨_, _, pre123 _ ?_, hrun, hended, _, _, rfl, ?_, ⟨_, rfl⟩, hW, hsame.mono (by decide) (by decide)⟩
                  · exact retI X0 hx Bd.returns (hb hby d2_79) hr
                  · show Q_rm_next Z ra xi ki xs h0 n0 _ s₁.heap _
                    rw [e0]
                    exact ⟨congrArg (fun z => some (Value.int z)) (show (5 : Int32) = (F_rm_next xi xs) from by rw [F_rm_next, if_neg hc2, if_pos hc18, if_neg hc27, if_pos hc34, if_neg hc43, if_neg hc50, if_pos hc66, if_pos hc75]), N0, rfl⟩
                · have pre124 : ∀ t, Steps p.tables e below (s₁.setTop (mkF m 81 #[.val (.ref ra), .val (.int xi)] [(.int (-1 : Int32))])) t → Steps p.tables e below (s₁.setTop (entryFrame m #[(.ref ra), (.int xi)] 2)) t := by
                    intro t k
                    refine pre122 t ?_
                    refine XS.icmpYes X0.here hx rfl (pc0 := 75) (pc' := 80) rfl (hb hby d2_75) rfl (feq hc75).2 (by decide) (by decide) ?_
                    show Steps p.tables e below (s₁.setTop (mkF m 80 #[.val (.ref ra), .val (.int xi)] [])) _
                    refine XS.iconst X0.here hx rfl (hb hby d2_80) ?_
                    show Steps p.tables e below (s₁.setTop (mkF m 81 #[.val (.ref ra), .val (.int xi)] [(.int (-1 : Int32))])) _
                    exact k
                  obtain ⟨fs, hr, hrun, hended, hW, hsame⟩ := X0.leave (v := some (.int (-1 : Int32))) (fun h => by rw [Bd.returns] at h; cases h)
                  refine ⟨_, _, pre124 _ ?_, hrun, hended, _, _, rfl, ?_, ⟨_, rfl⟩, hW, hsame.mono (by decide) (by decide)⟩
                  · exact retI X0 hx Bd.returns (hb hby d2_81) hr
                  · show Q_rm_next Z ra xi ki xs h0 n0 _ s₁.heap _
                    rw [e0]
                    exact ⟨congrArg (fun z => some (Value.int z)) (show (-1 : Int32) = (F_rm_next xi xs) from by rw [F_rm_next, if_neg hc2, if_pos hc18, if_neg hc27, if_pos hc34, if_neg hc43, if_neg hc50, if_pos hc66, if_neg hc75]), N0, rfl⟩
              · have pre125 : ∀ t, Steps p.tables e below (s₁.setTop (mkF m 81 #[.val (.ref ra), .val (.int xi)] [(.int (-1 : Int32))])) t → Steps p.tables e below (s₁.setTop (entryFrame m #[(.ref ra), (.int xi)] 2)) t := by
                  intro t k
                  refine pre119 t ?_
                  refine XS.icmpYes X0.here hx rfl (pc0 := 66) (pc' := 80) rfl (hb hby d2_66) rfl (flt hc66).2.1 (by decide) (by decide) ?_
                  show Steps p.tables e below (s₁.setTop (mkF m 80 #[.val (.ref ra), .val (.int xi)] [])) _
                  refine XS.iconst X0.here hx rfl (hb hby d2_80) ?_
                  show Steps p.tables e below (s₁.setTop (mkF m 81 #[.val (.ref ra), .val (.int xi)] [(.int (-1 : Int32))])) _
                  exact k
                obtain ⟨fs, hr, hrun, hended, hW, hsame⟩ := X0.leave (v := some (.int (-1 : Int32))) (fun h => by rw [Bd.returns] at h; cases h)
                refine ⟨_, _, pre125 _ ?_, hrun, hended, _, _, rfl, ?_, ⟨_, rfl⟩, hW, hsame.mono (by decide) (by decide)⟩
                · exact retI X0 hx Bd.returns (hb hby d2_81) hr
                · show Q_rm_next Z ra xi ki xs h0 n0 _ s₁.heap _
                  rw [e0]
                  exact ⟨congrArg (fun z => some (Value.int z)) (show (-1 : Int32) = (F_rm_next xi xs) from by rw [F_rm_next, if_neg hc2, if_pos hc18, if_neg hc27, if_pos hc34, if_neg hc43, if_neg hc50, if_neg hc66]), N0, rfl⟩
        · have pre126 : ∀ t, Steps p.tables e below (s₁.setTop (mkF m 50 #[.val (.ref ra), .val (.int xi)] [(.int (4 : Int32)), (.int xi)])) t → Steps p.tables e below (s₁.setTop (entryFrame m #[(.ref ra), (.int xi)] 2)) t := by
            intro t k
            refine pre102 t ?_
            refine XS.icmpYes X0.here hx rfl (pc0 := 34) (pc' := 48) rfl (hb hby d2_34) rfl (flt hc34).2.1 (by decide) (by decide) ?_
            show Steps p.tables e below (s₁.setTop (mkF m 48 #[.val (.ref ra), .val (.int xi)] [])) _
            refine XS.iloadN X0.here hx rfl (hb hby d2_48) rfl ?_
            show Steps p.tables e below (s₁.setTop (mkF m 49 #[.val (.ref ra), .val (.int xi)] [(.int xi)])) _
            refine XS.iconst X0.here hx rfl (hb hby d2_49) ?_
            show Steps p.tables e below (s₁.setTop (mkF m 50 #[.val (.ref ra), .val (.int xi)] [(.int (4 : Int32)), (.int xi)])) _
            exact k
          by_cases hc50 : xi < (4 : Int32)
          · have pre129 : ∀ t, Steps p.tables e below (s₁.setTop (mkF m 59 #[.val (.ref ra), .val (.int xi)] [(.int (own_at xs xi)), (.int (own_at xs (4 : Int32)))])) t → Steps p.tables e below (s₁.setTop (entryFrame m #[(.ref ra), (.int xi)] 2)) t := by
              intro t k
              refine pre126 t ?_
              refine XS.icmpNo X0.here hx rfl (hb hby d2_50) rfl (tlt hc50).2.1 ?_
              show Steps p.tables e below (s₁.setTop (mkF m 53 #[.val (.ref ra), .val (.int xi)] [])) _
              refine XS.aloadN X0.here hx rfl (hb hby d2_53) rfl rfl ?_
              show Steps p.tables e below (s₁.setTop (mkF m 54 #[.val (.ref ra), .val (.int xi)] [(.ref ra)])) _
              refine XS.iconst X0.here hx rfl (hb hby d2_54) ?_
              show Steps p.tables e below (s₁.setTop (mkF m 55 #[.val (.ref ra), .val (.int xi)] [(.int (4 : Int32)), (.ref ra)])) _
              obtain ⟨c127, a127, q127, s127, m127, i127, u127⟩ := id V1
              have hin127 := inb_of (j := (4 : Int32)) s127 (by decide)
              refine X0.iaload hx (j := (4 : Int32)) (v := (.int (own_at xs (4 : Int32)))) (by rw [e0]; exact a127.1) (State.isArrayOf_alike hZ.alike a127.2.1) a127.2.2 hin127 (i127.at hin127 (own_getD xs _)) (g := (mkF m 55 #[.val (.ref ra), .val (.int xi)] [(.int (4 : Int32)), (.ref ra)])) rfl rfl (hb hby d2_55) _ ?_
              show Steps p.tables e below (s₁.setTop (mkF m 56 #[.val (.ref ra), .val (.int xi)] [(.int (own_at xs (4 : Int32)))])) _
              refine XS.aloadN X0.here hx rfl (hb hby d2_56) rfl rfl ?_
              show Steps p.tables e below (s₁.setTop (mkF m 57 #[.val (.ref ra), .val (.int xi)] [(.ref ra), (.int (own_at xs (4 : Int32)))])) _
              refine XS.iloadN X0.here hx rfl (hb hby d2_57) rfl ?_
              show Steps p.tables e below (s₁.setTop (mkF m 58 #[.val (.ref ra), .val (.int xi)] [(.int xi), (.ref ra), (.int (own_at xs (4 : Int32)))])) _
              obtain ⟨c128, a128, q128, s128, m128, i128, u128⟩ := id V1
              have hin128 := inb_of (j := xi) s128 hi
              refine X0.iaload hx (j := xi) (v := (.int (own_at xs xi))) (by rw [e0]; exact a128.1) (State.isArrayOf_alike hZ.alike a128.2.1) a128.2.2 hin128 (i128.at hin128 (own_getD xs _)) (g := (mkF m 58 #[.val (.ref ra), .val (.int xi)] [(.int xi), (.ref ra), (.int (own_at xs (4 : Int32)))])) rfl rfl (hb hby d2_58) _ ?_
              show Steps p.tables e below (s₁.setTop (mkF m 59 #[.val (.ref ra), .val (.int xi)] [(.int (own_at xs xi)), (.int (own_at xs (4 : Int32)))])) _
              exact k
            by_cases hc59 : (own_at xs (4 : Int32)) = (own_at xs xi)
            · have pre130 : ∀ t, Steps p.tables e below (s₁.setTop (mkF m 63 #[.val (.ref ra), .val (.int xi)] [(.int (4 : Int32))])) t → Steps p.tables e below (s₁.setTop (entryFrame m #[(.ref ra), (.int xi)] 2)) t := by
                intro t k
                refine pre129 t ?_
                refine XS.icmpNo X0.here hx rfl (hb hby d2_59) rfl (teq hc59).2 ?_
                show Steps p.tables e below (s₁.setTop (mkF m 62 #[.val (.ref ra), .val (.int xi)] [])) _
                refine XS.iconst X0.here hx rfl (hb hby d2_62) ?_
                show Steps p.tables e below (s₁.setTop (mkF m 63 #[.val (.ref ra), .val (.int xi)] [(.int (4 : Int32))])) _
                exact k
              obtain ⟨fs, hr, hrun, hended, hW, hsame⟩ := X0.leave (v := some (.int (4 : Int32))) (fun h => by rw [Bd.returns] at h; cases h)
              refine ⟨_, _, pre130 _ ?_, hrun, hended, _, _, rfl, ?_, ⟨_, rfl⟩, hW, hsame.mono (by decide) (by decide)⟩
              · exact retI X0 hx Bd.returns (hb hby d2_63) hr
              · show Q_rm_next Z ra xi ki xs h0 n0 _ s₁.heap _
                rw [e0]
                exact ⟨congrArg (fun z => some (Value.int z)) (show (4 : Int32) = (F_rm_next xi xs) from by rw [F_rm_next, if_neg hc2, if_pos hc18, if_neg hc27, if_neg hc34, if_pos hc50, if_pos hc59]), N0, rfl⟩
            · have pre131 : ∀ t, Steps p.tables e below (s₁.setTop (mkF m 66 #[.val (.ref ra), .val (.int xi)] [(.int (5 : Int32)), (.int xi)])) t → Steps p.tables e below (s₁.setTop (entryFrame m #[(.ref ra), (.int xi)] 2)) t := by
                intro t k
                refine pre129 t ?_
                refine XS.icmpYes X0.here hx rfl (pc0 := 59) (pc' := 64) rfl (hb hby d2_59) rfl (feq hc59).2 (by decide) (by decide) ?_
                show Steps p.tables e below (s₁.setTop (mkF m 64 #[.val (.ref ra), .val (.int xi)] [])) _
                refine XS.iloadN X0.here hx rfl (hb hby d2_64) rfl ?_
                show Steps p.tables e below (s₁.setTop (mkF m 65 #[.val (.ref ra), .val (.int xi)] [(.int xi)])) _
                refine XS.iconst X0.here hx rfl (hb hby d2_65) ?_
                show Steps p.tables e below (s₁.setTop (mkF m 66 #[.val (.ref ra), .val (.int xi)] [(.int (5 : Int32)), (.int xi)])) _
                exact k
              by_cases hc66 : xi < (5 : Int32)
              · have pre134 : ∀ t, Steps p.tables e below (s₁.setTop (mkF m 75 #[.val (.ref ra), .val (.int xi)] [(.int (own_at xs xi)), (.int (own_at xs (5 : Int32)))])) t → Steps p.tables e below (s₁.setTop (entryFrame m #[(.ref ra), (.int xi)] 2)) t := by
                  intro t k
                  refine pre131 t ?_
                  refine XS.icmpNo X0.here hx rfl (hb hby d2_66) rfl (tlt hc66).2.1 ?_
                  show Steps p.tables e below (s₁.setTop (mkF m 69 #[.val (.ref ra), .val (.int xi)] [])) _
                  refine XS.aloadN X0.here hx rfl (hb hby d2_69) rfl rfl ?_
                  show Steps p.tables e below (s₁.setTop (mkF m 70 #[.val (.ref ra), .val (.int xi)] [(.ref ra)])) _
                  refine XS.iconst X0.here hx rfl (hb hby d2_70) ?_
                  show Steps p.tables e below (s₁.setTop (mkF m 71 #[.val (.ref ra), .val (.int xi)] [(.int (5 : Int32)), (.ref ra)])) _
                  obtain ⟨c132, a132, q132, s132, m132, i132, u132⟩ := id V1
                  have hin132 := inb_of (j := (5 : Int32)) s132 (by decide)
                  refine X0.iaload hx (j := (5 : Int32)) (v := (.int (own_at xs (5 : Int32)))) (by rw [e0]; exact a132.1) (State.isArrayOf_alike hZ.alike a132.2.1) a132.2.2 hin132 (i132.at hin132 (own_getD xs _)) (g := (mkF m 71 #[.val (.ref ra), .val (.int xi)] [(.int (5 : Int32)), (.ref ra)])) rfl rfl (hb hby d2_71) _ ?_
                  show Steps p.tables e below (s₁.setTop (mkF m 72 #[.val (.ref ra), .val (.int xi)] [(.int (own_at xs (5 : Int32)))])) _
                  refine XS.aloadN X0.here hx rfl (hb hby d2_72) rfl rfl ?_
                  show Steps p.tables e below (s₁.setTop (mkF m 73 #[.val (.ref ra), .val (.int xi)] [(.ref ra), (.int (own_at xs (5 : Int32)))])) _
                  refine XS.iloadN X0.here hx rfl (hb hby d2_73) rfl ?_
                  show Steps p.tables e below (s₁.setTop (mkF m 74 #[.val (.ref ra), .val (.int xi)] [(.int xi), (.ref ra), (.int (own_at xs (5 : Int32)))])) _
                  obtain ⟨c133, a133, q133, s133, m133, i133, u133⟩ := id V1
                  have hin133 := inb_of (j := xi) s133 hi
                  refine X0.iaload hx (j := xi) (v := (.int (own_at xs xi))) (by rw [e0]; exact a133.1) (State.isArrayOf_alike hZ.alike a133.2.1) a133.2.2 hin133 (i133.at hin133 (own_getD xs _)) (g := (mkF m 74 #[.val (.ref ra), .val (.int xi)] [(.int xi), (.ref ra), (.int (own_at xs (5 : Int32)))])) rfl rfl (hb hby d2_74) _ ?_
                  show Steps p.tables e below (s₁.setTop (mkF m 75 #[.val (.ref ra), .val (.int xi)] [(.int (own_at xs xi)), (.int (own_at xs (5 : Int32)))])) _
                  exact k
                by_cases hc75 : (own_at xs (5 : Int32)) = (own_at xs xi)
                · have pre135 : ∀ t, Steps p.tables e below (s₁.setTop (mkF m 79 #[.val (.ref ra), .val (.int xi)] [(.int (5 : Int32))])) t → Steps p.tables e below (s₁.setTop (entryFrame m #[(.ref ra), (.int xi)] 2)) t := by
                    intro t k
                    refine pre134 t ?_
                    refine XS.icmpNo X0.here hx rfl (hb hby d2_75) rfl (teq hc75).2 ?_
                    show Steps p.tables e below (s₁.setTop (mkF m 78 #[.val (.ref ra), .val (.int xi)] [])) _
                    refine XS.iconst X0.here hx rfl (hb hby d2_78) ?_
                    show Steps p.tables e below (s₁.setTop (mkF m 79 #[.val (.ref ra), .val (.int xi)] [(.int (5 : Int32))])) _
                    exact k
                  obtain ⟨fs, hr, hrun, hended, hW, hsame⟩ := X0.leave (v := some (.int (5 : Int32))) (fun h => by rw [Bd.returns] at h; cases h)
                  refine ⟨_, _, pre135 _ ?_, hrun, hended, _, _, rfl, ?_, ⟨_, rfl⟩, hW, hsame.mono (by decide) (by decide)⟩
                  · exact retI X0 hx Bd.returns (hb hby d2_79) hr
                  · show Q_rm_next Z ra xi ki xs h0 n0 _ s₁.heap _
                    rw [e0]
                    exact ⟨congrArg (fun z => some (Value.int z)) (show (5 : Int32) = (F_rm_next xi xs) from by rw [F_rm_next, if_neg hc2, if_pos hc18, if_neg hc27, if_neg hc34, if_pos hc50, if_neg hc59, if_pos hc66, if_pos hc75]), N0, rfl⟩
                · have pre136 : ∀ t, Steps p.tables e below (s₁.setTop (mkF m 81 #[.val (.ref ra), .val (.int xi)] [(.int (-1 : Int32))])) t → Steps p.tables e below (s₁.setTop (entryFrame m #[(.ref ra), (.int xi)] 2)) t := by
                    intro t k
                    refine pre134 t ?_
                    refine XS.icmpYes X0.here hx rfl (pc0 := 75) (pc' := 80) rfl (hb hby d2_75) rfl (feq hc75).2 (by decide) (by decide) ?_
                    show Steps p.tables e below (s₁.setTop (mkF m 80 #[.val (.ref ra), .val (.int xi)] [])) _
                    refine XS.iconst X0.here hx rfl (hb hby d2_80) ?_
                    show Steps p.tables e below (s₁.setTop (mkF m 81 #[.val (.ref ra), .val (.int xi)] [(.int (-1 : Int32))])) _
                    exact k
                  obtain ⟨fs, hr, hrun, hended, hW, hsame⟩ := X0.leave (v := some (.int (-1 : Int32))) (fun h => by rw [Bd.returns] at h; cases h)
                  refine ⟨_, _, pre136 _ ?_, hrun, hended, _, _, rfl, ?_, ⟨_, rfl⟩, hW, hsame.mono (by decide) (by decide)⟩
                  · exact retI X0 hx Bd.returns (hb hby d2_81) hr
                  · show Q_rm_next Z ra xi ki xs h0 n0 _ s₁.heap _
                    rw [e0]
                    exact ⟨congrArg (fun z => some (Value.int z)) (show (-1 : Int32) = (F_rm_next xi xs) from by rw [F_rm_next, if_neg hc2, if_pos hc18, if_neg hc27, if_neg hc34, if_pos hc50, if_neg hc59, if_pos hc66, if_neg hc75]), N0, rfl⟩
              · have pre137 : ∀ t, Steps p.tables e below (s₁.setTop (mkF m 81 #[.val (.ref ra), .val (.int xi)] [(.int (-1 : Int32))])) t → Steps p.tables e below (s₁.setTop (entryFrame m #[(.ref ra), (.int xi)] 2)) t := by
                  intro t k
                  refine pre131 t ?_
                  refine XS.icmpYes X0.here hx rfl (pc0 := 66) (pc' := 80) rfl (hb hby d2_66) rfl (flt hc66).2.1 (by decide) (by decide) ?_
                  show Steps p.tables e below (s₁.setTop (mkF m 80 #[.val (.ref ra), .val (.int xi)] [])) _
                  refine XS.iconst X0.here hx rfl (hb hby d2_80) ?_
                  show Steps p.tables e below (s₁.setTop (mkF m 81 #[.val (.ref ra), .val (.int xi)] [(.int (-1 : Int32))])) _
                  exact k
                obtain ⟨fs, hr, hrun, hended, hW, hsame⟩ := X0.leave (v := some (.int (-1 : Int32))) (fun h => by rw [Bd.returns] at h; cases h)
                refine ⟨_, _, pre137 _ ?_, hrun, hended, _, _, rfl, ?_, ⟨_, rfl⟩, hW, hsame.mono (by decide) (by decide)⟩
                · exact retI X0 hx Bd.returns (hb hby d2_81) hr
                · show Q_rm_next Z ra xi ki xs h0 n0 _ s₁.heap _
                  rw [e0]
                  exact ⟨congrArg (fun z => some (Value.int z)) (show (-1 : Int32) = (F_rm_next xi xs) from by rw [F_rm_next, if_neg hc2, if_pos hc18, if_neg hc27, if_neg hc34, if_pos hc50, if_neg hc59, if_neg hc66]), N0, rfl⟩
          · have pre138 : ∀ t, Steps p.tables e below (s₁.setTop (mkF m 66 #[.val (.ref ra), .val (.int xi)] [(.int (5 : Int32)), (.int xi)])) t → Steps p.tables e below (s₁.setTop (entryFrame m #[(.ref ra), (.int xi)] 2)) t := by
              intro t k
              refine pre126 t ?_
              refine XS.icmpYes X0.here hx rfl (pc0 := 50) (pc' := 64) rfl (hb hby d2_50) rfl (flt hc50).2.1 (by decide) (by decide) ?_
              show Steps p.tables e below (s₁.setTop (mkF m 64 #[.val (.ref ra), .val (.int xi)] [])) _
              refine XS.iloadN X0.here hx rfl (hb hby d2_64) rfl ?_
              show Steps p.tables e below (s₁.setTop (mkF m 65 #[.val (.ref ra), .val (.int xi)] [(.int xi)])) _
              refine XS.iconst X0.here hx rfl (hb hby d2_65) ?_
              show Steps p.tables e below (s₁.setTop (mkF m 66 #[.val (.ref ra), .val (.int xi)] [(.int (5 : Int32)), (.int xi)])) _
              exact k
            by_cases hc66 : xi < (5 : Int32)
            · have pre141 : ∀ t, Steps p.tables e below (s₁.setTop (mkF m 75 #[.val (.ref ra), .val (.int xi)] [(.int (own_at xs xi)), (.int (own_at xs (5 : Int32)))])) t → Steps p.tables e below (s₁.setTop (entryFrame m #[(.ref ra), (.int xi)] 2)) t := by
                intro t k
                refine pre138 t ?_
                refine XS.icmpNo X0.here hx rfl (hb hby d2_66) rfl (tlt hc66).2.1 ?_
                show Steps p.tables e below (s₁.setTop (mkF m 69 #[.val (.ref ra), .val (.int xi)] [])) _
                refine XS.aloadN X0.here hx rfl (hb hby d2_69) rfl rfl ?_
                show Steps p.tables e below (s₁.setTop (mkF m 70 #[.val (.ref ra), .val (.int xi)] [(.ref ra)])) _
                refine XS.iconst X0.here hx rfl (hb hby d2_70) ?_
                show Steps p.tables e below (s₁.setTop (mkF m 71 #[.val (.ref ra), .val (.int xi)] [(.int (5 : Int32)), (.ref ra)])) _
                obtain ⟨c139, a139, q139, s139, m139, i139, u139⟩ := id V1
                have hin139 := inb_of (j := (5 : Int32)) s139 (by decide)
                refine X0.iaload hx (j := (5 : Int32)) (v := (.int (own_at xs (5 : Int32)))) (by rw [e0]; exact a139.1) (State.isArrayOf_alike hZ.alike a139.2.1) a139.2.2 hin139 (i139.at hin139 (own_getD xs _)) (g := (mkF m 71 #[.val (.ref ra), .val (.int xi)] [(.int (5 : Int32)), (.ref ra)])) rfl rfl (hb hby d2_71) _ ?_
                show Steps p.tables e below (s₁.setTop (mkF m 72 #[.val (.ref ra), .val (.int xi)] [(.int (own_at xs (5 : Int32)))])) _
                refine XS.aloadN X0.here hx rfl (hb hby d2_72) rfl rfl ?_
                show Steps p.tables e below (s₁.setTop (mkF m 73 #[.val (.ref ra), .val (.int xi)] [(.ref ra), (.int (own_at xs (5 : Int32)))])) _
                refine XS.iloadN X0.here hx rfl (hb hby d2_73) rfl ?_
                show Steps p.tables e below (s₁.setTop (mkF m 74 #[.val (.ref ra), .val (.int xi)] [(.int xi), (.ref ra), (.int (own_at xs (5 : Int32)))])) _
                obtain ⟨c140, a140, q140, s140, m140, i140, u140⟩ := id V1
                have hin140 := inb_of (j := xi) s140 hi
                refine X0.iaload hx (j := xi) (v := (.int (own_at xs xi))) (by rw [e0]; exact a140.1) (State.isArrayOf_alike hZ.alike a140.2.1) a140.2.2 hin140 (i140.at hin140 (own_getD xs _)) (g := (mkF m 74 #[.val (.ref ra), .val (.int xi)] [(.int xi), (.ref ra), (.int (own_at xs (5 : Int32)))])) rfl rfl (hb hby d2_74) _ ?_
                show Steps p.tables e below (s₁.setTop (mkF m 75 #[.val (.ref ra), .val (.int xi)] [(.int (own_at xs xi)), (.int (own_at xs (5 : Int32)))])) _
                exact k
              by_cases hc75 : (own_at xs (5 : Int32)) = (own_at xs xi)
              · have pre142 : ∀ t, Steps p.tables e below (s₁.setTop (mkF m 79 #[.val (.ref ra), .val (.int xi)] [(.int (5 : Int32))])) t → Steps p.tables e below (s₁.setTop (entryFrame m #[(.ref ra), (.int xi)] 2)) t := by
                  intro t k
                  refine pre141 t ?_
                  refine XS.icmpNo X0.here hx rfl (hb hby d2_75) rfl (teq hc75).2 ?_
                  show Steps p.tables e below (s₁.setTop (mkF m 78 #[.val (.ref ra), .val (.int xi)] [])) _
                  refine XS.iconst X0.here hx rfl (hb hby d2_78) ?_
                  show Steps p.tables e below (s₁.setTop (mkF m 79 #[.val (.ref ra), .val (.int xi)] [(.int (5 : Int32))])) _
                  exact k
                obtain ⟨fs, hr, hrun, hended, hW, hsame⟩ := X0.leave (v := some (.int (5 : Int32))) (fun h => by rw [Bd.returns] at h; cases h)
                refine ⟨_, _, pre142 _ ?_, hrun, hended, _, _, rfl, ?_, ⟨_, rfl⟩, hW, hsame.mono (by decide) (by decide)⟩
                · exact retI X0 hx Bd.returns (hb hby d2_79) hr
                · show Q_rm_next Z ra xi ki xs h0 n0 _ s₁.heap _
                  rw [e0]
                  exact ⟨congrArg (fun z => some (Value.int z)) (show (5 : Int32) = (F_rm_next xi xs) from by rw [F_rm_next, if_neg hc2, if_pos hc18, if_neg hc27, if_neg hc34, if_neg hc50, if_pos hc66, if_pos hc75]), N0, rfl⟩
              · have pre143 : ∀ t, Steps p.tables e below (s₁.setTop (mkF m 81 #[.val (.ref ra), .val (.int xi)] [(.int (-1 : Int32))])) t → Steps p.tables e below (s₁.setTop (entryFrame m #[(.ref ra), (.int xi)] 2)) t := by
                  intro t k
                  refine pre141 t ?_
                  refine XS.icmpYes X0.here hx rfl (pc0 := 75) (pc' := 80) rfl (hb hby d2_75) rfl (feq hc75).2 (by decide) (by decide) ?_
                  show Steps p.tables e below (s₁.setTop (mkF m 80 #[.val (.ref ra), .val (.int xi)] [])) _
                  refine XS.iconst X0.here hx rfl (hb hby d2_80) ?_
                  show Steps p.tables e below (s₁.setTop (mkF m 81 #[.val (.ref ra), .val (.int xi)] [(.int (-1 : Int32))])) _
                  exact k
                obtain ⟨fs, hr, hrun, hended, hW, hsame⟩ := X0.leave (v := some (.int (-1 : Int32))) (fun h => by rw [Bd.returns] at h; cases h)
                refine ⟨_, _, pre143 _ ?_, hrun, hended, _, _, rfl, ?_, ⟨_, rfl⟩, hW, hsame.mono (by decide) (by decide)⟩
                · exact retI X0 hx Bd.returns (hb hby d2_81) hr
                · show Q_rm_next Z ra xi ki xs h0 n0 _ s₁.heap _
                  rw [e0]
                  exact ⟨congrArg (fun z => some (Value.int z)) (show (-1 : Int32) = (F_rm_next xi xs) from by rw [F_rm_next, if_neg hc2, if_pos hc18, if_neg hc27, if_neg hc34, if_neg hc50, if_pos hc66, if_neg hc75]), N0, rfl⟩
            · have pre144 : ∀ t, Steps p.tables e below (s₁.setTop (mkF m 81 #[.val (.ref ra), .val (.int xi)] [(.int (-1 : Int32))])) t → Steps p.tables e below (s₁.setTop (entryFrame m #[(.ref ra), (.int xi)] 2)) t := by
                intro t k
                refine pre138 t ?_
                refine XS.icmpYes X0.here hx rfl (pc0 := 66) (pc' := 80) rfl (hb hby d2_66) rfl (flt hc66).2.1 (by decide) (by decide) ?_
                show Steps p.tables e below (s₁.setTop (mkF m 80 #[.val (.ref ra), .val (.int xi)] [])) _
                refine XS.iconst X0.here hx rfl (hb hby d2_80) ?_
                show Steps p.tables e below (s₁.setTop (mkF m 81 #[.val (.ref ra), .val (.int xi)] [(.int (-1 : Int32))])) _
                exact k
              obtain ⟨fs, hr, hrun, hended, hW, hsame⟩ := X0.leave (v := some (.int (-1 : Int32))) (fun h => by rw [Bd.returns] at h; cases h)
              refine ⟨_, _, pre144 _ ?_, hrun, hended, _, _, rfl, ?_, ⟨_, rfl⟩, hW, hsame.mono (by decide) (by decide)⟩
              · exact retI X0 hx Bd.returns (hb hby d2_81) hr
              · show Q_rm_next Z ra xi ki xs h0 n0 _ s₁.heap _
                rw [e0]
                exact ⟨congrArg (fun z => some (Value.int z)) (show (-1 : Int32) = (F_rm_next xi xs) from by rw [F_rm_next, if_neg hc2, if_pos hc18, if_neg hc27, if_neg hc34, if_neg hc50, if_neg hc66]), N0, rfl⟩
    · have pre145 : ∀ t, Steps p.tables e below (s₁.setTop (mkF m 34 #[.val (.ref ra), .val (.int xi)] [(.int (3 : Int32)), (.int xi)])) t → Steps p.tables e below (s₁.setTop (entryFrame m #[(.ref ra), (.int xi)] 2)) t := by
        intro t k
        refine pre97 t ?_
        refine XS.icmpYes X0.here hx rfl (pc0 := 18) (pc' := 32) rfl (hb hby d2_18) rfl (flt hc18).2.1 (by decide) (by decide) ?_
        show Steps p.tables e below (s₁.setTop (mkF m 32 #[.val (.ref ra), .val (.int xi)] [])) _
        refine XS.iloadN X0.here hx rfl (hb hby d2_32) rfl ?_
        show Steps p.tables e below (s₁.setTop (mkF m 33 #[.val (.ref ra), .val (.int xi)] [(.int xi)])) _
        refine XS.iconst X0.here hx rfl (hb hby d2_33) ?_
        show Steps p.tables e below (s₁.setTop (mkF m 34 #[.val (.ref ra), .val (.int xi)] [(.int (3 : Int32)), (.int xi)])) _
        exact k
      by_cases hc34 : xi < (3 : Int32)
      · have pre148 : ∀ t, Steps p.tables e below (s₁.setTop (mkF m 43 #[.val (.ref ra), .val (.int xi)] [(.int (own_at xs xi)), (.int (own_at xs (3 : Int32)))])) t → Steps p.tables e below (s₁.setTop (entryFrame m #[(.ref ra), (.int xi)] 2)) t := by
          intro t k
          refine pre145 t ?_
          refine XS.icmpNo X0.here hx rfl (hb hby d2_34) rfl (tlt hc34).2.1 ?_
          show Steps p.tables e below (s₁.setTop (mkF m 37 #[.val (.ref ra), .val (.int xi)] [])) _
          refine XS.aloadN X0.here hx rfl (hb hby d2_37) rfl rfl ?_
          show Steps p.tables e below (s₁.setTop (mkF m 38 #[.val (.ref ra), .val (.int xi)] [(.ref ra)])) _
          refine XS.iconst X0.here hx rfl (hb hby d2_38) ?_
          show Steps p.tables e below (s₁.setTop (mkF m 39 #[.val (.ref ra), .val (.int xi)] [(.int (3 : Int32)), (.ref ra)])) _
          obtain ⟨c146, a146, q146, s146, m146, i146, u146⟩ := id V1
          have hin146 := inb_of (j := (3 : Int32)) s146 (by decide)
          refine X0.iaload hx (j := (3 : Int32)) (v := (.int (own_at xs (3 : Int32)))) (by rw [e0]; exact a146.1) (State.isArrayOf_alike hZ.alike a146.2.1) a146.2.2 hin146 (i146.at hin146 (own_getD xs _)) (g := (mkF m 39 #[.val (.ref ra), .val (.int xi)] [(.int (3 : Int32)), (.ref ra)])) rfl rfl (hb hby d2_39) _ ?_
          show Steps p.tables e below (s₁.setTop (mkF m 40 #[.val (.ref ra), .val (.int xi)] [(.int (own_at xs (3 : Int32)))])) _
          refine XS.aloadN X0.here hx rfl (hb hby d2_40) rfl rfl ?_
          show Steps p.tables e below (s₁.setTop (mkF m 41 #[.val (.ref ra), .val (.int xi)] [(.ref ra), (.int (own_at xs (3 : Int32)))])) _
          refine XS.iloadN X0.here hx rfl (hb hby d2_41) rfl ?_
          show Steps p.tables e below (s₁.setTop (mkF m 42 #[.val (.ref ra), .val (.int xi)] [(.int xi), (.ref ra), (.int (own_at xs (3 : Int32)))])) _
          obtain ⟨c147, a147, q147, s147, m147, i147, u147⟩ := id V1
          have hin147 := inb_of (j := xi) s147 hi
          refine X0.iaload hx (j := xi) (v := (.int (own_at xs xi))) (by rw [e0]; exact a147.1) (State.isArrayOf_alike hZ.alike a147.2.1) a147.2.2 hin147 (i147.at hin147 (own_getD xs _)) (g := (mkF m 42 #[.val (.ref ra), .val (.int xi)] [(.int xi), (.ref ra), (.int (own_at xs (3 : Int32)))])) rfl rfl (hb hby d2_42) _ ?_
          show Steps p.tables e below (s₁.setTop (mkF m 43 #[.val (.ref ra), .val (.int xi)] [(.int (own_at xs xi)), (.int (own_at xs (3 : Int32)))])) _
          exact k
        by_cases hc43 : (own_at xs (3 : Int32)) = (own_at xs xi)
        · have pre149 : ∀ t, Steps p.tables e below (s₁.setTop (mkF m 47 #[.val (.ref ra), .val (.int xi)] [(.int (3 : Int32))])) t → Steps p.tables e below (s₁.setTop (entryFrame m #[(.ref ra), (.int xi)] 2)) t := by
            intro t k
            refine pre148 t ?_
            refine XS.icmpNo X0.here hx rfl (hb hby d2_43) rfl (teq hc43).2 ?_
            show Steps p.tables e below (s₁.setTop (mkF m 46 #[.val (.ref ra), .val (.int xi)] [])) _
            refine XS.iconst X0.here hx rfl (hb hby d2_46) ?_
            show Steps p.tables e below (s₁.setTop (mkF m 47 #[.val (.ref ra), .val (.int xi)] [(.int (3 : Int32))])) _
            exact k
          obtain ⟨fs, hr, hrun, hended, hW, hsame⟩ := X0.leave (v := some (.int (3 : Int32))) (fun h => by rw [Bd.returns] at h; cases h)
          refine ⟨_, _, pre149 _ ?_, hrun, hended, _, _, rfl, ?_, ⟨_, rfl⟩, hW, hsame.mono (by decide) (by decide)⟩
          · exact retI X0 hx Bd.returns (hb hby d2_47) hr
          · show Q_rm_next Z ra xi ki xs h0 n0 _ s₁.heap _
            rw [e0]
            exact ⟨congrArg (fun z => some (Value.int z)) (show (3 : Int32) = (F_rm_next xi xs) from by rw [F_rm_next, if_neg hc2, if_neg hc18, if_pos hc34, if_pos hc43]), N0, rfl⟩
        · have pre150 : ∀ t, Steps p.tables e below (s₁.setTop (mkF m 50 #[.val (.ref ra), .val (.int xi)] [(.int (4 : Int32)), (.int xi)])) t → Steps p.tables e below (s₁.setTop (entryFrame m #[(.ref ra), (.int xi)] 2)) t := by
            intro t k
            refine pre148 t ?_
            refine XS.icmpYes X0.here hx rfl (pc0 := 43) (pc' := 48) rfl (hb hby d2_43) rfl (feq hc43).2 (by decide) (by decide) ?_
            show Steps p.tables e below (s₁.setTop (mkF m 48 #[.val (.ref ra), .val (.int xi)] [])) _
            refine XS.iloadN X0.here hx rfl (hb hby d2_48) rfl ?_
            show Steps p.tables e below (s₁.setTop (mkF m 49 #[.val (.ref ra), .val (.int xi)] [(.int xi)])) _
            refine XS.iconst X0.here hx rfl (hb hby d2_49) ?_
            show Steps p.tables e below (s₁.setTop (mkF m 50 #[.val (.ref ra), .val (.int xi)] [(.int (4 : Int32)), (.int xi)])) _
            exact k
          by_cases hc50 : xi < (4 : Int32)
          · have pre153 : ∀ t, Steps p.tables e below (s₁.setTop (mkF m 59 #[.val (.ref ra), .val (.int xi)] [(.int (own_at xs xi)), (.int (own_at xs (4 : Int32)))])) t → Steps p.tables e below (s₁.setTop (entryFrame m #[(.ref ra), (.int xi)] 2)) t := by
              intro t k
              refine pre150 t ?_
              refine XS.icmpNo X0.here hx rfl (hb hby d2_50) rfl (tlt hc50).2.1 ?_
              show Steps p.tables e below (s₁.setTop (mkF m 53 #[.val (.ref ra), .val (.int xi)] [])) _
              refine XS.aloadN X0.here hx rfl (hb hby d2_53) rfl rfl ?_
              show Steps p.tables e below (s₁.setTop (mkF m 54 #[.val (.ref ra), .val (.int xi)] [(.ref ra)])) _
              refine XS.iconst X0.here hx rfl (hb hby d2_54) ?_
              show Steps p.tables e below (s₁.setTop (mkF m 55 #[.val (.ref ra), .val (.int xi)] [(.int (4 : Int32)), (.ref ra)])) _
              obtain ⟨c151, a151, q151, s151, m151, i151, u151⟩ := id V1
              have hin151 := inb_of (j := (4 : Int32)) s151 (by decide)
              refine X0.iaload hx (j := (4 : Int32)) (v := (.int (own_at xs (4 : Int32)))) (by rw [e0]; exact a151.1) (State.isArrayOf_alike hZ.alike a151.2.1) a151.2.2 hin151 (i151.at hin151 (own_getD xs _)) (g := (mkF m 55 #[.val (.ref ra), .val (.int xi)] [(.int (4 : Int32)), (.ref ra)])) rfl rfl (hb hby d2_55) _ ?_
              show Steps p.tables e below (s₁.setTop (mkF m 56 #[.val (.ref ra), .val (.int xi)] [(.int (own_at xs (4 : Int32)))])) _
              refine XS.aloadN X0.here hx rfl (hb hby d2_56) rfl rfl ?_
              show Steps p.tables e below (s₁.setTop (mkF m 57 #[.val (.ref ra), .val (.int xi)] [(.ref ra), (.int (own_at xs (4 : Int32)))])) _
              refine XS.iloadN X0.here hx rfl (hb hby d2_57) rfl ?_
              show Steps p.tables e below (s₁.setTop (mkF m 58 #[.val (.ref ra), .val (.int xi)] [(.int xi), (.ref ra), (.int (own_at xs (4 : Int32)))])) _
              obtain ⟨c152, a152, q152, s152, m152, i152, u152⟩ := id V1
              have hin152 := inb_of (j := xi) s152 hi
              refine X0.iaload hx (j := xi) (v := (.int (own_at xs xi))) (by rw [e0]; exact a152.1) (State.isArrayOf_alike hZ.alike a152.2.1) a152.2.2 hin152 (i152.at hin152 (own_getD xs _)) (g := (mkF m 58 #[.val (.ref ra), .val (.int xi)] [(.int xi), (.ref ra), (.int (own_at xs (4 : Int32)))])) rfl rfl (hb hby d2_58) _ ?_
              show Steps p.tables e below (s₁.setTop (mkF m 59 #[.val (.ref ra), .val (.int xi)] [(.int (own_at xs xi)), (.int (own_at xs (4 : Int32)))])) _
              exact k
            by_cases hc59 : (own_at xs (4 : Int32)) = (own_at xs xi)
            · have pre154 : ∀ t, Steps p.tables e below (s₁.setTop (mkF m 63 #[.val (.ref ra), .val (.int xi)] [(.int (4 : Int32))])) t → Steps p.tables e below (s₁.setTop (entryFrame m #[(.ref ra), (.int xi)] 2)) t := by
                intro t k
                refine pre153 t ?_
                refine XS.icmpNo X0.here hx rfl (hb hby d2_59) rfl (teq hc59).2 ?_
                show Steps p.tables e below (s₁.setTop (mkF m 62 #[.val (.ref ra), .val (.int xi)] [])) _
                refine XS.iconst X0.here hx rfl (hb hby d2_62) ?_
                show Steps p.tables e below (s₁.setTop (mkF m 63 #[.val (.ref ra), .val (.int xi)] [(.int (4 : Int32))])) _
                exact k
              obtain ⟨fs, hr, hrun, hended, hW, hsame⟩ := X0.leave (v := some (.int (4 : Int32))) (fun h => by rw [Bd.returns] at h; cases h)
              refine ⟨_, _, pre154 _ ?_, hrun, hended, _, _, rfl, ?_, ⟨_, rfl⟩, hW, hsame.mono (by decide) (by decide)⟩
              · exact retI X0 hx Bd.returns (hb hby d2_63) hr
              · show Q_rm_next Z ra xi ki xs h0 n0 _ s₁.heap _
                rw [e0]
                exact ⟨congrArg (fun z => some (Value.int z)) (show (4 : Int32) = (F_rm_next xi xs) from by rw [F_rm_next, if_neg hc2, if_neg hc18, if_pos hc34, if_neg hc43, if_pos hc50, if_pos hc59]), N0, rfl⟩
            · have pre155 : ∀ t, Steps p.tables e below (s₁.setTop (mkF m 66 #[.val (.ref ra), .val (.int xi)] [(.int (5 : Int32)), (.int xi)])) t → Steps p.tables e below (s₁.setTop (entryFrame m #[(.ref ra), (.int xi)] 2)) t := by
                intro t k
                refine pre153 t ?_
                refine XS.icmpYes X0.here hx rfl (pc0 := 59) (pc' := 64) rfl (hb hby d2_59) rfl (feq hc59).2 (by decide) (by decide) ?_
                show Steps p.tables e below (s₁.setTop (mkF m 64 #[.val (.ref ra), .val (.int xi)] [])) _
                refine XS.iloadN X0.here hx rfl (hb hby d2_64) rfl ?_
                show Steps p.tables e below (s₁.setTop (mkF m 65 #[.val (.ref ra), .val (.int xi)] [(.int xi)])) _
                refine XS.iconst X0.here hx rfl (hb hby d2_65) ?_
                show Steps p.tables e below (s₁.setTop (mkF m 66 #[.val (.ref ra), .val (.int xi)] [(.int (5 : Int32)), (.int xi)])) _
                exact k
              by_cases hc66 : xi < (5 : Int32)
              · have pre158 : ∀ t, Steps p.tables e below (s₁.setTop (mkF m 75 #[.val (.ref ra), .val (.int xi)] [(.int (own_at xs xi)), (.int (own_at xs (5 : Int32)))])) t → Steps p.tables e below (s₁.setTop (entryFrame m #[(.ref ra), (.int xi)] 2)) t := by
                  intro t k
                  refine pre155 t ?_
                  refine XS.icmpNo X0.here hx rfl (hb hby d2_66) rfl (tlt hc66).2.1 ?_
                  show Steps p.tables e below (s₁.setTop (mkF m 69 #[.val (.ref ra), .val (.int xi)] [])) _
                  refine XS.aloadN X0.here hx rfl (hb hby d2_69) rfl rfl ?_
                  show Steps p.tables e below (s₁.setTop (mkF m 70 #[.val (.ref ra), .val (.int xi)] [(.ref ra)])) _
                  refine XS.iconst X0.here hx rfl (hb hby d2_70) ?_
                  show Steps p.tables e below (s₁.setTop (mkF m 71 #[.val (.ref ra), .val (.int xi)] [(.int (5 : Int32)), (.ref ra)])) _
                  obtain ⟨c156, a156, q156, s156, m156, i156, u156⟩ := id V1
                  have hin156 := inb_of (j := (5 : Int32)) s156 (by decide)
                  refine X0.iaload hx (j := (5 : Int32)) (v := (.int (own_at xs (5 : Int32)))) (by rw [e0]; exact a156.1) (State.isArrayOf_alike hZ.alike a156.2.1) a156.2.2 hin156 (i156.at hin156 (own_getD xs _)) (g := (mkF m 71 #[.val (.ref ra), .val (.int xi)] [(.int (5 : Int32)), (.ref ra)])) rfl rfl (hb hby d2_71) _ ?_
                  show Steps p.tables e below (s₁.setTop (mkF m 72 #[.val (.ref ra), .val (.int xi)] [(.int (own_at xs (5 : Int32)))])) _
                  refine XS.aloadN X0.here hx rfl (hb hby d2_72) rfl rfl ?_
                  show Steps p.tables e below (s₁.setTop (mkF m 73 #[.val (.ref ra), .val (.int xi)] [(.ref ra), (.int (own_at xs (5 : Int32)))])) _
                  refine XS.iloadN X0.here hx rfl (hb hby d2_73) rfl ?_
                  show Steps p.tables e below (s₁.setTop (mkF m 74 #[.val (.ref ra), .val (.int xi)] [(.int xi), (.ref ra), (.int (own_at xs (5 : Int32)))])) _
                  obtain ⟨c157, a157, q157, s157, m157, i157, u157⟩ := id V1
                  have hin157 := inb_of (j := xi) s157 hi
                  refine X0.iaload hx (j := xi) (v := (.int (own_at xs xi))) (by rw [e0]; exact a157.1) (State.isArrayOf_alike hZ.alike a157.2.1) a157.2.2 hin157 (i157.at hin157 (own_getD xs _)) (g := (mkF m 74 #[.val (.ref ra), .val (.int xi)] [(.int xi), (.ref ra), (.int (own_at xs (5 : Int32)))])) rfl rfl (hb hby d2_74) _ ?_
                  show Steps p.tables e below (s₁.setTop (mkF m 75 #[.val (.ref ra), .val (.int xi)] [(.int (own_at xs xi)), (.int (own_at xs (5 : Int32)))])) _
                  exact k
                by_cases hc75 : (own_at xs (5 : Int32)) = (own_at xs xi)
                · have pre159 : ∀ t, Steps p.tables e below (s₁.setTop (mkF m 79 #[.val (.ref ra), .val (.int xi)] [(.int (5 : Int32))])) t → Steps p.tables e below (s₁.setTop (entryFrame m #[(.ref ra), (.int xi)] 2)) t := by
                    intro t k
                    refine pre158 t ?_
                    refine XS.icmpNo X0.here hx rfl (hb hby d2_75) rfl (teq hc75).2 ?_
                    show Steps p.tables e below (s₁.setTop (mkF m 78 #[.val (.ref ra), .val (.int xi)] [])) _
                    refine XS.iconst X0.here hx rfl (hb hby d2_78) ?_
                    show Steps p.tables e below (s₁.setTop (mkF m 79 #[.val (.ref ra), .val (.int xi)] [(.int (5 : Int32))])) _
                    exact k
                  obtain ⟨fs, hr, hrun, hended, hW, hsame⟩ := X0.leave (v := some (.int (5 : Int32))) (fun h => by rw [Bd.returns] at h; cases h)
                  refine ⟨_, _, pre159 _ ?_, hrun, hended, _, _, rfl, ?_, ⟨_, rfl⟩, hW, hsame.mono (by decide) (by decide)⟩
                  · exact retI X0 hx Bd.returns (hb hby d2_79) hr
                  · show Q_rm_next Z ra xi ki xs h0 n0 _ s₁.heap _
                    rw [e0]
                    exact ⟨congrArg (fun z => some (Value.int z)) (show (5 : Int32) = (F_rm_next xi xs) from by rw [F_rm_next, if_neg hc2, if_neg hc18, if_pos hc34, if_neg hc43, if_pos hc50, if_neg hc59, if_pos hc66, if_pos hc75]), N0, rfl⟩
                · have pre160 : ∀ t, Steps p.tables e below (s₁.setTop (mkF m 81 #[.val (.ref ra), .val (.int xi)] [(.int (-1 : Int32))])) t → Steps p.tables e below (s₁.setTop (entryFrame m #[(.ref ra), (.int xi)] 2)) t := by
                    intro t k
                    refine pre158 t ?_
                    refine XS.icmpYes X0.here hx rfl (pc0 := 75) (pc' := 80) rfl (hb hby d2_75) rfl (feq hc75).2 (by decide) (by decide) ?_
                    show Steps p.tables e below (s₁.setTop (mkF m 80 #[.val (.ref ra), .val (.int xi)] [])) _
                    refine XS.iconst X0.here hx rfl (hb hby d2_80) ?_
                    show Steps p.tables e below (s₁.setTop (mkF m 81 #[.val (.ref ra), .val (.int xi)] [(.int (-1 : Int32))])) _
                    exact k
                  obtain ⟨fs, hr, hrun, hended, hW, hsame⟩ := X0.leave (v := some (.int (-1 : Int32))) (fun h => by rw [Bd.returns] at h; cases h)
                  refine ⟨_, _, pre160 _ ?_, hrun, hended, _, _, rfl, ?_, ⟨_, rfl⟩, hW, hsame.mono (by decide) (by decide)⟩
                  · exact retI X0 hx Bd.returns (hb hby d2_81) hr
                  · show Q_rm_next Z ra xi ki xs h0 n0 _ s₁.heap _
                    rw [e0]
                    exact ⟨congrArg (fun z => some (Value.int z)) (show (-1 : Int32) = (F_rm_next xi xs) from by rw [F_rm_next, if_neg hc2, if_neg hc18, if_pos hc34, if_neg hc43, if_pos hc50, if_neg hc59, if_pos hc66, if_neg hc75]), N0, rfl⟩
              · have pre161 : ∀ t, Steps p.tables e below (s₁.setTop (mkF m 81 #[.val (.ref ra), .val (.int xi)] [(.int (-1 : Int32))])) t → Steps p.tables e below (s₁.setTop (entryFrame m #[(.ref ra), (.int xi)] 2)) t := by
                  intro t k
                  refine pre155 t ?_
                  refine XS.icmpYes X0.here hx rfl (pc0 := 66) (pc' := 80) rfl (hb hby d2_66) rfl (flt hc66).2.1 (by decide) (by decide) ?_
                  show Steps p.tables e below (s₁.setTop (mkF m 80 #[.val (.ref ra), .val (.int xi)] [])) _
                  refine XS.iconst X0.here hx rfl (hb hby d2_80) ?_
                  show Steps p.tables e below (s₁.setTop (mkF m 81 #[.val (.ref ra), .val (.int xi)] [(.int (-1 : Int32))])) _
                  exact k
                obtain ⟨fs, hr, hrun, hended, hW, hsame⟩ := X0.leave (v := some (.int (-1 : Int32))) (fun h => by rw [Bd.returns] at h; cases h)
                refine ⟨_, _, pre161 _ ?_, hrun, hended, _, _, rfl, ?_, ⟨_, rfl⟩, hW, hsame.mono (by decide) (by decide)⟩
                · exact retI X0 hx Bd.returns (hb hby d2_81) hr
                · show Q_rm_next Z ra xi ki xs h0 n0 _ s₁.heap _
                  rw [e0]
                  exact ⟨congrArg (fun z => some (Value.int z)) (show (-1 : Int32) = (F_rm_next xi xs) from by rw [F_rm_next, if_neg hc2, if_neg hc18, if_pos hc34, if_neg hc43, if_pos hc50, if_neg hc59, if_neg hc66]), N0, rfl⟩
          · have pre162 : ∀ t, Steps p.tables e below (s₁.setTop (mkF m 66 #[.val (.ref ra), .val (.int xi)] [(.int (5 : Int32)), (.int xi)])) t → Steps p.tables e below (s₁.setTop (entryFrame m #[(.ref ra), (.int xi)] 2)) t := by
              intro t k
              refine pre150 t ?_
              refine XS.icmpYes X0.here hx rfl (pc0 := 50) (pc' := 64) rfl (hb hby d2_50) rfl (flt hc50).2.1 (by decide) (by decide) ?_
              show Steps p.tables e below (s₁.setTop (mkF m 64 #[.val (.ref ra), .val (.int xi)] [])) _
              refine XS.iloadN X0.here hx rfl (hb hby d2_64) rfl ?_
              show Steps p.tables e below (s₁.setTop (mkF m 65 #[.val (.ref ra), .val (.int xi)] [(.int xi)])) _
              refine XS.iconst X0.here hx rfl (hb hby d2_65) ?_
              show Steps p.tables e below (s₁.setTop (mkF m 66 #[.val (.ref ra), .val (.int xi)] [(.int (5 : Int32)), (.int xi)])) _
              exact k
            by_cases hc66 : xi < (5 : Int32)
            · have pre165 : ∀ t, Steps p.tables e below (s₁.setTop (mkF m 75 #[.val (.ref ra), .val (.int xi)] [(.int (own_at xs xi)), (.int (own_at xs (5 : Int32)))])) t → Steps p.tables e below (s₁.setTop (entryFrame m #[(.ref ra), (.int xi)] 2)) t := by
                intro t k
                refine pre162 t ?_
                refine XS.icmpNo X0.here hx rfl (hb hby d2_66) rfl (tlt hc66).2.1 ?_
                show Steps p.tables e below (s₁.setTop (mkF m 69 #[.val (.ref ra), .val (.int xi)] [])) _
                refine XS.aloadN X0.here hx rfl (hb hby d2_69) rfl rfl ?_
                show Steps p.tables e below (s₁.setTop (mkF m 70 #[.val (.ref ra), .val (.int xi)] [(.ref ra)])) _
                refine XS.iconst X0.here hx rfl (hb hby d2_70) ?_
                show Steps p.tables e below (s₁.setTop (mkF m 71 #[.val (.ref ra), .val (.int xi)] [(.int (5 : Int32)), (.ref ra)])) _
                obtain ⟨c163, a163, q163, s163, m163, i163, u163⟩ := id V1
                have hin163 := inb_of (j := (5 : Int32)) s163 (by decide)
                refine X0.iaload hx (j := (5 : Int32)) (v := (.int (own_at xs (5 : Int32)))) (by rw [e0]; exact a163.1) (State.isArrayOf_alike hZ.alike a163.2.1) a163.2.2 hin163 (i163.at hin163 (own_getD xs _)) (g := (mkF m 71 #[.val (.ref ra), .val (.int xi)] [(.int (5 : Int32)), (.ref ra)])) rfl rfl (hb hby d2_71) _ ?_
                show Steps p.tables e below (s₁.setTop (mkF m 72 #[.val (.ref ra), .val (.int xi)] [(.int (own_at xs (5 : Int32)))])) _
                refine XS.aloadN X0.here hx rfl (hb hby d2_72) rfl rfl ?_
                show Steps p.tables e below (s₁.setTop (mkF m 73 #[.val (.ref ra), .val (.int xi)] [(.ref ra), (.int (own_at xs (5 : Int32)))])) _
                refine XS.iloadN X0.here hx rfl (hb hby d2_73) rfl ?_
                show Steps p.tables e below (s₁.setTop (mkF m 74 #[.val (.ref ra), .val (.int xi)] [(.int xi), (.ref ra), (.int (own_at xs (5 : Int32)))])) _
                obtain ⟨c164, a164, q164, s164, m164, i164, u164⟩ := id V1
                have hin164 := inb_of (j := xi) s164 hi
                refine X0.iaload hx (j := xi) (v := (.int (own_at xs xi))) (by rw [e0]; exact a164.1) (State.isArrayOf_alike hZ.alike a164.2.1) a164.2.2 hin164 (i164.at hin164 (own_getD xs _)) (g := (mkF m 74 #[.val (.ref ra), .val (.int xi)] [(.int xi), (.ref ra), (.int (own_at xs (5 : Int32)))])) rfl rfl (hb hby d2_74) _ ?_
                show Steps p.tables e below (s₁.setTop (mkF m 75 #[.val (.ref ra), .val (.int xi)] [(.int (own_at xs xi)), (.int (own_at xs (5 : Int32)))])) _
                exact k
              by_cases hc75 : (own_at xs (5 : Int32)) = (own_at xs xi)
              · have pre166 : ∀ t, Steps p.tables e below (s₁.setTop (mkF m 79 #[.val (.ref ra), .val (.int xi)] [(.int (5 : Int32))])) t → Steps p.tables e below (s₁.setTop (entryFrame m #[(.ref ra), (.int xi)] 2)) t := by
                  intro t k
                  refine pre165 t ?_
                  refine XS.icmpNo X0.here hx rfl (hb hby d2_75) rfl (teq hc75).2 ?_
                  show Steps p.tables e below (s₁.setTop (mkF m 78 #[.val (.ref ra), .val (.int xi)] [])) _
                  refine XS.iconst X0.here hx rfl (hb hby d2_78) ?_
                  show Steps p.tables e below (s₁.setTop (mkF m 79 #[.val (.ref ra), .val (.int xi)] [(.int (5 : Int32))])) _
                  exact k
                obtain ⟨fs, hr, hrun, hended, hW, hsame⟩ := X0.leave (v := some (.int (5 : Int32))) (fun h => by rw [Bd.returns] at h; cases h)
                refine ⟨_, _, pre166 _ ?_, hrun, hended, _, _, rfl, ?_, ⟨_, rfl⟩, hW, hsame.mono (by decide) (by decide)⟩
                · exact retI X0 hx Bd.returns (hb hby d2_79) hr
                · show Q_rm_next Z ra xi ki xs h0 n0 _ s₁.heap _
                  rw [e0]
                  exact ⟨congrArg (fun z => some (Value.int z)) (show (5 : Int32) = (F_rm_next xi xs) from by rw [F_rm_next, if_neg hc2, if_neg hc18, if_pos hc34, if_neg hc43, if_neg hc50, if_pos hc66, if_pos hc75]), N0, rfl⟩
              · have pre167 : ∀ t, Steps p.tables e below (s₁.setTop (mkF m 81 #[.val (.ref ra), .val (.int xi)] [(.int (-1 : Int32))])) t → Steps p.tables e below (s₁.setTop (entryFrame m #[(.ref ra), (.int xi)] 2)) t := by
                  intro t k
                  refine pre165 t ?_
                  refine XS.icmpYes X0.here hx rfl (pc0 := 75) (pc' := 80) rfl (hb hby d2_75) rfl (feq hc75).2 (by decide) (by decide) ?_
                  show Steps p.tables e below (s₁.setTop (mkF m 80 #[.val (.ref ra), .val (.int xi)] [])) _
                  refine XS.iconst X0.here hx rfl (hb hby d2_80) ?_
                  show Steps p.tables e below (s₁.setTop (mkF m 81 #[.val (.ref ra), .val (.int xi)] [(.int (-1 : Int32))])) _
                  exact k
                obtain ⟨fs, hr, hrun, hended, hW, hsame⟩ := X0.leave (v := some (.int (-1 : Int32))) (fun h => by rw [Bd.returns] at h; cases h)
                refine ⟨_, _, pre167 _ ?_, hrun, hended, _, _, rfl, ?_, ⟨_, rfl⟩, hW, hsame.mono (by decide) (by decide)⟩
                · exact retI X0 hx Bd.returns (hb hby d2_81) hr
                · show Q_rm_next Z ra xi ki xs h0 n0 _ s₁.heap _
                  rw [e0]
                  exact ⟨congrArg (fun z => some (Value.int z)) (show (-1 : Int32) = (F_rm_next xi xs) from by rw [F_rm_next, if_neg hc2, if_neg hc18, if_pos hc34, if_neg hc43, if_neg hc50, if_pos hc66, if_neg hc75]), N0, rfl⟩
            · have pre168 : ∀ t, Steps p.tables e below (s₁.setTop (mkF m 81 #[.val (.ref ra), .val (.int xi)] [(.int (-1 : Int32))])) t → Steps p.tables e below (s₁.setTop (entryFrame m #[(.ref ra), (.int xi)] 2)) t := by
                intro t k
                refine pre162 t ?_
                refine XS.icmpYes X0.here hx rfl (pc0 := 66) (pc' := 80) rfl (hb hby d2_66) rfl (flt hc66).2.1 (by decide) (by decide) ?_
                show Steps p.tables e below (s₁.setTop (mkF m 80 #[.val (.ref ra), .val (.int xi)] [])) _
                refine XS.iconst X0.here hx rfl (hb hby d2_80) ?_
                show Steps p.tables e below (s₁.setTop (mkF m 81 #[.val (.ref ra), .val (.int xi)] [(.int (-1 : Int32))])) _
                exact k
              obtain ⟨fs, hr, hrun, hended, hW, hsame⟩ := X0.leave (v := some (.int (-1 : Int32))) (fun h => by rw [Bd.returns] at h; cases h)
              refine ⟨_, _, pre168 _ ?_, hrun, hended, _, _, rfl, ?_, ⟨_, rfl⟩, hW, hsame.mono (by decide) (by decide)⟩
              · exact retI X0 hx Bd.returns (hb hby d2_81) hr
              · show Q_rm_next Z ra xi ki xs h0 n0 _ s₁.heap _
                rw [e0]
                exact ⟨congrArg (fun z => some (Value.int z)) (show (-1 : Int32) = (F_rm_next xi xs) from by rw [F_rm_next, if_neg hc2, if_neg hc18, if_pos hc34, if_neg hc43, if_neg hc50, if_neg hc66]), N0, rfl⟩
      · have pre169 : ∀ t, Steps p.tables e below (s₁.setTop (mkF m 50 #[.val (.ref ra), .val (.int xi)] [(.int (4 : Int32)), (.int xi)])) t → Steps p.tables e below (s₁.setTop (entryFrame m #[(.ref ra), (.int xi)] 2)) t := by
          intro t k
          refine pre145 t ?_
          refine XS.icmpYes X0.here hx rfl (pc0 := 34) (pc' := 48) rfl (hb hby d2_34) rfl (flt hc34).2.1 (by decide) (by decide) ?_
          show Steps p.tables e below (s₁.setTop (mkF m 48 #[.val (.ref ra), .val (.int xi)] [])) _
          refine XS.iloadN X0.here hx rfl (hb hby d2_48) rfl ?_
          show Steps p.tables e below (s₁.setTop (mkF m 49 #[.val (.ref ra), .val (.int xi)] [(.int xi)])) _
          refine XS.iconst X0.here hx rfl (hb hby d2_49) ?_
          show Steps p.tables e below (s₁.setTop (mkF m 50 #[.val (.ref ra), .val (.int xi)] [(.int (4 : Int32)), (.int xi)])) _
          exact k
        by_cases hc50 : xi < (4 : Int32)
        · have pre172 : ∀ t, Steps p.tables e below (s₁.setTop (mkF m 59 #[.val (.ref ra), .val (.int xi)] [(.int (own_at xs xi)), (.int (own_at xs (4 : Int32)))])) t → Steps p.tables e below (s₁.setTop (entryFrame m #[(.ref ra), (.int xi)] 2)) t := by
            intro t k
            refine pre169 t ?_
            refine XS.icmpNo X0.here hx rfl (hb hby d2_50) rfl (tlt hc50).2.1 ?_
            show Steps p.tables e below (s₁.setTop (mkF m 53 #[.val (.ref ra), .val (.int xi)] [])) _
            refine XS.aloadN X0.here hx rfl (hb hby d2_53) rfl rfl ?_
            show Steps p.tables e below (s₁.setTop (mkF m 54 #[.val (.ref ra), .val (.int xi)] [(.ref ra)])) _
            refine XS.iconst X0.here hx rfl (hb hby d2_54) ?_
            show Steps p.tables e below (s₁.setTop (mkF m 55 #[.val (.ref ra), .val (.int xi)] [(.int (4 : Int32)), (.ref ra)])) _
            obtain ⟨c170, a170, q170, s170, m170, i170, u170⟩ := id V1
            have hin170 := inb_of (j := (4 : Int32)) s170 (by decide)
            refine X0.iaload hx (j := (4 : Int32)) (v := (.int (own_at xs (4 : Int32)))) (by rw [e0]; exact a170.1) (State.isArrayOf_alike hZ.alike a170.2.1) a170.2.2 hin170 (i170.at hin170 (own_getD xs _)) (g := (mkF m 55 #[.val (.ref ra), .val (.int xi)] [(.int (4 : Int32)), (.ref ra)])) rfl rfl (hb hby d2_55) _ ?_
            show Steps p.tables e below (s₁.setTop (mkF m 56 #[.val (.ref ra), .val (.int xi)] [(.int (own_at xs (4 : Int32)))])) _
            refine XS.aloadN X0.here hx rfl (hb hby d2_56) rfl rfl ?_
            show Steps p.tables e below (s₁.setTop (mkF m 57 #[.val (.ref ra), .val (.int xi)] [(.ref ra), (.int (own_at xs (4 : Int32)))])) _
            refine XS.iloadN X0.here hx rfl (hb hby d2_57) rfl ?_
            show Steps p.tables e below (s₁.setTop (mkF m 58 #[.val (.ref ra), .val (.int xi)] [(.int xi), (.ref ra), (.int (own_at xs (4 : Int32)))])) _
            obtain ⟨c171, a171, q171, s171, m171, i171, u171⟩ := id V1
            have hin171 := inb_of (j := xi) s171 hi
            refine X0.iaload hx (j := xi) (v := (.int (own_at xs xi))) (by rw [e0]; exact a171.1) (State.isArrayOf_alike hZ.alike a171.2.1) a171.2.2 hin171 (i171.at hin171 (own_getD xs _)) (g := (mkF m 58 #[.val (.ref ra), .val (.int xi)] [(.int xi), (.ref ra), (.int (own_at xs (4 : Int32)))])) rfl rfl (hb hby d2_58) _ ?_
            show Steps p.tables e below (s₁.setTop (mkF m 59 #[.val (.ref ra), .val (.int xi)] [(.int (own_at xs xi)), (.int (own_at xs (4 : Int32)))])) _
            exact k
          by_cases hc59 : (own_at xs (4 : Int32)) = (own_at xs xi)
          · have pre173 : ∀ t, Steps p.tables e below (s₁.setTop (mkF m 63 #[.val (.ref ra), .val (.int xi)] [(.int (4 : Int32))])) t → Steps p.tables e below (s₁.setTop (entryFrame m #[(.ref ra), (.int xi)] 2)) t := by
              intro t k
              refine pre172 t ?_
              refine XS.icmpNo X0.here hx rfl (hb hby d2_59) rfl (teq hc59).2 ?_
              show Steps p.tables e below (s₁.setTop (mkF m 62 #[.val (.ref ra), .val (.int xi)] [])) _
              refine XS.iconst X0.here hx rfl (hb hby d2_62) ?_
              show Steps p.tables e below (s₁.setTop (mkF m 63 #[.val (.ref ra), .val (.int xi)] [(.int (4 : Int32))])) _
              exact k
            obtain ⟨fs, hr, hrun, hended, hW, hsame⟩ := X0.leave (v := some (.int (4 : Int32))) (fun h => by rw [Bd.returns] at h; cases h)
            refine ⟨_, _, pre173 _ ?_, hrun, hended, _, _, rfl, ?_, ⟨_, rfl⟩, hW, hsame.mono (by decide) (by decide)⟩
            · exact retI X0 hx Bd.returns (hb hby d2_63) hr
            · show Q_rm_next Z ra xi ki xs h0 n0 _ s₁.heap _
              rw [e0]
              exact ⟨congrArg (fun z => some (Value.int z)) (show (4 : Int32) = (F_rm_next xi xs) from by rw [F_rm_next, if_neg hc2, if_neg hc18, if_neg hc34, if_pos hc50, if_pos hc59]), N0, rfl⟩
          · have pre174 : ∀ t, Steps p.tables e below (s₁.setTop (mkF m 66 #[.val (.ref ra), .val (.int xi)] [(.int (5 : Int32)), (.int xi)])) t → Steps p.tables e below (s₁.setTop (entryFrame m #[(.ref ra), (.int xi)] 2)) t := by
              intro t k
              refine pre172 t ?_
              refine XS.icmpYes X0.here hx rfl (pc0 := 59) (pc' := 64) rfl (hb hby d2_59) rfl (feq hc59).2 (by decide) (by decide) ?_
              show Steps p.tables e below (s₁.setTop (mkF m 64 #[.val (.ref ra), .val (.int xi)] [])) _
              refine XS.iloadN X0.here hx rfl (hb hby d2_64) rfl ?_
              show Steps p.tables e below (s₁.setTop (mkF m 65 #[.val (.ref ra), .val (.int xi)] [(.int xi)])) _
              refine XS.iconst X0.here hx rfl (hb hby d2_65) ?_
              show Steps p.tables e below (s₁.setTop (mkF m 66 #[.val (.ref ra), .val (.int xi)] [(.int (5 : Int32)), (.int xi)])) _
              exact k
            by_cases hc66 : xi < (5 : Int32)
            · have pre177 : ∀ t, Steps p.tables e below (s₁.setTop (mkF m 75 #[.val (.ref ra), .val (.int xi)] [(.int (own_at xs xi)), (.int (own_at xs (5 : Int32)))])) t → Steps p.tables e below (s₁.setTop (entryFrame m #[(.ref ra), (.int xi)] 2)) t := by
                intro t k
                refine pre174 t ?_
                refine XS.icmpNo X0.here hx rfl (hb hby d2_66) rfl (tlt hc66).2.1 ?_
                show Steps p.tables e below (s₁.setTop (mkF m 69 #[.val (.ref ra), .val (.int xi)] [])) _
                refine XS.aloadN X0.here hx rfl (hb hby d2_69) rfl rfl ?_
                show Steps p.tables e below (s₁.setTop (mkF m 70 #[.val (.ref ra), .val (.int xi)] [(.ref ra)])) _
                refine XS.iconst X0.here hx rfl (hb hby d2_70) ?_
                show Steps p.tables e below (s₁.setTop (mkF m 71 #[.val (.ref ra), .val (.int xi)] [(.int (5 : Int32)), (.ref ra)])) _
                obtain ⟨c175, a175, q175, s175, m175, i175, u175⟩ := id V1
                have hin175 := inb_of (j := (5 : Int32)) s175 (by decide)
                refine X0.iaload hx (j := (5 : Int32)) (v := (.int (own_at xs (5 : Int32)))) (by rw [e0]; exact a175.1) (State.isArrayOf_alike hZ.alike a175.2.1) a175.2.2 hin175 (i175.at hin175 (own_getD xs _)) (g := (mkF m 71 #[.val (.ref ra), .val (.int xi)] [(.int (5 : Int32)), (.ref ra)])) rfl rfl (hb hby d2_71) _ ?_
                show Steps p.tables e below (s₁.setTop (mkF m 72 #[.val (.ref ra), .val (.int xi)] [(.int (own_at xs (5 : Int32)))])) _
                refine XS.aloadN X0.here hx rfl (hb hby d2_72) rfl rfl ?_
                show Steps p.tables e below (s₁.setTop (mkF m 73 #[.val (.ref ra), .val (.int xi)] [(.ref ra), (.int (own_at xs (5 : Int32)))])) _
                refine XS.iloadN X0.here hx rfl (hb hby d2_73) rfl ?_
                show Steps p.tables e below (s₁.setTop (mkF m 74 #[.val (.ref ra), .val (.int xi)] [(.int xi), (.ref ra), (.int (own_at xs (5 : Int32)))])) _
                obtain ⟨c176, a176, q176, s176, m176, i176, u176⟩ := id V1
                have hin176 := inb_of (j := xi) s176 hi
                refine X0.iaload hx (j := xi) (v := (.int (own_at xs xi))) (by rw [e0]; exact a176.1) (State.isArrayOf_alike hZ.alike a176.2.1) a176.2.2 hin176 (i176.at hin176 (own_getD xs _)) (g := (mkF m 74 #[.val (.ref ra), .val (.int xi)] [(.int xi), (.ref ra), (.int (own_at xs (5 : Int32)))])) rfl rfl (hb hby d2_74) _ ?_
                show Steps p.tables e below (s₁.setTop (mkF m 75 #[.val (.ref ra), .val (.int xi)] [(.int (own_at xs xi)), (.int (own_at xs (5 : Int32)))])) _
                exact k
              by_cases hc75 : (own_at xs (5 : Int32)) = (own_at xs xi)
              · have pre178 : ∀ t, Steps p.tables e below (s₁.setTop (mkF m 79 #[.val (.ref ra), .val (.int xi)] [(.int (5 : Int32))])) t → Steps p.tables e below (s₁.setTop (entryFrame m #[(.ref ra), (.int xi)] 2)) t := by
                  intro t k
                  refine pre177 t ?_
                  refine XS.icmpNo X0.here hx rfl (hb hby d2_75) rfl (teq hc75).2 ?_
                  show Steps p.tables e below (s₁.setTop (mkF m 78 #[.val (.ref ra), .val (.int xi)] [])) _
                  refine XS.iconst X0.here hx rfl (hb hby d2_78) ?_
                  show Steps p.tables e below (s₁.setTop (mkF m 79 #[.val (.ref ra), .val (.int xi)] [(.int (5 : Int32))])) _
                  exact k
                obtain ⟨fs, hr, hrun, hended, hW, hsame⟩ := X0.leave (v := some (.int (5 : Int32))) (fun h => by rw [Bd.returns] at h; cases h)
                refine ⟨_, _, pre178 _ ?_, hrun, hended, _, _, rfl, ?_, ⟨_, rfl⟩, hW, hsame.mono (by decide) (by decide)⟩
                · exact retI X0 hx Bd.returns (hb hby d2_79) hr
                · show Q_rm_next Z ra xi ki xs h0 n0 _ s₁.heap _
                  rw [e0]
                  exact ⟨congrArg (fun z => some (Value.int z)) (show (5 : Int32) = (F_rm_next xi xs) from by rw [F_rm_next, if_neg hc2, if_neg hc18, if_neg hc34, if_pos hc50, if_neg hc59, if_pos hc66, if_pos hc75]), N0, rfl⟩
              · have pre179 : ∀ t, Steps p.tables e below (s₁.setTop (mkF m 81 #[.val (.ref ra), .val (.int xi)] [(.int (-1 : Int32))])) t → Steps p.tables e below (s₁.setTop (entryFrame m #[(.ref ra), (.int xi)] 2)) t := by
                  intro t k
                  refine pre177 t ?_
                  refine XS.icmpYes X0.here hx rfl (pc0 := 75) (pc' := 80) rfl (hb hby d2_75) rfl (feq hc75).2 (by decide) (by decide) ?_
                  show Steps p.tables e below (s₁.setTop (mkF m 80 #[.val (.ref ra), .val (.int xi)] [])) _
                  refine XS.iconst X0.here hx rfl (hb hby d2_80) ?_
                  show Steps p.tables e below (s₁.setTop (mkF m 81 #[.val (.ref ra), .val (.int xi)] [(.int (-1 : Int32))])) _
                  exact k
                obtain ⟨fs, hr, hrun, hended, hW, hsame⟩ := X0.leave (v := some (.int (-1 : Int32))) (fun h => by rw [Bd.returns] at h; cases h)
                refine ⟨_, _, pre179 _ ?_, hrun, hended, _, _, rfl, ?_, ⟨_, rfl⟩, hW, hsame.mono (by decide) (by decide)⟩
                · exact retI X0 hx Bd.returns (hb hby d2_81) hr
                · show Q_rm_next Z ra xi ki xs h0 n0 _ s₁.heap _
                  rw [e0]
                  exact ⟨congrArg (fun z => some (Value.int z)) (show (-1 : Int32) = (F_rm_next xi xs) from by rw [F_rm_next, if_neg hc2, if_neg hc18, if_neg hc34, if_pos hc50, if_neg hc59, if_pos hc66, if_neg hc75]), N0, rfl⟩
            · have pre180 : ∀ t, Steps p.tables e below (s₁.setTop (mkF m 81 #[.val (.ref ra), .val (.int xi)] [(.int (-1 : Int32))])) t → Steps p.tables e below (s₁.setTop (entryFrame m #[(.ref ra), (.int xi)] 2)) t := by
                intro t k
                refine pre174 t ?_
                refine XS.icmpYes X0.here hx rfl (pc0 := 66) (pc' := 80) rfl (hb hby d2_66) rfl (flt hc66).2.1 (by decide) (by decide) ?_
                show Steps p.tables e below (s₁.setTop (mkF m 80 #[.val (.ref ra), .val (.int xi)] [])) _
                refine XS.iconst X0.here hx rfl (hb hby d2_80) ?_
                show Steps p.tables e below (s₁.setTop (mkF m 81 #[.val (.ref ra), .val (.int xi)] [(.int (-1 : Int32))])) _
                exact k
              obtain ⟨fs, hr, hrun, hended, hW, hsame⟩ := X0.leave (v := some (.int (-1 : Int32))) (fun h => by rw [Bd.returns] at h; cases h)
              refine ⟨_, _, pre180 _ ?_, hrun, hended, _, _, rfl, ?_, ⟨_, rfl⟩, hW, hsame.mono (by decide) (by decide)⟩
              · exact retI X0 hx Bd.returns (hb hby d2_81) hr
              · show Q_rm_next Z ra xi ki xs h0 n0 _ s₁.heap _
                rw [e0]
                exact ⟨congrArg (fun z => some (Value.int z)) (show (-1 : Int32) = (F_rm_next xi xs) from by rw [F_rm_next, if_neg hc2, if_neg hc18, if_neg hc34, if_pos hc50, if_neg hc59, if_neg hc66]), N0, rfl⟩
        · have pre181 : ∀ t, Steps p.tables e below (s₁.setTop (mkF m 66 #[.val (.ref ra), .val (.int xi)] [(.int (5 : Int32)), (.int xi)])) t → Steps p.tables e below (s₁.setTop (entryFrame m #[(.ref ra), (.int xi)] 2)) t := by
            intro t k
            refine pre169 t ?_
            refine XS.icmpYes X0.here hx rfl (pc0 := 50) (pc' := 64) rfl (hb hby d2_50) rfl (flt hc50).2.1 (by decide) (by decide) ?_
            show Steps p.tables e below (s₁.setTop (mkF m 64 #[.val (.ref ra), .val (.int xi)] [])) _
            refine XS.iloadN X0.here hx rfl (hb hby d2_64) rfl ?_
            show Steps p.tables e below (s₁.setTop (mkF m 65 #[.val (.ref ra), .val (.int xi)] [(.int xi)])) _
            refine XS.iconst X0.here hx rfl (hb hby d2_65) ?_
            show Steps p.tables e below (s₁.setTop (mkF m 66 #[.val (.ref ra), .val (.int xi)] [(.int (5 : Int32)), (.int xi)])) _
            exact k
          by_cases hc66 : xi < (5 : Int32)
          · have pre184 : ∀ t, Steps p.tables e below (s₁.setTop (mkF m 75 #[.val (.ref ra), .val (.int xi)] [(.int (own_at xs xi)), (.int (own_at xs (5 : Int32)))])) t → Steps p.tables e below (s₁.setTop (entryFrame m #[(.ref ra), (.int xi)] 2)) t := by
              intro t k
              refine pre181 t ?_
              refine XS.icmpNo X0.here hx rfl (hb hby d2_66) rfl (tlt hc66).2.1 ?_
              show Steps p.tables e below (s₁.setTop (mkF m 69 #[.val (.ref ra), .val (.int xi)] [])) _
              refine XS.aloadN X0.here hx rfl (hb hby d2_69) rfl rfl ?_
              show Steps p.tables e below (s₁.setTop (mkF m 70 #[.val (.ref ra), .val (.int xi)] [(.ref ra)])) _
              refine XS.iconst X0.here hx rfl (hb hby d2_70) ?_
              show Steps p.tables e below (s₁.setTop (mkF m 71 #[.val (.ref ra), .val (.int xi)] [(.int (5 : Int32)), (.ref ra)])) _
              obtain ⟨c182, a182, q182, s182, m182, i182, u182⟩ := id V1
              have hin182 := inb_of (j := (5 : Int32)) s182 (by decide)
              refine X0.iaload hx (j := (5 : Int32)) (v := (.int (own_at xs (5 : Int32)))) (by rw [e0]; exact a182.1) (State.isArrayOf_alike hZ.alike a182.2.1) a182.2.2 hin182 (i182.at hin182 (own_getD xs _)) (g := (mkF m 71 #[.val (.ref ra), .val (.int xi)] [(.int (5 : Int32)), (.ref ra)])) rfl rfl (hb hby d2_71) _ ?_
              show Steps p.tables e below (s₁.setTop (mkF m 72 #[.val (.ref ra), .val (.int xi)] [(.int (own_at xs (5 : Int32)))])) _
              refine XS.aloadN X0.here hx rfl (hb hby d2_72) rfl rfl ?_
              show Steps p.tables e below (s₁.setTop (mkF m 73 #[.val (.ref ra), .val (.int xi)] [(.ref ra), (.int (own_at xs (5 : Int32)))])) _
              refine XS.iloadN X0.here hx rfl (hb hby d2_73) rfl ?_
              show Steps p.tables e below (s₁.setTop (mkF m 74 #[.val (.ref ra), .val (.int xi)] [(.int xi), (.ref ra), (.int (own_at xs (5 : Int32)))])) _
              obtain ⟨c183, a183, q183, s183, m183, i183, u183⟩ := id V1
              have hin183 := inb_of (j := xi) s183 hi
              refine X0.iaload hx (j := xi) (v := (.int (own_at xs xi))) (by rw [e0]; exact a183.1) (State.isArrayOf_alike hZ.alike a183.2.1) a183.2.2 hin183 (i183.at hin183 (own_getD xs _)) (g := (mkF m 74 #[.val (.ref ra), .val (.int xi)] [(.int xi), (.ref ra), (.int (own_at xs (5 : Int32)))])) rfl rfl (hb hby d2_74) _ ?_
              show Steps p.tables e below (s₁.setTop (mkF m 75 #[.val (.ref ra), .val (.int xi)] [(.int (own_at xs xi)), (.int (own_at xs (5 : Int32)))])) _
              exact k
            by_cases hc75 : (own_at xs (5 : Int32)) = (own_at xs xi)
            · have pre185 : ∀ t, Steps p.tables e below (s₁.setTop (mkF m 79 #[.val (.ref ra), .val (.int xi)] [(.int (5 : Int32))])) t → Steps p.tables e below (s₁.setTop (entryFrame m #[(.ref ra), (.int xi)] 2)) t := by
                intro t k
                refine pre184 t ?_
                refine XS.icmpNo X0.here hx rfl (hb hby d2_75) rfl (teq hc75).2 ?_
                show Steps p.tables e below (s₁.setTop (mkF m 78 #[.val (.ref ra), .val (.int xi)] [])) _
                refine XS.iconst X0.here hx rfl (hb hby d2_78) ?_
                show Steps p.tables e below (s₁.setTop (mkF m 79 #[.val (.ref ra), .val (.int xi)] [(.int (5 : Int32))])) _
                exact k
              obtain ⟨fs, hr, hrun, hended, hW, hsame⟩ := X0.leave (v := some (.int (5 : Int32))) (fun h => by rw [Bd.returns] at h; cases h)
              refine ⟨_, _, pre185 _ ?_, hrun, hended, _, _, rfl, ?_, ⟨_, rfl⟩, hW, hsame.mono (by decide) (by decide)⟩
              · exact retI X0 hx Bd.returns (hb hby d2_79) hr
              · show Q_rm_next Z ra xi ki xs h0 n0 _ s₁.heap _
                rw [e0]
                exact ⟨congrArg (fun z => some (Value.int z)) (show (5 : Int32) = (F_rm_next xi xs) from by rw [F_rm_next, if_neg hc2, if_neg hc18, if_neg hc34, if_neg hc50, if_pos hc66, if_pos hc75]), N0, rfl⟩
            · have pre186 : ∀ t, Steps p.tables e below (s₁.setTop (mkF m 81 #[.val (.ref ra), .val (.int xi)] [(.int (-1 : Int32))])) t → Steps p.tables e below (s₁.setTop (entryFrame m #[(.ref ra), (.int xi)] 2)) t := by
                intro t k
                refine pre184 t ?_
                refine XS.icmpYes X0.here hx rfl (pc0 := 75) (pc' := 80) rfl (hb hby d2_75) rfl (feq hc75).2 (by decide) (by decide) ?_
                show Steps p.tables e below (s₁.setTop (mkF m 80 #[.val (.ref ra), .val (.int xi)] [])) _
                refine XS.iconst X0.here hx rfl (hb hby d2_80) ?_
                show Steps p.tables e below (s₁.setTop (mkF m 81 #[.val (.ref ra), .val (.int xi)] [(.int (-1 : Int32))])) _
                exact k
              obtain ⟨fs, hr, hrun, hended, hW, hsame⟩ := X0.leave (v := some (.int (-1 : Int32))) (fun h => by rw [Bd.returns] at h; cases h)
              refine ⟨_, _, pre186 _ ?_, hrun, hended, _, _, rfl, ?_, ⟨_, rfl⟩, hW, hsame.mono (by decide) (by decide)⟩
              · exact retI X0 hx Bd.returns (hb hby d2_81) hr
              · show Q_rm_next Z ra xi ki xs h0 n0 _ s₁.heap _
                rw [e0]
                exact ⟨congrArg (fun z => some (Value.int z)) (show (-1 : Int32) = (F_rm_next xi xs) from by rw [F_rm_next, if_neg hc2, if_neg hc18, if_neg hc34, if_neg hc50, if_pos hc66, if_neg hc75]), N0, rfl⟩
          · have pre187 : ∀ t, Steps p.tables e below (s₁.setTop (mkF m 81 #[.val (.ref ra), .val (.int xi)] [(.int (-1 : Int32))])) t → Steps p.tables e below (s₁.setTop (entryFrame m #[(.ref ra), (.int xi)] 2)) t := by
              intro t k
              refine pre181 t ?_
              refine XS.icmpYes X0.here hx rfl (pc0 := 66) (pc' := 80) rfl (hb hby d2_66) rfl (flt hc66).2.1 (by decide) (by decide) ?_
              show Steps p.tables e below (s₁.setTop (mkF m 80 #[.val (.ref ra), .val (.int xi)] [])) _
              refine XS.iconst X0.here hx rfl (hb hby d2_80) ?_
              show Steps p.tables e below (s₁.setTop (mkF m 81 #[.val (.ref ra), .val (.int xi)] [(.int (-1 : Int32))])) _
              exact k
            obtain ⟨fs, hr, hrun, hended, hW, hsame⟩ := X0.leave (v := some (.int (-1 : Int32))) (fun h => by rw [Bd.returns] at h; cases h)
            refine ⟨_, _, pre187 _ ?_, hrun, hended, _, _, rfl, ?_, ⟨_, rfl⟩, hW, hsame.mono (by decide) (by decide)⟩
            · exact retI X0 hx Bd.returns (hb hby d2_81) hr
            · show Q_rm_next Z ra xi ki xs h0 n0 _ s₁.heap _
              rw [e0]
              exact ⟨congrArg (fun z => some (Value.int z)) (show (-1 : Int32) = (F_rm_next xi xs) from by rw [F_rm_next, if_neg hc2, if_neg hc18, if_neg hc34, if_neg hc50, if_neg hc66]), N0, rfl⟩
theorem d10_0 : decode method_5_code 0 = .ok (.iload_n 1, 1) := by decide +kernel
theorem d10_1 : decode method_5_code 1 = .ok (.iconst 1, 1) := by decide +kernel
theorem d10_2 : decode method_5_code 2 = .ok (.if_icmp .ge 12, 3) := by decide +kernel
theorem d10_5 : decode method_5_code 5 = .ok (.aload_n 0, 1) := by decide +kernel
theorem d10_6 : decode method_5_code 6 = .ok (.iconst 1, 1) := by decide +kernel
theorem d10_7 : decode method_5_code 7 = .ok (.iaload, 1) := by decide +kernel
theorem d10_8 : decode method_5_code 8 = .ok (.iload_n 1, 1) := by decide +kernel
theorem d10_9 : decode method_5_code 9 = .ok (.if_icmp .ge 5, 3) := by decide +kernel
theorem d10_12 : decode method_5_code 12 = .ok (.iconst 1, 1) := by decide +kernel
theorem d10_13 : decode method_5_code 13 = .ok (.ireturn, 1) := by decide +kernel
theorem d10_14 : decode method_5_code 14 = .ok (.iload_n 1, 1) := by decide +kernel
theorem d10_15 : decode method_5_code 15 = .ok (.iconst 2, 1) := by decide +kernel
theorem d10_16 : decode method_5_code 16 = .ok (.if_icmp .ge 12, 3) := by decide +kernel
theorem d10_19 : decode method_5_code 19 = .ok (.aload_n 0, 1) := by decide +kernel
theorem d10_20 : decode method_5_code 20 = .ok (.iconst 2, 1) := by decide +kernel
theorem d10_21 : decode method_5_code 21 = .ok (.iaload, 1) := by decide +kernel
theorem d10_22 : decode method_5_code 22 = .ok (.iload_n 1, 1) := by decide +kernel
theorem d10_23 : decode method_5_code 23 = .ok (.if_icmp .ge 5, 3) := by decide +kernel
theorem d10_26 : decode method_5_code 26 = .ok (.iconst 2, 1) := by decide +kernel
theorem d10_27 : decode method_5_code 27 = .ok (.ireturn, 1) := by decide +kernel
theorem d10_28 : decode method_5_code 28 = .ok (.iload_n 1, 1) := by decide +kernel
theorem d10_29 : decode method_5_code 29 = .ok (.iconst 3, 1) := by decide +kernel
theorem d10_30 : decode method_5_code 30 = .ok (.if_icmp .ge 12, 3) := by decide +kernel
theorem d10_33 : decode method_5_code 33 = .ok (.aload_n 0, 1) := by decide +kernel
theorem d10_34 : decode method_5_code 34 = .ok (.iconst 3, 1) := by decide +kernel
theorem d10_35 : decode method_5_code 35 = .ok (.iaload, 1) := by decide +kernel
theorem d10_36 : decode method_5_code 36 = .ok (.iload_n 1, 1) := by decide +kernel
theorem d10_37 : decode method_5_code 37 = .ok (.if_icmp .ge 5, 3) := by decide +kernel
theorem d10_40 : decode method_5_code 40 = .ok (.iconst 3, 1) := by decide +kernel
theorem d10_41 : decode method_5_code 41 = .ok (.ireturn, 1) := by decide +kernel
theorem d10_42 : decode method_5_code 42 = .ok (.iload_n 1, 1) := by decide +kernel
theorem d10_43 : decode method_5_code 43 = .ok (.iconst 4, 1) := by decide +kernel
theorem d10_44 : decode method_5_code 44 = .ok (.if_icmp .ge 12, 3) := by decide +kernel
theorem d10_47 : decode method_5_code 47 = .ok (.aload_n 0, 1) := by decide +kernel
theorem d10_48 : decode method_5_code 48 = .ok (.iconst 4, 1) := by decide +kernel
theorem d10_49 : decode method_5_code 49 = .ok (.iaload, 1) := by decide +kernel
theorem d10_50 : decode method_5_code 50 = .ok (.iload_n 1, 1) := by decide +kernel
theorem d10_51 : decode method_5_code 51 = .ok (.if_icmp .ge 5, 3) := by decide +kernel
theorem d10_54 : decode method_5_code 54 = .ok (.iconst 4, 1) := by decide +kernel
theorem d10_55 : decode method_5_code 55 = .ok (.ireturn, 1) := by decide +kernel
theorem d10_56 : decode method_5_code 56 = .ok (.iload_n 1, 1) := by decide +kernel
theorem d10_57 : decode method_5_code 57 = .ok (.iconst 5, 1) := by decide +kernel
theorem d10_58 : decode method_5_code 58 = .ok (.if_icmp .ge 12, 3) := by decide +kernel
theorem d10_61 : decode method_5_code 61 = .ok (.aload_n 0, 1) := by decide +kernel
theorem d10_62 : decode method_5_code 62 = .ok (.iconst 5, 1) := by decide +kernel
theorem d10_63 : decode method_5_code 63 = .ok (.iaload, 1) := by decide +kernel
theorem d10_64 : decode method_5_code 64 = .ok (.iload_n 1, 1) := by decide +kernel
theorem d10_65 : decode method_5_code 65 = .ok (.if_icmp .ge 5, 3) := by decide +kernel
theorem d10_68 : decode method_5_code 68 = .ok (.iconst 5, 1) := by decide +kernel
theorem d10_69 : decode method_5_code 69 = .ok (.ireturn, 1) := by decide +kernel
theorem d10_70 : decode method_5_code 70 = .ok (.iconst (-1), 1) := by decide +kernel
theorem d10_71 : decode method_5_code 71 = .ok (.ireturn, 1) := by decide +kernel
def F_rm_after (xi : Int32) (xs : List Int32) : Int32 := (if xi < (1 : Int32) then (if (own_at xs (1 : Int32)) < xi then (1 : Int32) else (if xi < (2 : Int32) then (if (own_at xs (2 : Int32)) < xi then (2 : Int32) else (if xi < (3 : Int32) then (if (own_at xs (3 : Int32)) < xi then (3 : Int32) else (if xi < (4 : Int32) then (if (own_at xs (4 : Int32)) < xi then (4 : Int32) else (if xi < (5 : Int32) then (if (own_at xs (5 : Int32)) < xi then (5 : Int32) else (-1 : Int32)) else (-1 : Int32))) else (if xi < (5 : Int32) then (if (own_at xs (5 : Int32)) < xi then (5 : Int32) else (-1 : Int32)) else (-1 : Int32)))) else (if xi < (4 : Int32) then (if (own_at xs (4 : Int32)) < xi then (4 : Int32) else (if xi < (5 : Int32) then (if (own_at xs (5 : Int32)) < xi then (5 : Int32) else (-1 : Int32)) else (-1 : Int32))) else (if xi < (5 : Int32) then (if (own_at xs (5 : Int32)) < xi then (5 : Int32) else (-1 : Int32)) else (-1 : Int32))))) else (if xi < (3 : Int32) then (if (own_at xs (3 : Int32)) < xi then (3 : Int32) else (if xi < (4 : Int32) then (if (own_at xs (4 : Int32)) < xi then (4 : Int32) else (if xi < (5 : Int32) then (if (own_at xs (5 : Int32)) < xi then (5 : Int32) else (-1 : Int32)) else (-1 : Int32))) else (if xi < (5 : Int32) then (if (own_at xs (5 : Int32)) < xi then (5 : Int32) else (-1 : Int32)) else (-1 : Int32)))) else (if xi < (4 : Int32) then (if (own_at xs (4 : Int32)) < xi then (4 : Int32) else (if xi < (5 : Int32) then (if (own_at xs (5 : Int32)) < xi then (5 : Int32) else (-1 : Int32)) else (-1 : Int32))) else (if xi < (5 : Int32) then (if (own_at xs (5 : Int32)) < xi then (5 : Int32) else (-1 : Int32)) else (-1 : Int32)))))) else (if xi < (2 : Int32) then (if (own_at xs (2 : Int32)) < xi then (2 : Int32) else (if xi < (3 : Int32) then (if (own_at xs (3 : Int32)) < xi then (3 : Int32) else (if xi < (4 : Int32) then (if (own_at xs (4 : Int32)) < xi then (4 : Int32) else (if xi < (5 : Int32) then (if (own_at xs (5 : Int32)) < xi then (5 : Int32) else (-1 : Int32)) else (-1 : Int32))) else (if xi < (5 : Int32) then (if (own_at xs (5 : Int32)) < xi then (5 : Int32) else (-1 : Int32)) else (-1 : Int32)))) else (if xi < (4 : Int32) then (if (own_at xs (4 : Int32)) < xi then (4 : Int32) else (if xi < (5 : Int32) then (if (own_at xs (5 : Int32)) < xi then (5 : Int32) else (-1 : Int32)) else (-1 : Int32))) else (if xi < (5 : Int32) then (if (own_at xs (5 : Int32)) < xi then (5 : Int32) else (-1 : Int32)) else (-1 : Int32))))) else (if xi < (3 : Int32) then (if (own_at xs (3 : Int32)) < xi then (3 : Int32) else (if xi < (4 : Int32) then (if (own_at xs (4 : Int32)) < xi then (4 : Int32) else (if xi < (5 : Int32) then (if (own_at xs (5 : Int32)) < xi then (5 : Int32) else (-1 : Int32)) else (-1 : Int32))) else (if xi < (5 : Int32) then (if (own_at xs (5 : Int32)) < xi then (5 : Int32) else (-1 : Int32)) else (-1 : Int32)))) else (if xi < (4 : Int32) then (if (own_at xs (4 : Int32)) < xi then (4 : Int32) else (if xi < (5 : Int32) then (if (own_at xs (5 : Int32)) < xi then (5 : Int32) else (-1 : Int32)) else (-1 : Int32))) else (if xi < (5 : Int32) then (if (own_at xs (5 : Int32)) < xi then (5 : Int32) else (-1 : Int32)) else (-1 : Int32))))))
theorem ef_rm_after (m : MethodId) (ra : Addr) (xi : Int32) : entryFrame m #[(.ref ra), (.int xi)] 2 = mkF m 0 #[.val (.ref ra), .val (.int xi)] [] := by first | (simp [entryFrame, mkF, argsToLocals, Value.category]; done) | rfl
def Q_rm_after (Z : State) (ra : Addr) (xi : Int32) (ki : ClassId) (xs : List Int32) (h0 : Heap) (n0 : Nat) (v : Option Value) (h : Heap) (L : List Loc) : Prop := v = some (.int (F_rm_after xi xs)) ∧ Fr n0 L ∧ h = h0
set_option maxRecDepth 65536 in
set_option maxHeartbeats 40000000 in
theorem rm_after (l : Launch) (Z : State) (a0 : Array Value) (hw : ∀ d ∈ tables_1, d.before a0 Z = true) (ws : List Jvm.Cond) (ra : Addr) (xi : Int32) (ki : ClassId) (xs : List Int32) (h0 : Heap) (n0 : Nat) (Z0 : n0 ≤ h0.size) (V1 : Arv Z h0 ra ki .int (6 : Int32) (xs.map Value.int) (.int (0 : Int32))) :
    MetFree l (⟨"com/example/xidr/xidr/xml/tree/TreeAfterSubtreePinLaw", "after", "([II)I"⟩ : MethodName) (head1 (Jvm.Cond.code (⟨"com/example/xidr/xidr/xml/tree/TreeAfterSubtreePinLaw", "after", "([II)I"⟩ : MethodName) method_5_code 2 (some .int) :: ws) ({ frames := 0, cells := 0, slots := 0, locals := 0 } : Room)) (fun a U => a = #[(.ref ra), (.int xi)] ∧ Z.Warmed39 U.vm ∧ U.heap = h0) (fun _ _ _ _ _ => True) (fun _ U o U' => ∃ v L, o = .returned v ∧ Q_rm_after Z ra xi ki xs h0 n0 v U'.heap L ∧ FrameEnd U o U' L ({ frames := 0, cells := 0, slots := 0, locals := 0 } : Room).cells ({ frames := 0, cells := 0, slots := 0, locals := 0 } : Room).slots) := by
  refine MetFree.of_bodySF (plainFor_of_name pn5) hisR ?_
  intro p e s m args below meth c s₁ Bd hml0 hP hK
  obtain ⟨rfl, hZ, hh⟩ := hP
  have hx := Bd.exec
  have hby := Bd.bytes
  have hml : c.maxLocals = 2 := hml0
  have hown : s.vm.findClass "com/example/xidr/xidr/xml/tree/TreeAfterSubtreePinLaw" = some m.cls := findClass_of_methodNamed Bd.named
  have hnm := (name_of_methodNamed Bd.named Bd.method).1
  have X0 : Stand p l e ({ frames := 0, cells := 0, slots := 0, locals := 0 } : Room) s m #[(.ref ra), (.int xi)] below meth c s₁ [] 0 0 := Stand.of_body Bd
  have e0 : s₁.heap = h0 := by rw [← hh, Bd.state]; rfl
  have N0 := Fr.nil n0
  have pre0 : ∀ t, Steps p.tables e below (s₁.setTop (mkF m 0 #[.val (.ref ra), .val (.int xi)] [])) t → Steps p.tables e below (s₁.setTop (entryFrame m #[(.ref ra), (.int xi)] 2)) t := fun t k => castTop (ef_rm_after m ra xi) k
  have pre1 : ∀ t, Steps p.tables e below (s₁.setTop (mkF m 2 #[.val (.ref ra), .val (.int xi)] [(.int (1 : Int32)), (.int xi)])) t → Steps p.tables e below (s₁.setTop (entryFrame m #[(.ref ra), (.int xi)] 2)) t := by
    intro t k
    refine pre0 t ?_
    refine XS.iloadN X0.here hx rfl (hb hby d10_0) rfl ?_
    show Steps p.tables e below (s₁.setTop (mkF m 1 #[.val (.ref ra), .val (.int xi)] [(.int xi)])) _
    refine XS.iconst X0.here hx rfl (hb hby d10_1) ?_
    show Steps p.tables e below (s₁.setTop (mkF m 2 #[.val (.ref ra), .val (.int xi)] [(.int (1 : Int32)), (.int xi)])) _
    exact k
  by_cases hc2 : xi < (1 : Int32)
  · have pre3 : ∀ t, Steps p.tables e below (s₁.setTop (mkF m 9 #[.val (.ref ra), .val (.int xi)] [(.int xi), (.int (own_at xs (1 : Int32)))])) t → Steps p.tables e below (s₁.setTop (entryFrame m #[(.ref ra), (.int xi)] 2)) t := by
      intro t k
      refine pre1 t ?_
      refine XS.icmpNo X0.here hx rfl (hb hby d10_2) rfl (tlt hc2).2.1 ?_
      show Steps p.tables e below (s₁.setTop (mkF m 5 #[.val (.ref ra), .val (.int xi)] [])) _
      refine XS.aloadN X0.here hx rfl (hb hby d10_5) rfl rfl ?_
      show Steps p.tables e below (s₁.setTop (mkF m 6 #[.val (.ref ra), .val (.int xi)] [(.ref ra)])) _
      refine XS.iconst X0.here hx rfl (hb hby d10_6) ?_
      show Steps p.tables e below (s₁.setTop (mkF m 7 #[.val (.ref ra), .val (.int xi)] [(.int (1 : Int32)), (.ref ra)])) _
      obtain ⟨c2, a2, q2, s2, m2, i2, u2⟩ := id V1
      have hin2 := inb_of (j := (1 : Int32)) s2 (by decide)
      refine X0.iaload hx (j := (1 : Int32)) (v := (.int (own_at xs (1 : Int32)))) (by rw [e0]; exact a2.1) (State.isArrayOf_alike hZ.alike a2.2.1) a2.2.2 hin2 (i2.at hin2 (own_getD xs _)) (g := (mkF m 7 #[.val (.ref ra), .val (.int xi)] [(.int (1 : Int32)), (.ref ra)])) rfl rfl (hb hby d10_7) _ ?_
      show Steps p.tables e below (s₁.setTop (mkF m 8 #[.val (.ref ra), .val (.int xi)] [(.int (own_at xs (1 : Int32)))])) _
      refine XS.iloadN X0.here hx rfl (hb hby d10_8) rfl ?_
      show Steps p.tables e below (s₁.setTop (mkF m 9 #[.val (.ref ra), .val (.int xi)] [(.int xi), (.int (own_at xs (1 : Int32)))])) _
      exact k
    by_cases hc9 : (own_at xs (1 : Int32)) < xi
    · have pre4 : ∀ t, Steps p.tables e below (s₁.setTop (mkF m 13 #[.val (.ref ra), .val (.int xi)] [(.int (1 : Int32))])) t → Steps p.tables e below (s₁.setTop (entryFrame m #[(.ref ra), (.int xi)] 2)) t := by
        intro t k
        refine pre3 t ?_
        refine XS.icmpNo X0.here hx rfl (hb hby d10_9) rfl (tlt hc9).2.1 ?_
        show Steps p.tables e below (s₁.setTop (mkF m 12 #[.val (.ref ra), .val (.int xi)] [])) _
        refine XS.iconst X0.here hx rfl (hb hby d10_12) ?_
        show Steps p.tables e below (s₁.setTop (mkF m 13 #[.val (.ref ra), .val (.int xi)] [(.int (1 : Int32))])) _
        exact k
      obtain ⟨fs, hr, hrun, hended, hW, hsame⟩ := X0.leave (v := some (.int (1 : Int32))) (fun h => by rw [Bd.returns] at h; cases h)
      refine ⟨_, _, pre4 _ ?_, hrun, hended, _, _, rfl, ?_, ⟨_, rfl⟩, hW, hsame.mono (by decide) (by decide)⟩
      · exact retI X0 hx Bd.returns (hb hby d10_13) hr
      · show Q_rm_after Z ra xi ki xs h0 n0 _ s₁.heap _
        rw [e0]
        exact ⟨congrArg (fun z => some (Value.int z)) (show (1 : Int32) = (F_rm_after xi xs) from by rw [F_rm_after, if_pos hc2, if_pos hc9]), N0, rfl⟩
    · have pre5 : ∀ t, Steps p.tables e below (s₁.setTop (mkF m 16 #[.val (.ref ra), .val (.int xi)] [(.int (2 : Int32)), (.int xi)])) t → Steps p.tables e below (s₁.setTop (entryFrame m #[(.ref ra), (.int xi)] 2)) t := by
        intro t k
        refine pre3 t ?_
        refine XS.icmpYes X0.here hx rfl (pc0 := 9) (pc' := 14) rfl (hb hby d10_9) rfl (flt hc9).2.1 (by decide) (by decide) ?_
        show Steps p.tables e below (s₁.setTop (mkF m 14 #[.val (.ref ra), .val (.int xi)] [])) _
        refine XS.iloadN X0.here hx rfl (hb hby d10_14) rfl ?_
        show Steps p.tables e below (s₁.setTop (mkF m 15 #[.val (.ref ra), .val (.int xi)] [(.int xi)])) _
        refine XS.iconst X0.here hx rfl (hb hby d10_15) ?_
        show Steps p.tables e below (s₁.setTop (mkF m 16 #[.val (.ref ra), .val (.int xi)] [(.int (2 : Int32)), (.int xi)])) _
        exact k
      by_cases hc16 : xi < (2 : Int32)
      · have pre7 : ∀ t, Steps p.tables e below (s₁.setTop (mkF m 23 #[.val (.ref ra), .val (.int xi)] [(.int xi), (.int (own_at xs (2 : Int32)))])) t → Steps p.tables e below (s₁.setTop (entryFrame m #[(.ref ra), (.int xi)] 2)) t := by
          intro t k
          refine pre5 t ?_
          refine XS.icmpNo X0.here hx rfl (hb hby d10_16) rfl (tlt hc16).2.1 ?_
          show Steps p.tables e below (s₁.setTop (mkF m 19 #[.val (.ref ra), .val (.int xi)] [])) _
          refine XS.aloadN X0.here hx rfl (hb hby d10_19) rfl rfl ?_
          show Steps p.tables e below (s₁.setTop (mkF m 20 #[.val (.ref ra), .val (.int xi)] [(.ref ra)])) _
          refine XS.iconst X0.here hx rfl (hb hby d10_20) ?_
          show Steps p.tables e below (s₁.setTop (mkF m 21 #[.val (.ref ra), .val (.int xi)] [(.int (2 : Int32)), (.ref ra)])) _
          obtain ⟨c6, a6, q6, s6, m6, i6, u6⟩ := id V1
          have hin6 := inb_of (j := (2 : Int32)) s6 (by decide)
          refine X0.iaload hx (j := (2 : Int32)) (v := (.int (own_at xs (2 : Int32)))) (by rw [e0]; exact a6.1) (State.isArrayOf_alike hZ.alike a6.2.1) a6.2.2 hin6 (i6.at hin6 (own_getD xs _)) (g := (mkF m 21 #[.val (.ref ra), .val (.int xi)] [(.int (2 : Int32)), (.ref ra)])) rfl rfl (hb hby d10_21) _ ?_
          show Steps p.tables e below (s₁.setTop (mkF m 22 #[.val (.ref ra), .val (.int xi)] [(.int (own_at xs (2 : Int32)))])) _
          refine XS.iloadN X0.here hx rfl (hb hby d10_22) rfl ?_
          show Steps p.tables e below (s₁.setTop (mkF m 23 #[.val (.ref ra), .val (.int xi)] [(.int xi), (.int (own_at xs (2 : Int32)))])) _
          exact k
        by_cases hc23 : (own_at xs (2 : Int32)) < xi
        · have pre8 : ∀ t, Steps p.tables e below (s₁.setTop (mkF m 27 #[.val (.ref ra), .val (.int xi)] [(.int (2 : Int32))])) t → Steps p.tables e below (s₁.setTop (entryFrame m #[(.ref ra), (.int xi)] 2)) t := by
            intro t k
            refine pre7 t ?_
            refine XS.icmpNo X0.here hx rfl (hb hby d10_23) rfl (tlt hc23).2.1 ?_
            show Steps p.tables e below (s₁.setTop (mkF m 26 #[.val (.ref ra), .val (.int xi)] [])) _
            refine XS.iconst X0.here hx rfl (hb hby d10_26) ?_
            show Steps p.tables e below (s₁.setTop (mkF m 27 #[.val (.ref ra), .val (.int xi)] [(.int (2 : Int32))])) _
            exact k
          obtain ⟨fs, hr, hrun, hended, hW, hsame⟩ := X0.leave (v := some (.int (2 : Int32))) (fun h => by rw [Bd.returns] at h; cases h)
          refine ⟨_, _, pre8 _ ?_, hrun, hended, _, _, rfl, ?_, ⟨_, rfl⟩, hW, hsame.mono (by decide) (by decide)⟩
          · exact retI X0 hx Bd.returns (hb hby d10_27) hr
          · show Q_rm_after Z ra xi ki xs h0 n0 _ s₁.heap _
            rw [e0]
            exact ⟨congrArg (fun z => some (Value.int z)) (show (2 : Int32) = (F_rm_after xi xs) from by rw [F_rm_after, if_pos hc2, if_neg hc9, if_pos hc16, if_pos hc23]), N0, rfl⟩
        · have pre9 : ∀ t, Steps p.tables e below (s₁.setTop (mkF m 30 #[.val (.ref ra), .val (.int xi)] [(.int (3 : Int32)), (.int xi)])) t → Steps p.tables e below (s₁.setTop (entryFrame m #[(.ref ra), (.int xi)] 2)) t := by
            intro t k
            refine pre7 t ?_
            refine XS.icmpYes X0.here hx rfl (pc0 := 23) (pc' := 28) rfl (hb hby d10_23) rfl (flt hc23).2.1 (by decide) (by decide) ?_
            show Steps p.tables e below (s₁.setTop (mkF m 28 #[.val (.ref ra), .val (.int xi)] [])) _
            refine XS.iloadN X0.here hx rfl (hb hby d10_28) rfl ?_
            show Steps p.tables e below (s₁.setTop (mkF m 29 #[.val (.ref ra), .val (.int xi)] [(.int xi)])) _
            refine XS.iconst X0.here hx rfl (hb hby d10_29) ?_
            show Steps p.tables e below (s₁.setTop (mkF m 30 #[.val (.ref ra), .val (.int xi)] [(.int (3 : Int32)), (.int xi)])) _
            exact k
          by_cases hc30 : xi < (3 : Int32)
          · have pre11 : ∀ t, Steps p.tables e below (s₁.setTop (mkF m 37 #[.val (.ref ra), .val (.int xi)] [(.int xi), (.int (own_at xs (3 : Int32)))])) t → Steps p.tables e below (s₁.setTop (entryFrame m #[(.ref ra), (.int xi)] 2)) t := by
              intro t k
              refine pre9 t ?_
              refine XS.icmpNo X0.here hx rfl (hb hby d10_30) rfl (tlt hc30).2.1 ?_
              show Steps p.tables e below (s₁.setTop (mkF m 33 #[.val (.ref ra), .val (.int xi)] [])) _
              refine XS.aloadN X0.here hx rfl (hb hby d10_33) rfl rfl ?_
              show Steps p.tables e below (s₁.setTop (mkF m 34 #[.val (.ref ra), .val (.int xi)] [(.ref ra)])) _
              refine XS.iconst X0.here hx rfl (hb hby d10_34) ?_
              show Steps p.tables e below (s₁.setTop (mkF m 35 #[.val (.ref ra), .val (.int xi)] [(.int (3 : Int32)), (.ref ra)])) _
              obtain ⟨c10, a10, q10, s10, m10, i10, u10⟩ := id V1
              have hin10 := inb_of (j := (3 : Int32)) s10 (by decide)
              refine X0.iaload hx (j := (3 : Int32)) (v := (.int (own_at xs (3 : Int32)))) (by rw [e0]; exact a10.1) (State.isArrayOf_alike hZ.alike a10.2.1) a10.2.2 hin10 (i10.at hin10 (own_getD xs _)) (g := (mkF m 35 #[.val (.ref ra), .val (.int xi)] [(.int (3 : Int32)), (.ref ra)])) rfl rfl (hb hby d10_35) _ ?_
              show Steps p.tables e below (s₁.setTop (mkF m 36 #[.val (.ref ra), .val (.int xi)] [(.int (own_at xs (3 : Int32)))])) _
              refine XS.iloadN X0.here hx rfl (hb hby d10_36) rfl ?_
              show Steps p.tables e below (s₁.setTop (mkF m 37 #[.val (.ref ra), .val (.int xi)] [(.int xi), (.int (own_at xs (3 : Int32)))])) _
              exact k
            by_cases hc37 : (own_at xs (3 : Int32)) < xi
            · have pre12 : ∀ t, Steps p.tables e below (s₁.setTop (mkF m 41 #[.val (.ref ra), .val (.int xi)] [(.int (3 : Int32))])) t → Steps p.tables e below (s₁.setTop (entryFrame m #[(.ref ra), (.int xi)] 2)) t := by
                intro t k
                refine pre11 t ?_
                refine XS.icmpNo X0.here hx rfl (hb hby d10_37) rfl (tlt hc37).2.1 ?_
                show Steps p.tables e below (s₁.setTop (mkF m 40 #[.val (.ref ra), .val (.int xi)] [])) _
                refine XS.iconst X0.here hx rfl (hb hby d10_40) ?_
                show Steps p.tables e below (s₁.setTop (mkF m 41 #[.val (.ref ra), .val (.int xi)] [(.int (3 : Int32))])) _
                exact k
              obtain ⟨fs, hr, hrun, hended, hW, hsame⟩ := X0.leave (v := some (.int (3 : Int32))) (fun h => by rw [Bd.returns] at h; cases h)
              refine ⟨_, _, pre12 _ ?_, hrun, hended, _, _, rfl, ?_, ⟨_, rfl⟩, hW, hsame.mono (by decide) (by decide)⟩
              · exact retI X0 hx Bd.returns (hb hby d10_41) hr
              · show Q_rm_after Z ra xi ki xs h0 n0 _ s₁.heap _
                rw [e0]
                exact ⟨congrArg (fun z => some (Value.int z)) (show (3 : Int32) = (F_rm_after xi xs) from by rw [F_rm_after, if_pos hc2, if_neg hc9, if_pos hc16, if_neg hc23, if_pos hc30, if_pos hc37]), N0, rfl⟩
            · have pre13 : ∀ t, Steps p.tables e below (s₁.setTop (mkF m 44 #[.val (.ref ra), .val (.int xi)] [(.int (4 : Int32)), (.int xi)])) t → Steps p.tables e below (s₁.setTop (entryFrame m #[(.ref ra), (.int xi)] 2)) t := by
                intro t k
                refine pre11 t ?_
                refine XS.icmpYes X0.here hx rfl (pc0 := 37) (pc' := 42) rfl (hb hby d10_37) rfl (flt hc37).2.1 (by decide) (by decide) ?_
                show Steps p.tables e below (s₁.setTop (mkF m 42 #[.val (.ref ra), .val (.int xi)] [])) _
                refine XS.iloadN X0.here hx rfl (hb hby d10_42) rfl ?_
                show Steps p.tables e below (s₁.setTop (mkF m 43 #[.val (.ref ra), .val (.int xi)] [(.int xi)])) _
                refine XS.iconst X0.here hx rfl (hb hby d10_43) ?_
                show Steps p.tables e below (s₁.setTop (mkF m 44 #[.val (.ref ra), .val (.int xi)] [(.int (4 : Int32)), (.int xi)])) _
                exact k
              by_cases hc44 : xi < (4 : Int32)
              · have pre15 : ∀ t, Steps p.tables e below (s₁.setTop (mkF m 51 #[.val (.ref ra), .val (.int xi)] [(.int xi), (.int (own_at xs (4 : Int32)))])) t → Steps p.tables e below (s₁.setTop (entryFrame m #[(.ref ra), (.int xi)] 2)) t := by
                  intro t k
                  refine pre13 t ?_
                  refine XS.icmpNo X0.here hx rfl (hb hby d10_44) rfl (tlt hc44).2.1 ?_
                  show Steps p.tables e below (s₁.setTop (mkF m 47 #[.val (.ref ra), .val (.int xi)] [])) _
                  refine XS.aloadN X0.here hx rfl (hb hby d10_47) rfl rfl ?_
                  show Steps p.tables e below (s₁.setTop (mkF m 48 #[.val (.ref ra), .val (.int xi)] [(.ref ra)])) _
                  refine XS.iconst X0.here hx rfl (hb hby d10_48) ?_
                  show Steps p.tables e below (s₁.setTop (mkF m 49 #[.val (.ref ra), .val (.int xi)] [(.int (4 : Int32)), (.ref ra)])) _
                  obtain ⟨c14, a14, q14, s14, m14, i14, u14⟩ := id V1
                  have hin14 := inb_of (j := (4 : Int32)) s14 (by decide)
                  refine X0.iaload hx (j := (4 : Int32)) (v := (.int (own_at xs (4 : Int32)))) (by rw [e0]; exact a14.1) (State.isArrayOf_alike hZ.alike a14.2.1) a14.2.2 hin14 (i14.at hin14 (own_getD xs _)) (g := (mkF m 49 #[.val (.ref ra), .val (.int xi)] [(.int (4 : Int32)), (.ref ra)])) rfl rfl (hb hby d10_49) _ ?_
                  show Steps p.tables e below (s₁.setTop (mkF m 50 #[.val (.ref ra), .val (.int xi)] [(.int (own_at xs (4 : Int32)))])) _
                  refine XS.iloadN X0.here hx rfl (hb hby d10_50) rfl ?_
                  show Steps p.tables e below (s₁.setTop (mkF m 51 #[.val (.ref ra), .val (.int xi)] [(.int xi), (.int (own_at xs (4 : Int32)))])) _
                  exact k
                by_cases hc51 : (own_at xs (4 : Int32)) < xi
                · have pre16 : ∀ t, Steps p.tables e below (s₁.setTop (mkF m 55 #[.val (.ref ra), .val (.int xi)] [(.int (4 : Int32))])) t → Steps p.tables e below (s₁.setTop (entryFrame m #[(.ref ra), (.int xi)] 2)) t := by
                    intro t k
                    refine pre15 t ?_
                    refine XS.icmpNo X0.here hx rfl (hb hby d10_51) rfl (tlt hc51).2.1 ?_
                    show Steps p.tables e below (s₁.setTop (mkF m 54 #[.val (.ref ra), .val (.int xi)] [])) _
                    refine XS.iconst X0.here hx rfl (hb hby d10_54) ?_
                    show Steps p.tables e below (s₁.setTop (mkF m 55 #[.val (.ref ra), .val (.int xi)] [(.int (4 : Int32))])) _
                    exact k
                  obtain ⟨fs, hr, hrun, hended, hW, hsame⟩ := X0.leave (v := some (.int (4 : Int32))) (fun h => by rw [Bd.returns] at h; cases h)
                  refine ⟨_, _, pre16 _ ?_, hrun, hended, _, _, rfl, ?_, ⟨_, rfl⟩, hW, hsame.mono (by decide) (by decide)⟩
                  · exact retI X0 hx Bd.returns (hb hby d10_55) hr
                  · show Q_rm_after Z ra xi ki xs h0 n0 _ s₁.heap _
                    rw [e0]
                    exact ⟨congrArg (fun z => some (Value.int z)) (show (4 : Int32) = (F_rm_after xi xs) from by rw [F_rm_after, if_pos hc2, if_neg hc9, if_pos hc16, if_neg hc23, if_pos hc30, if_neg hc37, if_pos hc44, if_pos hc51]), N0, rfl⟩
                · have pre17 : ∀ t, Steps p.tables e below (s₁.setTop (mkF m 58 #[.val (.ref ra), .val (.int xi)] [(.int (5 : Int32)), (.int xi)])) t → Steps p.tables e below (s₁.setTop (entryFrame m #[(.ref ra), (.int xi)] 2)) t := by
                    intro t k
                    refine pre15 t ?_
                    refine XS.icmpYes X0.here hx rfl (pc0 := 51) (pc' := 56) rfl (hb hby d10_51) rfl (flt hc51).2.1 (by decide) (by decide) ?_
                    show Steps p.tables e below (s₁.setTop (mkF m 56 #[.val (.ref ra), .val (.int xi)] [])) _
                    refine XS.iloadN X0.here hx rfl (hb hby d10_56) rfl ?_
                    show Steps p.tables e below (s₁.setTop (mkF m 57 #[.val (.ref ra), .val (.int xi)] [(.int xi)])) _
                    refine XS.iconst X0.here hx rfl (hb hby d10_57) ?_
                    show Steps p.tables e below (s₁.setTop (mkF m 58 #[.val (.ref ra), .val (.int xi)] [(.int (5 : Int32)), (.int xi)])) _
                    exact k
                  by_cases hc58 : xi < (5 : Int32)
                  · have pre19 : ∀ t, Steps p.tables e below (s₁.setTop (mkF m 65 #[.val (.ref ra), .val (.int xi)] [(.int xi), (.int (own_at xs (5 : Int32)))])) t → Steps p.tables e below (s₁.setTop (entryFrame m #[(.ref ra), (.int xi)] 2)) t := by
                      intro t k
                      refine pre17 t ?_
                      refine XS.icmpNo X0.here hx rfl (hb hby d10_58) rfl (tlt hc58).2.1 ?_
                      show Steps p.tables e below (s₁.setTop (mkF m 61 #[.val (.ref ra), .val (.int xi)] [])) _
                      refine XS.aloadN X0.here hx rfl (hb hby d10_61) rfl rfl ?_
                      show Steps p.tables e below (s₁.setTop (mkF m 62 #[.val (.ref ra), .val (.int xi)] [(.ref ra)])) _
                      refine XS.iconst X0.here hx rfl (hb hby d10_62) ?_
                      show Steps p.tables e below (s₁.setTop (mkF m 63 #[.val (.ref ra), .val (.int xi)] [(.int (5 : Int32)), (.ref ra)])) _
                      obtain ⟨c18, a18, q18, s18, m18, i18, u18⟩ := id V1
                      have hin18 := inb_of (j := (5 : Int32)) s18 (by decide)
                      refine X0.iaload hx (j := (5 : Int32)) (v := (.int (own_at xs (5 : Int32)))) (by rw [e0]; exact a18.1) (State.isArrayOf_alike hZ.alike a18.2.1) a18.2.2 hin18 (i18.at hin18 (own_getD xs _)) (g := (mkF m 63 #[.val (.ref ra), .val (.int xi)] [(.int (5 : Int32)), (.ref ra)])) rfl rfl (hb hby d10_63) _ ?_
                      show Steps p.tables e below (s₁.setTop (mkF m 64 #[.val (.ref ra), .val (.int xi)] [(.int (own_at xs (5 : Int32)))])) _
                      refine XS.iloadN X0.here hx rfl (hb hby d10_64) rfl ?_
                      show Steps p.tables e below (s₁.setTop (mkF m 65 #[.val (.ref ra), .val (.int xi)] [(.int xi), (.int (own_at xs (5 : Int32)))])) _
                      exact k
                    by_cases hc65 : (own_at xs (5 : Int32)) < xi
                    · have pre20 : ∀ t, Steps p.tables e below (s₁.setTop (mkF m 69 #[.val (.ref ra), .val (.int xi)] [(.int (5 : Int32))])) t → Steps p.tables e below (s₁.setTop (entryFrame m #[(.ref ra), (.int xi)] 2)) t := by
                        intro t k
                        refine pre19 t ?_
                        refine XS.icmpNo X0.here hx rfl (hb hby d10_65) rfl (tlt hc65).2.1 ?_
                        show Steps p.tables e below (s₁.setTop (mkF m 68 #[.val (.ref ra), .val (.int xi)] [])) _
                        refine XS.iconst X0.here hx rfl (hb hby d10_68) ?_
                        show Steps p.tables e below (s₁.setTop (mkF m 69 #[.val (.ref ra), .val (.int xi)] [(.int (5 : Int32))])) _
                        exact k
                      obtain ⟨fs, hr, hrun, hended, hW, hsame⟩ := X0.leave (v := some (.int (5 : Int32))) (fun h => by rw [Bd.returns] at h; cases h)
                      refine ⟨_, _, pre20 _ ?_, hrun, hended, _, _, rfl, ?_, ⟨_, rfl⟩, hW, hsame.mono (by decide) (by decide)⟩
                      · exact retI X0 hx Bd.returns (hb hby d10_69) hr
                      · show Q_rm_after Z ra xi ki xs h0 n0 _ s₁.heap _
                        rw [e0]
                        exact ⟨congrArg (fun z => some (Value.int z)) (show (5 : Int32) = (F_rm_after xi xs) from by rw [F_rm_after, if_pos hc2, if_neg hc9, if_pos hc16, if_neg hc23, if_pos hc30, if_neg hc37, if_pos hc44, if_neg hc51, if_pos hc58, if_pos hc65]), N0, rfl⟩
                    · have pre21 : ∀ t, Steps p.tables e below (s₁.setTop (mkF m 71 #[.val (.ref ra), .val (.int xi)] [(.int (-1 : Int32))])) t → Steps p.tables e below (s₁.setTop (entryFrame m #[(.ref ra), (.int xi)] 2)) t := by
                        intro t k
                        refine pre19 t ?_
                        refine XS.icmpYes X0.here hx rfl (pc0 := 65) (pc' := 70) rfl (hb hby d10_65) rfl (flt hc65).2.1 (by decide) (by decide) ?_
                        show Steps p.tables e below (s₁.setTop (mkF m 70 #[.val (.ref ra), .val (.int xi)] [])) _
                        refine XS.iconst X0.here hx rfl (hb hby d10_70) ?_
                        show Steps p.tables e below (s₁.setTop (mkF m 71 #[.val (.ref ra), .val (.int xi)] [(.int (-1 : Int32))])) _
                        exact k
                      obtain ⟨fs, hr, hrun, hended, hW, hsame⟩ := X0.leave (v := some (.int (-1 : Int32))) (fun h => by rw [Bd.returns] at h; cases h)
                      refine ⟨_, _, pre21 _ ?_, hrun, hended, _, _, rfl, ?_, ⟨_, rfl⟩, hW, hsame.mono (by decide) (by decide)⟩
                      · exact retI X0 hx Bd.returns (hb hby d10_71) hr
                      · show Q_rm_after Z ra xi ki xs h0 n0 _ s₁.heap _
                        rw [e0]
                        exact ⟨congrArg (fun z => some (Value.int z)) (show (-1 : Int32) = (F_rm_after xi xs) from by rw [F_rm_after, if_pos hc2, if_neg hc9, if_pos hc16, if_neg hc23, if_pos hc30, if_neg hc37, if_pos hc44, if_neg hc51, if_pos hc58, if_neg hc65]), N0, rfl⟩
                  · have pre22 : ∀ t, Steps p.tables e below (s₁.setTop (mkF m 71 #[.val (.ref ra), .val (.int xi)] [(.int (-1 : Int32))])) t → Steps p.tables e below (s₁.setTop (entryFrame m #[(.ref ra), (.int xi)] 2)) t := by
                      intro t k
                      refine pre17 t ?_
                      refine XS.icmpYes X0.here hx rfl (pc0 := 58) (pc' := 70) rfl (hb hby d10_58) rfl (flt hc58).2.1 (by decide) (by decide) ?_
                      show Steps p.tables e below (s₁.setTop (mkF m 70 #[.val (.ref ra), .val (.int xi)] [])) _
                      refine XS.iconst X0.here hx rfl (hb hby d10_70) ?_
                      show Steps p.tables e below (s₁.setTop (mkF m 71 #[.val (.ref ra), .val (.int xi)] [(.int (-1 : Int32))])) _
                      exact k
                    obtain ⟨fs, hr, hrun, hended, hW, hsame⟩ := X0.leave (v := some (.int (-1 : Int32))) (fun h => by rw [Bd.returns] at h; cases h)
                    refine ⟨_, _, pre22 _ ?_, hrun, hended, _, _, rfl, ?_, ⟨_, rfl⟩, hW, hsame.mono (by decide) (by decide)⟩
                    · exact retI X0 hx Bd.returns (hb hby d10_71) hr
                    · show Q_rm_after Z ra xi ki xs h0 n0 _ s₁.heap _
                      rw [e0]
                      exact ⟨congrArg (fun z => some (Value.int z)) (show (-1 : Int32) = (F_rm_after xi xs) from by rw [F_rm_after, if_pos hc2, if_neg hc9, if_pos hc16, if_neg hc23, if_pos hc30, if_neg hc37, if_pos hc44, if_neg hc51, if_neg hc58]), N0, rfl⟩
              · have pre23 : ∀ t, Steps p.tables e below (s₁.setTop (mkF m 58 #[.val (.ref ra), .val (.int xi)] [(.int (5 : Int32)), (.int xi)])) t → Steps p.tables e below (s₁.setTop (entryFrame m #[(.ref ra), (.int xi)] 2)) t := by
                  intro t k
                  refine pre13 t ?_
                  refine XS.icmpYes X0.here hx rfl (pc0 := 44) (pc' := 56) rfl (hb hby d10_44) rfl (flt hc44).2.1 (by decide) (by decide) ?_
                  show Steps p.tables e below (s₁.setTop (mkF m 56 #[.val (.ref ra), .val (.int xi)] [])) _
                  refine XS.iloadN X0.here hx rfl (hb hby d10_56) rfl ?_
                  show Steps p.tables e below (s₁.setTop (mkF m 57 #[.val (.ref ra), .val (.int xi)] [(.int xi)])) _
                  refine XS.iconst X0.here hx rfl (hb hby d10_57) ?_
                  show Steps p.tables e below (s₁.setTop (mkF m 58 #[.val (.ref ra), .val (.int xi)] [(.int (5 : Int32)), (.int xi)])) _
                  exact k
                by_cases hc58 : xi < (5 : Int32)
                · have pre25 : ∀ t, Steps p.tables e below (s₁.setTop (mkF m 65 #[.val (.ref ra), .val (.int xi)] [(.int xi), (.int (own_at xs (5 : Int32)))])) t → Steps p.tables e below (s₁.setTop (entryFrame m #[(.ref ra), (.int xi)] 2)) t := by
                    intro t k
                    refine pre23 t ?_
                    refine XS.icmpNo X0.here hx rfl (hb hby d10_58) rfl (tlt hc58).2.1 ?_
                    show Steps p.tables e below (s₁.setTop (mkF m 61 #[.val (.ref ra), .val (.int xi)] [])) _
                    refine XS.aloadN X0.here hx rfl (hb hby d10_61) rfl rfl ?_
                    show Steps p.tables e below (s₁.setTop (mkF m 62 #[.val (.ref ra), .val (.int xi)] [(.ref ra)])) _
                    refine XS.iconst X0.here hx rfl (hb hby d10_62) ?_
                    show Steps p.tables e below (s₁.setTop (mkF m 63 #[.val (.ref ra), .val (.int xi)] [(.int (5 : Int32)), (.ref ra)])) _
                    obtain ⟨c24, a24, q24, s24, m24, i24, u24⟩ := id V1
                    have hin24 := inb_of (j := (5 : Int32)) s24 (by decide)
                    refine X0.iaload hx (j := (5 : Int32)) (v := (.int (own_at xs (5 : Int32)))) (by rw [e0]; exact a24.1) (State.isArrayOf_alike hZ.alike a24.2.1) a24.2.2 hin24 (i24.at hin24 (own_getD xs _)) (g := (mkF m 63 #[.val (.ref ra), .val (.int xi)] [(.int (5 : Int32)), (.ref ra)])) rfl rfl (hb hby d10_63) _ ?_
                    show Steps p.tables e below (s₁.setTop (mkF m 64 #[.val (.ref ra), .val (.int xi)] [(.int (own_at xs (5 : Int32)))])) _
                    refine XS.iloadN X0.here hx rfl (hb hby d10_64) rfl ?_
                    show Steps p.tables e below (s₁.setTop (mkF m 65 #[.val (.ref ra), .val (.int xi)] [(.int xi), (.int (own_at xs (5 : Int32)))])) _
                    exact k
                  by_cases hc65 : (own_at xs (5 : Int32)) < xi
                  · have pre26 : ∀ t, Steps p.tables e below (s₁.setTop (mkF m 69 #[.val (.ref ra), .val (.int xi)] [(.int (5 : Int32))])) t → Steps p.tables e below (s₁.setTop (entryFrame m #[(.ref ra), (.int xi)] 2)) t := by
                      intro t k
                      refine pre25 t ?_
                      refine XS.icmpNo X0.here hx rfl (hb hby d10_65) rfl (tlt hc65).2.1 ?_
                      show Steps p.tables e below (s₁.setTop (mkF m 68 #[.val (.ref ra), .val (.int xi)] [])) _
                      refine XS.iconst X0.here hx rfl (hb hby d10_68) ?_
                      show Steps p.tables e below (s₁.setTop (mkF m 69 #[.val (.ref ra), .val (.int xi)] [(.int (5 : Int32))])) _
                      exact k
                    obtain ⟨fs, hr, hrun, hended, hW, hsame⟩ := X0.leave (v := some (.int (5 : Int32))) (fun h => by rw [Bd.returns] at h; cases h)
                    refine ⟨_, _, pre26 _ ?_, hrun, hended, _, _, rfl, ?_, ⟨_, rfl⟩, hW, hsame.mono (by decide) (by decide)⟩
                    · exact retI X0 hx Bd.returns (hb hby d10_69) hr
                    · show Q_rm_after Z ra xi ki xs h0 n0 _ s₁.heap _
                      rw [e0]
                      exact ⟨congrArg (fun z => some (Value.int z)) (show (5 : Int32) = (F_rm_after xi xs) from by rw [F_rm_after, if_pos hc2, if_neg hc9, if_pos hc16, if_neg hc23, if_pos hc30, if_neg hc37, if_neg hc44, if_pos hc58, if_pos hc65]), N0, rfl⟩
                  · have pre27 : ∀ t, Steps p.tables e below (s₁.setTop (mkF m 71 #[.val (.ref ra), .val (.int xi)] [(.int (-1 : Int32))])) t → Steps p.tables e below (s₁.setTop (entryFrame m #[(.ref ra), (.int xi)] 2)) t := by
                      intro t k
                      refine pre25 t ?_
                      refine XS.icmpYes X0.here hx rfl (pc0 := 65) (pc' := 70) rfl (hb hby d10_65) rfl (flt hc65).2.1 (by decide) (by decide) ?_
                      show Steps p.tables e below (s₁.setTop (mkF m 70 #[.val (.ref ra), .val (.int xi)] [])) _
                      refine XS.iconst X0.here hx rfl (hb hby d10_70) ?_
                      show Steps p.tables e below (s₁.setTop (mkF m 71 #[.val (.ref ra), .val (.int xi)] [(.int (-1 : Int32))])) _
                      exact k
                    obtain ⟨fs, hr, hrun, hended, hW, hsame⟩ := X0.leave (v := some (.int (-1 : Int32))) (fun h => by rw [Bd.returns] at h; cases h)
                    refine ⟨_, _, pre27 _ ?_, hrun, hended, _, _, rfl, ?_, ⟨_, rfl⟩, hW, hsame.mono (by decide) (by decide)⟩
                    · exact retI X0 hx Bd.returns (hb hby d10_71) hr
                    · show Q_rm_after Z ra xi ki xs h0 n0 _ s₁.heap _
                      rw [e0]
                      exact ⟨congrArg (fun z => some (Value.int z)) (show (-1 : Int32) = (F_rm_after xi xs) from by rw [F_rm_after, if_pos hc2, if_neg hc9, if_pos hc16, if_neg hc23, if_pos hc30, if_neg hc37, if_neg hc44, if_pos hc58, if_neg hc65]), N0, rfl⟩
                · have pre28 : ∀ t, Steps p.tables e below (s₁.setTop (mkF m 71 #[.val (.ref ra), .val (.int xi)] [(.int (-1 : Int32))])) t → Steps p.tables e below (s₁.setTop (entryFrame m #[(.ref ra), (.int xi)] 2)) t := by
                    intro t k
                    refine pre23 t ?_
                    refine XS.icmpYes X0.here hx rfl (pc0 := 58) (pc' := 70) rfl (hb hby d10_58) rfl (flt hc58).2.1 (by decide) (by decide) ?_
                    show Steps p.tables e below (s₁.setTop (mkF m 70 #[.val (.ref ra), .val (.int xi)] [])) _
                    refine XS.iconst X0.here hx rfl (hb hby d10_70) ?_
                    show Steps p.tables e below (s₁.setTop (mkF m 71 #[.val (.ref ra), .val (.int xi)] [(.int (-1 : Int32))])) _
                    exact k
                  obtain ⟨fs, hr, hrun, hended, hW, hsame⟩ := X0.leave (v := some (.int (-1 : Int32))) (fun h => by rw [Bd.returns] at h; cases h)
                  refine ⟨_, _, pre28 _ ?_, hrun, hended, _, _, rfl, ?_, ⟨_, rfl⟩, hW, hsame.mono (by decide) (by decide)⟩
                  · exact retI X0 hx Bd.returns (hb hby d10_71) hr
                  · show Q_rm_after Z ra xi ki xs h0 n0 _ s₁.heap _
                    rw [e0]
                    exact ⟨congrArg (fun z => some (Value.int z)) (show (-1 : Int32) = (F_rm_after xi xs) from by rw [F_rm_after, if_pos hc2, if_neg hc9, if_pos hc16, if_neg hc23, if_pos hc30, if_neg hc37, if_neg hc44, if_neg hc58]), N0, rfl⟩
          · have pre29 : ∀ t, Steps p.tables e below (s₁.setTop (mkF m 44 #[.val (.ref ra), .val (.int xi)] [(.int (4 : Int32)), (.int xi)])) t → Steps p.tables e below (s₁.setTop (entryFrame m #[(.ref ra), (.int xi)] 2)) t := by
              intro t k
              refine pre9 t ?_
              refine XS.icmpYes X0.here hx rfl (pc0 := 30) (pc' := 42) rfl (hb hby d10_30) rfl (flt hc30).2.1 (by decide) (by decide) ?_
              show Steps p.tables e below (s₁.setTop (mkF m 42 #[.val (.ref ra), .val (.int xi)] [])) _
              refine XS.iloadN X0.here hx rfl (hb hby d10_42) rfl ?_
              show Steps p.tables e below (s₁.setTop (mkF m 43 #[.val (.ref ra), .val (.int xi)] [(.int xi)])) _
              refine XS.iconst X0.here hx rfl (hb hby d10_43) ?_
              show Steps p.tables e below (s₁.setTop (mkF m 44 #[.val (.ref ra), .val (.int xi)] [(.int (4 : Int32)), (.int xi)])) _
              exact k
            by_cases hc44 : xi < (4 : Int32)
            · have pre31 : ∀ t, Steps p.tables e below (s₁.setTop (mkF m 51 #[.val (.ref ra), .val (.int xi)] [(.int xi), (.int (own_at xs (4 : Int32)))])) t → Steps p.tables e below (s₁.setTop (entryFrame m #[(.ref ra), (.int xi)] 2)) t := by
                intro t k
                refine pre29 t ?_
                refine XS.icmpNo X0.here hx rfl (hb hby d10_44) rfl (tlt hc44).2.1 ?_
                show Steps p.tables e below (s₁.setTop (mkF m 47 #[.val (.ref ra), .val (.int xi)] [])) _
                refine XS.aloadN X0.here hx rfl (hb hby d10_47) rfl rfl ?_
                show Steps p.tables e below (s₁.setTop (mkF m 48 #[.val (.ref ra), .val (.int xi)] [(.ref ra)])) _
                refine XS.iconst X0.here hx rfl (hb hby d10_48) ?_
                show Steps p.tables e below (s₁.setTop (mkF m 49 #[.val (.ref ra), .val (.int xi)] [(.int (4 : Int32)), (.ref ra)])) _
                obtain ⟨c30, a30, q30, s30, m30, i30, u30⟩ := id V1
                have hin30 := inb_of (j := (4 : Int32)) s30 (by decide)
                refine X0.iaload hx (j := (4 : Int32)) (v := (.int (own_at xs (4 : Int32)))) (by rw [e0]; exact a30.1) (State.isArrayOf_alike hZ.alike a30.2.1) a30.2.2 hin30 (i30.at hin30 (own_getD xs _)) (g := (mkF m 49 #[.val (.ref ra), .val (.int xi)] [(.int (4 : Int32)), (.ref ra)])) rfl rfl (hb hby d10_49) _ ?_
                show Steps p.tables e below (s₁.setTop (mkF m 50 #[.val (.ref ra), .val (.int xi)] [(.int (own_at xs (4 : Int32)))])) _
                refine XS.iloadN X0.here hx rfl (hb hby d10_50) rfl ?_
                show Steps p.tables e below (s₁.setTop (mkF m 51 #[.val (.ref ra), .val (.int xi)] [(.int xi), (.int (own_at xs (4 : Int32)))])) _
                exact k
              by_cases hc51 : (own_at xs (4 : Int32)) < xi
              · have pre32 : ∀ t, Steps p.tables e below (s₁.setTop (mkF m 55 #[.val (.ref ra), .val (.int xi)] [(.int (4 : Int32))])) t → Steps p.tables e below (s₁.setTop (entryFrame m #[(.ref ra), (.int xi)] 2)) t := by
                  intro t k
                  refine pre31 t ?_
                  refine XS.icmpNo X0.here hx rfl (hb hby d10_51) rfl (tlt hc51).2.1 ?_
                  show Steps p.tables e below (s₁.setTop (mkF m 54 #[.val (.ref ra), .val (.int xi)] [])) _
                  refine XS.iconst X0.here hx rfl (hb hby d10_54) ?_
                  show Steps p.tables e below (s₁.setTop (mkF m 55 #[.val (.ref ra), .val (.int xi)] [(.int (4 : Int32))])) _
                  exact k
                obtain ⟨fs, hr, hrun, hended, hW, hsame⟩ := X0.leave (v := some (.int (4 : Int32))) (fun h => by rw [Bd.returns] at h; cases h)
                refine ⟨_, _, pre32 _ ?_, hrun, hended, _, _, rfl, ?_, ⟨_, rfl⟩, hW, hsame.mono (by decide) (by decide)⟩
                · exact retI X0 hx Bd.returns (hb hby d10_55) hr
                · show Q_rm_after Z ra xi ki xs h0 n0 _ s₁.heap _
                  rw [e0]
                  exact ⟨congrArg (fun z => some (Value.int z)) (show (4 : Int32) = (F_rm_after xi xs) from by rw [F_rm_after, if_pos hc2, if_neg hc9, if_pos hc16, if_neg hc23, if_neg hc30, if_pos hc44, if_pos hc51]), N0, rfl⟩
              · have pre33 : ∀ t, Steps p.tables e below (s₁.setTop (mkF m 58 #[.val (.ref ra), .val (.int xi)] [(.int (5 : Int32)), (.int xi)])) t → Steps p.tables e below (s₁.setTop (entryFrame m #[(.ref ra), (.int xi)] 2)) t := by
                  intro t k
                  refine pre31 t ?_
                  refine XS.icmpYes X0.here hx rfl (pc0 := 51) (pc' := 56) rfl (hb hby d10_51) rfl (flt hc51).2.1 (by decide) (by decide) ?_
                  show Steps p.tables e below (s₁.setTop (mkF m 56 #[.val (.ref ra), .val (.int xi)] [])) _
                  refine XS.iloadN X0.here hx rfl (hb hby d10_56) rfl ?_
                  show Steps p.tables e below (s₁.setTop (mkF m 57 #[.val (.ref ra), .val (.int xi)] [(.int xi)])) _
                  refine XS.iconst X0.here hx rfl (hb hby d10_57) ?_
                  show Steps p.tables e below (s₁.setTop (mkF m 58 #[.val (.ref ra), .val (.int xi)] [(.int (5 : Int32)), (.int xi)])) _
                  exact k
                by_cases hc58 : xi < (5 : Int32)
                · have pre35 : ∀ t, Steps p.tables e below (s₁.setTop (mkF m 65 #[.val (.ref ra), .val (.int xi)] [(.int xi), (.int (own_at xs (5 : Int32)))])) t → Steps p.tables e below (s₁.setTop (entryFrame m #[(.ref ra), (.int xi)] 2)) t := by
                    intro t k
                    refine pre33 t ?_
                    refine XS.icmpNo X0.here hx rfl (hb hby d10_58) rfl (tlt hc58).2.1 ?_
                    show Steps p.tables e below (s₁.setTop (mkF m 61 #[.val (.ref ra), .val (.int xi)] [])) _
                    refine XS.aloadN X0.here hx rfl (hb hby d10_61) rfl rfl ?_
                    show Steps p.tables e below (s₁.setTop (mkF m 62 #[.val (.ref ra), .val (.int xi)] [(.ref ra)])) _
                    refine XS.iconst X0.here hx rfl (hb hby d10_62) ?_
                    show Steps p.tables e below (s₁.setTop (mkF m 63 #[.val (.ref ra), .val (.int xi)] [(.int (5 : Int32)), (.ref ra)])) _
                    obtain ⟨c34, a34, q34, s34, m34, i34, u34⟩ := id V1
                    have hin34 := inb_of (j := (5 : Int32)) s34 (by decide)
                    refine X0.iaload hx (j := (5 : Int32)) (v := (.int (own_at xs (5 : Int32)))) (by rw [e0]; exact a34.1) (State.isArrayOf_alike hZ.alike a34.2.1) a34.2.2 hin34 (i34.at hin34 (own_getD xs _)) (g := (mkF m 63 #[.val (.ref ra), .val (.int xi)] [(.int (5 : Int32)), (.ref ra)])) rfl rfl (hb hby d10_63) _ ?_
                    show Steps p.tables e below (s₁.setTop (mkF m 64 #[.val (.ref ra), .val (.int xi)] [(.int (own_at xs (5 : Int32)))])) _
                    refine XS.iloadN X0.here hx rfl (hb hby d10_64) rfl ?_
                    show Steps p.tables e below (s₁.setTop (mkF m 65 #[.val (.ref ra), .val (.int xi)] [(.int xi), (.int (own_at xs (5 : Int32)))])) _
                    exact k
                  by_cases hc65 : (own_at xs (5 : Int32)) < xi
                  · have pre36 : ∀ t, Steps p.tables e below (s₁.setTop (mkF m 69 #[.val (.ref ra), .val (.int xi)] [(.int (5 : Int32))])) t → Steps p.tables e below (s₁.setTop (entryFrame m #[(.ref ra), (.int xi)] 2)) t := by
                      intro t k
                      refine pre35 t ?_
                      refine XS.icmpNo X0.here hx rfl (hb hby d10_65) rfl (tlt hc65).2.1 ?_
                      show Steps p.tables e below (s₁.setTop (mkF m 68 #[.val (.ref ra), .val (.int xi)] [])) _
                      refine XS.iconst X0.here hx rfl (hb hby d10_68) ?_
                      show Steps p.tables e below (s₁.setTop (mkF m 69 #[.val (.ref ra), .val (.int xi)] [(.int (5 : Int32))])) _
                      exact k
                    obtain ⟨fs, hr, hrun, hended, hW, hsame⟩ := X0.leave (v := some (.int (5 : Int32))) (fun h => by rw [Bd.returns] at h; cases h)
                    refine ⟨_, _, pre36 _ ?_, hrun, hended, _, _, rfl, ?_, ⟨_, rfl⟩, hW, hsame.mono (by decide) (by decide)⟩
                    · exact retI X0 hx Bd.returns (hb hby d10_69) hr
                    · show Q_rm_after Z ra xi ki xs h0 n0 _ s₁.heap _
                      rw [e0]
                      exact ⟨congrArg (fun z => some (Value.int z)) (show (5 : Int32) = (F_rm_after xi xs) from by rw [F_rm_after, if_pos hc2, if_neg hc9, if_pos hc16, if_neg hc23, if_neg hc30, if_pos hc44, if_neg hc51, if_pos hc58, if_pos hc65]), N0, rfl⟩
                  · have pre37 : ∀ t, Steps p.tables e below (s₁.setTop (mkF m 71 #[.val (.ref ra), .val (.int xi)] [(.int (-1 : Int32))])) t → Steps p.tables e below (s₁.setTop (entryFrame m #[(.ref ra), (.int xi)] 2)) t := by
                      intro t k
                      refine pre35 t ?_
                      refine XS.icmpYes X0.here hx rfl (pc0 := 65) (pc' := 70) rfl (hb hby d10_65) rfl (flt hc65).2.1 (by decide) (by decide) ?_
                      show Steps p.tables e below (s₁.setTop (mkF m 70 #[.val (.ref ra), .val (.int xi)] [])) _
                      refine XS.iconst X0.here hx rfl (hb hby d10_70) ?_
                      show Steps p.tables e below (s₁.setTop (mkF m 71 #[.val (.ref ra), .val (.int xi)] [(.int (-1 : Int32))])) _
                      exact k
                    obtain ⟨fs, hr, hrun, hended, hW, hsame⟩ := X0.leave (v := some (.int (-1 : Int32))) (fun h => by rw [Bd.returns] at h; cases h)
                    refine ⟨_, _, pre37 _ ?_, hrun, hended, _, _, rfl, ?_, ⟨_, rfl⟩, hW, hsame.mono (by decide) (by decide)⟩
                    · exact retI X0 hx Bd.returns (hb hby d10_71) hr
                    · show Q_rm_after Z ra xi ki xs h0 n0 _ s₁.heap _
                      rw [e0]
                      exact ⟨congrArg (fun z => some (Value.int z)) (show (-1 : Int32) = (F_rm_after xi xs) from by rw [F_rm_after, if_pos hc2, if_neg hc9, if_pos hc16, if_neg hc23, if_neg hc30, if_pos hc44, if_neg hc51, if_pos hc58, if_neg hc65]), N0, rfl⟩
                · have pre38 : ∀ t, Steps p.tables e below (s₁.setTop (mkF m 71 #[.val (.ref ra), .val (.int xi)] [(.int (-1 : Int32))])) t → Steps p.tables e below (s₁.setTop (entryFrame m #[(.ref ra), (.int xi)] 2)) t := by
                    intro t k
                    refine pre33 t ?_
                    refine XS.icmpYes X0.here hx rfl (pc0 := 58) (pc' := 70) rfl (hb hby d10_58) rfl (flt hc58).2.1 (by decide) (by decide) ?_
                    show Steps p.tables e below (s₁.setTop (mkF m 70 #[.val (.ref ra), .val (.int xi)] [])) _
                    refine XS.iconst X0.here hx rfl (hb hby d10_70) ?_
                    show Steps p.tables e below (s₁.setTop (mkF m 71 #[.val (.ref ra), .val (.int xi)] [(.int (-1 : Int32))])) _
                    exact k
                  obtain ⟨fs, hr, hrun, hended, hW, hsame⟩ := X0.leave (v := some (.int (-1 : Int32))) (fun h => by rw [Bd.returns] at h; cases h)
                  refine ⟨_, _, pre38 _ ?_, hrun, hended, _, _, rfl, ?_, ⟨_, rfl⟩, hW, hsame.mono (by decide) (by decide)⟩
                  · exact retI X0 hx Bd.returns (hb hby d10_71) hr
                  · show Q_rm_after Z ra xi ki xs h0 n0 _ s₁.heap _
                    rw [e0]
                    exact ⟨congrArg (fun z => some (Value.int z)) (show (-1 : Int32) = (F_rm_after xi xs) from by rw [F_rm_after, if_pos hc2, if_neg hc9, if_pos hc16, if_neg hc23, if_neg hc30, if_pos hc44, if_neg hc51, if_neg hc58]), N0, rfl⟩
            · have pre39 : ∀ t, Steps p.tables e below (s₁.setTop (mkF m 58 #[.val (.ref ra), .val (.int xi)] [(.int (5 : Int32)), (.int xi)])) t → Steps p.tables e below (s₁.setTop (entryFrame m #[(.ref ra), (.int xi)] 2)) t := by
                intro t k
                refine pre29 t ?_
                refine XS.icmpYes X0.here hx rfl (pc0 := 44) (pc' := 56) rfl (hb hby d10_44) rfl (flt hc44).2.1 (by decide) (by decide) ?_
                show Steps p.tables e below (s₁.setTop (mkF m 56 #[.val (.ref ra), .val (.int xi)] [])) _
                refine XS.iloadN X0.here hx rfl (hb hby d10_56) rfl ?_
                show Steps p.tables e below (s₁.setTop (mkF m 57 #[.val (.ref ra), .val (.int xi)] [(.int xi)])) _
                refine XS.iconst X0.here hx rfl (hb hby d10_57) ?_
                show Steps p.tables e below (s₁.setTop (mkF m 58 #[.val (.ref ra), .val (.int xi)] [(.int (5 : Int32)), (.int xi)])) _
                exact k
              by_cases hc58 : xi < (5 : Int32)
              · have pre41 : ∀ t, Steps p.tables e below (s₁.setTop (mkF m 65 #[.val (.ref ra), .val (.int xi)] [(.int xi), (.int (own_at xs (5 : Int32)))])) t → Steps p.tables e below (s₁.setTop (entryFrame m #[(.ref ra), (.int xi)] 2)) t := by
                  intro t k
                  refine pre39 t ?_
                  refine XS.icmpNo X0.here hx rfl (hb hby d10_58) rfl (tlt hc58).2.1 ?_
                  show Steps p.tables e below (s₁.setTop (mkF m 61 #[.val (.ref ra), .val (.int xi)] [])) _
                  refine XS.aloadN X0.here hx rfl (hb hby d10_61) rfl rfl ?_
                  show Steps p.tables e below (s₁.setTop (mkF m 62 #[.val (.ref ra), .val (.int xi)] [(.ref ra)])) _
                  refine XS.iconst X0.here hx rfl (hb hby d10_62) ?_
                  show Steps p.tables e below (s₁.setTop (mkF m 63 #[.val (.ref ra), .val (.int xi)] [(.int (5 : Int32)), (.ref ra)])) _
                  obtain ⟨c40, a40, q40, s40, m40, i40, u40⟩ := id V1
                  have hin40 := inb_of (j := (5 : Int32)) s40 (by decide)
                  refine X0.iaload hx (j := (5 : Int32)) (v := (.int (own_at xs (5 : Int32)))) (by rw [e0]; exact a40.1) (State.isArrayOf_alike hZ.alike a40.2.1) a40.2.2 hin40 (i40.at hin40 (own_getD xs _)) (g := (mkF m 63 #[.val (.ref ra), .val (.int xi)] [(.int (5 : Int32)), (.ref ra)])) rfl rfl (hb hby d10_63) _ ?_
                  show Steps p.tables e below (s₁.setTop (mkF m 64 #[.val (.ref ra), .val (.int xi)] [(.int (own_at xs (5 : Int32)))])) _
                  refine XS.iloadN X0.here hx rfl (hb hby d10_64) rfl ?_
                  show Steps p.tables e below (s₁.setTop (mkF m 65 #[.val (.ref ra), .val (.int xi)] [(.int xi), (.int (own_at xs (5 : Int32)))])) _
                  exact k
                by_cases hc65 : (own_at xs (5 : Int32)) < xi
                · have pre42 : ∀ t, Steps p.tables e below (s₁.setTop (mkF m 69 #[.val (.ref ra), .val (.int xi)] [(.int (5 : Int32))])) t → Steps p.tables e below (s₁.setTop (entryFrame m #[(.ref ra), (.int xi)] 2)) t := by
                    intro t k
                    refine pre41 t ?_
                    refine XS.icmpNo X0.here hx rfl (hb hby d10_65) rfl (tlt hc65).2.1 ?_
                    show Steps p.tables e below (s₁.setTop (mkF m 68 #[.val (.ref ra), .val (.int xi)] [])) _
                    refine XS.iconst X0.here hx rfl (hb hby d10_68) ?_
                    show Steps p.tables e below (s₁.setTop (mkF m 69 #[.val (.ref ra), .val (.int xi)] [(.int (5 : Int32))])) _
                    exact k
                  obtain ⟨fs, hr, hrun, hended, hW, hsame⟩ := X0.leave (v := some (.int (5 : Int32))) (fun h => by rw [Bd.returns] at h; cases h)
                  refine ⟨_, _, pre42 _ ?_, hrun, hended, _, _, rfl, ?_, ⟨_, rfl⟩, hW, hsame.mono (by decide) (by decide)⟩
                  · exact retI X0 hx Bd.returns (hb hby d10_69) hr
                  · show Q_rm_after Z ra xi ki xs h0 n0 _ s₁.heap _
                    rw [e0]
                    exact ⟨congrArg (fun z => some (Value.int z)) (show (5 : Int32) = (F_rm_after xi xs) from by rw [F_rm_after, if_pos hc2, if_neg hc9, if_pos hc16, if_neg hc23, if_neg hc30, if_neg hc44, if_pos hc58, if_pos hc65]), N0, rfl⟩
                · have pre43 : ∀ t, Steps p.tables e below (s₁.setTop (mkF m 71 #[.val (.ref ra), .val (.int xi)] [(.int (-1 : Int32))])) t → Steps p.tables e below (s₁.setTop (entryFrame m #[(.ref ra), (.int xi)] 2)) t := by
                    intro t k
                    refine pre41 t ?_
                    refine XS.icmpYes X0.here hx rfl (pc0 := 65) (pc' := 70) rfl (hb hby d10_65) rfl (flt hc65).2.1 (by decide) (by decide) ?_
                    show Steps p.tables e below (s₁.setTop (mkF m 70 #[.val (.ref ra), .val (.int xi)] [])) _
                    refine XS.iconst X0.here hx rfl (hb hby d10_70) ?_
                    show Steps p.tables e below (s₁.setTop (mkF m 71 #[.val (.ref ra), .val (.int xi)] [(.int (-1 : Int32))])) _
                    exact k
                  obtain ⟨fs, hr, hrun, hended, hW, hsame⟩ := X0.leave (v := some (.int (-1 : Int32))) (fun h => by rw [Bd.returns] at h; cases h)
                  refine ⟨_, _, pre43 _ ?_, hrun, hended, _, _, rfl, ?_, ⟨_, rfl⟩, hW, hsame.mono (by decide) (by decide)⟩
                  · exact retI X0 hx Bd.returns (hb hby d10_71) hr
                  · show Q_rm_after Z ra xi ki xs h0 n0 _ s₁.heap _
                    rw [e0]
                    exact ⟨congrArg (fun z => some (Value.int z)) (show (-1 : Int32) = (F_rm_after xi xs) from by rw [F_rm_after, if_pos hc2, if_neg hc9, if_pos hc16, if_neg hc23, if_neg hc30, if_neg hc44, if_pos hc58, if_neg hc65]), N0, rfl⟩
              · have pre44 : ∀ t, Steps p.tables e below (s₁.setTop (mkF m 71 #[.val (.ref ra), .val (.int xi)] [(.int (-1 : Int32))])) t → Steps p.tables e below (s₁.setTop (entryFrame m #[(.ref ra), (.int xi)] 2)) t := by
                  intro t k
                  refine pre39 t ?_
                  refine XS.icmpYes X0.here hx rfl (pc0 := 58) (pc' := 70) rfl (hb hby d10_58) rfl (flt hc58).2.1 (by decide) (by decide) ?_
                  show Steps p.tables e below (s₁.setTop (mkF m 70 #[.val (.ref ra), .val (.int xi)] [])) _
                  refine XS.iconst X0.here hx rfl (hb hby d10_70) ?_
                  show Steps p.tables e below (s₁.setTop (mkF m 71 #[.val (.ref ra), .val (.int xi)] [(.int (-1 : Int32))])) _
                  exact k
                obtain ⟨fs, hr, hrun, hended, hW, hsame⟩ := X0.leave (v := some (.int (-1 : Int32))) (fun h => by rw [Bd.returns] at h; cases h)
                refine ⟨_, _, pre44 _ ?_, hrun, hended, _, _, rfl, ?_, ⟨_, rfl⟩, hW, hsame.mono (by decide) (by decide)⟩
                · exact retI X0 hx Bd.returns (hb hby d10_71) hr
                · show Q_rm_after Z ra xi ki xs h0 n0 _ s₁.heap _
                  rw [e0]
                  exact ⟨congrArg (fun z => some (Value.int z)) (show (-1 : Int32) = (F_rm_after xi xs) from by rw [F_rm_after, if_pos hc2, if_neg hc9, if_pos hc16, if_neg hc23, if_neg hc30, if_neg hc44, if_neg hc58]), N0, rfl⟩
      · have pre45 : ∀ t, Steps p.tables e below (s₁.setTop (mkF m 30 #[.val (.ref ra), .val (.int xi)] [(.int (3 : Int32)), (.int xi)])) t → Steps p.tables e below (s₁.setTop (entryFrame m #[(.ref ra), (.int xi)] 2)) t := by
          intro t k
          refine pre5 t ?_
          refine XS.icmpYes X0.here hx rfl (pc0 := 16) (pc' := 28) rfl (hb hby d10_16) rfl (flt hc16).2.1 (by decide) (by decide) ?_
          show Steps p.tables e below (s₁.setTop (mkF m 28 #[.val (.ref ra), .val (.int xi)] [])) _
          refine XS.iloadN X0.here hx rfl (hb hby d10_28) rfl ?_
          show Steps p.tables e below (s₁.setTop (mkF m 29 #[.val (.ref ra), .val (.int xi)] [(.int xi)])) _
          refine XS.iconst X0.here hx rfl (hb hby d10_29) ?_
          show Steps p.tables e below (s₁.setTop (mkF m 30 #[.val (.ref ra), .val (.int xi)] [(.int (3 : Int32)), (.int xi)])) _
          exact k
        by_cases hc30 : xi < (3 : Int32)
        · have pre47 : ∀ t, Steps p.tables e below (s₁.setTop (mkF m 37 #[.val (.ref ra), .val (.int xi)] [(.int xi), (.int (own_at xs (3 : Int32)))])) t → Steps p.tables e below (s₁.setTop (entryFrame m #[(.ref ra), (.int xi)] 2)) t := by
            intro t k
            refine pre45 t ?_
            refine XS.icmpNo X0.here hx rfl (hb hby d10_30) rfl (tlt hc30).2.1 ?_
            show Steps p.tables e below (s₁.setTop (mkF m 33 #[.val (.ref ra), .val (.int xi)] [])) _
            refine XS.aloadN X0.here hx rfl (hb hby d10_33) rfl rfl ?_
            show Steps p.tables e below (s₁.setTop (mkF m 34 #[.val (.ref ra), .val (.int xi)] [(.ref ra)])) _
            refine XS.iconst X0.here hx rfl (hb hby d10_34) ?_
            show Steps p.tables e below (s₁.setTop (mkF m 35 #[.val (.ref ra), .val (.int xi)] [(.int (3 : Int32)), (.ref ra)])) _
            obtain ⟨c46, a46, q46, s46, m46, i46, u46⟩ := id V1
            have hin46 := inb_of (j := (3 : Int32)) s46 (by decide)
            refine X0.iaload hx (j := (3 : Int32)) (v := (.int (own_at xs (3 : Int32)))) (by rw [e0]; exact a46.1) (State.isArrayOf_alike hZ.alike a46.2.1) a46.2.2 hin46 (i46.at hin46 (own_getD xs _)) (g := (mkF m 35 #[.val (.ref ra), .val (.int xi)] [(.int (3 : Int32)), (.ref ra)])) rfl rfl (hb hby d10_35) _ ?_
            show Steps p.tables e below (s₁.setTop (mkF m 36 #[.val (.ref ra), .val (.int xi)] [(.int (own_at xs (3 : Int32)))])) _
            refine XS.iloadN X0.here hx rfl (hb hby d10_36) rfl ?_
            show Steps p.tables e below (s₁.setTop (mkF m 37 #[.val (.ref ra), .val (.int xi)] [(.int xi), (.int (own_at xs (3 : Int32)))])) _
            exact k
          by_cases hc37 : (own_at xs (3 : Int32)) < xi
          · have pre48 : ∀ t, Steps p.tables e below (s₁.setTop (mkF m 41 #[.val (.ref ra), .val (.int xi)] [(.int (3 : Int32))])) t → Steps p.tables e below (s₁.setTop (entryFrame m #[(.ref ra), (.int xi)] 2)) t := by
              intro t k
              refine pre47 t ?_
              refine XS.icmpNo X0.here hx rfl (hb hby d10_37) rfl (tlt hc37).2.1 ?_
              show Steps p.tables e below (s₁.setTop (mkF m 40 #[.val (.ref ra), .val (.int xi)] [])) _
              refine XS.iconst X0.here hx rfl (hb hby d10_40) ?_
              show Steps p.tables e below (s₁.setTop (mkF m 41 #[.val (.ref ra), .val (.int xi)] [(.int (3 : Int32))])) _
              exact k
            obtain ⟨fs, hr, hrun, hended, hW, hsame⟩ := X0.leave (v := some (.int (3 : Int32))) (fun h => by rw [Bd.returns] at h; cases h)
            refine ⟨_, _, pre48 _ ?_, hrun, hended, _, _, rfl, ?_, ⟨_, rfl⟩, hW, hsame.mono (by decide) (by decide)⟩
            · exact retI X0 hx Bd.returns (hb hby d10_41) hr
            · show Q_rm_after Z ra xi ki xs h0 n0 _ s₁.heap _
              rw [e0]
              exact ⟨congrArg (fun z => some (Value.int z)) (show (3 : Int32) = (F_rm_after xi xs) from by rw [F_rm_after, if_pos hc2, if_neg hc9, if_neg hc16, if_pos hc30, if_pos hc37]), N0, rfl⟩
          · have pre49 : ∀ t, Steps p.tables e below (s₁.setTop (mkF m 44 #[.val (.ref ra), .val (.int xi)] [(.int (4 : Int32)), (.int xi)])) t → Steps p.tables e below (s₁.setTop (entryFrame m #[(.ref ra), (.int xi)] 2)) t := by
              intro t k
              refine pre47 t ?_
              refine XS.icmpYes X0.here hx rfl (pc0 := 37) (pc' := 42) rfl (hb hby d10_37) rfl (flt hc37).2.1 (by decide) (by decide) ?_
              show Steps p.tables e below (s₁.setTop (mkF m 42 #[.val (.ref ra), .val (.int xi)] [])) _
              refine XS.iloadN X0.here hx rfl (hb hby d10_42) rfl ?_
              show Steps p.tables e below (s₁.setTop (mkF m 43 #[.val (.ref ra), .val (.int xi)] [(.int xi)])) _
              refine XS.iconst X0.here hx rfl (hb hby d10_43) ?_
              show Steps p.tables e below (s₁.setTop (mkF m 44 #[.val (.ref ra), .val (.int xi)] [(.int (4 : Int32)), (.int xi)])) _
              exact k
            by_cases hc44 : xi < (4 : Int32)
            · have pre51 : ∀ t, Steps p.tables e below (s₁.setTop (mkF m 51 #[.val (.ref ra), .val (.int xi)] [(.int xi), (.int (own_at xs (4 : Int32)))])) t → Steps p.tables e below (s₁.setTop (entryFrame m #[(.ref ra), (.int xi)] 2)) t := by
                intro t k
                refine pre49 t ?_
                refine XS.icmpNo X0.here hx rfl (hb hby d10_44) rfl (tlt hc44).2.1 ?_
                show Steps p.tables e below (s₁.setTop (mkF m 47 #[.val (.ref ra), .val (.int xi)] [])) _
                refine XS.aloadN X0.here hx rfl (hb hby d10_47) rfl rfl ?_
                show Steps p.tables e below (s₁.setTop (mkF m 48 #[.val (.ref ra), .val (.int xi)] [(.ref ra)])) _
                refine XS.iconst X0.here hx rfl (hb hby d10_48) ?_
                show Steps p.tables e below (s₁.setTop (mkF m 49 #[.val (.ref ra), .val (.int xi)] [(.int (4 : Int32)), (.ref ra)])) _
                obtain ⟨c50, a50, q50, s50, m50, i50, u50⟩ := id V1
                have hin50 := inb_of (j := (4 : Int32)) s50 (by decide)
                refine X0.iaload hx (j := (4 : Int32)) (v := (.int (own_at xs (4 : Int32)))) (by rw [e0]; exact a50.1) (State.isArrayOf_alike hZ.alike a50.2.1) a50.2.2 hin50 (i50.at hin50 (own_getD xs _)) (g := (mkF m 49 #[.val (.ref ra), .val (.int xi)] [(.int (4 : Int32)), (.ref ra)])) rfl rfl (hb hby d10_49) _ ?_
                show Steps p.tables e below (s₁.setTop (mkF m 50 #[.val (.ref ra), .val (.int xi)] [(.int (own_at xs (4 : Int32)))])) _
                refine XS.iloadN X0.here hx rfl (hb hby d10_50) rfl ?_
                show Steps p.tables e below (s₁.setTop (mkF m 51 #[.val (.ref ra), .val (.int xi)] [(.int xi), (.int (own_at xs (4 : Int32)))])) _
                exact k
              by_cases hc51 : (own_at xs (4 : Int32)) < xi
              · have pre52 : ∀ t, Steps p.tables e below (s₁.setTop (mkF m 55 #[.val (.ref ra), .val (.int xi)] [(.int (4 : Int32))])) t → Steps p.tables e below (s₁.setTop (entryFrame m #[(.ref ra), (.int xi)] 2)) t := by
                  intro t k
                  refine pre51 t ?_
                  refine XS.icmpNo X0.here hx rfl (hb hby d10_51) rfl (tlt hc51).2.1 ?_
                  show Steps p.tables e below (s₁.setTop (mkF m 54 #[.val (.ref ra), .val (.int xi)] [])) _
                  refine XS.iconst X0.here hx rfl (hb hby d10_54) ?_
                  show Steps p.tables e below (s₁.setTop (mkF m 55 #[.val (.ref ra), .val (.int xi)] [(.int (4 : Int32))])) _
                  exact k
                obtain ⟨fs, hr, hrun, hended, hW, hsame⟩ := X0.leave (v := some (.int (4 : Int32))) (fun h => by rw [Bd.returns] at h; cases h)
                refine ⟨_, _, pre52 _ ?_, hrun, hended, _, _, rfl, ?_, ⟨_, rfl⟩, hW, hsame.mono (by decide) (by decide)⟩
                · exact retI X0 hx Bd.returns (hb hby d10_55) hr
                · show Q_rm_after Z ra xi ki xs h0 n0 _ s₁.heap _
                  rw [e0]
                  exact ⟨congrArg (fun z => some (Value.int z)) (show (4 : Int32) = (F_rm_after xi xs) from by rw [F_rm_after, if_pos hc2, if_neg hc9, if_neg hc16, if_pos hc30, if_neg hc37, if_pos hc44, if_pos hc51]), N0, rfl⟩
              · have pre53 : ∀ t, Steps p.tables e below (s₁.setTop (mkF m 58 #[.val (.ref ra), .val (.int xi)] [(.int (5 : Int32)), (.int xi)])) t → Steps p.tables e below (s₁.setTop (entryFrame m #[(.ref ra), (.int xi)] 2)) t := by
                  intro t k
                  refine pre51 t ?_
                  refine XS.icmpYes X0.here hx rfl (pc0 := 51) (pc' := 56) rfl (hb hby d10_51) rfl (flt hc51).2.1 (by decide) (by decide) ?_
                  show Steps p.tables e below (s₁.setTop (mkF m 56 #[.val (.ref ra), .val (.int xi)] [])) _
                  refine XS.iloadN X0.here hx rfl (hb hby d10_56) rfl ?_
                  show Steps p.tables e below (s₁.setTop (mkF m 57 #[.val (.ref ra), .val (.int xi)] [(.int xi)])) _
                  refine XS.iconst X0.here hx rfl (hb hby d10_57) ?_
                  show Steps p.tables e below (s₁.setTop (mkF m 58 #[.val (.ref ra), .val (.int xi)] [(.int (5 : Int32)), (.int xi)])) _
                  exact k
                by_cases hc58 : xi < (5 : Int32)
                · have pre55 : ∀ t, Steps p.tables e below (s₁.setTop (mkF m 65 #[.val (.ref ra), .val (.int xi)] [(.int xi), (.int (own_at xs (5 : Int32)))])) t → Steps p.tables e below (s₁.setTop (entryFrame m #[(.ref ra), (.int xi)] 2)) t := by
                    intro t k
                    refine pre53 t ?_
                    refine XS.icmpNo X0.here hx rfl (hb hby d10_58) rfl (tlt hc58).2.1 ?_
                    show Steps p.tables e below (s₁.setTop (mkF m 61 #[.val (.ref ra), .val (.int xi)] [])) _
                    refine XS.aloadN X0.here hx rfl (hb hby d10_61) rfl rfl ?_
                    show Steps p.tables e below (s₁.setTop (mkF m 62 #[.val (.ref ra), .val (.int xi)] [(.ref ra)])) _
                    refine XS.iconst X0.here hx rfl (hb hby d10_62) ?_
                    show Steps p.tables e below (s₁.setTop (mkF m 63 #[.val (.ref ra), .val (.int xi)] [(.int (5 : Int32)), (.ref ra)])) _
                    obtain ⟨c54, a54, q54, s54, m54, i54, u54⟩ := id V1
                    have hin54 := inb_of (j := (5 : Int32)) s54 (by decide)
                    refine X0.iaload hx (j := (5 : Int32)) (v := (.int (own_at xs (5 : Int32)))) (by rw [e0]; exact a54.1) (State.isArrayOf_alike hZ.alike a54.2.1) a54.2.2 hin54 (i54.at hin54 (own_getD xs _)) (g := (mkF m 63 #[.val (.ref ra), .val (.int xi)] [(.int (5 : Int32)), (.ref ra)])) rfl rfl (hb hby d10_63) _ ?_
                    show Steps p.tables e below (s₁.setTop (mkF m 64 #[.val (.ref ra), .val (.int xi)] [(.int (own_at xs (5 : Int32)))])) _
                    refine XS.iloadN X0.here hx rfl (hb hby d10_64) rfl ?_
                    show Steps p.tables e below (s₁.setTop (mkF m 65 #[.val (.ref ra), .val (.int xi)] [(.int xi), (.int (own_at xs (5 : Int32)))])) _
                    exact k
                  by_cases hc65 : (own_at xs (5 : Int32)) < xi
                  · have pre56 : ∀ t, Steps p.tables e below (s₁.setTop (mkF m 69 #[.val (.ref ra), .val (.int xi)] [(.int (5 : Int32))])) t → Steps p.tables e below (s₁.setTop (entryFrame m #[(.ref ra), (.int xi)] 2)) t := by
                      intro t k
                      refine pre55 t ?_
                      refine XS.icmpNo X0.here hx rfl (hb hby d10_65) rfl (tlt hc65).2.1 ?_
                      show Steps p.tables e below (s₁.setTop (mkF m 68 #[.val (.ref ra), .val (.int xi)] [])) _
                      refine XS.iconst X0.here hx rfl (hb hby d10_68) ?_
                      show Steps p.tables e below (s₁.setTop (mkF m 69 #[.val (.ref ra), .val (.int xi)] [(.int (5 : Int32))])) _
                      exact k
                    obtain ⟨fs, hr, hrun, hended, hW, hsame⟩ := X0.leave (v := some (.int (5 : Int32))) (fun h => by rw [Bd.returns] at h; cases h)
                    refine ⟨_, _, pre56 _ ?_, hrun, hended, _, _, rfl, ?_, ⟨_, rfl⟩, hW, hsame.mono (by decide) (by decide)⟩
                    · exact retI X0 hx Bd.returns (hb hby d10_69) hr
                    · show Q_rm_after Z ra xi ki xs h0 n0 _ s₁.heap _
                      rw [e0]
                      exact ⟨congrArg (fun z => some (Value.int z)) (show (5 : Int32) = (F_rm_after xi xs) from by rw [F_rm_after, if_pos hc2, if_neg hc9, if_neg hc16, if_pos hc30, if_neg hc37, if_pos hc44, if_neg hc51, if_pos hc58, if_pos hc65]), N0, rfl⟩
                  · have pre57 : ∀ t, Steps p.tables e below (s₁.setTop (mkF m 71 #[.val (.ref ra), .val (.int xi)] [(.int (-1 : Int32))])) t → Steps p.tables e below (s₁.setTop (entryFrame m #[(.ref ra), (.int xi)] 2)) t := by
                      intro t k
                      refine pre55 t ?_
                      refine XS.icmpYes X0.here hx rfl (pc0 := 65) (pc' := 70) rfl (hb hby d10_65) rfl (flt hc65).2.1 (by decide) (by decide) ?_
                      show Steps p.tables e below (s₁.setTop (mkF m 70 #[.val (.ref ra), .val (.int xi)] [])) _
                      refine XS.iconst X0.here hx rfl (hb hby d10_70) ?_
                      show Steps p.tables e below (s₁.setTop (mkF m 71 #[.val (.ref ra), .val (.int xi)] [(.int (-1 : Int32))])) _
                      exact k
                    obtain ⟨fs, hr, hrun, hended, hW, hsame⟩ := X0.leave (v := some (.int (-1 : Int32))) (fun h => by rw [Bd.returns] at h; cases h)
                    refine ⟨_, _, pre57 _ ?_, hrun, hended, _, _, rfl, ?_, ⟨_, rfl⟩, hW, hsame.mono (by decide) (by decide)⟩
                    · exact retI X0 hx Bd.returns (hb hby d10_71) hr
                    · show Q_rm_after Z ra xi ki xs h0 n0 _ s₁.heap _
                      rw [e0]
                      exact ⟨congrArg (fun z => some (Value.int z)) (show (-1 : Int32) = (F_rm_after xi xs) from by rw [F_rm_after, if_pos hc2, if_neg hc9, if_neg hc16, if_pos hc30, if_neg hc37, if_pos hc44, if_neg hc51, if_pos hc58, if_neg hc65]), N0, rfl⟩
                · have pre58 : ∀ t, Steps p.tables e below (s₁.setTop (mkF m 71 #[.val (.ref ra), .val (.int xi)] [(.int (-1 : Int32))])) t → Steps p.tables e below (s₁.setTop (entryFrame m #[(.ref ra), (.int xi)] 2)) t := by
                    intro t k
                    refine pre53 t ?_
                    refine XS.icmpYes X0.here hx rfl (pc0 := 58) (pc' := 70) rfl (hb hby d10_58) rfl (flt hc58).2.1 (by decide) (by decide) ?_
                    show Steps p.tables e below (s₁.setTop (mkF m 70 #[.val (.ref ra), .val (.int xi)] [])) _
                    refine XS.iconst X0.here hx rfl (hb hby d10_70) ?_
                    show Steps p.tables e below (s₁.setTop (mkF m 71 #[.val (.ref ra), .val (.int xi)] [(.int (-1 : Int32))])) _
                    exact k
                  obtain ⟨fs, hr, hrun, hended, hW, hsame⟩ := X0.leave (v := some (.int (-1 : Int32))) (fun h => by rw [Bd.returns] at h; cases h)
                  refine ⟨_, _, pre58 _ ?_, hrun, hended, _, _, rfl, ?_, ⟨_, rfl⟩, hW, hsame.mono (by decide) (by decide)⟩
                  · exact retI X0 hx Bd.returns (hb hby d10_71) hr
                  · show Q_rm_after Z ra xi ki xs h0 n0 _ s₁.heap _
                    rw [e0]
                    exact ⟨congrArg (fun z => some (Value.int z)) (show (-1 : Int32) = (F_rm_after xi xs) from by rw [F_rm_after, if_pos hc2, if_neg hc9, if_neg hc16, if_pos hc30, if_neg hc37, if_pos hc44, if_neg hc51, if_neg hc58]), N0, rfl⟩
            · have pre59 : ∀ t, Steps p.tables e below (s₁.setTop (mkF m 58 #[.val (.ref ra), .val (.int xi)] [(.int (5 : Int32)), (.int xi)])) t → Steps p.tables e below (s₁.setTop (entryFrame m #[(.ref ra), (.int xi)] 2)) t := by
                intro t k
                refine pre49 t ?_
                refine XS.icmpYes X0.here hx rfl (pc0 := 44) (pc' := 56) rfl (hb hby d10_44) rfl (flt hc44).2.1 (by decide) (by decide) ?_
                show Steps p.tables e below (s₁.setTop (mkF m 56 #[.val (.ref ra), .val (.int xi)] [])) _
                refine XS.iloadN X0.here hx rfl (hb hby d10_56) rfl ?_
                show Steps p.tables e below (s₁.setTop (mkF m 57 #[.val (.ref ra), .val (.int xi)] [(.int xi)])) _
                refine XS.iconst X0.here hx rfl (hb hby d10_57) ?_
                show Steps p.tables e below (s₁.setTop (mkF m 58 #[.val (.ref ra), .val (.int xi)] [(.int (5 : Int32)), (.int xi)])) _
                exact k
              by_cases hc58 : xi < (5 : Int32)
              · have pre61 : ∀ t, Steps p.tables e below (s₁.setTop (mkF m 65 #[.val (.ref ra), .val (.int xi)] [(.int xi), (.int (own_at xs (5 : Int32)))])) t → Steps p.tables e below (s₁.setTop (entryFrame m #[(.ref ra), (.int xi)] 2)) t := by
                  intro t k
                  refine pre59 t ?_
                  refine XS.icmpNo X0.here hx rfl (hb hby d10_58) rfl (tlt hc58).2.1 ?_
                  show Steps p.tables e below (s₁.setTop (mkF m 61 #[.val (.ref ra), .val (.int xi)] [])) _
                  refine XS.aloadN X0.here hx rfl (hb hby d10_61) rfl rfl ?_
                  show Steps p.tables e below (s₁.setTop (mkF m 62 #[.val (.ref ra), .val (.int xi)] [(.ref ra)])) _
                  refine XS.iconst X0.here hx rfl (hb hby d10_62) ?_
                  show Steps p.tables e below (s₁.setTop (mkF m 63 #[.val (.ref ra), .val (.int xi)] [(.int (5 : Int32)), (.ref ra)])) _
                  obtain ⟨c60, a60, q60, s60, m60, i60, u60⟩ := id V1
                  have hin60 := inb_of (j := (5 : Int32)) s60 (by decide)
                  refine X0.iaload hx (j := (5 : Int32)) (v := (.int (own_at xs (5 : Int32)))) (by rw [e0]; exact a60.1) (State.isArrayOf_alike hZ.alike a60.2.1) a60.2.2 hin60 (i60.at hin60 (own_getD xs _)) (g := (mkF m 63 #[.val (.ref ra), .val (.int xi)] [(.int (5 : Int32)), (.ref ra)])) rfl rfl (hb hby d10_63) _ ?_
                  show Steps p.tables e below (s₁.setTop (mkF m 64 #[.val (.ref ra), .val (.int xi)] [(.int (own_at xs (5 : Int32)))])) _
                  refine XS.iloadN X0.here hx rfl (hb hby d10_64) rfl ?_
                  show Steps p.tables e below (s₁.setTop (mkF m 65 #[.val (.ref ra), .val (.int xi)] [(.int xi), (.int (own_at xs (5 : Int32)))])) _
                  exact k
                by_cases hc65 : (own_at xs (5 : Int32)) < xi
                · have pre62 : ∀ t, Steps p.tables e below (s₁.setTop (mkF m 69 #[.val (.ref ra), .val (.int xi)] [(.int (5 : Int32))])) t → Steps p.tables e below (s₁.setTop (entryFrame m #[(.ref ra), (.int xi)] 2)) t := by
                    intro t k
                    refine pre61 t ?_
                    refine XS.icmpNo X0.here hx rfl (hb hby d10_65) rfl (tlt hc65).2.1 ?_
                    show Steps p.tables e below (s₁.setTop (mkF m 68 #[.val (.ref ra), .val (.int xi)] [])) _
                    refine XS.iconst X0.here hx rfl (hb hby d10_68) ?_
                    show Steps p.tables e below (s₁.setTop (mkF m 69 #[.val (.ref ra), .val (.int xi)] [(.int (5 : Int32))])) _
                    exact k
                  obtain ⟨fs, hr, hrun, hended, hW, hsame⟩ := X0.leave (v := some (.int (5 : Int32))) (fun h => by rw [Bd.returns] at h; cases h)
                  refine ⟨_, _, pre62 _ ?_, hrun, hended, _, _, rfl, ?_, ⟨_, rfl⟩, hW, hsame.mono (by decide) (by decide)⟩
                  · exact retI X0 hx Bd.returns (hb hby d10_69) hr
                  · show Q_rm_after Z ra xi ki xs h0 n0 _ s₁.heap _
                    rw [e0]
                    exact ⟨congrArg (fun z => some (Value.int z)) (show (5 : Int32) = (F_rm_after xi xs) from by rw [F_rm_after, if_pos hc2, if_neg hc9, if_neg hc16, if_pos hc30, if_neg hc37, if_neg hc44, if_pos hc58, if_pos hc65]), N0, rfl⟩
                · have pre63 : ∀ t, Steps p.tables e below (s₁.setTop (mkF m 71 #[.val (.ref ra), .val (.int xi)] [(.int (-1 : Int32))])) t → Steps p.tables e below (s₁.setTop (entryFrame m #[(.ref ra), (.int xi)] 2)) t := by
                    intro t k
                    refine pre61 t ?_
                    refine XS.icmpYes X0.here hx rfl (pc0 := 65) (pc' := 70) rfl (hb hby d10_65) rfl (flt hc65).2.1 (by decide) (by decide) ?_
                    show Steps p.tables e below (s₁.setTop (mkF m 70 #[.val (.ref ra), .val (.int xi)] [])) _
                    refine XS.iconst X0.here hx rfl (hb hby d10_70) ?_
                    show Steps p.tables e below (s₁.setTop (mkF m 71 #[.val (.ref ra), .val (.int xi)] [(.int (-1 : Int32))])) _
                    exact k
                  obtain ⟨fs, hr, hrun, hended, hW, hsame⟩ := X0.leave (v := some (.int (-1 : Int32))) (fun h => by rw [Bd.returns] at h; cases h)
                  refine ⟨_, _, pre63 _ ?_, hrun, hended, _, _, rfl, ?_, ⟨_, rfl⟩, hW, hsame.mono (by decide) (by decide)⟩
                  · exact retI X0 hx Bd.returns (hb hby d10_71) hr
                  · show Q_rm_after Z ra xi ki xs h0 n0 _ s₁.heap _
                    rw [e0]
                    exact ⟨congrArg (fun z => some (Value.int z)) (show (-1 : Int32) = (F_rm_after xi xs) from by rw [F_rm_after, if_pos hc2, if_neg hc9, if_neg hc16, if_pos hc30, if_neg hc37, if_neg hc44, if_pos hc58, if_neg hc65]), N0, rfl⟩
              · have pre64 : ∀ t, Steps p.tables e below (s₁.setTop (mkF m 71 #[.val (.ref ra), .val (.int xi)] [(.int (-1 : Int32))])) t → Steps p.tables e below (s₁.setTop (entryFrame m #[(.ref ra), (.int xi)] 2)) t := by
                  intro t k
                  refine pre59 t ?_
                  refine XS.icmpYes X0.here hx rfl (pc0 := 58) (pc' := 70) rfl (hb hby d10_58) rfl (flt hc58).2.1 (by decide) (by decide) ?_
                  show Steps p.tables e below (s₁.setTop (mkF m 70 #[.val (.ref ra), .val (.int xi)] [])) _
                  refine XS.iconst X0.here hx rfl (hb hby d10_70) ?_
                  show Steps p.tables e below (s₁.setTop (mkF m 71 #[.val (.ref ra), .val (.int xi)] [(.int (-1 : Int32))])) _
                  exact k
                obtain ⟨fs, hr, hrun, hended, hW, hsame⟩ := X0.leave (v := some (.int (-1 : Int32))) (fun h => by rw [Bd.returns] at h; cases h)
                refine ⟨_, _, pre64 _ ?_, hrun, hended, _, _, rfl, ?_, ⟨_, rfl⟩, hW, hsame.mono (by decide) (by decide)⟩
                · exact retI X0 hx Bd.returns (hb hby d10_71) hr
                · show Q_rm_after Z ra xi ki xs h0 n0 _ s₁.heap _
                  rw [e0]
                  exact ⟨congrArg (fun z => some (Value.int z)) (show (-1 : Int32) = (F_rm_after xi xs) from by rw [F_rm_after, if_pos hc2, if_neg hc9, if_neg hc16, if_pos hc30, if_neg hc37, if_neg hc44, if_neg hc58]), N0, rfl⟩
        · have pre65 : ∀ t, Steps p.tables e below (s₁.setTop (mkF m 44 #[.val (.ref ra), .val (.int xi)] [(.int (4 : Int32)), (.int xi)])) t → Steps p.tables e below (s₁.setTop (entryFrame m #[(.ref ra), (.int xi)] 2)) t := by
            intro t k
            refine pre45 t ?_
            refine XS.icmpYes X0.here hx rfl (pc0 := 30) (pc' := 42) rfl (hb hby d10_30) rfl (flt hc30).2.1 (by decide) (by decide) ?_
            show Steps p.tables e below (s₁.setTop (mkF m 42 #[.val (.ref ra), .val (.int xi)] [])) _
            refine XS.iloadN X0.here hx rfl (hb hby d10_42) rfl ?_
            show Steps p.tables e below (s₁.setTop (mkF m 43 #[.val (.ref ra), .val (.int xi)] [(.int xi)])) _
            refine XS.iconst X0.here hx rfl (hb hby d10_43) ?_
            show Steps p.tables e below (s₁.setTop (mkF m 44 #[.val (.ref ra), .val (.int xi)] [(.int (4 : Int32)), (.int xi)])) _
            exact k
          by_cases hc44 : xi < (4 : Int32)
          · have pre67 : ∀ t, Steps p.tables e below (s₁.setTop (mkF m 51 #[.val (.ref ra), .val (.int xi)] [(.int xi), (.int (own_at xs (4 : Int32)))])) t → Steps p.tables e below (s₁.setTop (entryFrame m #[(.ref ra), (.int xi)] 2)) t := by
              intro t k
              refine pre65 t ?_
              refine XS.icmpNo X0.here hx rfl (hb hby d10_44) rfl (tlt hc44).2.1 ?_
              show Steps p.tables e below (s₁.setTop (mkF m 47 #[.val (.ref ra), .val (.int xi)] [])) _
              refine XS.aloadN X0.here hx rfl (hb hby d10_47) rfl rfl ?_
              show Steps p.tables e below (s₁.setTop (mkF m 48 #[.val (.ref ra), .val (.int xi)] [(.ref ra)])) _
              refine XS.iconst X0.here hx rfl (hb hby d10_48) ?_
              show Steps p.tables e below (s₁.setTop (mkF m 49 #[.val (.ref ra), .val (.int xi)] [(.int (4 : Int32)), (.ref ra)])) _
              obtain ⟨c66, a66, q66, s66, m66, i66, u66⟩ := id V1
              have hin66 := inb_of (j := (4 : Int32)) s66 (by decide)
              refine X0.iaload hx (j := (4 : Int32)) (v := (.int (own_at xs (4 : Int32)))) (by rw [e0]; exact a66.1) (State.isArrayOf_alike hZ.alike a66.2.1) a66.2.2 hin66 (i66.at hin66 (own_getD xs _)) (g := (mkF m 49 #[.val (.ref ra), .val (.int xi)] [(.int (4 : Int32)), (.ref ra)])) rfl rfl (hb hby d10_49) _ ?_
              show Steps p.tables e below (s₁.setTop (mkF m 50 #[.val (.ref ra), .val (.int xi)] [(.int (own_at xs (4 : Int32)))])) _
              refine XS.iloadN X0.here hx rfl (hb hby d10_50) rfl ?_
              show Steps p.tables e below (s₁.setTop (mkF m 51 #[.val (.ref ra), .val (.int xi)] [(.int xi), (.int (own_at xs (4 : Int32)))])) _
              exact k
            by_cases hc51 : (own_at xs (4 : Int32)) < xi
            · have pre68 : ∀ t, Steps p.tables e below (s₁.setTop (mkF m 55 #[.val (.ref ra), .val (.int xi)] [(.int (4 : Int32))])) t → Steps p.tables e below (s₁.setTop (entryFrame m #[(.ref ra), (.int xi)] 2)) t := by
                intro t k
                refine pre67 t ?_
                refine XS.icmpNo X0.here hx rfl (hb hby d10_51) rfl (tlt hc51).2.1 ?_
                show Steps p.tables e below (s₁.setTop (mkF m 54 #[.val (.ref ra), .val (.int xi)] [])) _
                refine XS.iconst X0.here hx rfl (hb hby d10_54) ?_
                show Steps p.tables e below (s₁.setTop (mkF m 55 #[.val (.ref ra), .val (.int xi)] [(.int (4 : Int32))])) _
                exact k
              obtain ⟨fs, hr, hrun, hended, hW, hsame⟩ := X0.leave (v := some (.int (4 : Int32))) (fun h => by rw [Bd.returns] at h; cases h)
              refine ⟨_, _, pre68 _ ?_, hrun, hended, _, _, rfl, ?_, ⟨_, rfl⟩, hW, hsame.mono (by decide) (by decide)⟩
              · exact retI X0 hx Bd.returns (hb hby d10_55) hr
              · show Q_rm_after Z ra xi ki xs h0 n0 _ s₁.heap _
                rw [e0]
                exact ⟨congrArg (fun z => some (Value.int z)) (show (4 : Int32) = (F_rm_after xi xs) from by rw [F_rm_after, if_pos hc2, if_neg hc9, if_neg hc16, if_neg hc30, if_pos hc44, if_pos hc51]), N0, rfl⟩
            · have pre69 : ∀ t, Steps p.tables e below (s₁.setTop (mkF m 58 #[.val (.ref ra), .val (.int xi)] [(.int (5 : Int32)), (.int xi)])) t → Steps p.tables e below (s₁.setTop (entryFrame m #[(.ref ra), (.int xi)] 2)) t := by
                intro t k
                refine pre67 t ?_
                refine XS.icmpYes X0.here hx rfl (pc0 := 51) (pc' := 56) rfl (hb hby d10_51) rfl (flt hc51).2.1 (by decide) (by decide) ?_
                show Steps p.tables e below (s₁.setTop (mkF m 56 #[.val (.ref ra), .val (.int xi)] [])) _
                refine XS.iloadN X0.here hx rfl (hb hby d10_56) rfl ?_
                show Steps p.tables e below (s₁.setTop (mkF m 57 #[.val (.ref ra), .val (.int xi)] [(.int xi)])) _
                refine XS.iconst X0.here hx rfl (hb hby d10_57) ?_
                show Steps p.tables e below (s₁.setTop (mkF m 58 #[.val (.ref ra), .val (.int xi)] [(.int (5 : Int32)), (.int xi)])) _
                exact k
              by_cases hc58 : xi < (5 : Int32)
              · have pre71 : ∀ t, Steps p.tables e below (s₁.setTop (mkF m 65 #[.val (.ref ra), .val (.int xi)] [(.int xi), (.int (own_at xs (5 : Int32)))])) t → Steps p.tables e below (s₁.setTop (entryFrame m #[(.ref ra), (.int xi)] 2)) t := by
                  intro t k
                  refine pre69 t ?_
                  refine XS.icmpNo X0.here hx rfl (hb hby d10_58) rfl (tlt hc58).2.1 ?_
                  show Steps p.tables e below (s₁.setTop (mkF m 61 #[.val (.ref ra), .val (.int xi)] [])) _
                  refine XS.aloadN X0.here hx rfl (hb hby d10_61) rfl rfl ?_
                  show Steps p.tables e below (s₁.setTop (mkF m 62 #[.val (.ref ra), .val (.int xi)] [(.ref ra)])) _
                  refine XS.iconst X0.here hx rfl (hb hby d10_62) ?_
                  show Steps p.tables e below (s₁.setTop (mkF m 63 #[.val (.ref ra), .val (.int xi)] [(.int (5 : Int32)), (.ref ra)])) _
                  obtain ⟨c70, a70, q70, s70, m70, i70, u70⟩ := id V1
                  have hin70 := inb_of (j := (5 : Int32)) s70 (by decide)
                  refine X0.iaload hx (j := (5 : Int32)) (v := (.int (own_at xs (5 : Int32)))) (by rw [e0]; exact a70.1) (State.isArrayOf_alike hZ.alike a70.2.1) a70.2.2 hin70 (i70.at hin70 (own_getD xs _)) (g := (mkF m 63 #[.val (.ref ra), .val (.int xi)] [(.int (5 : Int32)), (.ref ra)])) rfl rfl (hb hby d10_63) _ ?_
                  show Steps p.tables e below (s₁.setTop (mkF m 64 #[.val (.ref ra), .val (.int xi)] [(.int (own_at xs (5 : Int32)))])) _
                  refine XS.iloadN X0.here hx rfl (hb hby d10_64) rfl ?_
                  show Steps p.tables e below (s₁.setTop (mkF m 65 #[.val (.ref ra), .val (.int xi)] [(.int xi), (.int (own_at xs (5 : Int32)))])) _
                  exact k
                by_cases hc65 : (own_at xs (5 : Int32)) < xi
                · have pre72 : ∀ t, Steps p.tables e below (s₁.setTop (mkF m 69 #[.val (.ref ra), .val (.int xi)] [(.int (5 : Int32))])) t → Steps p.tables e below (s₁.setTop (entryFrame m #[(.ref ra), (.int xi)] 2)) t := by
                    intro t k
                    refine pre71 t ?_
                    refine XS.icmpNo X0.here hx rfl (hb hby d10_65) rfl (tlt hc65).2.1 ?_
                    show Steps p.tables e below (s₁.setTop (mkF m 68 #[.val (.ref ra), .val (.int xi)] [])) _
                    refine XS.iconst X0.here hx rfl (hb hby d10_68) ?_
                    show Steps p.tables e below (s₁.setTop (mkF m 69 #[.val (.ref ra), .val (.int xi)] [(.int (5 : Int32))])) _
                    exact k
                  obtain ⟨fs, hr, hrun, hended, hW, hsame⟩ := X0.leave (v := some (.int (5 : Int32))) (fun h => by rw [Bd.returns] at h; cases h)
                  refine ⟨_, _, pre72 _ ?_, hrun, hended, _, _, rfl, ?_, ⟨_, rfl⟩, hW, hsame.mono (by decide) (by decide)⟩
                  · exact retI X0 hx Bd.returns (hb hby d10_69) hr
                  · show Q_rm_after Z ra xi ki xs h0 n0 _ s₁.heap _
                    rw [e0]
                    exact ⟨congrArg (fun z => some (Value.int z)) (show (5 : Int32) = (F_rm_after xi xs) from by rw [F_rm_after, if_pos hc2, if_neg hc9, if_neg hc16, if_neg hc30, if_pos hc44, if_neg hc51, if_pos hc58, if_pos hc65]), N0, rfl⟩
                · have pre73 : ∀ t, Steps p.tables e below (s₁.setTop (mkF m 71 #[.val (.ref ra), .val (.int xi)] [(.int (-1 : Int32))])) t → Steps p.tables e below (s₁.setTop (entryFrame m #[(.ref ra), (.int xi)] 2)) t := by
                    intro t k
                    refine pre71 t ?_
                    refine XS.icmpYes X0.here hx rfl (pc0 := 65) (pc' := 70) rfl (hb hby d10_65) rfl (flt hc65).2.1 (by decide) (by decide) ?_
                    show Steps p.tables e below (s₁.setTop (mkF m 70 #[.val (.ref ra), .val (.int xi)] [])) _
                    refine XS.iconst X0.here hx rfl (hb hby d10_70) ?_
                    show Steps p.tables e below (s₁.setTop (mkF m 71 #[.val (.ref ra), .val (.int xi)] [(.int (-1 : Int32))])) _
                    exact k
                  obtain ⟨fs, hr, hrun, hended, hW, hsame⟩ := X0.leave (v := some (.int (-1 : Int32))) (fun h => by rw [Bd.returns] at h; cases h)
                  refine ⟨_, _, pre73 _ ?_, hrun, hended, _, _, rfl, ?_, ⟨_, rfl⟩, hW, hsame.mono (by decide) (by decide)⟩
                  · exact retI X0 hx Bd.returns (hb hby d10_71) hr
                  · show Q_rm_after Z ra xi ki xs h0 n0 _ s₁.heap _
                    rw [e0]
                    exact ⟨congrArg (fun z => some (Value.int z)) (show (-1 : Int32) = (F_rm_after xi xs) from by rw [F_rm_after, if_pos hc2, if_neg hc9, if_neg hc16, if_neg hc30, if_pos hc44, if_neg hc51, if_pos hc58, if_neg hc65]), N0, rfl⟩
              · have pre74 : ∀ t, Steps p.tables e below (s₁.setTop (mkF m 71 #[.val (.ref ra), .val (.int xi)] [(.int (-1 : Int32))])) t → Steps p.tables e below (s₁.setTop (entryFrame m #[(.ref ra), (.int xi)] 2)) t := by
                  intro t k
                  refine pre69 t ?_
                  refine XS.icmpYes X0.here hx rfl (pc0 := 58) (pc' := 70) rfl (hb hby d10_58) rfl (flt hc58).2.1 (by decide) (by decide) ?_
                  show Steps p.tables e below (s₁.setTop (mkF m 70 #[.val (.ref ra), .val (.int xi)] [])) _
                  refine XS.iconst X0.here hx rfl (hb hby d10_70) ?_
                  show Steps p.tables e below (s₁.setTop (mkF m 71 #[.val (.ref ra), .val (.int xi)] [(.int (-1 : Int32))])) _
                  exact k
                obtain ⟨fs, hr, hrun, hended, hW, hsame⟩ := X0.leave (v := some (.int (-1 : Int32))) (fun h => by rw [Bd.returns] at h; cases h)
                refine ⟨_, _, pre74 _ ?_, hrun, hended, _, _, rfl, ?_, ⟨_, rfl⟩, hW, hsame.mono (by decide) (by decide)⟩
                · exact retI X0 hx Bd.returns (hb hby d10_71) hr
                · show Q_rm_after Z ra xi ki xs h0 n0 _ s₁.heap _
                  rw [e0]
                  exact ⟨congrArg (fun z => some (Value.int z)) (show (-1 : Int32) = (F_rm_after xi xs) from by rw [F_rm_after, if_pos hc2, if_neg hc9, if_neg hc16, if_neg hc30, if_pos hc44, if_neg hc51, if_neg hc58]), N0, rfl⟩
          · have pre75 : ∀ t, Steps p.tables e below (s₁.setTop (mkF m 58 #[.val (.ref ra), .val (.int xi)] [(.int (5 : Int32)), (.int xi)])) t → Steps p.tables e below (s₁.setTop (entryFrame m #[(.ref ra), (.int xi)] 2)) t := by
              intro t k
              refine pre65 t ?_
              refine XS.icmpYes X0.here hx rfl (pc0 := 44) (pc' := 56) rfl (hb hby d10_44) rfl (flt hc44).2.1 (by decide) (by decide) ?_
              show Steps p.tables e below (s₁.setTop (mkF m 56 #[.val (.ref ra), .val (.int xi)] [])) _
              refine XS.iloadN X0.here hx rfl (hb hby d10_56) rfl ?_
              show Steps p.tables e below (s₁.setTop (mkF m 57 #[.val (.ref ra), .val (.int xi)] [(.int xi)])) _
              refine XS.iconst X0.here hx rfl (hb hby d10_57) ?_
              show Steps p.tables e below (s₁.setTop (mkF m 58 #[.val (.ref ra), .val (.int xi)] [(.int (5 : Int32)), (.int xi)])) _
              exact k
            by_cases hc58 : xi < (5 : Int32)
            · have pre77 : ∀ t, Steps p.tables e below (s₁.setTop (mkF m 65 #[.val (.ref ra), .val (.int xi)] [(.int xi), (.int (own_at xs (5 : Int32)))])) t → Steps p.tables e below (s₁.setTop (entryFrame m #[(.ref ra), (.int xi)] 2)) t := by
                intro t k
                refine pre75 t ?_
                refine XS.icmpNo X0.here hx rfl (hb hby d10_58) rfl (tlt hc58).2.1 ?_
                show Steps p.tables e below (s₁.setTop (mkF m 61 #[.val (.ref ra), .val (.int xi)] [])) _
                refine XS.aloadN X0.here hx rfl (hb hby d10_61) rfl rfl ?_
                show Steps p.tables e below (s₁.setTop (mkF m 62 #[.val (.ref ra), .val (.int xi)] [(.ref ra)])) _
                refine XS.iconst X0.here hx rfl (hb hby d10_62) ?_
                show Steps p.tables e below (s₁.setTop (mkF m 63 #[.val (.ref ra), .val (.int xi)] [(.int (5 : Int32)), (.ref ra)])) _
                obtain ⟨c76, a76, q76, s76, m76, i76, u76⟩ := id V1
                have hin76 := inb_of (j := (5 : Int32)) s76 (by decide)
                refine X0.iaload hx (j := (5 : Int32)) (v := (.int (own_at xs (5 : Int32)))) (by rw [e0]; exact a76.1) (State.isArrayOf_alike hZ.alike a76.2.1) a76.2.2 hin76 (i76.at hin76 (own_getD xs _)) (g := (mkF m 63 #[.val (.ref ra), .val (.int xi)] [(.int (5 : Int32)), (.ref ra)])) rfl rfl (hb hby d10_63) _ ?_
                show Steps p.tables e below (s₁.setTop (mkF m 64 #[.val (.ref ra), .val (.int xi)] [(.int (own_at xs (5 : Int32)))])) _
                refine XS.iloadN X0.here hx rfl (hb hby d10_64) rfl ?_
                show Steps p.tables e below (s₁.setTop (mkF m 65 #[.val (.ref ra), .val (.int xi)] [(.int xi), (.int (own_at xs (5 : Int32)))])) _
                exact k
              by_cases hc65 : (own_at xs (5 : Int32)) < xi
              · have pre78 : ∀ t, Steps p.tables e below (s₁.setTop (mkF m 69 #[.val (.ref ra), .val (.int xi)] [(.int (5 : Int32))])) t → Steps p.tables e below (s₁.setTop (entryFrame m #[(.ref ra), (.int xi)] 2)) t := by
                  intro t k
                  refine pre77 t ?_
                  refine XS.icmpNo X0.here hx rfl (hb hby d10_65) rfl (tlt hc65).2.1 ?_
                  show Steps p.tables e below (s₁.setTop (mkF m 68 #[.val (.ref ra), .val (.int xi)] [])) _
                  refine XS.iconst X0.here hx rfl (hb hby d10_68) ?_
                  show Steps p.tables e below (s₁.setTop (mkF m 69 #[.val (.ref ra), .val (.int xi)] [(.int (5 : Int32))])) _
                  exact k
                obtain ⟨fs, hr, hrun, hended, hW, hsame⟩ := X0.leave (v := some (.int (5 : Int32))) (fun h => by rw [Bd.returns] at h; cases h)
                refine ⟨_, _, pre78 _ ?_, hrun, hended, _, _, rfl, ?_, ⟨_, rfl⟩, hW, hsame.mono (by decide) (by decide)⟩
                · exact retI X0 hx Bd.returns (hb hby d10_69) hr
                · show Q_rm_after Z ra xi ki xs h0 n0 _ s₁.heap _
                  rw [e0]
                  exact ⟨congrArg (fun z => some (Value.int z)) (show (5 : Int32) = (F_rm_after xi xs) from by rw [F_rm_after, if_pos hc2, if_neg hc9, if_neg hc16, if_neg hc30, if_neg hc44, if_pos hc58, if_pos hc65]), N0, rfl⟩
              · have pre79 : ∀ t, Steps p.tables e below (s₁.setTop (mkF m 71 #[.val (.ref ra), .val (.int xi)] [(.int (-1 : Int32))])) t → Steps p.tables e below (s₁.setTop (entryFrame m #[(.ref ra), (.int xi)] 2)) t := by
                  intro t k
                  refine pre77 t ?_
                  refine XS.icmpYes X0.here hx rfl (pc0 := 65) (pc' := 70) rfl (hb hby d10_65) rfl (flt hc65).2.1 (by decide) (by decide) ?_
                  show Steps p.tables e below (s₁.setTop (mkF m 70 #[.val (.ref ra), .val (.int xi)] [])) _
                  refine XS.iconst X0.here hx rfl (hb hby d10_70) ?_
                  show Steps p.tables e below (s₁.setTop (mkF m 71 #[.val (.ref ra), .val (.int xi)] [(.int (-1 : Int32))])) _
                  exact k
                obtain ⟨fs, hr, hrun, hended, hW, hsame⟩ := X0.leave (v := some (.int (-1 : Int32))) (fun h => by rw [Bd.returns] at h; cases h)
                refine ⟨_, _, pre79 _ ?_, hrun, hended, _, _, rfl, ?_, ⟨_, rfl⟩, hW, hsame.mono (by decide) (by decide)⟩
                · exact retI X0 hx Bd.returns (hb hby d10_71) hr
                · show Q_rm_after Z ra xi ki xs h0 n0 _ s₁.heap _
                  rw [e0]
                  exact ⟨congrArg (fun z => some (Value.int z)) (show (-1 : Int32) = (F_rm_after xi xs) from by rw [F_rm_after, if_pos hc2, if_neg hc9, if_neg hc16, if_neg hc30, if_neg hc44, if_pos hc58, if_neg hc65]), N0, rfl⟩
            · have pre80 : ∀ t, Steps p.tables e below (s₁.setTop (mkF m 71 #[.val (.ref ra), .val (.int xi)] [(.int (-1 : Int32))])) t → Steps p.tables e below (s₁.setTop (entryFrame m #[(.ref ra), (.int xi)] 2)) t := by
                intro t k
                refine pre75 t ?_
                refine XS.icmpYes X0.here hx rfl (pc0 := 58) (pc' := 70) rfl (hb hby d10_58) rfl (flt hc58).2.1 (by decide) (by decide) ?_
                show Steps p.tables e below (s₁.setTop (mkF m 70 #[.val (.ref ra), .val (.int xi)] [])) _
                refine XS.iconst X0.here hx rfl (hb hby d10_70) ?_
                show Steps p.tables e below (s₁.setTop (mkF m 71 #[.val (.ref ra), .val (.int xi)] [(.int (-1 : Int32))])) _
                exact k
              obtain ⟨fs, hr, hrun, hended, hW, hsame⟩ := X0.leave (v := some (.int (-1 : Int32))) (fun h => by rw [Bd.returns] at h; cases h)
              refine ⟨_, _, pre80 _ ?_, hrun, hended, _, _, rfl, ?_, ⟨_, rfl⟩, hW, hsame.mono (by decide) (by decide)⟩
              · exact retI X0 hx Bd.returns (hb hby d10_71) hr
              · show Q_rm_after Z ra xi ki xs h0 n0 _ s₁.heap _
                rw [e0]
                exact ⟨congrArg (fun z => some (Value.int z)) (show (-1 : Int32) = (F_rm_after xi xs) from by rw [F_rm_after, if_pos hc2, if_neg hc9, if_neg hc16, if_neg hc30, if_neg hc44, if_neg hc58]), N0, rfl⟩
  · have pre81 : ∀ t, Steps p.tables e below (s₁.setTop (mkF m 16 #[.val (.ref ra), .val (.int xi)] [(.int (2 : Int32)), (.int xi)])) t → Steps p.tables e below (s₁.setTop (entryFrame m #[(.ref ra), (.int xi)] 2)) t := by
      intro t k
      refine pre1 t ?_
      refine XS.icmpYes X0.here hx rfl (pc0 := 2) (pc' := 14) rfl (hb hby d10_2) rfl (flt hc2).2.1 (by decide) (by decide) ?_
      show Steps p.tables e below (s₁.setTop (mkF m 14 #[.val (.ref ra), .val (.int xi)] [])) _
      refine XS.iloadN X0.here hx rfl (hb hby d10_14) rfl ?_
      show Steps p.tables e below (s₁.setTop (mkF m 15 #[.val (.ref ra), .val (.int xi)] [(.int xi)])) _
      refine XS.iconst X0.here hx rfl (hb hby d10_15) ?_
      show Steps p.tables e below (s₁.setTop (mkF m 16 #[.val (.ref ra), .val (.int xi)] [(.int (2 : Int32)), (.int xi)])) _
      exact k
    by_cases hc16 : xi < (2 : Int32)
    · have pre83 : ∀ t, Steps p.tables e below (s₁.setTop (mkF m 23 #[.val (.ref ra), .val (.int xi)] [(.int xi), (.int (own_at xs (2 : Int32)))])) t → Steps p.tables e below (s₁.setTop (entryFrame m #[(.ref ra), (.int xi)] 2)) t := by
        intro t k
        refine pre81 t ?_
        refine XS.icmpNo X0.here hx rfl (hb hby d10_16) rfl (tlt hc16).2.1 ?_
        show Steps p.tables e below (s₁.setTop (mkF m 19 #[.val (.ref ra), .val (.int xi)] [])) _
        refine XS.aloadN X0.here hx rfl (hb hby d10_19) rfl rfl ?_
        show Steps p.tables e below (s₁.setTop (mkF m 20 #[.val (.ref ra), .val (.int xi)] [(.ref ra)])) _
        refine XS.iconst X0.here hx rfl (hb hby d10_20) ?_
        show Steps p.tables e below (s₁.setTop (mkF m 21 #[.val (.ref ra), .val (.int xi)] [(.int (2 : Int32)), (.ref ra)])) _
        obtain ⟨c82, a82, q82, s82, m82, i82, u82⟩ := id V1
        have hin82 := inb_of (j := (2 : Int32)) s82 (by decide)
        refine X0.iaload hx (j := (2 : Int32)) (v := (.int (own_at xs (2 : Int32)))) (by rw [e0]; exact a82.1) (State.isArrayOf_alike hZ.alike a82.2.1) a82.2.2 hin82 (i82.at hin82 (own_getD xs _)) (g := (mkF m 21 #[.val (.ref ra), .val (.int xi)] [(.int (2 : Int32)), (.ref ra)])) rfl rfl (hb hby d10_21) _ ?_
        show Steps p.tables e below (s₁.setTop (mkF m 22 #[.val (.ref ra), .val (.int xi)] [(.int (own_at xs (2 : Int32)))])) _
        refine XS.iloadN X0.here hx rfl (hb hby d10_22) rfl ?_
        show Steps p.tables e below (s₁.setTop (mkF m 23 #[.val (.ref ra), .val (.int xi)] [(.int xi), (.int (own_at xs (2 : Int32)))])) _
        exact k
      by_cases hc23 : (own_at xs (2 : Int32)) < xi
      · have pre84 : ∀ t, Steps p.tables e below (s₁.setTop (mkF m 27 #[.val (.ref ra), .val (.int xi)] [(.int (2 : Int32))])) t → Steps p.tables e below (s₁.setTop (entryFrame m #[(.ref ra), (.int xi)] 2)) t := by
          intro t k
          refine pre83 t ?_
          refine XS.icmpNo X0.here hx rfl (hb hby d10_23) rfl (tlt hc23).2.1 ?_
          show Steps p.tables e below (s₁.setTop (mkF m 26 #[.val (.ref ra), .val (.int xi)] [])) _
          refine XS.iconst X0.here hx rfl (hb hby d10_26) ?_
          show Steps p.tables e below (s₁.setTop (mkF m 27 #[.val (.ref ra), .val (.int xi)] [(.int (2 : Int32))])) _
          exact k
        obtain ⟨fs, hr, hrun, hended, hW, hsame⟩ := X0.leave (v := some (.int (2 : Int32))) (fun h => by rw [Bd.returns] at h; cases h)
        refine ⟨_, _, pre84 _ ?_, hrun, hended, _, _, rfl, ?_, ⟨_, rfl⟩, hW, hsame.mono (by decide) (by decide)⟩
        · exact retI X0 hx Bd.returns (hb hby d10_27) hr
        · show Q_rm_after Z ra xi ki xs h0 n0 _ s₁.heap _
          rw [e0]
          exact ⟨congrArg (fun z => some (Value.int z)) (show (2 : Int32) = (F_rm_after xi xs) from by rw [F_rm_after, if_neg hc2, if_pos hc16, if_pos hc23]), N0, rfl⟩
      · have pre85 : ∀ t, Steps p.tables e below (s₁.setTop (mkF m 30 #[.val (.ref ra), .val (.int xi)] [(.int (3 : Int32)), (.int xi)])) t → Steps p.tables e below (s₁.setTop (entryFrame m #[(.ref ra), (.int xi)] 2)) t := by
          intro t k
          refine pre83 t ?_
          refine XS.icmpYes X0.here hx rfl (pc0 := 23) (pc' := 28) rfl (hb hby d10_23) rfl (flt hc23).2.1 (by decide) (by decide) ?_
          show Steps p.tables e below (s₁.setTop (mkF m 28 #[.val (.ref ra), .val (.int xi)] [])) _
          refine XS.iloadN X0.here hx rfl (hb hby d10_28) rfl ?_
          show Steps p.tables e below (s₁.setTop (mkF m 29 #[.val (.ref ra), .val (.int xi)] [(.int xi)])) _
          refine XS.iconst X0.here hx rfl (hb hby d10_29) ?_
          show Steps p.tables e below (s₁.setTop (mkF m 30 #[.val (.ref ra), .val (.int xi)] [(.int (3 : Int32)), (.int xi)])) _
          exact k
        by_cases hc30 : xi < (3 : Int32)
        · have pre87 : ∀ t, Steps p.tables e below (s₁.setTop (mkF m 37 #[.val (.ref ra), .val (.int xi)] [(.int xi), (.int (own_at xs (3 : Int32)))])) t → Steps p.tables e below (s₁.setTop (entryFrame m #[(.ref ra), (.int xi)] 2)) t := by
            intro t k
            refine pre85 t ?_
            refine XS.icmpNo X0.here hx rfl (hb hby d10_30) rfl (tlt hc30).2.1 ?_
            show Steps p.tables e below (s₁.setTop (mkF m 33 #[.val (.ref ra), .val (.int xi)] [])) _
            refine XS.aloadN X0.here hx rfl (hb hby d10_33) rfl rfl ?_
            show Steps p.tables e below (s₁.setTop (mkF m 34 #[.val (.ref ra), .val (.int xi)] [(.ref ra)])) _
            refine XS.iconst X0.here hx rfl (hb hby d10_34) ?_
            show Steps p.tables e below (s₁.setTop (mkF m 35 #[.val (.ref ra), .val (.int xi)] [(.int (3 : Int32)), (.ref ra)])) _
            obtain ⟨c86, a86, q86, s86, m86, i86, u86⟩ := id V1
            have hin86 := inb_of (j := (3 : Int32)) s86 (by decide)
            refine X0.iaload hx (j := (3 : Int32)) (v := (.int (own_at xs (3 : Int32)))) (by rw [e0]; exact a86.1) (State.isArrayOf_alike hZ.alike a86.2.1) a86.2.2 hin86 (i86.at hin86 (own_getD xs _)) (g := (mkF m 35 #[.val (.ref ra), .val (.int xi)] [(.int (3 : Int32)), (.ref ra)])) rfl rfl (hb hby d10_35) _ ?_
            show Steps p.tables e below (s₁.setTop (mkF m 36 #[.val (.ref ra), .val (.int xi)] [(.int (own_at xs (3 : Int32)))])) _
            refine XS.iloadN X0.here hx rfl (hb hby d10_36) rfl ?_
            show Steps p.tables e below (s₁.setTop (mkF m 37 #[.val (.ref ra), .val (.int xi)] [(.int xi), (.int (own_at xs (3 : Int32)))])) _
            exact k
          by_cases hc37 : (own_at xs (3 : Int32)) < xi
          · have pre88 : ∀ t, Steps p.tables e below (s₁.setTop (mkF m 41 #[.val (.ref ra), .val (.int xi)] [(.int (3 : Int32))])) t → Steps p.tables e below (s₁.setTop (entryFrame m #[(.ref ra), (.int xi)] 2)) t := by
              intro t k
              refine pre87 t ?_
              refine XS.icmpNo X0.here hx rfl (hb hby d10_37) rfl (tlt hc37).2.1 ?_
              show Steps p.tables e below (s₁.setTop (mkF m 40 #[.val (.ref ra), .val (.int xi)] [])) _
              refine XS.iconst X0.here hx rfl (hb hby d10_40) ?_
              show Steps p.tables e below (s₁.setTop (mkF m 41 #[.val (.ref ra), .val (.int xi)] [(.int (3 : Int32))])) _
              exact k
            obtain ⟨fs, hr, hrun, hended, hW, hsame⟩ := X0.leave (v := some (.int (3 : Int32))) (fun h => by rw [Bd.returns] at h; cases h)
            refine ⟨_, _, pre88 _ ?_, hrun, hended, _, _, rfl, ?_, ⟨_, rfl⟩, hW, hsame.mono (by decide) (by decide)⟩
            · exact retI X0 hx Bd.returns (hb hby d10_41) hr
            · show Q_rm_after Z ra xi ki xs h0 n0 _ s₁.heap _
              rw [e0]
              exact ⟨congrArg (fun z => some (Value.int z)) (show (3 : Int32) = (F_rm_after xi xs) from by rw [F_rm_after, if_neg hc2, if_pos hc16, if_neg hc23, if_pos hc30, if_pos hc37]), N0, rfl⟩
          · have pre89 : ∀ t, Steps p.tables e below (s₁.setTop (mkF m 44 #[.val (.ref ra), .val (.int xi)] [(.int (4 : Int32)), (.int xi)])) t → Steps p.tables e below (s₁.setTop (entryFrame m #[(.ref ra), (.int xi)] 2)) t := by
              intro t k
              refine pre87 t ?_
              refine XS.icmpYes X0.here hx rfl (pc0 := 37) (pc' := 42) rfl (hb hby d10_37) rfl (flt hc37).2.1 (by decide) (by decide) ?_
              show Steps p.tables e below (s₁.setTop (mkF m 42 #[.val (.ref ra), .val (.int xi)] [])) _
              refine XS.iloadN X0.here hx rfl (hb hby d10_42) rfl ?_
              show Steps p.tables e below (s₁.setTop (mkF m 43 #[.val (.ref ra), .val (.int xi)] [(.int xi)])) _
              refine XS.iconst X0.here hx rfl (hb hby d10_43) ?_
              show Steps p.tables e below (s₁.setTop (mkF m 44 #[.val (.ref ra), .val (.int xi)] [(.int (4 : Int32)), (.int xi)])) _
              exact k
            by_cases hc44 : xi < (4 : Int32)
            · have pre91 : ∀ t, Steps p.tables e below (s₁.setTop (mkF m 51 #[.val (.ref ra), .val (.int xi)] [(.int xi), (.int (own_at xs (4 : Int32)))])) t → Steps p.tables e below (s₁.setTop (entryFrame m #[(.ref ra), (.int xi)] 2)) t := by
                intro t k
                refine pre89 t ?_
                refine XS.icmpNo X0.here hx rfl (hb hby d10_44) rfl (tlt hc44).2.1 ?_
                show Steps p.tables e below (s₁.setTop (mkF m 47 #[.val (.ref ra), .val (.int xi)] [])) _
                refine XS.aloadN X0.here hx rfl (hb hby d10_47) rfl rfl ?_
                show Steps p.tables e below (s₁.setTop (mkF m 48 #[.val (.ref ra), .val (.int xi)] [(.ref ra)])) _
                refine XS.iconst X0.here hx rfl (hb hby d10_48) ?_
                show Steps p.tables e below (s₁.setTop (mkF m 49 #[.val (.ref ra), .val (.int xi)] [(.int (4 : Int32)), (.ref ra)])) _
                obtain ⟨c90, a90, q90, s90, m90, i90, u90⟩ := id V1
                have hin90 := inb_of (j := (4 : Int32)) s90 (by decide)
                refine X0.iaload hx (j := (4 : Int32)) (v := (.int (own_at xs (4 : Int32)))) (by rw [e0]; exact a90.1) (State.isArrayOf_alike hZ.alike a90.2.1) a90.2.2 hin90 (i90.at hin90 (own_getD xs _)) (g := (mkF m 49 #[.val (.ref ra), .val (.int xi)] [(.int (4 : Int32)), (.ref ra)])) rfl rfl (hb hby d10_49) _ ?_
                show Steps p.tables e below (s₁.setTop (mkF m 50 #[.val (.ref ra), .val (.int xi)] [(.int (own_at xs (4 : Int32)))])) _
                refine XS.iloadN X0.here hx rfl (hb hby d10_50) rfl ?_
                show Steps p.tables e below (s₁.setTop (mkF m 51 #[.val (.ref ra), .val (.int xi)] [(.int xi), (.int (own_at xs (4 : Int32)))])) _
                exact k
              by_cases hc51 : (own_at xs (4 : Int32)) < xi
              · have pre92 : ∀ t, Steps p.tables e below (s₁.setTop (mkF m 55 #[.val (.ref ra), .val (.int xi)] [(.int (4 : Int32))])) t → Steps p.tables e below (s₁.setTop (entryFrame m #[(.ref ra), (.int xi)] 2)) t := by
                  intro t k
                  refine pre91 t ?_
                  refine XS.icmpNo X0.here hx rfl (hb hby d10_51) rfl (tlt hc51).2.1 ?_
                  show Steps p.tables e below (s₁.setTop (mkF m 54 #[.val (.ref ra), .val (.int xi)] [])) _
                  refine XS.iconst X0.here hx rfl (hb hby d10_54) ?_
                  show Steps p.tables e below (s₁.setTop (mkF m 55 #[.val (.ref ra), .val (.int xi)] [(.int (4 : Int32))])) _
                  exact k
                obtain ⟨fs, hr, hrun, hended, hW, hsame⟩ := X0.leave (v := some (.int (4 : Int32))) (fun h => by rw [Bd.returns] at h; cases h)
                refine ⟨_, _, pre92 _ ?_, hrun, hended, _, _, rfl, ?_, ⟨_, rfl⟩, hW, hsame.mono (by decide) (by decide)⟩
                · exact retI X0 hx Bd.returns (hb hby d10_55) hr
                · show Q_rm_after Z ra xi ki xs h0 n0 _ s₁.heap _
                  rw [e0]
                  exact ⟨congrArg (fun z => some (Value.int z)) (show (4 : Int32) = (F_rm_after xi xs) from by rw [F_rm_after, if_neg hc2, if_pos hc16, if_neg hc23, if_pos hc30, if_neg hc37, if_pos hc44, if_pos hc51]), N0, rfl⟩
              · have pre93 : ∀ t, Steps p.tables e below (s₁.setTop (mkF m 58 #[.val (.ref ra), .val (.int xi)] [(.int (5 : Int32)), (.int xi)])) t → Steps p.tables e below (s₁.setTop (entryFrame m #[(.ref ra), (.int xi)] 2)) t := by
                  intro t k
                  refine pre91 t ?_
                  refine XS.icmpYes X0.here hx rfl (pc0 := 51) (pc' := 56) rfl (hb hby d10_51) rfl (flt hc51).2.1 (by decide) (by decide) ?_
                  show Steps p.tables e below (s₁.setTop (mkF m 56 #[.val (.ref ra), .val (.int xi)] [])) _
                  refine XS.iloadN X0.here hx rfl (hb hby d10_56) rfl ?_
                  show Steps p.tables e below (s₁.setTop (mkF m 57 #[.val (.ref ra), .val (.int xi)] [(.int xi)])) _
                  refine XS.iconst X0.here hx rfl (hb hby d10_57) ?_
                  show Steps p.tables e below (s₁.setTop (mkF m 58 #[.val (.ref ra), .val (.int xi)] [(.int (5 : Int32)), (.int xi)])) _
                  exact k
                by_cases hc58 : xi < (5 : Int32)
                · have pre95 : ∀ t, Steps p.tables e below (s₁.setTop (mkF m 65 #[.val (.ref ra), .val (.int xi)] [(.int xi), (.int (own_at xs (5 : Int32)))])) t → Steps p.tables e below (s₁.setTop (entryFrame m #[(.ref ra), (.int xi)] 2)) t := by
                    intro t k
                    refine pre93 t ?_
                    refine XS.icmpNo X0.here hx rfl (hb hby d10_58) rfl (tlt hc58).2.1 ?_
                    show Steps p.tables e below (s₁.setTop (mkF m 61 #[.val (.ref ra), .val (.int xi)] [])) _
                    refine XS.aloadN X0.here hx rfl (hb hby d10_61) rfl rfl ?_
                    show Steps p.tables e below (s₁.setTop (mkF m 62 #[.val (.ref ra), .val (.int xi)] [(.ref ra)])) _
                    refine XS.iconst X0.here hx rfl (hb hby d10_62) ?_
                    show Steps p.tables e below (s₁.setTop (mkF m 63 #[.val (.ref ra), .val (.int xi)] [(.int (5 : Int32)), (.ref ra)])) _
                    obtain ⟨c94, a94, q94, s94, m94, i94, u94⟩ := id V1
                    have hin94 := inb_of (j := (5 : Int32)) s94 (by decide)
                    refine X0.iaload hx (j := (5 : Int32)) (v := (.int (own_at xs (5 : Int32)))) (by rw [e0]; exact a94.1) (State.isArrayOf_alike hZ.alike a94.2.1) a94.2.2 hin94 (i94.at hin94 (own_getD xs _)) (g := (mkF m 63 #[.val (.ref ra), .val (.int xi)] [(.int (5 : Int32)), (.ref ra)])) rfl rfl (hb hby d10_63) _ ?_
                    show Steps p.tables e below (s₁.setTop (mkF m 64 #[.val (.ref ra), .val (.int xi)] [(.int (own_at xs (5 : Int32)))])) _
                    refine XS.iloadN X0.here hx rfl (hb hby d10_64) rfl ?_
                    show Steps p.tables e below (s₁.setTop (mkF m 65 #[.val (.ref ra), .val (.int xi)] [(.int xi), (.int (own_at xs (5 : Int32)))])) _
                    exact k
                  by_cases hc65 : (own_at xs (5 : Int32)) < xi
                  · have pre96 : ∀ t, Steps p.tables e below (s₁.setTop (mkF m 69 #[.val (.ref ra), .val (.int xi)] [(.int (5 : Int32))])) t → Steps p.tables e below (s₁.setTop (entryFrame m #[(.ref ra), (.int xi)] 2)) t := by
                      intro t k
                      refine pre95 t ?_
                      refine XS.icmpNo X0.here hx rfl (hb hby d10_65) rfl (tlt hc65).2.1 ?_
                      show Steps p.tables e below (s₁.setTop (mkF m 68 #[.val (.ref ra), .val (.int xi)] [])) _
                      refine XS.iconst X0.here hx rfl (hb hby d10_68) ?_
                      show Steps p.tables e below (s₁.setTop (mkF m 69 #[.val (.ref ra), .val (.int xi)] [(.int (5 : Int32))])) _
                      exact k
                    obtain ⟨fs, hr, hrun, hended, hW, hsame⟩ := X0.leave (v := some (.int (5 : Int32))) (fun h => by rw [Bd.returns] at h; cases h)
                    refine ⟨_, _, pre96 _ ?_, hrun, hended, _, _, rfl, ?_, ⟨_, rfl⟩, hW, hsame.mono (by decide) (by decide)⟩
                    · exact retI X0 hx Bd.returns (hb hby d10_69) hr
                    · show Q_rm_after Z ra xi ki xs h0 n0 _ s₁.heap _
                      rw [e0]
                      exact ⟨congrArg (fun z => some (Value.int z)) (show (5 : Int32) = (F_rm_after xi xs) from by rw [F_rm_after, if_neg hc2, if_pos hc16, if_neg hc23, if_pos hc30, if_neg hc37, if_pos hc44, if_neg hc51, if_pos hc58, if_pos hc65]), N0, rfl⟩
                  · have pre97 : ∀ t, Steps p.tables e below (s₁.setTop (mkF m 71 #[.val (.ref ra), .val (.int xi)] [(.int (-1 : Int32))])) t → Steps p.tables e below (s₁.setTop (entryFrame m #[(.ref ra), (.int xi)] 2)) t := by
                      intro t k
                      refine pre95 t ?_
                      refine XS.icmpYes X0.here hx rfl (pc0 := 65) (pc' := 70) rfl (hb hby d10_65) rfl (flt hc65).2.1 (by decide) (by decide) ?_
                      show Steps p.tables e below (s₁.setTop (mkF m 70 #[.val (.ref ra), .val (.int xi)] [])) _
                      refine XS.iconst X0.here hx rfl (hb hby d10_70) ?_
                      show Steps p.tables e below (s₁.setTop (mkF m 71 #[.val (.ref ra), .val (.int xi)] [(.int (-1 : Int32))])) _
                      exact k
                    obtain ⟨fs, hr, hrun, hended, hW, hsame⟩ := X0.leave (v := some (.int (-1 : Int32))) (fun h => by rw [Bd.returns] at h; cases h)
                    refine ⟨_, _, pre97 _ ?_, hrun, hended, _, _, rfl, ?_, ⟨_, rfl⟩, hW, hsame.mono (by decide) (by decide)⟩
                    · exact retI X0 hx Bd.returns (hb hby d10_71) hr
                    · show Q_rm_after Z ra xi ki xs h0 n0 _ s₁.heap _
                      rw [e0]
                      exact ⟨congrArg (fun z => some (Value.int z)) (show (-1 : Int32) = (F_rm_after xi xs) from by rw [F_rm_after, if_neg hc2, if_pos hc16, if_neg hc23, if_pos hc30, if_neg hc37, if_pos hc44, if_neg hc51, if_pos hc58, if_neg hc65]), N0, rfl⟩
                · have pre98 : ∀ t, Steps p.tables e below (s₁.setTop (mkF m 71 #[.val (.ref ra), .val (.int xi)] [(.int (-1 : Int32))])) t → Steps p.tables e below (s₁.setTop (entryFrame m #[(.ref ra), (.int xi)] 2)) t := by
                    intro t k
                    refine pre93 t ?_
                    refine XS.icmpYes X0.here hx rfl (pc0 := 58) (pc' := 70) rfl (hb hby d10_58) rfl (flt hc58).2.1 (by decide) (by decide) ?_
                    show Steps p.tables e below (s₁.setTop (mkF m 70 #[.val (.ref ra), .val (.int xi)] [])) _
                    refine XS.iconst X0.here hx rfl (hb hby d10_70) ?_
                    show Steps p.tables e below (s₁.setTop (mkF m 71 #[.val (.ref ra), .val (.int xi)] [(.int (-1 : Int32))])) _
                    exact k
                  obtain ⟨fs, hr, hrun, hended, hW, hsame⟩ := X0.leave (v := some (.int (-1 : Int32))) (fun h => by rw [Bd.returns] at h; cases h)
                  refine ⟨_, _, pre98 _ ?_, hrun, hended, _, _, rfl, ?_, ⟨_, rfl⟩, hW, hsame.mono (by decide) (by decide)⟩
                  · exact retI X0 hx Bd.returns (hb hby d10_71) hr
                  · show Q_rm_after Z ra xi ki xs h0 n0 _ s₁.heap _
                    rw [e0]
                    exact ⟨congrArg (fun z => some (Value.int z)) (show (-1 : Int32) = (F_rm_after xi xs) from by rw [F_rm_after, if_neg hc2, if_pos hc16, if_neg hc23, if_pos hc30, if_neg hc37, if_pos hc44, if_neg hc51, if_neg hc58]), N0, rfl⟩
            · have pre99 : ∀ t, Steps p.tables e below (s₁.setTop (mkF m 58 #[.val (.ref ra), .val (.int xi)] [(.int (5 : Int32)), (.int xi)])) t → Steps p.tables e below (s₁.setTop (entryFrame m #[(.ref ra), (.int xi)] 2)) t := by
                intro t k
                refine pre89 t ?_
                refine XS.icmpYes X0.here hx rfl (pc0 := 44) (pc' := 56) rfl (hb hby d10_44) rfl (flt hc44).2.1 (by decide) (by decide) ?_
                show Steps p.tables e below (s₁.setTop (mkF m 56 #[.val (.ref ra), .val (.int xi)] [])) _
                refine XS.iloadN X0.here hx rfl (hb hby d10_56) rfl ?_
                show Steps p.tables e below (s₁.setTop (mkF m 57 #[.val (.ref ra), .val (.int xi)] [(.int xi)])) _
                refine XS.iconst X0.here hx rfl (hb hby d10_57) ?_
                show Steps p.tables e below (s₁.setTop (mkF m 58 #[.val (.ref ra), .val (.int xi)] [(.int (5 : Int32)), (.int xi)])) _
                exact k
              by_cases hc58 : xi < (5 : Int32)
              · have pre101 : ∀ t, Steps p.tables e below (s₁.setTop (mkF m 65 #[.val (.ref ra), .val (.int xi)] [(.int xi), (.int (own_at xs (5 : Int32)))])) t → Steps p.tables e below (s₁.setTop (entryFrame m #[(.ref ra), (.int xi)] 2)) t := by
                  intro t k
                  refine pre99 t ?_
                  refine XS.icmpNo X0.here hx rfl (hb hby d10_58) rfl (tlt hc58).2.1 ?_
                  show Steps p.tables e below (s₁.setTop (mkF m 61 #[.val (.ref ra), .val (.int xi)] [])) _
                  refine XS.aloadN X0.here hx rfl (hb hby d10_61) rfl rfl ?_
                  show Steps p.tables e below (s₁.setTop (mkF m 62 #[.val (.ref ra), .val (.int xi)] [(.ref ra)])) _
                  refine XS.iconst X0.here hx rfl (hb hby d10_62) ?_
                  show Steps p.tables e below (s₁.setTop (mkF m 63 #[.val (.ref ra), .val (.int xi)] [(.int (5 : Int32)), (.ref ra)])) _
                  obtain ⟨c100, a100, q100, s100, m100, i100, u100⟩ := id V1
                  have hin100 := inb_of (j := (5 : Int32)) s100 (by decide)
                  refine X0.iaload hx (j := (5 : Int32)) (v := (.int (own_at xs (5 : Int32)))) (by rw [e0]; exact a100.1) (State.isArrayOf_alike hZ.alike a100.2.1) a100.2.2 hin100 (i100.at hin100 (own_getD xs _)) (g := (mkF m 63 #[.val (.ref ra), .val (.int xi)] [(.int (5 : Int32)), (.ref ra)])) rfl rfl (hb hby d10_63) _ ?_
                  show Steps p.tables e below (s₁.setTop (mkF m 64 #[.val (.ref ra), .val (.int xi)] [(.int (own_at xs (5 : Int32)))])) _
                  refine XS.iloadN X0.here hx rfl (hb hby d10_64) rfl ?_
                  show Steps p.tables e below (s₁.setTop (mkF m 65 #[.val (.ref ra), .val (.int xi)] [(.int xi), (.int (own_at xs (5 : Int32)))])) _
                  exact k
                by_cases hc65 : (own_at xs (5 : Int32)) < xi
                · have pre102 : ∀ t, Steps p.tables e below (s₁.setTop (mkF m 69 #[.val (.ref ra), .val (.int xi)] [(.int (5 : Int32))])) t → Steps p.tables e below (s₁.setTop (entryFrame m #[(.ref ra), (.int xi)] 2)) t := by
                    intro t k
                    refine pre101 t ?_
                    refine XS.icmpNo X0.here hx rfl (hb hby d10_65) rfl (tlt hc65).2.1 ?_
                    show Steps p.tables e below (s₁.setTop (mkF m 68 #[.val (.ref ra), .val (.int xi)] [])) _
                    refine XS.iconst X0.here hx rfl (hb hby d10_68) ?_
                    show Steps p.tables e below (s₁.setTop (mkF m 69 #[.val (.ref ra), .val (.int xi)] [(.int (5 : Int32))])) _
                    exact k
                  obtain ⟨fs, hr, hrun, hended, hW, hsame⟩ := X0.leave (v := some (.int (5 : Int32))) (fun h => by rw [Bd.returns] at h; cases h)
                  refine ⟨_, _, pre102 _ ?_, hrun, hended, _, _, rfl, ?_, ⟨_, rfl⟩, hW, hsame.mono (by decide) (by decide)⟩
                  · exact retI X0 hx Bd.returns (hb hby d10_69) hr
                  · show Q_rm_after Z ra xi ki xs h0 n0 _ s₁.heap _
                    rw [e0]
                    exact ⟨congrArg (fun z => some (Value.int z)) (show (5 : Int32) = (F_rm_after xi xs) from by rw [F_rm_after, if_neg hc2, if_pos hc16, if_neg hc23, if_pos hc30, if_neg hc37, if_neg hc44, if_pos hc58, if_pos hc65]), N0, rfl⟩
                · have pre103 : ∀ t, Steps p.tables e below (s₁.setTop (mkF m 71 #[.val (.ref ra), .val (.int xi)] [(.int (-1 : Int32))])) t → Steps p.tables e below (s₁.setTop (entryFrame m #[(.ref ra), (.int xi)] 2)) t := by
                    intro t k
                    refine pre101 t ?_
                    refine XS.icmpYes X0.here hx rfl (pc0 := 65) (pc' := 70) rfl (hb hby d10_65) rfl (flt hc65).2.1 (by decide) (by decide) ?_
                    show Steps p.tables e below (s₁.setTop (mkF m 70 #[.val (.ref ra), .val (.int xi)] [])) _
                    refine XS.iconst X0.here hx rfl (hb hby d10_70) ?_
                    show Steps p.tables e below (s₁.setTop (mkF m 71 #[.val (.ref ra), .val (.int xi)] [(.int (-1 : Int32))])) _
                    exact k
                  obtain ⟨fs, hr, hrun, hended, hW, hsame⟩ := X0.leave (v := some (.int (-1 : Int32))) (fun h => by rw [Bd.returns] at h; cases h)
                  refine ⟨_, _, pre103 _ ?_, hrun, hended, _, _, rfl, ?_, ⟨_, rfl⟩, hW, hsame.mono (by decide) (by decide)⟩
                  · exact retI X0 hx Bd.returns (hb hby d10_71) hr
                  · show Q_rm_after Z ra xi ki xs h0 n0 _ s₁.heap _
                    rw [e0]
                    exact ⟨congrArg (fun z => some (Value.int z)) (show (-1 : Int32) = (F_rm_after xi xs) from by rw [F_rm_after, if_neg hc2, if_pos hc16, if_neg hc23, if_pos hc30, if_neg hc37, if_neg hc44, if_pos hc58, if_neg hc65]), N0, rfl⟩
              · have pre104 : ∀ t, Steps p.tables e below (s₁.setTop (mkF m 71 #[.val (.ref ra), .val (.int xi)] [(.int (-1 : Int32))])) t → Steps p.tables e below (s₁.setTop (entryFrame m #[(.ref ra), (.int xi)] 2)) t := by
                  intro t k
                  refine pre99 t ?_
                  refine XS.icmpYes X0.here hx rfl (pc0 := 58) (pc' := 70) rfl (hb hby d10_58) rfl (flt hc58).2.1 (by decide) (by decide) ?_
                  show Steps p.tables e below (s₁.setTop (mkF m 70 #[.val (.ref ra), .val (.int xi)] [])) _
                  refine XS.iconst X0.here hx rfl (hb hby d10_70) ?_
                  show Steps p.tables e below (s₁.setTop (mkF m 71 #[.val (.ref ra), .val (.int xi)] [(.int (-1 : Int32))])) _
                  exact k
                obtain ⟨fs, hr, hrun, hended, hW, hsame⟩ := X0.leave (v := some (.int (-1 : Int32))) (fun h => by rw [Bd.returns] at h; cases h)
                refine ⟨_, _, pre104 _ ?_, hrun, hended, _, _, rfl, ?_, ⟨_, rfl⟩, hW, hsame.mono (by decide) (by decide)⟩
                · exact retI X0 hx Bd.returns (hb hby d10_71) hr
                · show Q_rm_after Z ra xi ki xs h0 n0 _ s₁.heap _
                  rw [e0]
                  exact ⟨congrArg (fun z => some (Value.int z)) (show (-1 : Int32) = (F_rm_after xi xs) from by rw [F_rm_after, if_neg hc2, if_pos hc16, if_neg hc23, if_pos hc30, if_neg hc37, if_neg hc44, if_neg hc58]), N0, rfl⟩
        · have pre105 : ∀ t, Steps p.tables e below (s₁.setTop (mkF m 44 #[.val (.ref ra), .val (.int xi)] [(.int (4 : Int32)), (.int xi)])) t → Steps p.tables e below (s₁.setTop (entryFrame m #[(.ref ra), (.int xi)] 2)) t := by
            intro t k
            refine pre85 t ?_
            refine XS.icmpYes X0.here hx rfl (pc0 := 30) (pc' := 42) rfl (hb hby d10_30) rfl (flt hc30).2.1 (by decide) (by decide) ?_
            show Steps p.tables e below (s₁.setTop (mkF m 42 #[.val (.ref ra), .val (.int xi)] [])) _
            refine XS.iloadN X0.here hx rfl (hb hby d10_42) rfl ?_
            show Steps p.tables e below (s₁.setTop (mkF m 43 #[.val (.ref ra), .val (.int xi)] [(.int xi)])) _
            refine XS.iconst X0.here hx rfl (hb hby d10_43) ?_
            show Steps p.tables e below (s₁.setTop (mkF m 44 #[.val (.ref ra), .val (.int xi)] [(.int (4 : Int32)), (.int xi)])) _
            exact k
          by_cases hc44 : xi < (4 : Int32)
          · have pre107 : ∀ t, Steps p.tables e below (s₁.setTop (mkF m 51 #[.val (.ref ra), .val (.int xi)] [(.int xi), (.int (own_at xs (4 : Int32)))])) t → Steps p.tables e below (s₁.setTop (entryFrame m #[(.ref ra), (.int xi)] 2)) t := by
              intro t k
              refine pre105 t ?_
              refine XS.icmpNo X0.here hx rfl (hb hby d10_44) rfl (tlt hc44).2.1 ?_
              show Steps p.tables e below (s₁.setTop (mkF m 47 #[.val (.ref ra), .val (.int xi)] [])) _
              refine XS.aloadN X0.here hx rfl (hb hby d10_47) rfl rfl ?_
              show Steps p.tables e below (s₁.setTop (mkF m 48 #[.val (.ref ra), .val (.int xi)] [(.ref ra)])) _
              refine XS.iconst X0.here hx rfl (hb hby d10_48) ?_
              show Steps p.tables e below (s₁.setTop (mkF m 49 #[.val (.ref ra), .val (.int xi)] [(.int (4 : Int32)), (.ref ra)])) _
              obtain ⟨c106, a106, q106, s106, m106, i106, u106⟩ := id V1
              have hin106 := inb_of (j := (4 : Int32)) s106 (by decide)
              refine X0.iaload hx (j := (4 : Int32)) (v := (.int (own_at xs (4 : Int32)))) (by rw [e0]; exact a106.1) (State.isArrayOf_alike hZ.alike a106.2.1) a106.2.2 hin106 (i106.at hin106 (own_getD xs _)) (g := (mkF m 49 #[.val (.ref ra), .val (.int xi)] [(.int (4 : Int32)), (.ref ra)])) rfl rfl (hb hby d10_49) _ ?_
              show Steps p.tables e below (s₁.setTop (mkF m 50 #[.val (.ref ra), .val (.int xi)] [(.int (own_at xs (4 : Int32)))])) _
              refine XS.iloadN X0.here hx rfl (hb hby d10_50) rfl ?_
              show Steps p.tables e below (s₁.setTop (mkF m 51 #[.val (.ref ra), .val (.int xi)] [(.int xi), (.int (own_at xs (4 : Int32)))])) _
              exact k
            by_cases hc51 : (own_at xs (4 : Int32)) < xi
            · have pre108 : ∀ t, Steps p.tables e below (s₁.setTop (mkF m 55 #[.val (.ref ra), .val (.int xi)] [(.int (4 : Int32))])) t → Steps p.tables e below (s₁.setTop (entryFrame m #[(.ref ra), (.int xi)] 2)) t := by
                intro t k
                refine pre107 t ?_
                refine XS.icmpNo X0.here hx rfl (hb hby d10_51) rfl (tlt hc51).2.1 ?_
                show Steps p.tables e below (s₁.setTop (mkF m 54 #[.val (.ref ra), .val (.int xi)] [])) _
                refine XS.iconst X0.here hx rfl (hb hby d10_54) ?_
                show Steps p.tables e below (s₁.setTop (mkF m 55 #[.val (.ref ra), .val (.int xi)] [(.int (4 : Int32))])) _
                exact k
              obtain ⟨fs, hr, hrun, hended, hW, hsame⟩ := X0.leave (v := some (.int (4 : Int32))) (fun h => by rw [Bd.returns] at h; cases h)
              refine ⟨_, _, pre108 _ ?_, hrun, hended, _, _, rfl, ?_, ⟨_, rfl⟩, hW, hsame.mono (by decide) (by decide)⟩
              · exact retI X0 hx Bd.returns (hb hby d10_55) hr
              · show Q_rm_after Z ra xi ki xs h0 n0 _ s₁.heap _
                rw [e0]
                exact ⟨congrArg (fun z => some (Value.int z)) (show (4 : Int32) = (F_rm_after xi xs) from by rw [F_rm_after, if_neg hc2, if_pos hc16, if_neg hc23, if_neg hc30, if_pos hc44, if_pos hc51]), N0, rfl⟩
            · have pre109 : ∀ t, Steps p.tables e below (s₁.setTop (mkF m 58 #[.val (.ref ra), .val (.int xi)] [(.int (5 : Int32)), (.int xi)])) t → Steps p.tables e below (s₁.setTop (entryFrame m #[(.ref ra), (.int xi)] 2)) t := by
                intro t k
                refine pre107 t ?_
                refine XS.icmpYes X0.here hx rfl (pc0 := 51) (pc' := 56) rfl (hb hby d10_51) rfl (flt hc51).2.1 (by decide) (by decide) ?_
                show Steps p.tables e below (s₁.setTop (mkF m 56 #[.val (.ref ra), .val (.int xi)] [])) _
                refine XS.iloadN X0.here hx rfl (hb hby d10_56) rfl ?_
                show Steps p.tables e below (s₁.setTop (mkF m 57 #[.val (.ref ra), .val (.int xi)] [(.int xi)])) _
                refine XS.iconst X0.here hx rfl (hb hby d10_57) ?_
                show Steps p.tables e below (s₁.setTop (mkF m 58 #[.val (.ref ra), .val (.int xi)] [(.int (5 : Int32)), (.int xi)])) _
                exact k
              by_cases hc58 : xi < (5 : Int32)
              · have pre111 : ∀ t, Steps p.tables e below (s₁.setTop (mkF m 65 #[.val (.ref ra), .val (.int xi)] [(.int xi), (.int (own_at xs (5 : Int32)))])) t → Steps p.tables e below (s₁.setTop (entryFrame m #[(.ref ra), (.int xi)] 2)) t := by
                  intro t k
                  refine pre109 t ?_
                  refine XS.icmpNo X0.here hx rfl (hb hby d10_58) rfl (tlt hc58).2.1 ?_
                  show Steps p.tables e below (s₁.setTop (mkF m 61 #[.val (.ref ra), .val (.int xi)] [])) _
                  refine XS.aloadN X0.here hx rfl (hb hby d10_61) rfl rfl ?_
                  show Steps p.tables e below (s₁.setTop (mkF m 62 #[.val (.ref ra), .val (.int xi)] [(.ref ra)])) _
                  refine XS.iconst X0.here hx rfl (hb hby d10_62) ?_
                  show Steps p.tables e below (s₁.setTop (mkF m 63 #[.val (.ref ra), .val (.int xi)] [(.int (5 : Int32)), (.ref ra)])) _
                  obtain ⟨c110, a110, q110, s110, m110, i110, u110⟩ := id V1
                  have hin110 := inb_of (j := (5 : Int32)) s110 (by decide)
                  refine X0.iaload hx (j := (5 : Int32)) (v := (.int (own_at xs (5 : Int32)))) (by rw [e0]; exact a110.1) (State.isArrayOf_alike hZ.alike a110.2.1) a110.2.2 hin110 (i110.at hin110 (own_getD xs _)) (g := (mkF m 63 #[.val (.ref ra), .val (.int xi)] [(.int (5 : Int32)), (.ref ra)])) rfl rfl (hb hby d10_63) _ ?_
                  show Steps p.tables e below (s₁.setTop (mkF m 64 #[.val (.ref ra), .val (.int xi)] [(.int (own_at xs (5 : Int32)))])) _
                  refine XS.iloadN X0.here hx rfl (hb hby d10_64) rfl ?_
                  show Steps p.tables e below (s₁.setTop (mkF m 65 #[.val (.ref ra), .val (.int xi)] [(.int xi), (.int (own_at xs (5 : Int32)))])) _
                  exact k
                by_cases hc65 : (own_at xs (5 : Int32)) < xi
                · have pre112 : ∀ t, Steps p.tables e below (s₁.setTop (mkF m 69 #[.val (.ref ra), .val (.int xi)] [(.int (5 : Int32))])) t → Steps p.tables e below (s₁.setTop (entryFrame m #[(.ref ra), (.int xi)] 2)) t := by
                    intro t k
                    refine pre111 t ?_
                    refine XS.icmpNo X0.here hx rfl (hb hby d10_65) rfl (tlt hc65).2.1 ?_
                    show Steps p.tables e below (s₁.setTop (mkF m 68 #[.val (.ref ra), .val (.int xi)] [])) _
                    refine XS.iconst X0.here hx rfl (hb hby d10_68) ?_
                    show Steps p.tables e below (s₁.setTop (mkF m 69 #[.val (.ref ra), .val (.int xi)] [(.int (5 : Int32))])) _
                    exact k
                  obtain ⟨fs, hr, hrun, hended, hW, hsame⟩ := X0.leave (v := some (.int (5 : Int32))) (fun h => by rw [Bd.returns] at h; cases h)
                  refine ⟨_, _, pre112 _ ?_, hrun, hended, _, _, rfl, ?_, ⟨_, rfl⟩, hW, hsame.mono (by decide) (by decide)⟩
                  · exact retI X0 hx Bd.returns (hb hby d10_69) hr
                  · show Q_rm_after Z ra xi ki xs h0 n0 _ s₁.heap _
                    rw [e0]
                    exact ⟨congrArg (fun z => some (Value.int z)) (show (5 : Int32) = (F_rm_after xi xs) from by rw [F_rm_after, if_neg hc2, if_pos hc16, if_neg hc23, if_neg hc30, if_pos hc44, if_neg hc51, if_pos hc58, if_pos hc65]), N0, rfl⟩
                · have pre113 : ∀ t, Steps p.tables e below (s₁.setTop (mkF m 71 #[.val (.ref ra), .val (.int xi)] [(.int (-1 : Int32))])) t → Steps p.tables e below (s₁.setTop (entryFrame m #[(.ref ra), (.int xi)] 2)) t := by
                    intro t k
                    refine pre111 t ?_
                    refine XS.icmpYes X0.here hx rfl (pc0 := 65) (pc' := 70) rfl (hb hby d10_65) rfl (flt hc65).2.1 (by decide) (by decide) ?_
                    show Steps p.tables e below (s₁.setTop (mkF m 70 #[.val (.ref ra), .val (.int xi)] [])) _
                    refine XS.iconst X0.here hx rfl (hb hby d10_70) ?_
                    show Steps p.tables e below (s₁.setTop (mkF m 71 #[.val (.ref ra), .val (.int xi)] [(.int (-1 : Int32))])) _
                    exact k
                  obtain ⟨fs, hr, hrun, hended, hW, hsame⟩ := X0.leave (v := some (.int (-1 : Int32))) (fun h => by rw [Bd.returns] at h; cases h)
                  refine ⟨_, _, pre113 _ ?_, hrun, hended, _, _, rfl, ?_, ⟨_, rfl⟩, hW, hsame.mono (by decide) (by decide)⟩
                  · exact retI X0 hx Bd.returns (hb hby d10_71) hr
                  · show Q_rm_after Z ra xi ki xs h0 n0 _ s₁.heap _
                    rw [e0]
                    exact ⟨congrArg (fun z => some (Value.int z)) (show (-1 : Int32) = (F_rm_after xi xs) from by rw [F_rm_after, if_neg hc2, if_pos hc16, if_neg hc23, if_neg hc30, if_pos hc44, if_neg hc51, if_pos hc58, if_neg hc65]), N0, rfl⟩
              · have pre114 : ∀ t, Steps p.tables e below (s₁.setTop (mkF m 71 #[.val (.ref ra), .val (.int xi)] [(.int (-1 : Int32))])) t → Steps p.tables e below (s₁.setTop (entryFrame m #[(.ref ra), (.int xi)] 2)) t := by
                  intro t k
                  refine pre109 t ?_
                  refine XS.icmpYes X0.here hx rfl (pc0 := 58) (pc' := 70) rfl (hb hby d10_58) rfl (flt hc58).2.1 (by decide) (by decide) ?_
                  show Steps p.tables e below (s₁.setTop (mkF m 70 #[.val (.ref ra), .val (.int xi)] [])) _
                  refine XS.iconst X0.here hx rfl (hb hby d10_70) ?_
                  show Steps p.tables e below (s₁.setTop (mkF m 71 #[.val (.ref ra), .val (.int xi)] [(.int (-1 : Int32))])) _
                  exact k
                obtain ⟨fs, hr, hrun, hended, hW, hsame⟩ := X0.leave (v := some (.int (-1 : Int32))) (fun h => by rw [Bd.returns] at h; cases h)
                refine ⟨_, _, pre114 _ ?_, hrun, hended, _, _, rfl, ?_, ⟨_, rfl⟩, hW, hsame.mono (by decide) (by decide)⟩
                · exact retI X0 hx Bd.returns (hb hby d10_71) hr
                · show Q_rm_after Z ra xi ki xs h0 n0 _ s₁.heap _
                  rw [e0]
                  exact ⟨congrArg (fun z => some (Value.int z)) (show (-1 : Int32) = (F_rm_after xi xs) from by rw [F_rm_after, if_neg hc2, if_pos hc16, if_neg hc23, if_neg hc30, if_pos hc44, if_neg hc51, if_neg hc58]), N0, rfl⟩
          · have pre115 : ∀ t, Steps p.tables e below (s₁.setTop (mkF m 58 #[.val (.ref ra), .val (.int xi)] [(.int (5 : Int32)), (.int xi)])) t → Steps p.tables e below (s₁.setTop (entryFrame m #[(.ref ra), (.int xi)] 2)) t := by
              intro t k
              refine pre105 t ?_
              refine XS.icmpYes X0.here hx rfl (pc0 := 44) (pc' := 56) rfl (hb hby d10_44) rfl (flt hc44).2.1 (by decide) (by decide) ?_
              show Steps p.tables e below (s₁.setTop (mkF m 56 #[.val (.ref ra), .val (.int xi)] [])) _
              refine XS.iloadN X0.here hx rfl (hb hby d10_56) rfl ?_
              show Steps p.tables e below (s₁.setTop (mkF m 57 #[.val (.ref ra), .val (.int xi)] [(.int xi)])) _
              refine XS.iconst X0.here hx rfl (hb hby d10_57) ?_
              show Steps p.tables e below (s₁.setTop (mkF m 58 #[.val (.ref ra), .val (.int xi)] [(.int (5 : Int32)), (.int xi)])) _
              exact k
            by_cases hc58 : xi < (5 : Int32)
            · have pre117 : ∀ t, Steps p.tables e below (s₁.setTop (mkF m 65 #[.val (.ref ra), .val (.int xi)] [(.int xi), (.int (own_at xs (5 : Int32)))])) t → Steps p.tables e below (s₁.setTop (entryFrame m #[(.ref ra), (.int xi)] 2)) t := by
                intro t k
                refine pre115 t ?_
                refine XS.icmpNo X0.here hx rfl (hb hby d10_58) rfl (tlt hc58).2.1 ?_
                show Steps p.tables e below (s₁.setTop (mkF m 61 #[.val (.ref ra), .val (.int xi)] [])) _
                refine XS.aloadN X0.here hx rfl (hb hby d10_61) rfl rfl ?_
                show Steps p.tables e below (s₁.setTop (mkF m 62 #[.val (.ref ra), .val (.int xi)] [(.ref ra)])) _
                refine XS.iconst X0.here hx rfl (hb hby d10_62) ?_
                show Steps p.tables e below (s₁.setTop (mkF m 63 #[.val (.ref ra), .val (.int xi)] [(.int (5 : Int32)), (.ref ra)])) _
                obtain ⟨c116, a116, q116, s116, m116, i116, u116⟩ := id V1
                have hin116 := inb_of (j := (5 : Int32)) s116 (by decide)
                refine X0.iaload hx (j := (5 : Int32)) (v := (.int (own_at xs (5 : Int32)))) (by rw [e0]; exact a116.1) (State.isArrayOf_alike hZ.alike a116.2.1) a116.2.2 hin116 (i116.at hin116 (own_getD xs _)) (g := (mkF m 63 #[.val (.ref ra), .val (.int xi)] [(.int (5 : Int32)), (.ref ra)])) rfl rfl (hb hby d10_63) _ ?_
                show Steps p.tables e below (s₁.setTop (mkF m 64 #[.val (.ref ra), .val (.int xi)] [(.int (own_at xs (5 : Int32)))])) _
                refine XS.iloadN X0.here hx rfl (hb hby d10_64) rfl ?_
                show Steps p.tables e below (s₁.setTop (mkF m 65 #[.val (.ref ra), .val (.int xi)] [(.int xi), (.int (own_at xs (5 : Int32)))])) _
                exact k
              by_cases hc65 : (own_at xs (5 : Int32)) < xi
              · have pre118 : ∀ t, Steps p.tables e below (s₁.setTop (mkF m 69 #[.val (.ref ra), .val (.int xi)] [(.int (5 : Int32))])) t → Steps p.tables e below (s₁.setTop (entryFrame m #[(.ref ra), (.int xi)] 2)) t := by
                  intro t k
                  refine pre117 t ?_
                  refine XS.icmpNo X0.here hx rfl (hb hby d10_65) rfl (tlt hc65).2.1 ?_
                  show Steps p.tables e below (s₁.setTop (mkF m 68 #[.val (.ref ra), .val (.int xi)] [])) _
                  refine XS.iconst X0.here hx rfl (hb hby d10_68) ?_
                  show Steps p.tables e below (s₁.setTop (mkF m 69 #[.val (.ref ra), .val (.int xi)] [(.int (5 : Int32))])) _
                  exact k
                obtain ⟨fs, hr, hrun, hended, hW, hsame⟩ := X0.leave (v := some (.int (5 : Int32))) (fun h => by rw [Bd.returns] at h; cases h)
                refine ⟨_, _, pre118 _ ?_, hrun, hended, _, _, rfl, ?_, ⟨_, rfl⟩, hW, hsame.mono (by decide) (by decide)⟩
                · exact retI X0 hx Bd.returns (hb hby d10_69) hr
                · show Q_rm_after Z ra xi ki xs h0 n0 _ s₁.heap _
                  rw [e0]
                  exact ⟨congrArg (fun z => some (Value.int z)) (show (5 : Int32) = (F_rm_after xi xs) from by rw [F_rm_after, if_neg hc2, if_pos hc16, if_neg hc23, if_neg hc30, if_neg hc44, if_pos hc58, if_pos hc65]), N0, rfl⟩
              · have pre119 : ∀ t, Steps p.tables e below (s₁.setTop (mkF m 71 #[.val (.ref ra), .val (.int xi)] [(.int (-1 : Int32))])) t → Steps p.tables e below (s₁.setTop (entryFrame m #[(.ref ra), (.int xi)] 2)) t := by
                  intro t k
                  refine pre117 t ?_
                  refine XS.icmpYes X0.here hx rfl (pc0 := 65) (pc' := 70) rfl (hb hby d10_65) rfl (flt hc65).2.1 (by decide) (by decide) ?_
                  show Steps p.tables e below (s₁.setTop (mkF m 70 #[.val (.ref ra), .val (.int xi)] [])) _
                  refine XS.iconst X0.here hx rfl (hb hby d10_70) ?_
                  show Steps p.tables e below (s₁.setTop (mkF m 71 #[.val (.ref ra), .val (.int xi)] [(.int (-1 : Int32))])) _
                  exact k
                obtain ⟨fs, hr, hrun, hended, hW, hsame⟩ := X0.leave (v := some (.int (-1 : Int32))) (fun h => by rw [Bd.returns] at h; cases h)
                refine ⟨_, _, pre119 _ ?_, hrun, hended, _, _, rfl, ?_, ⟨_, rfl⟩, hW, hsame.mono (by decide) (by decide)⟩
                · exact retI X0 hx Bd.returns (hb hby d10_71) hr
                · show Q_rm_after Z ra xi ki xs h0 n0 _ s₁.heap _
                  rw [e0]
                  exact ⟨congrArg (fun z => some (Value.int z)) (show (-1 : Int32) = (F_rm_after xi xs) from by rw [F_rm_after, if_neg hc2, if_pos hc16, if_neg hc23, if_neg hc30, if_neg hc44, if_pos hc58, if_neg hc65]), N0, rfl⟩
            · have pre120 : ∀ t, Steps p.tables e below (s₁.setTop (mkF m 71 #[.val (.ref ra), .val (.int xi)] [(.int (-1 : Int32))])) t → Steps p.tables e below (s₁.setTop (entryFrame m #[(.ref ra), (.int xi)] 2)) t := by
                intro t k
                refine pre115 t ?_
                refine XS.icmpYes X0.here hx rfl (pc0 := 58) (pc' := 70) rfl (hb hby d10_58) rfl (flt hc58).2.1 (by decide) (by decide) ?_
                show Steps p.tables e below (s₁.setTop (mkF m 70 #[.val (.ref ra), .val (.int xi)] [])) _
                refine XS.iconst X0.here hx rfl (hb hby d10_70) ?_
                show Steps p.tables e below (s₁.setTop (mkF m 71 #[.val (.ref ra), .val (.int xi)] [(.int (-1 : Int32))])) _
                exact k
              obtain ⟨fs, hr, hrun, hended, hW, hsame⟩ := X0.leave (v := some (.int (-1 : Int32))) (fun h => by rw [Bd.returns] at h; cases h)
              refine ⟨_, _, pre120 _ ?_, hrun, hended, _, _, rfl, ?_, ⟨_, rfl⟩, hW, hsame.mono (by decide) (by decide)⟩
              · exact retI X0 hx Bd.returns (hb hby d10_71) hr
              · show Q_rm_after Z ra xi ki xs h0 n0 _ s₁.heap _
                rw [e0]
                exact ⟨congrArg (fun z => some (Value.int z)) (show (-1 : Int32) = (F_rm_after xi xs) from by rw [F_rm_after, if_neg hc2, if_pos hc16, if_neg hc23, if_neg hc30, if_neg hc44, if_neg hc58]), N0, rfl⟩
    · have pre121 : ∀ t, Steps p.tables e below (s₁.setTop (mkF m 30 #[.val (.ref ra), .val (.int xi)] [(.int (3 : Int32)), (.int xi)])) t → Steps p.tables e below (s₁.setTop (entryFrame m #[(.ref ra), (.int xi)] 2)) t := by
        intro t k
        refine pre81 t ?_
        refine XS.icmpYes X0.here hx rfl (pc0 := 16) (pc' := 28) rfl (hb hby d10_16) rfl (flt hc16).2.1 (by decide) (by decide) ?_
        show Steps p.tables e below (s₁.setTop (mkF m 28 #[.val (.ref ra), .val (.int xi)] [])) _
        refine XS.iloadN X0.here hx rfl (hb hby d10_28) rfl ?_
        show Steps p.tables e below (s₁.setTop (mkF m 29 #[.val (.ref ra), .val (.int xi)] [(.int xi)])) _
        refine XS.iconst X0.here hx rfl (hb hby d10_29) ?_
        show Steps p.tables e below (s₁.setTop (mkF m 30 #[.val (.ref ra), .val (.int xi)] [(.int (3 : Int32)), (.int xi)])) _
        exact k
      by_cases hc30 : xi < (3 : Int32)
      · have pre123 : ∀ t, Steps p.tables e below (s₁.setTop (mkF m 37 #[.val (.ref ra), .val (.int xi)] [(.int xi), (.int (own_at xs (3 : Int32)))])) t → Steps p.tables e below (s₁.setTop (entryFrame m #[(.ref ra), (.int xi)] 2)) t := by
          intro t k
          refine pre121 t ?_
          refine XS.icmpNo X0.here hx rfl (hb hby d10_30) rfl (tlt hc30).2.1 ?_
          show Steps p.tables e below (s₁.setTop (mkF m 33 #[.val (.ref ra), .val (.int xi)] [])) _
          refine XS.aloadN X0.here hx rfl (hb hby d10_33) rfl rfl ?_
          show Steps p.tables e below (s₁.setTop (mkF m 34 #[.val (.ref ra), .val (.int xi)] [(.ref ra)])) _
          refine XS.iconst X0.here hx rfl (hb hby d10_34) ?_
          show Steps p.tables e below (s₁.setTop (mkF m 35 #[.val (.ref ra), .val (.int xi)] [(.int (3 : Int32)), (.ref ra)])) _
          obtain ⟨c122, a122, q122, s122, m122, i122, u122⟩ := id V1
          have hin122 := inb_of (j := (3 : Int32)) s122 (by decide)
          refine X0.iaload hx (j := (3 : Int32)) (v := (.int (own_at xs (3 : Int32)))) (by rw [e0]; exact a122.1) (State.isArrayOf_alike hZ.alike a122.2.1) a122.2.2 hin122 (i122.at hin122 (own_getD xs _)) (g := (mkF m 35 #[.val (.ref ra), .val (.int xi)] [(.int (3 : Int32)), (.ref ra)])) rfl rfl (hb hby d10_35) _ ?_
          show Steps p.tables e below (s₁.setTop (mkF m 36 #[.val (.ref ra), .val (.int xi)] [(.int (own_at xs (3 : Int32)))])) _
          refine XS.iloadN X0.here hx rfl (hb hby d10_36) rfl ?_
          show Steps p.tables e below (s₁.setTop (mkF m 37 #[.val (.ref ra), .val (.int xi)] [(.int xi), (.int (own_at xs (3 : Int32)))])) _
          exact k
        by_cases hc37 : (own_at xs (3 : Int32)) < xi
        · have pre124 : ∀ t, Steps p.tables e below (s₁.setTop (mkF m 41 #[.val (.ref ra), .val (.int xi)] [(.int (3 : Int32))])) t → Steps p.tables e below (s₁.setTop (entryFrame m #[(.ref ra), (.int xi)] 2)) t := by
            intro t k
            refine pre123 t ?_
            refine XS.icmpNo X0.here hx rfl (hb hby d10_37) rfl (tlt hc37).2.1 ?_
            show Steps p.tables e below (s₁.setTop (mkF m 40 #[.val (.ref ra), .val (.int xi)] [])) _
            refine XS.iconst X0.here hx rfl (hb hby d10_40) ?_
            show Steps p.tables e below (s₁.setTop (mkF m 41 #[.val (.ref ra), .val (.int xi)] [(.int (3 : Int32))])) _
            exact k
          obtain ⟨fs, hr, hrun, hended, hW, hsame⟩ := X0.leave (v := some (.int (3 : Int32))) (fun h => by rw [Bd.returns] at h; cases h)
          refine ⟨_, _, pre124 _ ?_, hrun, hended, _, _, rfl, ?_, ⟨_, rfl⟩, hW, hsame.mono (by decide) (by decide)⟩
          · exact retI X0 hx Bd.returns (hb hby d10_41) hr
          · show Q_rm_after Z ra xi ki xs h0 n0 _ s₁.heap _
            rw [e0]
            exact ⟨congrArg (fun z => some (Value.int z)) (show (3 : Int32) = (F_rm_after xi xs) from by rw [F_rm_after, if_neg hc2, if_neg hc16, if_pos hc30, if_pos hc37]), N0, rfl⟩
        · have pre125 : ∀ t, Steps p.tables e below (s₁.setTop (mkF m 44 #[.val (.ref ra), .val (.int xi)] [(.int (4 : Int32)), (.int xi)])) t → Steps p.tables e below (s₁.setTop (entryFrame m #[(.ref ra), (.int xi)] 2)) t := by
            intro t k
            refine pre123 t ?_
            refine XS.icmpYes X0.here hx rfl (pc0 := 37) (pc' := 42) rfl (hb hby d10_37) rfl (flt hc37).2.1 (by decide) (by decide) ?_
            show Steps p.tables e below (s₁.setTop (mkF m 42 #[.val (.ref ra), .val (.int xi)] [])) _
            refine XS.iloadN X0.here hx rfl (hb hby d10_42) rfl ?_
            show Steps p.tables e below (s₁.setTop (mkF m 43 #[.val (.ref ra), .val (.int xi)] [(.int xi)])) _
            refine XS.iconst X0.here hx rfl (hb hby d10_43) ?_
            show Steps p.tables e below (s₁.setTop (mkF m 44 #[.val (.ref ra), .val (.int xi)] [(.int (4 : Int32)), (.int xi)])) _
            exact k
          by_cases hc44 : xi < (4 : Int32)
          · have pre127 : ∀ t, Steps p.tables e below (s₁.setTop (mkF m 51 #[.val (.ref ra), .val (.int xi)] [(.int xi), (.int (own_at xs (4 : Int32)))])) t → Steps p.tables e below (s₁.setTop (entryFrame m #[(.ref ra), (.int xi)] 2)) t := by
              intro t k
              refine pre125 t ?_
              refine XS.icmpNo X0.here hx rfl (hb hby d10_44) rfl (tlt hc44).2.1 ?_
              show Steps p.tables e below (s₁.setTop (mkF m 47 #[.val (.ref ra), .val (.int xi)] [])) _
              refine XS.aloadN X0.here hx rfl (hb hby d10_47) rfl rfl ?_
              show Steps p.tables e below (s₁.setTop (mkF m 48 #[.val (.ref ra), .val (.int xi)] [(.ref ra)])) _
              refine XS.iconst X0.here hx rfl (hb hby d10_48) ?_
              show Steps p.tables e below (s₁.setTop (mkF m 49 #[.val (.ref ra), .val (.int xi)] [(.int (4 : Int32)), (.ref ra)])) _
              obtain ⟨c126, a126, q126, s126, m126, i126, u126⟩ := id V1
              have hin126 := inb_of (j := (4 : Int32)) s126 (by decide)
              refine X0.iaload hx (j := (4 : Int32)) (v := (.int (own_at xs (4 : Int32)))) (by rw [e0]; exact a126.1) (State.isArrayOf_alike hZ.alike a126.2.1) a126.2.2 hin126 (i126.at hin126 (own_getD xs _)) (g := (mkF m 49 #[.val (.ref ra), .val (.int xi)] [(.int (4 : Int32)), (.ref ra)])) rfl rfl (hb hby d10_49) _ ?_
              show Steps p.tables e below (s₁.setTop (mkF m 50 #[.val (.ref ra), .val (.int xi)] [(.int (own_at xs (4 : Int32)))])) _
              refine XS.iloadN X0.here hx rfl (hb hby d10_50) rfl ?_
              show Steps p.tables e below (s₁.setTop (mkF m 51 #[.val (.ref ra), .val (.int xi)] [(.int xi), (.int (own_at xs (4 : Int32)))])) _
              exact k
            by_cases hc51 : (own_at xs (4 : Int32)) < xi
            · have pre128 : ∀ t, Steps p.tables e below (s₁.setTop (mkF m 55 #[.val (.ref ra), .val (.int xi)] [(.int (4 : Int32))])) t → Steps p.tables e below (s₁.setTop (entryFrame m #[(.ref ra), (.int xi)] 2)) t := by
                intro t k
                refine pre127 t ?_
                refine XS.icmpNo X0.here hx rfl (hb hby d10_51) rfl (tlt hc51).2.1 ?_
                show Steps p.tables e below (s₁.setTop (mkF m 54 #[.val (.ref ra), .val (.int xi)] [])) _
                refine XS.iconst X0.here hx rfl (hb hby d10_54) ?_
                show Steps p.tables e below (s₁.setTop (mkF m 55 #[.val (.ref ra), .val (.int xi)] [(.int (4 : Int32))])) _
                exact k
              obtain ⟨fs, hr, hrun, hended, hW, hsame⟩ := X0.leave (v := some (.int (4 : Int32))) (fun h => by rw [Bd.returns] at h; cases h)
              refine ⟨_, _, pre128 _ ?_, hrun, hended, _, _, rfl, ?_, ⟨_, rfl⟩, hW, hsame.mono (by decide) (by decide)⟩
              · exact retI X0 hx Bd.returns (hb hby d10_55) hr
              · show Q_rm_after Z ra xi ki xs h0 n0 _ s₁.heap _
                rw [e0]
                exact ⟨congrArg (fun z => some (Value.int z)) (show (4 : Int32) = (F_rm_after xi xs) from by rw [F_rm_after, if_neg hc2, if_neg hc16, if_pos hc30, if_neg hc37, if_pos hc44, if_pos hc51]), N0, rfl⟩
            · have pre129 : ∀ t, Steps p.tables e below (s₁.setTop (mkF m 58 #[.val (.ref ra), .val (.int xi)] [(.int (5 : Int32)), (.int xi)])) t → Steps p.tables e below (s₁.setTop (entryFrame m #[(.ref ra), (.int xi)] 2)) t := by
                intro t k
                refine pre127 t ?_
                refine XS.icmpYes X0.here hx rfl (pc0 := 51) (pc' := 56) rfl (hb hby d10_51) rfl (flt hc51).2.1 (by decide) (by decide) ?_
                show Steps p.tables e below (s₁.setTop (mkF m 56 #[.val (.ref ra), .val (.int xi)] [])) _
                refine XS.iloadN X0.here hx rfl (hb hby d10_56) rfl ?_
                show Steps p.tables e below (s₁.setTop (mkF m 57 #[.val (.ref ra), .val (.int xi)] [(.int xi)])) _
                refine XS.iconst X0.here hx rfl (hb hby d10_57) ?_
                show Steps p.tables e below (s₁.setTop (mkF m 58 #[.val (.ref ra), .val (.int xi)] [(.int (5 : Int32)), (.int xi)])) _
                exact k
              by_cases hc58 : xi < (5 : Int32)
              · have pre131 : ∀ t, Steps p.tables e below (s₁.setTop (mkF m 65 #[.val (.ref ra), .val (.int xi)] [(.int xi), (.int (own_at xs (5 : Int32)))])) t → Steps p.tables e below (s₁.setTop (entryFrame m #[(.ref ra), (.int xi)] 2)) t := by
                  intro t k
                  refine pre129 t ?_
                  refine XS.icmpNo X0.here hx rfl (hb hby d10_58) rfl (tlt hc58).2.1 ?_
                  show Steps p.tables e below (s₁.setTop (mkF m 61 #[.val (.ref ra), .val (.int xi)] [])) _
                  refine XS.aloadN X0.here hx rfl (hb hby d10_61) rfl rfl ?_
                  show Steps p.tables e below (s₁.setTop (mkF m 62 #[.val (.ref ra), .val (.int xi)] [(.ref ra)])) _
                  refine XS.iconst X0.here hx rfl (hb hby d10_62) ?_
                  show Steps p.tables e below (s₁.setTop (mkF m 63 #[.val (.ref ra), .val (.int xi)] [(.int (5 : Int32)), (.ref ra)])) _
                  obtain ⟨c130, a130, q130, s130, m130, i130, u130⟩ := id V1
                  have hin130 := inb_of (j := (5 : Int32)) s130 (by decide)
                  refine X0.iaload hx (j := (5 : Int32)) (v := (.int (own_at xs (5 : Int32)))) (by rw [e0]; exact a130.1) (State.isArrayOf_alike hZ.alike a130.2.1) a130.2.2 hin130 (i130.at hin130 (own_getD xs _)) (g := (mkF m 63 #[.val (.ref ra), .val (.int xi)] [(.int (5 : Int32)), (.ref ra)])) rfl rfl (hb hby d10_63) _ ?_
                  show Steps p.tables e below (s₁.setTop (mkF m 64 #[.val (.ref ra), .val (.int xi)] [(.int (own_at xs (5 : Int32)))])) _
                  refine XS.iloadN X0.here hx rfl (hb hby d10_64) rfl ?_
                  show Steps p.tables e below (s₁.setTop (mkF m 65 #[.val (.ref ra), .val (.int xi)] [(.int xi), (.int (own_at xs (5 : Int32)))])) _
                  exact k
                by_cases hc65 : (own_at xs (5 : Int32)) < xi
                · have pre132 : ∀ t, Steps p.tables e below (s₁.setTop (mkF m 69 #[.val (.ref ra), .val (.int xi)] [(.int (5 : Int32))])) t → Steps p.tables e below (s₁.setTop (entryFrame m #[(.ref ra), (.int xi)] 2)) t := by
                    intro t k
                    refine pre131 t ?_
                    refine XS.icmpNo X0.here hx rfl (hb hby d10_65) rfl (tlt hc65).2.1 ?_
                    show Steps p.tables e below (s₁.setTop (mkF m 68 #[.val (.ref ra), .val (.int xi)] [])) _
                    refine XS.iconst X0.here hx rfl (hb hby d10_68) ?_
                    show Steps p.tables e below (s₁.setTop (mkF m 69 #[.val (.ref ra), .val (.int xi)] [(.int (5 : Int32))])) _
                    exact k
                  obtain ⟨fs, hr, hrun, hended, hW, hsame⟩ := X0.leave (v := some (.int (5 : Int32))) (fun h => by rw [Bd.returns] at h; cases h)
                  refine ⟨_, _, pre132 _ ?_, hrun, hended, _, _, rfl, ?_, ⟨_, rfl⟩, hW, hsame.mono (by decide) (by decide)⟩
                  · exact retI X0 hx Bd.returns (hb hby d10_69) hr
                  · show Q_rm_after Z ra xi ki xs h0 n0 _ s₁.heap _
                    rw [e0]
                    exact ⟨congrArg (fun z => some (Value.int z)) (show (5 : Int32) = (F_rm_after xi xs) from by rw [F_rm_after, if_neg hc2, if_neg hc16, if_pos hc30, if_neg hc37, if_pos hc44, if_neg hc51, if_pos hc58, if_pos hc65]), N0, rfl⟩
                · have pre133 : ∀ t, Steps p.tables e below (s₁.setTop (mkF m 71 #[.val (.ref ra), .val (.int xi)] [(.int (-1 : Int32))])) t → Steps p.tables e below (s₁.setTop (entryFrame m #[(.ref ra), (.int xi)] 2)) t := by
                    intro t k
                    refine pre131 t ?_
                    refine XS.icmpYes X0.here hx rfl (pc0 := 65) (pc' := 70) rfl (hb hby d10_65) rfl (flt hc65).2.1 (by decide) (by decide) ?_
                    show Steps p.tables e below (s₁.setTop (mkF m 70 #[.val (.ref ra), .val (.int xi)] [])) _
                    refine XS.iconst X0.here hx rfl (hb hby d10_70) ?_
                    show Steps p.tables e below (s₁.setTop (mkF m 71 #[.val (.ref ra), .val (.int xi)] [(.int (-1 : Int32))])) _
                    exact k
                  obtain ⟨fs, hr, hrun, hended, hW, hsame⟩ := X0.leave (v := some (.int (-1 : Int32))) (fun h => by rw [Bd.returns] at h; cases h)
                  refine ⟨_, _, pre133 _ ?_, hrun, hended, _, _, rfl, ?_, ⟨_, rfl⟩, hW, hsame.mono (by decide) (by decide)⟩
                  · exact retI X0 hx Bd.returns (hb hby d10_71) hr
                  · show Q_rm_after Z ra xi ki xs h0 n0 _ s₁.heap _
                    rw [e0]
                    exact ⟨congrArg (fun z => some (Value.int z)) (show (-1 : Int32) = (F_rm_after xi xs) from by rw [F_rm_after, if_neg hc2, if_neg hc16, if_pos hc30, if_neg hc37, if_pos hc44, if_neg hc51, if_pos hc58, if_neg hc65]), N0, rfl⟩
              · have pre134 : ∀ t, Steps p.tables e below (s₁.setTop (mkF m 71 #[.val (.ref ra), .val (.int xi)] [(.int (-1 : Int32))])) t → Steps p.tables e below (s₁.setTop (entryFrame m #[(.ref ra), (.int xi)] 2)) t := by
                  intro t k
                  refine pre129 t ?_
                  refine XS.icmpYes X0.here hx rfl (pc0 := 58) (pc' := 70) rfl (hb hby d10_58) rfl (flt hc58).2.1 (by decide) (by decide) ?_
                  show Steps p.tables e below (s₁.setTop (mkF m 70 #[.val (.ref ra), .val (.int xi)] [])) _
                  refine XS.iconst X0.here hx rfl (hb hby d10_70) ?_
                  show Steps p.tables e below (s₁.setTop (mkF m 71 #[.val (.ref ra), .val (.int xi)] [(.int (-1 : Int32))])) _
                  exact k
                obtain ⟨fs, hr, hrun, hended, hW, hsame⟩ := X0.leave (v := some (.int (-1 : Int32))) (fun h => by rw [Bd.returns] at h; cases h)
                refine ⟨_, _, pre134 _ ?_, hrun, hended, _, _, rfl, ?_, ⟨_, rfl⟩, hW, hsame.mono (by decide) (by decide)⟩
                · exact retI X0 hx Bd.returns (hb hby d10_71) hr
                · show Q_rm_after Z ra xi ki xs h0 n0 _ s₁.heap _
                  rw [e0]
                  exact ⟨congrArg (fun z => some (Value.int z)) (show (-1 : Int32) = (F_rm_after xi xs) from by rw [F_rm_after, if_neg hc2, if_neg hc16, if_pos hc30, if_neg hc37, if_pos hc44, if_neg hc51, if_neg hc58]), N0, rfl⟩
          · have pre135 : ∀ t, Steps p.tables e below (s₁.setTop (mkF m 58 #[.val (.ref ra), .val (.int xi)] [(.int (5 : Int32)), (.int xi)])) t → Steps p.tables e below (s₁.setTop (entryFrame m #[(.ref ra), (.int xi)] 2)) t := by
              intro t k
              refine pre125 t ?_
              refine XS.icmpYes X0.here hx rfl (pc0 := 44) (pc' := 56) rfl (hb hby d10_44) rfl (flt hc44).2.1 (by decide) (by decide) ?_
              show Steps p.tables e below (s₁.setTop (mkF m 56 #[.val (.ref ra), .val (.int xi)] [])) _
              refine XS.iloadN X0.here hx rfl (hb hby d10_56) rfl ?_
              show Steps p.tables e below (s₁.setTop (mkF m 57 #[.val (.ref ra), .val (.int xi)] [(.int xi)])) _
              refine XS.iconst X0.here hx rfl (hb hby d10_57) ?_
              show Steps p.tables e below (s₁.setTop (mkF m 58 #[.val (.ref ra), .val (.int xi)] [(.int (5 : Int32)), (.int xi)])) _
              exact k
            by_cases hc58 : xi < (5 : Int32)
            · have pre137 : ∀ t, Steps p.tables e below (s₁.setTop (mkF m 65 #[.val (.ref ra), .val (.int xi)] [(.int xi), (.int (own_at xs (5 : Int32)))])) t → Steps p.tables e below (s₁.setTop (entryFrame m #[(.ref ra), (.int xi)] 2)) t := by
                intro t k
                refine pre135 t ?_
                refine XS.icmpNo X0.here hx rfl (hb hby d10_58) rfl (tlt hc58).2.1 ?_
                show Steps p.tables e below (s₁.setTop (mkF m 61 #[.val (.ref ra), .val (.int xi)] [])) _
                refine XS.aloadN X0.here hx rfl (hb hby d10_61) rfl rfl ?_
                show Steps p.tables e below (s₁.setTop (mkF m 62 #[.val (.ref ra), .val (.int xi)] [(.ref ra)])) _
                refine XS.iconst X0.here hx rfl (hb hby d10_62) ?_
                show Steps p.tables e below (s₁.setTop (mkF m 63 #[.val (.ref ra), .val (.int xi)] [(.int (5 : Int32)), (.ref ra)])) _
                obtain ⟨c136, a136, q136, s136, m136, i136, u136⟩ := id V1
                have hin136 := inb_of (j := (5 : Int32)) s136 (by decide)
                refine X0.iaload hx (j := (5 : Int32)) (v := (.int (own_at xs (5 : Int32)))) (by rw [e0]; exact a136.1) (State.isArrayOf_alike hZ.alike a136.2.1) a136.2.2 hin136 (i136.at hin136 (own_getD xs _)) (g := (mkF m 63 #[.val (.ref ra), .val (.int xi)] [(.int (5 : Int32)), (.ref ra)])) rfl rfl (hb hby d10_63) _ ?_
                show Steps p.tables e below (s₁.setTop (mkF m 64 #[.val (.ref ra), .val (.int xi)] [(.int (own_at xs (5 : Int32)))])) _
                refine XS.iloadN X0.here hx rfl (hb hby d10_64) rfl ?_
                show Steps p.tables e below (s₁.setTop (mkF m 65 #[.val (.ref ra), .val (.int xi)] [(.int xi), (.int (own_at xs (5 : Int32)))])) _
                exact k
              by_cases hc65 : (own_at xs (5 : Int32)) < xi
              · have pre138 : ∀ t, Steps p.tables e below (s₁.setTop (mkF m 69 #[.val (.ref ra), .val (.int xi)] [(.int (5 : Int32))])) t → Steps p.tables e below (s₁.setTop (entryFrame m #[(.ref ra), (.int xi)] 2)) t := by
                  intro t k
                  refine pre137 t ?_
                  refine XS.icmpNo X0.here hx rfl (hb hby d10_65) rfl (tlt hc65).2.1 ?_
                  show Steps p.tables e below (s₁.setTop (mkF m 68 #[.val (.ref ra), .val (.int xi)] [])) _
                  refine XS.iconst X0.here hx rfl (hb hby d10_68) ?_
                  show Steps p.tables e below (s₁.setTop (mkF m 69 #[.val (.ref ra), .val (.int xi)] [(.int (5 : Int32))])) _
                  exact k
                obtain ⟨fs, hr, hrun, hended, hW, hsame⟩ := X0.leave (v := some (.int (5 : Int32))) (fun h => by rw [Bd.returns] at h; cases h)
                refine ⟨_, _, pre138 _ ?_, hrun, hended, _, _, rfl, ?_, ⟨_, rfl⟩, hW, hsame.mono (by decide) (by decide)⟩
                · exact retI X0 hx Bd.returns (hb hby d10_69) hr
                · show Q_rm_after Z ra xi ki xs h0 n0 _ s₁.heap _
                  rw [e0]
                  exact ⟨congrArg (fun z => some (Value.int z)) (show (5 : Int32) = (F_rm_after xi xs) from by rw [F_rm_after, if_neg hc2, if_neg hc16, if_pos hc30, if_neg hc37, if_neg hc44, if_pos hc58, if_pos hc65]), N0, rfl⟩
              · have pre139 : ∀ t, Steps p.tables e below (s₁.setTop (mkF m 71 #[.val (.ref ra), .val (.int xi)] [(.int (-1 : Int32))])) t → Steps p.tables e below (s₁.setTop (entryFrame m #[(.ref ra), (.int xi)] 2)) t := by
                  intro t k
                  refine pre137 t ?_
                  refine XS.icmpYes X0.here hx rfl (pc0 := 65) (pc' := 70) rfl (hb hby d10_65) rfl (flt hc65).2.1 (by decide) (by decide) ?_
                  show Steps p.tables e below (s₁.setTop (mkF m 70 #[.val (.ref ra), .val (.int xi)] [])) _
                  refine XS.iconst X0.here hx rfl (hb hby d10_70) ?_
                  show Steps p.tables e below (s₁.setTop (mkF m 71 #[.val (.ref ra), .val (.int xi)] [(.int (-1 : Int32))])) _
                  exact k
                obtain ⟨fs, hr, hrun, hended, hW, hsame⟩ := X0.leave (v := some (.int (-1 : Int32))) (fun h => by rw [Bd.returns] at h; cases h)
                refine ⟨_, _, pre139 _ ?_, hrun, hended, _, _, rfl, ?_, ⟨_, rfl⟩, hW, hsame.mono (by decide) (by decide)⟩
                · exact retI X0 hx Bd.returns (hb hby d10_71) hr
                · show Q_rm_after Z ra xi ki xs h0 n0 _ s₁.heap _
                  rw [e0]
                  exact ⟨congrArg (fun z => some (Value.int z)) (show (-1 : Int32) = (F_rm_after xi xs) from by rw [F_rm_after, if_neg hc2, if_neg hc16, if_pos hc30, if_neg hc37, if_neg hc44, if_pos hc58, if_neg hc65]), N0, rfl⟩
            · have pre140 : ∀ t, Steps p.tables e below (s₁.setTop (mkF m 71 #[.val (.ref ra), .val (.int xi)] [(.int (-1 : Int32))])) t → Steps p.tables e below (s₁.setTop (entryFrame m #[(.ref ra), (.int xi)] 2)) t := by
                intro t k
                refine pre135 t ?_
                refine XS.icmpYes X0.here hx rfl (pc0 := 58) (pc' := 70) rfl (hb hby d10_58) rfl (flt hc58).2.1 (by decide) (by decide) ?_
                show Steps p.tables e below (s₁.setTop (mkF m 70 #[.val (.ref ra), .val (.int xi)] [])) _
                refine XS.iconst X0.here hx rfl (hb hby d10_70) ?_
                show Steps p.tables e below (s₁.setTop (mkF m 71 #[.val (.ref ra), .val (.int xi)] [(.int (-1 : Int32))])) _
                exact k
              obtain ⟨fs, hr, hrun, hended, hW, hsame⟩ := X0.leave (v := some (.int (-1 : Int32))) (fun h => by rw [Bd.returns] at h; cases h)
              refine ⟨_, _, pre140 _ ?_, hrun, hended, _, _, rfl, ?_, ⟨_, rfl⟩, hW, hsame.mono (by decide) (by decide)⟩
              · exact retI X0 hx Bd.returns (hb hby d10_71) hr
              · show Q_rm_after Z ra xi ki xs h0 n0 _ s₁.heap _
                rw [e0]
                exact ⟨congrArg (fun z => some (Value.int z)) (show (-1 : Int32) = (F_rm_after xi xs) from by rw [F_rm_after, if_neg hc2, if_neg hc16, if_pos hc30, if_neg hc37, if_neg hc44, if_neg hc58]), N0, rfl⟩
      · have pre141 : ∀ t, Steps p.tables e below (s₁.setTop (mkF m 44 #[.val (.ref ra), .val (.int xi)] [(.int (4 : Int32)), (.int xi)])) t → Steps p.tables e below (s₁.setTop (entryFrame m #[(.ref ra), (.int xi)] 2)) t := by
          intro t k
          refine pre121 t ?_
          refine XS.icmpYes X0.here hx rfl (pc0 := 30) (pc' := 42) rfl (hb hby d10_30) rfl (flt hc30).2.1 (by decide) (by decide) ?_
          show Steps p.tables e below (s₁.setTop (mkF m 42 #[.val (.ref ra), .val (.int xi)] [])) _
          refine XS.iloadN X0.here hx rfl (hb hby d10_42) rfl ?_
          show Steps p.tables e below (s₁.setTop (mkF m 43 #[.val (.ref ra), .val (.int xi)] [(.int xi)])) _
          refine XS.iconst X0.here hx rfl (hb hby d10_43) ?_
          show Steps p.tables e below (s₁.setTop (mkF m 44 #[.val (.ref ra), .val (.int xi)] [(.int (4 : Int32)), (.int xi)])) _
          exact k
        by_cases hc44 : xi < (4 : Int32)
        · have pre143 : ∀ t, Steps p.tables e below (s₁.setTop (mkF m 51 #[.val (.ref ra), .val (.int xi)] [(.int xi), (.int (own_at xs (4 : Int32)))])) t → Steps p.tables e below (s₁.setTop (entryFrame m #[(.ref ra), (.int xi)] 2)) t := by
            intro t k
            refine pre141 t ?_
            refine XS.icmpNo X0.here hx rfl (hb hby d10_44) rfl (tlt hc44).2.1 ?_
            show Steps p.tables e below (s₁.setTop (mkF m 47 #[.val (.ref ra), .val (.int xi)] [])) _
            refine XS.aloadN X0.here hx rfl (hb hby d10_47) rfl rfl ?_
            show Steps p.tables e below (s₁.setTop (mkF m 48 #[.val (.ref ra), .val (.int xi)] [(.ref ra)])) _
            refine XS.iconst X0.here hx rfl (hb hby d10_48) ?_
            show Steps p.tables e below (s₁.setTop (mkF m 49 #[.val (.ref ra), .val (.int xi)] [(.int (4 : Int32)), (.ref ra)])) _
            obtain ⟨c142, a142, q142, s142, m142, i142, u142⟩ := id V1
            have hin142 := inb_of (j := (4 : Int32)) s142 (by decide)
            refine X0.iaload hx (j := (4 : Int32)) (v := (.int (own_at xs (4 : Int32)))) (by rw [e0]; exact a142.1) (State.isArrayOf_alike hZ.alike a142.2.1) a142.2.2 hin142 (i142.at hin142 (own_getD xs _)) (g := (mkF m 49 #[.val (.ref ra), .val (.int xi)] [(.int (4 : Int32)), (.ref ra)])) rfl rfl (hb hby d10_49) _ ?_
            show Steps p.tables e below (s₁.setTop (mkF m 50 #[.val (.ref ra), .val (.int xi)] [(.int (own_at xs (4 : Int32)))])) _
            refine XS.iloadN X0.here hx rfl (hb hby d10_50) rfl ?_
            show Steps p.tables e below (s₁.setTop (mkF m 51 #[.val (.ref ra), .val (.int xi)] [(.int xi), (.int (own_at xs (4 : Int32)))])) _
            exact k
          by_cases hc51 : (own_at xs (4 : Int32)) < xi
          · have pre144 : ∀ t, Steps p.tables e below (s₁.setTop (mkF m 55 #[.val (.ref ra), .val (.int xi)] [(.int (4 : Int32))])) t → Steps p.tables e below (s₁.setTop (entryFrame m #[(.ref ra), (.int xi)] 2)) t := by
              intro t k
              refine pre143 t ?_
              refine XS.icmpNo X0.here hx rfl (hb hby d10_51) rfl (tlt hc51).2.1 ?_
              show Steps p.tables e below (s₁.setTop (mkF m 54 #[.val (.ref ra), .val (.int xi)] [])) _
              refine XS.iconst X0.here hx rfl (hb hby d10_54) ?_
              show Steps p.tables e below (s₁.setTop (mkF m 55 #[.val (.ref ra), .val (.int xi)] [(.int (4 : Int32))])) _
              exact k
            obtain ⟨fs, hr, hrun, hended, hW, hsame⟩ := X0.leave (v := some (.int (4 : Int32))) (fun h => by rw [Bd.returns] at h; cases h)
            refine ⟨_, _, pre144 _ ?_, hrun, hended, _, _, rfl, ?_, ⟨_, rfl⟩, hW, hsame.mono (by decide) (by decide)⟩
            · exact retI X0 hx Bd.returns (hb hby d10_55) hr
            · show Q_rm_after Z ra xi ki xs h0 n0 _ s₁.heap _
              rw [e0]
              exact ⟨congrArg (fun z => some (Value.int z)) (show (4 : Int32) = (F_rm_after xi xs) from by rw [F_rm_after, if_neg hc2, if_neg hc16, if_neg hc30, if_pos hc44, if_pos hc51]), N0, rfl⟩
          · have pre145 : ∀ t, Steps p.tables e below (s₁.setTop (mkF m 58 #[.val (.ref ra), .val (.int xi)] [(.int (5 : Int32)), (.int xi)])) t → Steps p.tables e below (s₁.setTop (entryFrame m #[(.ref ra), (.int xi)] 2)) t := by
              intro t k
              refine pre143 t ?_
              refine XS.icmpYes X0.here hx rfl (pc0 := 51) (pc' := 56) rfl (hb hby d10_51) rfl (flt hc51).2.1 (by decide) (by decide) ?_
              show Steps p.tables e below (s₁.setTop (mkF m 56 #[.val (.ref ra), .val (.int xi)] [])) _
              refine XS.iloadN X0.here hx rfl (hb hby d10_56) rfl ?_
              show Steps p.tables e below (s₁.setTop (mkF m 57 #[.val (.ref ra), .val (.int xi)] [(.int xi)])) _
              refine XS.iconst X0.here hx rfl (hb hby d10_57) ?_
              show Steps p.tables e below (s₁.setTop (mkF m 58 #[.val (.ref ra), .val (.int xi)] [(.int (5 : Int32)), (.int xi)])) _
              exact k
            by_cases hc58 : xi < (5 : Int32)
            · have pre147 : ∀ t, Steps p.tables e below (s₁.setTop (mkF m 65 #[.val (.ref ra), .val (.int xi)] [(.int xi), (.int (own_at xs (5 : Int32)))])) t → Steps p.tables e below (s₁.setTop (entryFrame m #[(.ref ra), (.int xi)] 2)) t := by
                intro t k
                refine pre145 t ?_
                refine XS.icmpNo X0.here hx rfl (hb hby d10_58) rfl (tlt hc58).2.1 ?_
                show Steps p.tables e below (s₁.setTop (mkF m 61 #[.val (.ref ra), .val (.int xi)] [])) _
                refine XS.aloadN X0.here hx rfl (hb hby d10_61) rfl rfl ?_
                show Steps p.tables e below (s₁.setTop (mkF m 62 #[.val (.ref ra), .val (.int xi)] [(.ref ra)])) _
                refine XS.iconst X0.here hx rfl (hb hby d10_62) ?_
                show Steps p.tables e below (s₁.setTop (mkF m 63 #[.val (.ref ra), .val (.int xi)] [(.int (5 : Int32)), (.ref ra)])) _
                obtain ⟨c146, a146, q146, s146, m146, i146, u146⟩ := id V1
                have hin146 := inb_of (j := (5 : Int32)) s146 (by decide)
                refine X0.iaload hx (j := (5 : Int32)) (v := (.int (own_at xs (5 : Int32)))) (by rw [e0]; exact a146.1) (State.isArrayOf_alike hZ.alike a146.2.1) a146.2.2 hin146 (i146.at hin146 (own_getD xs _)) (g := (mkF m 63 #[.val (.ref ra), .val (.int xi)] [(.int (5 : Int32)), (.ref ra)])) rfl rfl (hb hby d10_63) _ ?_
                show Steps p.tables e below (s₁.setTop (mkF m 64 #[.val (.ref ra), .val (.int xi)] [(.int (own_at xs (5 : Int32)))])) _
                refine XS.iloadN X0.here hx rfl (hb hby d10_64) rfl ?_
                show Steps p.tables e below (s₁.setTop (mkF m 65 #[.val (.ref ra), .val (.int xi)] [(.int xi), (.int (own_at xs (5 : Int32)))])) _
                exact k
              by_cases hc65 : (own_at xs (5 : Int32)) < xi
              · have pre148 : ∀ t, Steps p.tables e below (s₁.setTop (mkF m 69 #[.val (.ref ra), .val (.int xi)] [(.int (5 : Int32))])) t → Steps p.tables e below (s₁.setTop (entryFrame m #[(.ref ra), (.int xi)] 2)) t := by
                  intro t k
                  refine pre147 t ?_
                  refine XS.icmpNo X0.here hx rfl (hb hby d10_65) rfl (tlt hc65).2.1 ?_
                  show Steps p.tables e below (s₁.setTop (mkF m 68 #[.val (.ref ra), .val (.int xi)] [])) _
                  refine XS.iconst X0.here hx rfl (hb hby d10_68) ?_
                  show Steps p.tables e below (s₁.setTop (mkF m 69 #[.val (.ref ra), .val (.int xi)] [(.int (5 : Int32))])) _
                  exact k
                obtain ⟨fs, hr, hrun, hended, hW, hsame⟩ := X0.leave (v := some (.int (5 : Int32))) (fun h => by rw [Bd.returns] at h; cases h)
                refine ⟨_, _, pre148 _ ?_, hrun, hended, _, _, rfl, ?_, ⟨_, rfl⟩, hW, hsame.mono (by decide) (by decide)⟩
                · exact retI X0 hx Bd.returns (hb hby d10_69) hr
                · show Q_rm_after Z ra xi ki xs h0 n0 _ s₁.heap _
                  rw [e0]
                  exact ⟨congrArg (fun z => some (Value.int z)) (show (5 : Int32) = (F_rm_after xi xs) from by rw [F_rm_after, if_neg hc2, if_neg hc16, if_neg hc30, if_pos hc44, if_neg hc51, if_pos hc58, if_pos hc65]), N0, rfl⟩
              · have pre149 : ∀ t, Steps p.tables e below (s₁.setTop (mkF m 71 #[.val (.ref ra), .val (.int xi)] [(.int (-1 : Int32))])) t → Steps p.tables e below (s₁.setTop (entryFrame m #[(.ref ra), (.int xi)] 2)) t := by
                  intro t k
                  refine pre147 t ?_
                  refine XS.icmpYes X0.here hx rfl (pc0 := 65) (pc' := 70) rfl (hb hby d10_65) rfl (flt hc65).2.1 (by decide) (by decide) ?_
                  show Steps p.tables e below (s₁.setTop (mkF m 70 #[.val (.ref ra), .val (.int xi)] [])) _
                  refine XS.iconst X0.here hx rfl (hb hby d10_70) ?_
                  show Steps p.tables e below (s₁.setTop (mkF m 71 #[.val (.ref ra), .val (.int xi)] [(.int (-1 : Int32))])) _
                  exact k
                obtain ⟨fs, hr, hrun, hended, hW, hsame⟩ := X0.leave (v := some (.int (-1 : Int32))) (fun h => by rw [Bd.returns] at h; cases h)
                refine ⟨_, _, pre149 _ ?_, hrun, hended, _, _, rfl, ?_, ⟨_, rfl⟩, hW, hsame.mono (by decide) (by decide)⟩
                · exact retI X0 hx Bd.returns (hb hby d10_71) hr
                · show Q_rm_after Z ra xi ki xs h0 n0 _ s₁.heap _
                  rw [e0]
                  exact ⟨congrArg (fun z => some (Value.int z)) (show (-1 : Int32) = (F_rm_after xi xs) from by rw [F_rm_after, if_neg hc2, if_neg hc16, if_neg hc30, if_pos hc44, if_neg hc51, if_pos hc58, if_neg hc65]), N0, rfl⟩
            · have pre150 : ∀ t, Steps p.tables e below (s₁.setTop (mkF m 71 #[.val (.ref ra), .val (.int xi)] [(.int (-1 : Int32))])) t → Steps p.tables e below (s₁.setTop (entryFrame m #[(.ref ra), (.int xi)] 2)) t := by
                intro t k
                refine pre145 t ?_
                refine XS.icmpYes X0.here hx rfl (pc0 := 58) (pc' := 70) rfl (hb hby d10_58) rfl (flt hc58).2.1 (by decide) (by decide) ?_
                show Steps p.tables e below (s₁.setTop (mkF m 70 #[.val (.ref ra), .val (.int xi)] [])) _
                refine XS.iconst X0.here hx rfl (hb hby d10_70) ?_
                show Steps p.tables e below (s₁.setTop (mkF m 71 #[.val (.ref ra), .val (.int xi)] [(.int (-1 : Int32))])) _
                exact k
              obtain ⟨fs, hr, hrun, hended, hW, hsame⟩ := X0.leave (v := some (.int (-1 : Int32))) (fun h => by rw [Bd.returns] at h; cases h)
              refine ⟨_, _, pre150 _ ?_, hrun, hended, _, _, rfl, ?_, ⟨_, rfl⟩, hW, hsame.mono (by decide) (by decide)⟩
              · exact retI X0 hx Bd.returns (hb hby d10_71) hr
              · show Q_rm_after Z ra xi ki xs h0 n0 _ s₁.heap _
                rw [e0]
                exact ⟨congrArg (fun z => some (Value.int z)) (show (-1 : Int32) = (F_rm_after xi xs) from by rw [F_rm_after, if_neg hc2, if_neg hc16, if_neg hc30, if_pos hc44, if_neg hc51, if_neg hc58]), N0, rfl⟩
        · have pre151 : ∀ t, Steps p.tables e below (s₁.setTop (mkF m 58 #[.val (.ref ra), .val (.int xi)] [(.int (5 : Int32)), (.int xi)])) t → Steps p.tables e below (s₁.setTop (entryFrame m #[(.ref ra), (.int xi)] 2)) t := by
            intro t k
            refine pre141 t ?_
            refine XS.icmpYes X0.here hx rfl (pc0 := 44) (pc' := 56) rfl (hb hby d10_44) rfl (flt hc44).2.1 (by decide) (by decide) ?_
            show Steps p.tables e below (s₁.setTop (mkF m 56 #[.val (.ref ra), .val (.int xi)] [])) _
            refine XS.iloadN X0.here hx rfl (hb hby d10_56) rfl ?_
            show Steps p.tables e below (s₁.setTop (mkF m 57 #[.val (.ref ra), .val (.int xi)] [(.int xi)])) _
            refine XS.iconst X0.here hx rfl (hb hby d10_57) ?_
            show Steps p.tables e below (s₁.setTop (mkF m 58 #[.val (.ref ra), .val (.int xi)] [(.int (5 : Int32)), (.int xi)])) _
            exact k
          by_cases hc58 : xi < (5 : Int32)
          · have pre153 : ∀ t, Steps p.tables e below (s₁.setTop (mkF m 65 #[.val (.ref ra), .val (.int xi)] [(.int xi), (.int (own_at xs (5 : Int32)))])) t → Steps p.tables e below (s₁.setTop (entryFrame m #[(.ref ra), (.int xi)] 2)) t := by
              intro t k
              refine pre151 t ?_
              refine XS.icmpNo X0.here hx rfl (hb hby d10_58) rfl (tlt hc58).2.1 ?_
              show Steps p.tables e below (s₁.setTop (mkF m 61 #[.val (.ref ra), .val (.int xi)] [])) _
              refine XS.aloadN X0.here hx rfl (hb hby d10_61) rfl rfl ?_
              show Steps p.tables e below (s₁.setTop (mkF m 62 #[.val (.ref ra), .val (.int xi)] [(.ref ra)])) _
              refine XS.iconst X0.here hx rfl (hb hby d10_62) ?_
              show Steps p.tables e below (s₁.setTop (mkF m 63 #[.val (.ref ra), .val (.int xi)] [(.int (5 : Int32)), (.ref ra)])) _
              obtain ⟨c152, a152, q152, s152, m152, i152, u152⟩ := id V1
              have hin152 := inb_of (j := (5 : Int32)) s152 (by decide)
              refine X0.iaload hx (j := (5 : Int32)) (v := (.int (own_at xs (5 : Int32)))) (by rw [e0]; exact a152.1) (State.isArrayOf_alike hZ.alike a152.2.1) a152.2.2 hin152 (i152.at hin152 (own_getD xs _)) (g := (mkF m 63 #[.val (.ref ra), .val (.int xi)] [(.int (5 : Int32)), (.ref ra)])) rfl rfl (hb hby d10_63) _ ?_
              show Steps p.tables e below (s₁.setTop (mkF m 64 #[.val (.ref ra), .val (.int xi)] [(.int (own_at xs (5 : Int32)))])) _
              refine XS.iloadN X0.here hx rfl (hb hby d10_64) rfl ?_
              show Steps p.tables e below (s₁.setTop (mkF m 65 #[.val (.ref ra), .val (.int xi)] [(.int xi), (.int (own_at xs (5 : Int32)))])) _
              exact k
            by_cases hc65 : (own_at xs (5 : Int32)) < xi
            · have pre154 : ∀ t, Steps p.tables e below (s₁.setTop (mkF m 69 #[.val (.ref ra), .val (.int xi)] [(.int (5 : Int32))])) t → Steps p.tables e below (s₁.setTop (entryFrame m #[(.ref ra), (.int xi)] 2)) t := by
                intro t k
                refine pre153 t ?_
                refine XS.icmpNo X0.here hx rfl (hb hby d10_65) rfl (tlt hc65).2.1 ?_
                show Steps p.tables e below (s₁.setTop (mkF m 68 #[.val (.ref ra), .val (.int xi)] [])) _
                refine XS.iconst X0.here hx rfl (hb hby d10_68) ?_
                show Steps p.tables e below (s₁.setTop (mkF m 69 #[.val (.ref ra), .val (.int xi)] [(.int (5 : Int32))])) _
                exact k
              obtain ⟨fs, hr, hrun, hended, hW, hsame⟩ := X0.leave (v := some (.int (5 : Int32))) (fun h => by rw [Bd.returns] at h; cases h)
              refine ⟨_, _, pre154 _ ?_, hrun, hended, _, _, rfl, ?_, ⟨_, rfl⟩, hW, hsame.mono (by decide) (by decide)⟩
              · exact retI X0 hx Bd.returns (hb hby d10_69) hr
              · show Q_rm_after Z ra xi ki xs h0 n0 _ s₁.heap _
                rw [e0]
                exact ⟨congrArg (fun z => some (Value.int z)) (show (5 : Int32) = (F_rm_after xi xs) from by rw [F_rm_after, if_neg hc2, if_neg hc16, if_neg hc30, if_neg hc44, if_pos hc58, if_pos hc65]), N0, rfl⟩
            · have pre155 : ∀ t, Steps p.tables e below (s₁.setTop (mkF m 71 #[.val (.ref ra), .val (.int xi)] [(.int (-1 : Int32))])) t → Steps p.tables e below (s₁.setTop (entryFrame m #[(.ref ra), (.int xi)] 2)) t := by
                intro t k
                refine pre153 t ?_
                refine XS.icmpYes X0.here hx rfl (pc0 := 65) (pc' := 70) rfl (hb hby d10_65) rfl (flt hc65).2.1 (by decide) (by decide) ?_
                show Steps p.tables e below (s₁.setTop (mkF m 70 #[.val (.ref ra), .val (.int xi)] [])) _
                refine XS.iconst X0.here hx rfl (hb hby d10_70) ?_
                show Steps p.tables e below (s₁.setTop (mkF m 71 #[.val (.ref ra), .val (.int xi)] [(.int (-1 : Int32))])) _
                exact k
              obtain ⟨fs, hr, hrun, hended, hW, hsame⟩ := X0.leave (v := some (.int (-1 : Int32))) (fun h => by rw [Bd.returns] at h; cases h)
              refine ⟨_, _, pre155 _ ?_, hrun, hended, _, _, rfl, ?_, ⟨_, rfl⟩, hW, hsame.mono (by decide) (by decide)⟩
              · exact retI X0 hx Bd.returns (hb hby d10_71) hr
              · show Q_rm_after Z ra xi ki xs h0 n0 _ s₁.heap _
                rw [e0]
                exact ⟨congrArg (fun z => some (Value.int z)) (show (-1 : Int32) = (F_rm_after xi xs) from by rw [F_rm_after, if_neg hc2, if_neg hc16, if_neg hc30, if_neg hc44, if_pos hc58, if_neg hc65]), N0, rfl⟩
          · have pre156 : ∀ t, Steps p.tables e below (s₁.setTop (mkF m 71 #[.val (.ref ra), .val (.int xi)] [(.int (-1 : Int32))])) t → Steps p.tables e below (s₁.setTop (entryFrame m #[(.ref ra), (.int xi)] 2)) t := by
              intro t k
              refine pre151 t ?_
              refine XS.icmpYes X0.here hx rfl (pc0 := 58) (pc' := 70) rfl (hb hby d10_58) rfl (flt hc58).2.1 (by decide) (by decide) ?_
              show Steps p.tables e below (s₁.setTop (mkF m 70 #[.val (.ref ra), .val (.int xi)] [])) _
              refine XS.iconst X0.here hx rfl (hb hby d10_70) ?_
              show Steps p.tables e below (s₁.setTop (mkF m 71 #[.val (.ref ra), .val (.int xi)] [(.int (-1 : Int32))])) _
              exact k
            obtain ⟨fs, hr, hrun, hended, hW, hsame⟩ := X0.leave (v := some (.int (-1 : Int32))) (fun h => by rw [Bd.returns] at h; cases h)
            refine ⟨_, _, pre156 _ ?_, hrun, hended, _, _, rfl, ?_, ⟨_, rfl⟩, hW, hsame.mono (by decide) (by decide)⟩
            · exact retI X0 hx Bd.returns (hb hby d10_71) hr
            · show Q_rm_after Z ra xi ki xs h0 n0 _ s₁.heap _
              rw [e0]
              exact ⟨congrArg (fun z => some (Value.int z)) (show (-1 : Int32) = (F_rm_after xi xs) from by rw [F_rm_after, if_neg hc2, if_neg hc16, if_neg hc30, if_neg hc44, if_neg hc58]), N0, rfl⟩
def own_P (xs ss : List Int32) (xq : Int32) : Bool := (decide (own_in xq) && (decide (¬ ((own_at ss xq) = (-1 : Int32))) || (decide ((own_at xs xq) = (-1 : Int32)) || (decide (own_in (own_at xs xq)) && (decide (¬ ((own_at ss (own_at xs xq)) = (-1 : Int32))) || (decide ((own_at xs (own_at xs xq)) = (-1 : Int32)) || (decide (own_in (own_at xs (own_at xs xq))) && (decide (¬ ((own_at ss (own_at xs (own_at xs xq))) = (-1 : Int32))) || (decide ((own_at xs (own_at xs (own_at xs xq))) = (-1 : Int32)) || (decide (own_in (own_at xs (own_at xs (own_at xs xq)))) && (decide (¬ ((own_at ss (own_at xs (own_at xs (own_at xs xq)))) = (-1 : Int32))) || (decide ((own_at xs (own_at xs (own_at xs (own_at xs xq)))) = (-1 : Int32)) || (decide (own_in (own_at xs (own_at xs (own_at xs (own_at xs xq))))) && (decide (¬ ((own_at ss (own_at xs (own_at xs (own_at xs (own_at xs xq))))) = (-1 : Int32))) || (decide ((own_at xs (own_at xs (own_at xs (own_at xs (own_at xs xq))))) = (-1 : Int32)) || (decide (own_in (own_at xs (own_at xs (own_at xs (own_at xs (own_at xs xq)))))) && (decide (¬ ((own_at ss (own_at xs (own_at xs (own_at xs (own_at xs (own_at xs xq)))))) = (-1 : Int32))) || (decide ((own_at xs (own_at xs (own_at xs (own_at xs (own_at xs (own_at xs xq)))))) = (-1 : Int32)) || false))))))))))))))))))
theorem own_nm1 (a : Int32) (h : own_in a) : ¬ (a = (-1 : Int32)) := fun q => by subst q; exact absurd h (by decide)
theorem d9_0 : decode prog_30_method_10_code 0 = .ok (.iconst (-1), 1) := by decide +kernel
theorem d9_1 : decode prog_30_method_10_code 1 = .ok (.istore_n 2, 1) := by decide +kernel
theorem d9_2 : decode prog_30_method_10_code 2 = .ok (.iload_n 1, 1) := by decide +kernel
theorem d9_3 : decode prog_30_method_10_code 3 = .ok (.istore_n 3, 1) := by decide +kernel
theorem d9_4 : decode prog_30_method_10_code 4 = .ok (.iload_n 2, 1) := by decide +kernel
theorem d9_5 : decode prog_30_method_10_code 5 = .ok (.iconst (-1), 1) := by decide +kernel
theorem d9_6 : decode prog_30_method_10_code 6 = .ok (.if_icmp .ne 25, 3) := by decide +kernel
theorem d9_9 : decode prog_30_method_10_code 9 = .ok (.iload_n 3, 1) := by decide +kernel
theorem d9_10 : decode prog_30_method_10_code 10 = .ok (.iconst (-1), 1) := by decide +kernel
theorem d9_11 : decode prog_30_method_10_code 11 = .ok (.if_icmp .eq 20, 3) := by decide +kernel
theorem d9_14 : decode prog_30_method_10_code 14 = .ok (.aload_n 0, 1) := by decide +kernel
theorem d9_15 : decode prog_30_method_10_code 15 = .ok (.getfield 24, 3) := by decide +kernel
theorem d9_18 : decode prog_30_method_10_code 18 = .ok (.iload_n 3, 1) := by decide +kernel
theorem d9_19 : decode prog_30_method_10_code 19 = .ok (.iaload, 1) := by decide +kernel
theorem d9_20 : decode prog_30_method_10_code 20 = .ok (.istore_n 2, 1) := by decide +kernel
theorem d9_21 : decode prog_30_method_10_code 21 = .ok (.aload_n 0, 1) := by decide +kernel
theorem d9_22 : decode prog_30_method_10_code 22 = .ok (.getfield 20, 3) := by decide +kernel
theorem d9_25 : decode prog_30_method_10_code 25 = .ok (.iload_n 3, 1) := by decide +kernel
theorem d9_26 : decode prog_30_method_10_code 26 = .ok (.iaload, 1) := by decide +kernel
theorem d9_27 : decode prog_30_method_10_code 27 = .ok (.istore_n 3, 1) := by decide +kernel
theorem d9_28 : decode prog_30_method_10_code 28 = .ok (.goto (-24), 3) := by decide +kernel
theorem d9_31 : decode prog_30_method_10_code 31 = .ok (.iload_n 2, 1) := by decide +kernel
theorem d9_32 : decode prog_30_method_10_code 32 = .ok (.ireturn, 1) := by decide +kernel
def F_rm_sub (xq : Int32) (xs : List Int32) (ss : List Int32) : Int32 := (if (own_at ss xq) = (-1 : Int32) then (if (own_at xs xq) = (-1 : Int32) then (own_at ss xq) else (if (own_at ss (own_at xs xq)) = (-1 : Int32) then (if (own_at xs (own_at xs xq)) = (-1 : Int32) then (own_at ss (own_at xs xq)) else (if (own_at ss (own_at xs (own_at xs xq))) = (-1 : Int32) then (if (own_at xs (own_at xs (own_at xs xq))) = (-1 : Int32) then (own_at ss (own_at xs (own_at xs xq))) else (if (own_at ss (own_at xs (own_at xs (own_at xs xq)))) = (-1 : Int32) then (if (own_at xs (own_at xs (own_at xs (own_at xs xq)))) = (-1 : Int32) then (own_at ss (own_at xs (own_at xs (own_at xs xq)))) else (if (own_at ss (own_at xs (own_at xs (own_at xs (own_at xs xq))))) = (-1 : Int32) then (if (own_at xs (own_at xs (own_at xs (own_at xs (own_at xs xq))))) = (-1 : Int32) then (own_at ss (own_at xs (own_at xs (own_at xs (own_at xs xq))))) else (if (own_at ss (own_at xs (own_at xs (own_at xs (own_at xs (own_at xs xq)))))) = (-1 : Int32) then (own_at ss (own_at xs (own_at xs (own_at xs (own_at xs (own_at xs xq)))))) else (own_at ss (own_at xs (own_at xs (own_at xs (own_at xs (own_at xs xq)))))))) else (own_at ss (own_at xs (own_at xs (own_at xs (own_at xs xq))))))) else (own_at ss (own_at xs (own_at xs (own_at xs xq)))))) else (own_at ss (own_at xs (own_at xs xq))))) else (own_at ss (own_at xs xq)))) else (own_at ss xq))
theorem ef_rm_sub (m : MethodId) (ra : Addr) (xq : Int32) : entryFrame m #[(.ref ra), (.int xq)] 4 = mkF m 0 #[.val (.ref ra), .val (.int xq), .unset, .unset] [] := by first | (simp [entryFrame, mkF, argsToLocals, Value.category]; done) | rfl
def Q_rm_sub (Z : State) (ra : Addr) (xq : Int32) (ki : ClassId) (kj : ClassId) (xs : List Int32) (ss : List Int32) (rp : Addr) (rs : Addr) (h0 : Heap) (n0 : Nat) (v : Option Value) (h : Heap) (L : List Loc) : Prop := v = some (.int (F_rm_sub xq xs ss)) ∧ Fr n0 L ∧ h = h0
set_option maxRecDepth 65536 in
set_option maxHeartbeats 40000000 in
theorem rm_sub (l : Launch) (Z : State) (a0 : Array Value) (hw : ∀ d ∈ tables_1, d.before a0 Z = true) (ws : List Jvm.Cond) (ra : Addr) (xq : Int32) (ki : ClassId) (kj : ClassId) (xs : List Int32) (ss : List Int32) (rp : Addr) (rs : Addr) (h0 : Heap) (n0 : Nat) (Z0 : n0 ≤ h0.size) (F1 : Fld Z h0 ra "com/example/xidr/xidr/xml/tree/Tree" "parents" "[I" (.ref rp)) (F2 : Fld Z h0 ra "com/example/xidr/xidr/xml/tree/Tree" "nextSiblings" "[I" (.ref rs)) (V1 : Arv Z h0 rp ki .int (6 : Int32) (xs.map Value.int) (.int (0 : Int32))) (V2 : Arv Z h0 rs kj .int (6 : Int32) (ss.map Value.int) (.int (0 : Int32))) (hP : own_P xs ss xq = true) :
    MetFree l (⟨"com/example/xidr/xidr/xml/tree/Tree", "afterSubtree", "(I)I"⟩ : MethodName) (head1 (Jvm.Cond.code (⟨"com/example/xidr/xidr/xml/tree/Tree", "afterSubtree", "(I)I"⟩ : MethodName) prog_30_method_10_code 4 (some .int) :: ws) ({ frames := 0, cells := 0, slots := 0, locals := 0 } : Room)) (fun a U => a = #[(.ref ra), (.int xq)] ∧ Z.Warmed39 U.vm ∧ U.heap = h0) (fun _ _ _ _ _ => True) (fun _ U o U' => ∃ v L, o = .returned v ∧ Q_rm_sub Z ra xq ki kj xs ss rp rs h0 n0 v U'.heap L ∧ FrameEnd U o U' L ({ frames := 0, cells := 0, slots := 0, locals := 0 } : Room).cells ({ frames := 0, cells := 0, slots := 0, locals := 0 } : Room).slots) := by
  refine MetFree.of_bodySF (plainFor_of_name pn4) hisR ?_
  intro p e s m args below meth c s₁ Bd hml0 hP hK
  obtain ⟨rfl, hZ, hh⟩ := hP
  have hx := Bd.exec
  have hby := Bd.bytes
  have hml : c.maxLocals = 4 := hml0
  have hown : s.vm.findClass "com/example/xidr/xidr/xml/tree/Tree" = some m.cls := findClass_of_methodNamed Bd.named
  have hnm := (name_of_methodNamed Bd.named Bd.method).1
  have X0 : Stand p l e ({ frames := 0, cells := 0, slots := 0, locals := 0 } : Room) s m #[(.ref ra), (.int xq)] below meth c s₁ [] 0 0 := Stand.of_body Bd
  have e0 : s₁.heap = h0 := by rw [← hh, Bd.state]; rfl
  have N0 := Fr.nil n0
  have pre0 : ∀ t, Steps p.tables e below (s₁.setTop (mkF m 0 #[.val (.ref ra), .val (.int xq), .unset, .unset] [])) t → Steps p.tables e below (s₁.setTop (entryFrame m #[(.ref ra), (.int xq)] 4)) t := fun t k => castTop (ef_rm_sub m ra xq) k
  have pre1 : ∀ t, Steps p.tables e below (s₁.setTop (mkF m 15 #[.val (.ref ra), .val (.int xq), .val (.int (-1 : Int32)), .val (.int xq)] [(.ref ra)])) t → Steps p.tables e below (s₁.setTop (entryFrame m #[(.ref ra), (.int xq)] 4)) t := by
    intro t k
    refine pre0 t ?_
    refine XS.iconst X0.here hx rfl (hb hby d9_0) ?_
    show Steps p.tables e below (s₁.setTop (mkF m 1 #[.val (.ref ra), .val (.int xq), .unset, .unset] [(.int (-1 : Int32))])) _
    refine XS.istoreN X0.here hx rfl (hb hby d9_1) rfl (l' := #[.val (.ref ra), .val (.int xq), .val (.int (-1 : Int32)), .unset]) rfl ?_
    show Steps p.tables e below (s₁.setTop (mkF m 2 #[.val (.ref ra), .val (.int xq), .val (.int (-1 : Int32)), .unset] [])) _
    refine XS.iloadN X0.here hx rfl (hb hby d9_2) rfl ?_
    show Steps p.tables e below (s₁.setTop (mkF m 3 #[.val (.ref ra), .val (.int xq), .val (.int (-1 : Int32)), .unset] [(.int xq)])) _
    refine XS.istoreN X0.here hx rfl (hb hby d9_3) rfl (l' := #[.val (.ref ra), .val (.int xq), .val (.int (-1 : Int32)), .val (.int xq)]) rfl ?_
    show Steps p.tables e below (s₁.setTop (mkF m 4 #[.val (.ref ra), .val (.int xq), .val (.int (-1 : Int32)), .val (.int xq)] [])) _
    refine XS.iloadN X0.here hx rfl (hb hby d9_4) rfl ?_
    show Steps p.tables e below (s₁.setTop (mkF m 5 #[.val (.ref ra), .val (.int xq), .val (.int (-1 : Int32)), .val (.int xq)] [(.int (-1 : Int32))])) _
    refine XS.iconst X0.here hx rfl (hb hby d9_5) ?_
    show Steps p.tables e below (s₁.setTop (mkF m 6 #[.val (.ref ra), .val (.int xq), .val (.int (-1 : Int32)), .val (.int xq)] [(.int (-1 : Int32)), (.int (-1 : Int32))])) _
    refine XS.icmpNo X0.here hx rfl (hb hby d9_6) rfl (teq (show (-1 : Int32) = (-1 : Int32) from rfl)).2 ?_
    show Steps p.tables e below (s₁.setTop (mkF m 9 #[.val (.ref ra), .val (.int xq), .val (.int (-1 : Int32)), .val (.int xq)] [])) _
    refine XS.iloadN X0.here hx rfl (hb hby d9_9) rfl ?_
    show Steps p.tables e below (s₁.setTop (mkF m 10 #[.val (.ref ra), .val (.int xq), .val (.int (-1 : Int32)), .val (.int xq)] [(.int xq)])) _
    refine XS.iconst X0.here hx rfl (hb hby d9_10) ?_
    show Steps p.tables e below (s₁.setTop (mkF m 11 #[.val (.ref ra), .val (.int xq), .val (.int (-1 : Int32)), .val (.int xq)] [(.int (-1 : Int32)), (.int xq)])) _
    refine XS.icmpNo X0.here hx rfl (hb hby d9_11) rfl (feq (show ¬ (xq = (-1 : Int32)) from own_nm1 _ (own_un2 hP).1)).1 ?_
    show Steps p.tables e below (s₁.setTop (mkF m 14 #[.val (.ref ra), .val (.int xq), .val (.int (-1 : Int32)), .val (.int xq)] [])) _
    refine XS.aloadN X0.here hx rfl (hb hby d9_14) rfl rfl ?_
    show Steps p.tables e below (s₁.setTop (mkF m 15 #[.val (.ref ra), .val (.int xq), .val (.int (-1 : Int32)), .val (.int xq)] [(.ref ra)])) _
    exact k
  obtain ⟨T2, X2, e2, st2⟩ := getF X0 hx hZ hown (host := "") (Or.inl (hw _ (List.mem_of_getElem? (i := 86) rfl))) Via.refl e0 F2 (g := (mkF m 15 #[.val (.ref ra), .val (.int xq), .val (.int (-1 : Int32)), .val (.int xq)] [(.ref ra)])) rfl rfl (hb hby d9_15)
  have pre3 : ∀ t, Steps p.tables e below (T2.setTop (mkF m 18 #[.val (.ref ra), .val (.int xq), .val (.int (-1 : Int32)), .val (.int xq)] [(.ref rs)])) t → Steps p.tables e below (s₁.setTop (entryFrame m #[(.ref ra), (.int xq)] 4)) t := fun t k => pre1 t (st2 t k)
  have pre5 : ∀ t, Steps p.tables e below (T2.setTop (mkF m 22 #[.val (.ref ra), .val (.int xq), .val (.int (own_at ss xq)), .val (.int xq)] [(.ref ra)])) t → Steps p.tables e below (s₁.setTop (entryFrame m #[(.ref ra), (.int xq)] 4)) t := by
    intro t k
    refine pre3 t ?_
    refine XS.iloadN X2.here hx rfl (hb hby d9_18) rfl ?_
    show Steps p.tables e below (T2.setTop (mkF m 19 #[.val (.ref ra), .val (.int xq), .val (.int (-1 : Int32)), .val (.int xq)] [(.int xq), (.ref rs)])) _
    obtain ⟨c4, a4, q4, s4, m4, i4, u4⟩ := id V2
    have hin4 := inb_of (j := xq) s4 (own_un2 hP).1
    refine X2.iaload hx (j := xq) (v := (.int (own_at ss xq))) (by rw [e2]; exact a4.1) (State.isArrayOf_alike hZ.alike a4.2.1) a4.2.2 hin4 (i4.at hin4 (own_getD ss _)) (g := (mkF m 19 #[.val (.ref ra), .val (.int xq), .val (.int (-1 : Int32)), .val (.int xq)] [(.int xq), (.ref rs)])) rfl rfl (hb hby d9_19) _ ?_
    show Steps p.tables e below (T2.setTop (mkF m 20 #[.val (.ref ra), .val (.int xq), .val (.int (-1 : Int32)), .val (.int xq)] [(.int (own_at ss xq))])) _
    refine XS.istoreN X2.here hx rfl (hb hby d9_20) rfl (l' := #[.val (.ref ra), .val (.int xq), .val (.int (own_at ss xq)), .val (.int xq)]) rfl ?_
    show Steps p.tables e below (T2.setTop (mkF m 21 #[.val (.ref ra), .val (.int xq), .val (.int (own_at ss xq)), .val (.int xq)] [])) _
    refine XS.aloadN X2.here hx rfl (hb hby d9_21) rfl rfl ?_
    show Steps p.tables e below (T2.setTop (mkF m 22 #[.val (.ref ra), .val (.int xq), .val (.int (own_at ss xq)), .val (.int xq)] [(.ref ra)])) _
    exact k
  obtain ⟨T6, X6, e6, st6⟩ := getF X2 hx hZ hown (host := "") (Or.inl (hw _ (List.mem_of_getElem? (i := 83) rfl))) Via.refl e2 F1 (g := (mkF m 22 #[.val (.ref ra), .val (.int xq), .val (.int (own_at ss xq)), .val (.int xq)] [(.ref ra)])) rfl rfl (hb hby d9_22)
  have pre7 : ∀ t, Steps p.tables e below (T6.setTop (mkF m 25 #[.val (.ref ra), .val (.int xq), .val (.int (own_at ss xq)), .val (.int xq)] [(.ref rp)])) t → Steps p.tables e below (s₁.setTop (entryFrame m #[(.ref ra), (.int xq)] 4)) t := fun t k => pre5 t (st6 t k)
  have pre9 : ∀ t, Steps p.tables e below (T6.setTop (mkF m 6 #[.val (.ref ra), .val (.int xq), .val (.int (own_at ss xq)), .val (.int (own_at xs xq))] [(.int (-1 : Int32)), (.int (own_at ss xq))])) t → Steps p.tables e below (s₁.setTop (entryFrame m #[(.ref ra), (.int xq)] 4)) t := by
    intro t k
    refine pre7 t ?_
    refine XS.iloadN X6.here hx rfl (hb hby d9_25) rfl ?_
    show Steps p.tables e below (T6.setTop (mkF m 26 #[.val (.ref ra), .val (.int xq), .val (.int (own_at ss xq)), .val (.int xq)] [(.int xq), (.ref rp)])) _
    obtain ⟨c8, a8, q8, s8, m8, i8, u8⟩ := id V1
    have hin8 := inb_of (j := xq) s8 (own_un2 hP).1
    refine X6.iaload hx (j := xq) (v := (.int (own_at xs xq))) (by rw [e6]; exact a8.1) (State.isArrayOf_alike hZ.alike a8.2.1) a8.2.2 hin8 (i8.at hin8 (own_getD xs _)) (g := (mkF m 26 #[.val (.ref ra), .val (.int xq), .val (.int (own_at ss xq)), .val (.int xq)] [(.int xq), (.ref rp)])) rfl rfl (hb hby d9_26) _ ?_
    show Steps p.tables e below (T6.setTop (mkF m 27 #[.val (.ref ra), .val (.int xq), .val (.int (own_at ss xq)), .val (.int xq)] [(.int (own_at xs xq))])) _
    refine XS.istoreN X6.here hx rfl (hb hby d9_27) rfl (l' := #[.val (.ref ra), .val (.int xq), .val (.int (own_at ss xq)), .val (.int (own_at xs xq))]) rfl ?_
    show Steps p.tables e below (T6.setTop (mkF m 28 #[.val (.ref ra), .val (.int xq), .val (.int (own_at ss xq)), .val (.int (own_at xs xq))] [])) _
    refine XS.goto X6.here hx rfl (pc0 := 28) (pc' := 4) rfl (hb hby d9_28) (by decide) (by decide) ?_
    show Steps p.tables e below (T6.setTop (mkF m 4 #[.val (.ref ra), .val (.int xq), .val (.int (own_at ss xq)), .val (.int (own_at xs xq))] [])) _
    refine XS.iloadN X6.here hx rfl (hb hby d9_4) rfl ?_
    show Steps p.tables e below (T6.setTop (mkF m 5 #[.val (.ref ra), .val (.int xq), .val (.int (own_at ss xq)), .val (.int (own_at xs xq))] [(.int (own_at ss xq))])) _
    refine XS.iconst X6.here hx rfl (hb hby d9_5) ?_
    show Steps p.tables e below (T6.setTop (mkF m 6 #[.val (.ref ra), .val (.int xq), .val (.int (own_at ss xq)), .val (.int (own_at xs xq))] [(.int (-1 : Int32)), (.int (own_at ss xq))])) _
    exact k
  by_cases hc6_2 : (own_at ss xq) = (-1 : Int32)
  · have pre10 : ∀ t, Steps p.tables e below (T6.setTop (mkF m 11 #[.val (.ref ra), .val (.int xq), .val (.int (own_at ss xq)), .val (.int (own_at xs xq))] [(.int (-1 : Int32)), (.int (own_at xs xq))])) t → Steps p.tables e below (s₁.setTop (entryFrame m #[(.ref ra), (.int xq)] 4)) t := by
      intro t k
      refine pre9 t ?_
      refine XS.icmpNo X6.here hx rfl (hb hby d9_6) rfl (teq hc6_2).2 ?_
      show Steps p.tables e below (T6.setTop (mkF m 9 #[.val (.ref ra), .val (.int xq), .val (.int (own_at ss xq)), .val (.int (own_at xs xq))] [])) _
      refine XS.iloadN X6.here hx rfl (hb hby d9_9) rfl ?_
      show Steps p.tables e below (T6.setTop (mkF m 10 #[.val (.ref ra), .val (.int xq), .val (.int (own_at ss xq)), .val (.int (own_at xs xq))] [(.int (own_at xs xq))])) _
      refine XS.iconst X6.here hx rfl (hb hby d9_10) ?_
      show Steps p.tables e below (T6.setTop (mkF m 11 #[.val (.ref ra), .val (.int xq), .val (.int (own_at ss xq)), .val (.int (own_at xs xq))] [(.int (-1 : Int32)), (.int (own_at xs xq))])) _
      exact k
    by_cases hc11_2 : (own_at xs xq) = (-1 : Int32)
    · have pre11 : ∀ t, Steps p.tables e below (T6.setTop (mkF m 32 #[.val (.ref ra), .val (.int xq), .val (.int (own_at ss xq)), .val (.int (own_at xs xq))] [(.int (own_at ss xq))])) t → Steps p.tables e below (s₁.setTop (entryFrame m #[(.ref ra), (.int xq)] 4)) t := by
        intro t k
        refine pre10 t ?_
        refine XS.icmpYes X6.here hx rfl (pc0 := 11) (pc' := 31) rfl (hb hby d9_11) rfl (teq hc11_2).1 (by decide) (by decide) ?_
        show Steps p.tables e below (T6.setTop (mkF m 31 #[.val (.ref ra), .val (.int xq), .val (.int (own_at ss xq)), .val (.int (own_at xs xq))] [])) _
        refine XS.iloadN X6.here hx rfl (hb hby d9_31) rfl ?_
        show Steps p.tables e below (T6.setTop (mkF m 32 #[.val (.ref ra), .val (.int xq), .val (.int (own_at ss xq)), .val (.int (own_at xs xq))] [(.int (own_at ss xq))])) _
        exact k
      obtain ⟨fs, hr, hrun, hended, hW, hsame⟩ := X6.leave (v := some (.int (own_at ss xq))) (fun h => by rw [Bd.returns] at h; cases h)
      refine ⟨_, _, pre11 _ ?_, hrun, hended, _, _, rfl, ?_, ⟨_, rfl⟩, hW, hsame.mono (by decide) (by decide)⟩
      · exact retI X6 hx Bd.returns (hb hby d9_32) hr
      · show Q_rm_sub Z ra xq ki kj xs ss rp rs h0 n0 _ T6.heap _
        rw [e6]
        exact ⟨congrArg (fun z => some (Value.int z)) (show (own_at ss xq) = (F_rm_sub xq xs ss) from by rw [F_rm_sub, if_pos hc6_2, if_pos hc11_2]), N0, rfl⟩
    · have pre12 : ∀ t, Steps p.tables e below (T6.setTop (mkF m 15 #[.val (.ref ra), .val (.int xq), .val (.int (own_at ss xq)), .val (.int (own_at xs xq))] [(.ref ra)])) t → Steps p.tables e below (s₁.setTop (entryFrame m #[(.ref ra), (.int xq)] 4)) t := by
        intro t k
        refine pre10 t ?_
        refine XS.icmpNo X6.here hx rfl (hb hby d9_11) rfl (feq hc11_2).1 ?_
        show Steps p.tables e below (T6.setTop (mkF m 14 #[.val (.ref ra), .val (.int xq), .val (.int (own_at ss xq)), .val (.int (own_at xs xq))] [])) _
        refine XS.aloadN X6.here hx rfl (hb hby d9_14) rfl rfl ?_
        show Steps p.tables e below (T6.setTop (mkF m 15 #[.val (.ref ra), .val (.int xq), .val (.int (own_at ss xq)), .val (.int (own_at xs xq))] [(.ref ra)])) _
        exact k
      obtain ⟨T13, X13, e13, st13⟩ := getF X6 hx hZ hown (host := "") (Or.inl (hw _ (List.mem_of_getElem? (i := 86) rfl))) Via.refl e6 F2 (g := (mkF m 15 #[.val (.ref ra), .val (.int xq), .val (.int (own_at ss xq)), .val (.int (own_at xs xq))] [(.ref ra)])) rfl rfl (hb hby d9_15)
      have pre14 : ∀ t, Steps p.tables e below (T13.setTop (mkF m 18 #[.val (.ref ra), .val (.int xq), .val (.int (own_at ss xq)), .val (.int (own_at xs xq))] [(.ref rs)])) t → Steps p.tables e below (s₁.setTop (entryFrame m #[(.ref ra), (.int xq)] 4)) t := fun t k => pre12 t (st13 t k)
      have pre16 : ∀ t, Steps p.tables e below (T13.setTop (mkF m 22 #[.val (.ref ra), .val (.int xq), .val (.int (own_at ss (own_at xs xq))), .val (.int (own_at xs xq))] [(.ref ra)])) t → Steps p.tables e below (s₁.setTop (entryFrame m #[(.ref ra), (.int xq)] 4)) t := by
        intro t k
        refine pre14 t ?_
        refine XS.iloadN X13.here hx rfl (hb hby d9_18) rfl ?_
        show Steps p.tables e below (T13.setTop (mkF m 19 #[.val (.ref ra), .val (.int xq), .val (.int (own_at ss xq)), .val (.int (own_at xs xq))] [(.int (own_at xs xq)), (.ref rs)])) _
        obtain ⟨c15, a15, q15, s15, m15, i15, u15⟩ := id V2
        have hin15 := inb_of (j := (own_at xs xq)) s15 (own_un2 ((own_un2 hP).2 (fun q => q hc6_2) hc11_2)).1
        refine X13.iaload hx (j := (own_at xs xq)) (v := (.int (own_at ss (own_at xs xq)))) (by rw [e13]; exact a15.1) (State.isArrayOf_alike hZ.alike a15.2.1) a15.2.2 hin15 (i15.at hin15 (own_getD ss _)) (g := (mkF m 19 #[.val (.ref ra), .val (.int xq), .val (.int (own_at ss xq)), .val (.int (own_at xs xq))] [(.int (own_at xs xq)), (.ref rs)])) rfl rfl (hb hby d9_19) _ ?_
        show Steps p.tables e below (T13.setTop (mkF m 20 #[.val (.ref ra), .val (.int xq), .val (.int (own_at ss xq)), .val (.int (own_at xs xq))] [(.int (own_at ss (own_at xs xq)))])) _
        refine XS.istoreN X13.here hx rfl (hb hby d9_20) rfl (l' := #[.val (.ref ra), .val (.int xq), .val (.int (own_at ss (own_at xs xq))), .val (.int (own_at xs xq))]) rfl ?_
        show Steps p.tables e below (T13.setTop (mkF m 21 #[.val (.ref ra), .val (.int xq), .val (.int (own_at ss (own_at xs xq))), .val (.int (own_at xs xq))] [])) _
        refine XS.aloadN X13.here hx rfl (hb hby d9_21) rfl rfl ?_
        show Steps p.tables e below (T13.setTop (mkF m 22 #[.val (.ref ra), .val (.int xq), .val (.int (own_at ss (own_at xs xq))), .val (.int (own_at xs xq))] [(.ref ra)])) _
        exact k
      obtain ⟨T17, X17, e17, st17⟩ := getF X13 hx hZ hown (host := "") (Or.inl (hw _ (List.mem_of_getElem? (i := 83) rfl))) Via.refl e13 F1 (g := (mkF m 22 #[.val (.ref ra), .val (.int xq), .val (.int (own_at ss (own_at xs xq))), .val (.int (own_at xs xq))] [(.ref ra)])) rfl rfl (hb hby d9_22)
      have pre18 : ∀ t, Steps p.tables e below (T17.setTop (mkF m 25 #[.val (.ref ra), .val (.int xq), .val (.int (own_at ss (own_at xs xq))), .val (.int (own_at xs xq))] [(.ref rp)])) t → Steps p.tables e below (s₁.setTop (entryFrame m #[(.ref ra), (.int xq)] 4)) t := fun t k => pre16 t (st17 t k)
      have pre20 : ∀ t, Steps p.tables e below (T17.setTop (mkF m 6 #[.val (.ref ra), .val (.int xq), .val (.int (own_at ss (own_at xs xq))), .val (.int (own_at xs (own_at xs xq)))] [(.int (-1 : Int32)), (.int (own_at ss (own_at xs xq)))])) t → Steps p.tables e below (s₁.setTop (entryFrame m #[(.ref ra), (.int xq)] 4)) t := by
        intro t k
        refine pre18 t ?_
        refine XS.iloadN X17.here hx rfl (hb hby d9_25) rfl ?_
        show Steps p.tables e below (T17.setTop (mkF m 26 #[.val (.ref ra), .val (.int xq), .val (.int (own_at ss (own_at xs xq))), .val (.int (own_at xs xq))] [(.int (own_at xs xq)), (.ref rp)])) _
        obtain ⟨c19, a19, q19, s19, m19, i19, u19⟩ := id V1
        have hin19 := inb_of (j := (own_at xs xq)) s19 (own_un2 ((own_un2 hP).2 (fun q => q hc6_2) hc11_2)).1
        refine X17.iaload hx (j := (own_at xs xq)) (v := (.int (own_at xs (own_at xs xq)))) (by rw [e17]; exact a19.1) (State.isArrayOf_alike hZ.alike a19.2.1) a19.2.2 hin19 (i19.at hin19 (own_getD xs _)) (g := (mkF m 26 #[.val (.ref ra), .val (.int xq), .val (.int (own_at ss (own_at xs xq))), .val (.int (own_at xs xq))] [(.int (own_at xs xq)), (.ref rp)])) rfl rfl (hb hby d9_26) _ ?_
        show Steps p.tables e below (T17.setTop (mkF m 27 #[.val (.ref ra), .val (.int xq), .val (.int (own_at ss (own_at xs xq))), .val (.int (own_at xs xq))] [(.int (own_at xs (own_at xs xq)))])) _
        refine XS.istoreN X17.here hx rfl (hb hby d9_27) rfl (l' := #[.val (.ref ra), .val (.int xq), .val (.int (own_at ss (own_at xs xq))), .val (.int (own_at xs (own_at xs xq)))]) rfl ?_
        show Steps p.tables e below (T17.setTop (mkF m 28 #[.val (.ref ra), .val (.int xq), .val (.int (own_at ss (own_at xs xq))), .val (.int (own_at xs (own_at xs xq)))] [])) _
        refine XS.goto X17.here hx rfl (pc0 := 28) (pc' := 4) rfl (hb hby d9_28) (by decide) (by decide) ?_
        show Steps p.tables e below (T17.setTop (mkF m 4 #[.val (.ref ra), .val (.int xq), .val (.int (own_at ss (own_at xs xq))), .val (.int (own_at xs (own_at xs xq)))] [])) _
        refine XS.iloadN X17.here hx rfl (hb hby d9_4) rfl ?_
        show Steps p.tables e below (T17.setTop (mkF m 5 #[.val (.ref ra), .val (.int xq), .val (.int (own_at ss (own_at xs xq))), .val (.int (own_at xs (own_at xs xq)))] [(.int (own_at ss (own_at xs xq)))])) _
        refine XS.iconst X17.here hx rfl (hb hby d9_5) ?_
        show Steps p.tables e below (T17.setTop (mkF m 6 #[.val (.ref ra), .val (.int xq), .val (.int (own_at ss (own_at xs xq))), .val (.int (own_at xs (own_at xs xq)))] [(.int (-1 : Int32)), (.int (own_at ss (own_at xs xq)))])) _
        exact k
      by_cases hc6_3 : (own_at ss (own_at xs xq)) = (-1 : Int32)
      · have pre21 : ∀ t, Steps p.tables e below (T17.setTop (mkF m 11 #[.val (.ref ra), .val (.int xq), .val (.int (own_at ss (own_at xs xq))), .val (.int (own_at xs (own_at xs xq)))] [(.int (-1 : Int32)), (.int (own_at xs (own_at xs xq)))])) t → Steps p.tables e below (s₁.setTop (entryFrame m #[(.ref ra), (.int xq)] 4)) t := by
          intro t k
          refine pre20 t ?_
          refine XS.icmpNo X17.here hx rfl (hb hby d9_6) rfl (teq hc6_3).2 ?_
          show Steps p.tables e below (T17.setTop (mkF m 9 #[.val (.ref ra), .val (.int xq), .val (.int (own_at ss (own_at xs xq))), .val (.int (own_at xs (own_at xs xq)))] [])) _
          refine XS.iloadN X17.here hx rfl (hb hby d9_9) rfl ?_
          show Steps p.tables e below (T17.setTop (mkF m 10 #[.val (.ref ra), .val (.int xq), .val (.int (own_at ss (own_at xs xq))), .val (.int (own_at xs (own_at xs xq)))] [(.int (own_at xs (own_at xs xq)))])) _
          refine XS.iconst X17.here hx rfl (hb hby d9_10) ?_
          show Steps p.tables e below (T17.setTop (mkF m 11 #[.val (.ref ra), .val (.int xq), .val (.int (own_at ss (own_at xs xq))), .val (.int (own_at xs (own_at xs xq)))] [(.int (-1 : Int32)), (.int (own_at xs (own_at xs xq)))])) _
          exact k
        by_cases hc11_3 : (own_at xs (own_at xs xq)) = (-1 : Int32)
        · have pre22 : ∀ t, Steps p.tables e below (T17.setTop (mkF m 32 #[.val (.ref ra), .val (.int xq), .val (.int (own_at ss (own_at xs xq))), .val (.int (own_at xs (own_at xs xq)))] [(.int (own_at ss (own_at xs xq)))])) t → Steps p.tables e below (s₁.setTop (entryFrame m #[(.ref ra), (.int xq)] 4)) t := by
            intro t k
            refine pre21 t ?_
            refine XS.icmpYes X17.here hx rfl (pc0 := 11) (pc' := 31) rfl (hb hby d9_11) rfl (teq hc11_3).1 (by decide) (by decide) ?_
            show Steps p.tables e below (T17.setTop (mkF m 31 #[.val (.ref ra), .val (.int xq), .val (.int (own_at ss (own_at xs xq))), .val (.int (own_at xs (own_at xs xq)))] [])) _
            refine XS.iloadN X17.here hx rfl (hb hby d9_31) rfl ?_
            show Steps p.tables e below (T17.setTop (mkF m 32 #[.val (.ref ra), .val (.int xq), .val (.int (own_at ss (own_at xs xq))), .val (.int (own_at xs (own_at xs xq)))] [(.int (own_at ss (own_at xs xq)))])) _
            exact k
          obtain ⟨fs, hr, hrun, hended, hW, hsame⟩ := X17.leave (v := some (.int (own_at ss (own_at xs xq)))) (fun h => by rw [Bd.returns] at h; cases h)
          refine ⟨_, _, pre22 _ ?_, hrun, hended, _, _, rfl, ?_, ⟨_, rfl⟩, hW, hsame.mono (by decide) (by decide)⟩
          · exact retI X17 hx Bd.returns (hb hby d9_32) hr
          · show Q_rm_sub Z ra xq ki kj xs ss rp rs h0 n0 _ T17.heap _
            rw [e17]
            exact ⟨congrArg (fun z => some (Value.int z)) (show (own_at ss (own_at xs xq)) = (F_rm_sub xq xs ss) from by rw [F_rm_sub, if_pos hc6_2, if_neg hc11_2, if_pos hc6_3, if_pos hc11_3]), N0, rfl⟩
        · have pre23 : ∀ t, Steps p.tables e below (T17.setTop (mkF m 15 #[.val (.ref ra), .val (.int xq), .val (.int (own_at ss (own_at xs xq))), .val (.int (own_at xs (own_at xs xq)))] [(.ref ra)])) t → Steps p.tables e below (s₁.setTop (entryFrame m #[(.ref ra), (.int xq)] 4)) t := by
            intro t k
            refine pre21 t ?_
            refine XS.icmpNo X17.here hx rfl (hb hby d9_11) rfl (feq hc11_3).1 ?_
            show Steps p.tables e below (T17.setTop (mkF m 14 #[.val (.ref ra), .val (.int xq), .val (.int (own_at ss (own_at xs xq))), .val (.int (own_at xs (own_at xs xq)))] [])) _
            refine XS.aloadN X17.here hx rfl (hb hby d9_14) rfl rfl ?_
            show Steps p.tables e below (T17.setTop (mkF m 15 #[.val (.ref ra), .val (.int xq), .val (.int (own_at ss (own_at xs xq))), .val (.int (own_at xs (own_at xs xq)))] [(.ref ra)])) _
            exact k
          obtain ⟨T24, X24, e24, st24⟩ := getF X17 hx hZ hown (host := "") (Or.inl (hw _ (List.mem_of_getElem? (i := 86) rfl))) Via.refl e17 F2 (g := (mkF m 15 #[.val (.ref ra), .val (.int xq), .val (.int (own_at ss (own_at xs xq))), .val (.int (own_at xs (own_at xs xq)))] [(.ref ra)])) rfl rfl (hb hby d9_15)
          have pre25 : ∀ t, Steps p.tables e below (T24.setTop (mkF m 18 #[.val (.ref ra), .val (.int xq), .val (.int (own_at ss (own_at xs xq))), .val (.int (own_at xs (own_at xs xq)))] [(.ref rs)])) t → Steps p.tables e below (s₁.setTop (entryFrame m #[(.ref ra), (.int xq)] 4)) t := fun t k => pre23 t (st24 t k)
          have pre27 : ∀ t, Steps p.tables e below (T24.setTop (mkF m 22 #[.val (.ref ra), .val (.int xq), .val (.int (own_at ss (own_at xs (own_at xs xq)))), .val (.int (own_at xs (own_at xs xq)))] [(.ref ra)])) t → Steps p.tables e below (s₁.setTop (entryFrame m #[(.ref ra), (.int xq)] 4)) t := by
            intro t k
            refine pre25 t ?_
            refine XS.iloadN X24.here hx rfl (hb hby d9_18) rfl ?_
            show Steps p.tables e below (T24.setTop (mkF m 19 #[.val (.ref ra), .val (.int xq), .val (.int (own_at ss (own_at xs xq))), .val (.int (own_at xs (own_at xs xq)))] [(.int (own_at xs (own_at xs xq))), (.ref rs)])) _
            obtain ⟨c26, a26, q26, s26, m26, i26, u26⟩ := id V2
            have hin26 := inb_of (j := (own_at xs (own_at xs xq))) s26 (own_un2 ((own_un2 ((own_un2 hP).2 (fun q => q hc6_2) hc11_2)).2 (fun q => q hc6_3) hc11_3)).1
            refine X24.iaload hx (j := (own_at xs (own_at xs xq))) (v := (.int (own_at ss (own_at xs (own_at xs xq))))) (by rw [e24]; exact a26.1) (State.isArrayOf_alike hZ.alike a26.2.1) a26.2.2 hin26 (i26.at hin26 (own_getD ss _)) (g := (mkF m 19 #[.val (.ref ra), .val (.int xq), .val (.int (own_at ss (own_at xs xq))), .val (.int (own_at xs (own_at xs xq)))] [(.int (own_at xs (own_at xs xq))), (.ref rs)])) rfl rfl (hb hby d9_19) _ ?_
            show Steps p.tables e below (T24.setTop (mkF m 20 #[.val (.ref ra), .val (.int xq), .val (.int (own_at ss (own_at xs xq))), .val (.int (own_at xs (own_at xs xq)))] [(.int (own_at ss (own_at xs (own_at xs xq))))])) _
            refine XS.istoreN X24.here hx rfl (hb hby d9_20) rfl (l' := #[.val (.ref ra), .val (.int xq), .val (.int (own_at ss (own_at xs (own_at xs xq)))), .val (.int (own_at xs (own_at xs xq)))]) rfl ?_
            show Steps p.tables e below (T24.setTop (mkF m 21 #[.val (.ref ra), .val (.int xq), .val (.int (own_at ss (own_at xs (own_at xs xq)))), .val (.int (own_at xs (own_at xs xq)))] [])) _
            refine XS.aloadN X24.here hx rfl (hb hby d9_21) rfl rfl ?_
            show Steps p.tables e below (T24.setTop (mkF m 22 #[.val (.ref ra), .val (.int xq), .val (.int (own_at ss (own_at xs (own_at xs xq)))), .val (.int (own_at xs (own_at xs xq)))] [(.ref ra)])) _
            exact k
          obtain ⟨T28, X28, e28, st28⟩ := getF X24 hx hZ hown (host := "") (Or.inl (hw _ (List.mem_of_getElem? (i := 83) rfl))) Via.refl e24 F1 (g := (mkF m 22 #[.val (.ref ra), .val (.int xq), .val (.int (own_at ss (own_at xs (own_at xs xq)))), .val (.int (own_at xs (own_at xs xq)))] [(.ref ra)])) rfl rfl (hb hby d9_22)
          have pre29 : ∀ t, Steps p.tables e below (T28.setTop (mkF m 25 #[.val (.ref ra), .val (.int xq), .val (.int (own_at ss (own_at xs (own_at xs xq)))), .val (.int (own_at xs (own_at xs xq)))] [(.ref rp)])) t → Steps p.tables e below (s₁.setTop (entryFrame m #[(.ref ra), (.int xq)] 4)) t := fun t k => pre27 t (st28 t k)
          have pre31 : ∀ t, Steps p.tables e below (T28.setTop (mkF m 6 #[.val (.ref ra), .val (.int xq), .val (.int (own_at ss (own_at xs (own_at xs xq)))), .val (.int (own_at xs (own_at xs (own_at xs xq))))] [(.int (-1 : Int32)), (.int (own_at ss (own_at xs (own_at xs xq))))])) t → Steps p.tables e below (s₁.setTop (entryFrame m #[(.ref ra), (.int xq)] 4)) t := by
            intro t k
            refine pre29 t ?_
            refine XS.iloadN X28.here hx rfl (hb hby d9_25) rfl ?_
            show Steps p.tables e below (T28.setTop (mkF m 26 #[.val (.ref ra), .val (.int xq), .val (.int (own_at ss (own_at xs (own_at xs xq)))), .val (.int (own_at xs (own_at xs xq)))] [(.int (own_at xs (own_at xs xq))), (.ref rp)])) _
            obtain ⟨c30, a30, q30, s30, m30, i30, u30⟩ := id V1
            have hin30 := inb_of (j := (own_at xs (own_at xs xq))) s30 (own_un2 ((own_un2 ((own_un2 hP).2 (fun q => q hc6_2) hc11_2)).2 (fun q => q hc6_3) hc11_3)).1
            refine X28.iaload hx (j := (own_at xs (own_at xs xq))) (v := (.int (own_at xs (own_at xs (own_at xs xq))))) (by rw [e28]; exact a30.1) (State.isArrayOf_alike hZ.alike a30.2.1) a30.2.2 hin30 (i30.at hin30 (own_getD xs _)) (g := (mkF m 26 #[.val (.ref ra), .val (.int xq), .val (.int (own_at ss (own_at xs (own_at xs xq)))), .val (.int (own_at xs (own_at xs xq)))] [(.int (own_at xs (own_at xs xq))), (.ref rp)])) rfl rfl (hb hby d9_26) _ ?_
            show Steps p.tables e below (T28.setTop (mkF m 27 #[.val (.ref ra), .val (.int xq), .val (.int (own_at ss (own_at xs (own_at xs xq)))), .val (.int (own_at xs (own_at xs xq)))] [(.int (own_at xs (own_at xs (own_at xs xq))))])) _
            refine XS.istoreN X28.here hx rfl (hb hby d9_27) rfl (l' := #[.val (.ref ra), .val (.int xq), .val (.int (own_at ss (own_at xs (own_at xs xq)))), .val (.int (own_at xs (own_at xs (own_at xs xq))))]) rfl ?_
            show Steps p.tables e below (T28.setTop (mkF m 28 #[.val (.ref ra), .val (.int xq), .val (.int (own_at ss (own_at xs (own_at xs xq)))), .val (.int (own_at xs (own_at xs (own_at xs xq))))] [])) _
            refine XS.goto X28.here hx rfl (pc0 := 28) (pc' := 4) rfl (hb hby d9_28) (by decide) (by decide) ?_
            show Steps p.tables e below (T28.setTop (mkF m 4 #[.val (.ref ra), .val (.int xq), .val (.int (own_at ss (own_at xs (own_at xs xq)))), .val (.int (own_at xs (own_at xs (own_at xs xq))))] [])) _
            refine XS.iloadN X28.here hx rfl (hb hby d9_4) rfl ?_
            show Steps p.tables e below (T28.setTop (mkF m 5 #[.val (.ref ra), .val (.int xq), .val (.int (own_at ss (own_at xs (own_at xs xq)))), .val (.int (own_at xs (own_at xs (own_at xs xq))))] [(.int (own_at ss (own_at xs (own_at xs xq))))])) _
            refine XS.iconst X28.here hx rfl (hb hby d9_5) ?_
            show Steps p.tables e below (T28.setTop (mkF m 6 #[.val (.ref ra), .val (.int xq), .val (.int (own_at ss (own_at xs (own_at xs xq)))), .val (.int (own_at xs (own_at xs (own_at xs xq))))] [(.int (-1 : Int32)), (.int (own_at ss (own_at xs (own_at xs xq))))])) _
            exact k
          by_cases hc6_4 : (own_at ss (own_at xs (own_at xs xq))) = (-1 : Int32)
          · have pre32 : ∀ t, Steps p.tables e below (T28.setTop (mkF m 11 #[.val (.ref ra), .val (.int xq), .val (.int (own_at ss (own_at xs (own_at xs xq)))), .val (.int (own_at xs (own_at xs (own_at xs xq))))] [(.int (-1 : Int32)), (.int (own_at xs (own_at xs (own_at xs xq))))])) t → Steps p.tables e below (s₁.setTop (entryFrame m #[(.ref ra), (.int xq)] 4)) t := by
              intro t k
              refine pre31 t ?_
              refine XS.icmpNo X28.here hx rfl (hb hby d9_6) rfl (teq hc6_4).2 ?_
              show Steps p.tables e below (T28.setTop (mkF m 9 #[.val (.ref ra), .val (.int xq), .val (.int (own_at ss (own_at xs (own_at xs xq)))), .val (.int (own_at xs (own_at xs (own_at xs xq))))] [])) _
              refine XS.iloadN X28.here hx rfl (hb hby d9_9) rfl ?_
              show Steps p.tables e below (T28.setTop (mkF m 10 #[.val (.ref ra), .val (.int xq), .val (.int (own_at ss (own_at xs (own_at xs xq)))), .val (.int (own_at xs (own_at xs (own_at xs xq))))] [(.int (own_at xs (own_at xs (own_at xs xq))))])) _
              refine XS.iconst X28.here hx rfl (hb hby d9_10) ?_
              show Steps p.tables e below (T28.setTop (mkF m 11 #[.val (.ref ra), .val (.int xq), .val (.int (own_at ss (own_at xs (own_at xs xq)))), .val (.int (own_at xs (own_at xs (own_at xs xq))))] [(.int (-1 : Int32)), (.int (own_at xs (own_at xs (own_at xs xq))))])) _
              exact k
            by_cases hc11_4 : (own_at xs (own_at xs (own_at xs xq))) = (-1 : Int32)
            · have pre33 : ∀ t, Steps p.tables e below (T28.setTop (mkF m 32 #[.val (.ref ra), .val (.int xq), .val (.int (own_at ss (own_at xs (own_at xs xq)))), .val (.int (own_at xs (own_at xs (own_at xs xq))))] [(.int (own_at ss (own_at xs (own_at xs xq))))])) t → Steps p.tables e below (s₁.setTop (entryFrame m #[(.ref ra), (.int xq)] 4)) t := by
                intro t k
                refine pre32 t ?_
                refine XS.icmpYes X28.here hx rfl (pc0 := 11) (pc' := 31) rfl (hb hby d9_11) rfl (teq hc11_4).1 (by decide) (by decide) ?_
                show Steps p.tables e below (T28.setTop (mkF m 31 #[.val (.ref ra), .val (.int xq), .val (.int (own_at ss (own_at xs (own_at xs xq)))), .val (.int (own_at xs (own_at xs (own_at xs xq))))] [])) _
                refine XS.iloadN X28.here hx rfl (hb hby d9_31) rfl ?_
                show Steps p.tables e below (T28.setTop (mkF m 32 #[.val (.ref ra), .val (.int xq), .val (.int (own_at ss (own_at xs (own_at xs xq)))), .val (.int (own_at xs (own_at xs (own_at xs xq))))] [(.int (own_at ss (own_at xs (own_at xs xq))))])) _
                exact k
              obtain ⟨fs, hr, hrun, hended, hW, hsame⟩ := X28.leave (v := some (.int (own_at ss (own_at xs (own_at xs xq))))) (fun h => by rw [Bd.returns] at h; cases h)
              refine ⟨_, _, pre33 _ ?_, hrun, hended, _, _, rfl, ?_, ⟨_, rfl⟩, hW, hsame.mono (by decide) (by decide)⟩
              · exact retI X28 hx Bd.returns (hb hby d9_32) hr
              · show Q_rm_sub Z ra xq ki kj xs ss rp rs h0 n0 _ T28.heap _
                rw [e28]
                exact ⟨congrArg (fun z => some (Value.int z)) (show (own_at ss (own_at xs (own_at xs xq))) = (F_rm_sub xq xs ss) from by rw [F_rm_sub, if_pos hc6_2, if_neg hc11_2, if_pos hc6_3, if_neg hc11_3, if_pos hc6_4, if_pos hc11_4]), N0, rfl⟩
            · have pre34 : ∀ t, Steps p.tables e below (T28.setTop (mkF m 15 #[.val (.ref ra), .val (.int xq), .val (.int (own_at ss (own_at xs (own_at xs xq)))), .val (.int (own_at xs (own_at xs (own_at xs xq))))] [(.ref ra)])) t → Steps p.tables e below (s₁.setTop (entryFrame m #[(.ref ra), (.int xq)] 4)) t := by
                intro t k
                refine pre32 t ?_
                refine XS.icmpNo X28.here hx rfl (hb hby d9_11) rfl (feq hc11_4).1 ?_
                show Steps p.tables e below (T28.setTop (mkF m 14 #[.val (.ref ra), .val (.int xq), .val (.int (own_at ss (own_at xs (own_at xs xq)))), .val (.int (own_at xs (own_at xs (own_at xs xq))))] [])) _
                refine XS.aloadN X28.here hx rfl (hb hby d9_14) rfl rfl ?_
                show Steps p.tables e below (T28.setTop (mkF m 15 #[.val (.ref ra), .val (.int xq), .val (.int (own_at ss (own_at xs (own_at xs xq)))), .val (.int (own_at xs (own_at xs (own_at xs xq))))] [(.ref ra)])) _
                exact k
              obtain ⟨T35, X35, e35, st35⟩ := getF X28 hx hZ hown (host := "") (Or.inl (hw _ (List.mem_of_getElem? (i := 86) rfl))) Via.refl e28 F2 (g := (mkF m 15 #[.val (.ref ra), .val (.int xq), .val (.int (own_at ss (own_at xs (own_at xs xq)))), .val (.int (own_at xs (own_at xs (own_at xs xq))))] [(.ref ra)])) rfl rfl (hb hby d9_15)
              have pre36 : ∀ t, Steps p.tables e below (T35.setTop (mkF m 18 #[.val (.ref ra), .val (.int xq), .val (.int (own_at ss (own_at xs (own_at xs xq)))), .val (.int (own_at xs (own_at xs (own_at xs xq))))] [(.ref rs)])) t → Steps p.tables e below (s₁.setTop (entryFrame m #[(.ref ra), (.int xq)] 4)) t := fun t k => pre34 t (st35 t k)
              have pre38 : ∀ t, Steps p.tables e below (T35.setTop (mkF m 22 #[.val (.ref ra), .val (.int xq), .val (.int (own_at ss (own_at xs (own_at xs (own_at xs xq))))), .val (.int (own_at xs (own_at xs (own_at xs xq))))] [(.ref ra)])) t → Steps p.tables e below (s₁.setTop (entryFrame m #[(.ref ra), (.int xq)] 4)) t := by
                intro t k
                refine pre36 t ?_
                refine XS.iloadN X35.here hx rfl (hb hby d9_18) rfl ?_
                show Steps p.tables e below (T35.setTop (mkF m 19 #[.val (.ref ra), .val (.int xq), .val (.int (own_at ss (own_at xs (own_at xs xq)))), .val (.int (own_at xs (own_at xs (own_at xs xq))))] [(.int (own_at xs (own_at xs (own_at xs xq)))), (.ref rs)])) _
                obtain ⟨c37, a37, q37, s37, m37, i37, u37⟩ := id V2
                have hin37 := inb_of (j := (own_at xs (own_at xs (own_at xs xq)))) s37 (own_un2 ((own_un2 ((own_un2 ((own_un2 hP).2 (fun q => q hc6_2) hc11_2)).2 (fun q => q hc6_3) hc11_3)).2 (fun q => q hc6_4) hc11_4)).1
                refine X35.iaload hx (j := (own_at xs (own_at xs (own_at xs xq)))) (v := (.int (own_at ss (own_at xs (own_at xs (own_at xs xq)))))) (by rw [e35]; exact a37.1) (State.isArrayOf_alike hZ.alike a37.2.1) a37.2.2 hin37 (i37.at hin37 (own_getD ss _)) (g := (mkF m 19 #[.val (.ref ra), .val (.int xq), .val (.int (own_at ss (own_at xs (own_at xs xq)))), .val (.int (own_at xs (own_at xs (own_at xs xq))))] [(.int (own_at xs (own_at xs (own_at xs xq)))), (.ref rs)])) rfl rfl (hb hby d9_19) _ ?_
                show Steps p.tables e below (T35.setTop (mkF m 20 #[.val (.ref ra), .val (.int xq), .val (.int (own_at ss (own_at xs (own_at xs xq)))), .val (.int (own_at xs (own_at xs (own_at xs xq))))] [(.int (own_at ss (own_at xs (own_at xs (own_at xs xq)))))])) _
                refine XS.istoreN X35.here hx rfl (hb hby d9_20) rfl (l' := #[.val (.ref ra), .val (.int xq), .val (.int (own_at ss (own_at xs (own_at xs (own_at xs xq))))), .val (.int (own_at xs (own_at xs (own_at xs xq))))]) rfl ?_
                show Steps p.tables e below (T35.setTop (mkF m 21 #[.val (.ref ra), .val (.int xq), .val (.int (own_at ss (own_at xs (own_at xs (own_at xs xq))))), .val (.int (own_at xs (own_at xs (own_at xs xq))))] [])) _
                refine XS.aloadN X35.here hx rfl (hb hby d9_21) rfl rfl ?_
                show Steps p.tables e below (T35.setTop (mkF m 22 #[.val (.ref ra), .val (.int xq), .val (.int (own_at ss (own_at xs (own_at xs (own_at xs xq))))), .val (.int (own_at xs (own_at xs (own_at xs xq))))] [(.ref ra)])) _
                exact k
              obtain ⟨T39, X39, e39, st39⟩ := getF X35 hx hZ hown (host := "") (Or.inl (hw _ (List.mem_of_getElem? (i := 83) rfl))) Via.refl e35 F1 (g := (mkF m 22 #[.val (.ref ra), .val (.int xq), .val (.int (own_at ss (own_at xs (own_at xs (own_at xs xq))))), .val (.int (own_at xs (own_at xs (own_at xs xq))))] [(.ref ra)])) rfl rfl (hb hby d9_22)
              have pre40 : ∀ t, Steps p.tables e below (T39.setTop (mkF m 25 #[.val (.ref ra), .val (.int xq), .val (.int (own_at ss (own_at xs (own_at xs (own_at xs xq))))), .val (.int (own_at xs (own_at xs (own_at xs xq))))] [(.ref rp)])) t → Steps p.tables e below (s₁.setTop (entryFrame m #[(.ref ra), (.int xq)] 4)) t := fun t k => pre38 t (st39 t k)
              have pre42 : ∀ t, Steps p.tables e below (T39.setTop (mkF m 6 #[.val (.ref ra), .val (.int xq), .val (.int (own_at ss (own_at xs (own_at xs (own_at xs xq))))), .val (.int (own_at xs (own_at xs (own_at xs (own_at xs xq)))))] [(.int (-1 : Int32)), (.int (own_at ss (own_at xs (own_at xs (own_at xs xq)))))])) t → Steps p.tables e below (s₁.setTop (entryFrame m #[(.ref ra), (.int xq)] 4)) t := by
                intro t k
                refine pre40 t ?_
                refine XS.iloadN X39.here hx rfl (hb hby d9_25) rfl ?_
                show Steps p.tables e below (T39.setTop (mkF m 26 #[.val (.ref ra), .val (.int xq), .val (.int (own_at ss (own_at xs (own_at xs (own_at xs xq))))), .val (.int (own_at xs (own_at xs (own_at xs xq))))] [(.int (own_at xs (own_at xs (own_at xs xq)))), (.ref rp)])) _
                obtain ⟨c41, a41, q41, s41, m41, i41, u41⟩ := id V1
                have hin41 := inb_of (j := (own_at xs (own_at xs (own_at xs xq)))) s41 (own_un2 ((own_un2 ((own_un2 ((own_un2 hP).2 (fun q => q hc6_2) hc11_2)).2 (fun q => q hc6_3) hc11_3)).2 (fun q => q hc6_4) hc11_4)).1
                refine X39.iaload hx (j := (own_at xs (own_at xs (own_at xs xq)))) (v := (.int (own_at xs (own_at xs (own_at xs (own_at xs xq)))))) (by rw [e39]; exact a41.1) (State.isArrayOf_alike hZ.alike a41.2.1) a41.2.2 hin41 (i41.at hin41 (own_getD xs _)) (g := (mkF m 26 #[.val (.ref ra), .val (.int xq), .val (.int (own_at ss (own_at xs (own_at xs (own_at xs xq))))), .val (.int (own_at xs (own_at xs (own_at xs xq))))] [(.int (own_at xs (own_at xs (own_at xs xq)))), (.ref rp)])) rfl rfl (hb hby d9_26) _ ?_
                show Steps p.tables e below (T39.setTop (mkF m 27 #[.val (.ref ra), .val (.int xq), .val (.int (own_at ss (own_at xs (own_at xs (own_at xs xq))))), .val (.int (own_at xs (own_at xs (own_at xs xq))))] [(.int (own_at xs (own_at xs (own_at xs (own_at xs xq)))))])) _
                refine XS.istoreN X39.here hx rfl (hb hby d9_27) rfl (l' := #[.val (.ref ra), .val (.int xq), .val (.int (own_at ss (own_at xs (own_at xs (own_at xs xq))))), .val (.int (own_at xs (own_at xs (own_at xs (own_at xs xq)))))]) rfl ?_
                show Steps p.tables e below (T39.setTop (mkF m 28 #[.val (.ref ra), .val (.int xq), .val (.int (own_at ss (own_at xs (own_at xs (own_at xs xq))))), .val (.int (own_at xs (own_at xs (own_at xs (own_at xs xq)))))] [])) _
                refine XS.goto X39.here hx rfl (pc0 := 28) (pc' := 4) rfl (hb hby d9_28) (by decide) (by decide) ?_
                show Steps p.tables e below (T39.setTop (mkF m 4 #[.val (.ref ra), .val (.int xq), .val (.int (own_at ss (own_at xs (own_at xs (own_at xs xq))))), .val (.int (own_at xs (own_at xs (own_at xs (own_at xs xq)))))] [])) _
                refine XS.iloadN X39.here hx rfl (hb hby d9_4) rfl ?_
                show Steps p.tables e below (T39.setTop (mkF m 5 #[.val (.ref ra), .val (.int xq), .val (.int (own_at ss (own_at xs (own_at xs (own_at xs xq))))), .val (.int (own_at xs (own_at xs (own_at xs (own_at xs xq)))))] [(.int (own_at ss (own_at xs (own_at xs (own_at xs xq)))))])) _
                refine XS.iconst X39.here hx rfl (hb hby d9_5) ?_
                show Steps p.tables e below (T39.setTop (mkF m 6 #[.val (.ref ra), .val (.int xq), .val (.int (own_at ss (own_at xs (own_at xs (own_at xs xq))))), .val (.int (own_at xs (own_at xs (own_at xs (own_at xs xq)))))] [(.int (-1 : Int32)), (.int (own_at ss (own_at xs (own_at xs (own_at xs xq)))))])) _
                exact k
              by_cases hc6_5 : (own_at ss (own_at xs (own_at xs (own_at xs xq)))) = (-1 : Int32)
              · have pre43 : ∀ t, Steps p.tables e below (T39.setTop (mkF m 11 #[.val (.ref ra), .val (.int xq), .val (.int (own_at ss (own_at xs (own_at xs (own_at xs xq))))), .val (.int (own_at xs (own_at xs (own_at xs (own_at xs xq)))))] [(.int (-1 : Int32)), (.int (own_at xs (own_at xs (own_at xs (own_at xs xq)))))])) t → Steps p.tables e below (s₁.setTop (entryFrame m #[(.ref ra), (.int xq)] 4)) t := by
                  intro t k
                  refine pre42 t ?_
                  refine XS.icmpNo X39.here hx rfl (hb hby d9_6) rfl (teq hc6_5).2 ?_
                  show Steps p.tables e below (T39.setTop (mkF m 9 #[.val (.ref ra), .val (.int xq), .val (.int (own_at ss (own_at xs (own_at xs (own_at xs xq))))), .val (.int (own_at xs (own_at xs (own_at xs (own_at xs xq)))))] [])) _
                  refine XS.iloadN X39.here hx rfl (hb hby d9_9) rfl ?_
                  show Steps p.tables e below (T39.setTop (mkF m 10 #[.val (.ref ra), .val (.int xq), .val (.int (own_at ss (own_at xs (own_at xs (own_at xs xq))))), .val (.int (own_at xs (own_at xs (own_at xs (own_at xs xq)))))] [(.int (own_at xs (own_at xs (own_at xs (own_at xs xq)))))])) _
                  refine XS.iconst X39.here hx rfl (hb hby d9_10) ?_
                  show Steps p.tables e below (T39.setTop (mkF m 11 #[.val (.ref ra), .val (.int xq), .val (.int (own_at ss (own_at xs (own_at xs (own_at xs xq))))), .val (.int (own_at xs (own_at xs (own_at xs (own_at xs xq)))))] [(.int (-1 : Int32)), (.int (own_at xs (own_at xs (own_at xs (own_at xs xq)))))])) _
                  exact k
                by_cases hc11_5 : (own_at xs (own_at xs (own_at xs (own_at xs xq)))) = (-1 : Int32)
                · have pre44 : ∀ t, Steps p.tables e below (T39.setTop (mkF m 32 #[.val (.ref ra), .val (.int xq), .val (.int (own_at ss (own_at xs (own_at xs (own_at xs xq))))), .val (.int (own_at xs (own_at xs (own_at xs (own_at xs xq)))))] [(.int (own_at ss (own_at xs (own_at xs (own_at xs xq)))))])) t → Steps p.tables e below (s₁.setTop (entryFrame m #[(.ref ra), (.int xq)] 4)) t := by
                    intro t k
                    refine pre43 t ?_
                    refine XS.icmpYes X39.here hx rfl (pc0 := 11) (pc' := 31) rfl (hb hby d9_11) rfl (teq hc11_5).1 (by decide) (by decide) ?_
                    show Steps p.tables e below (T39.setTop (mkF m 31 #[.val (.ref ra), .val (.int xq), .val (.int (own_at ss (own_at xs (own_at xs (own_at xs xq))))), .val (.int (own_at xs (own_at xs (own_at xs (own_at xs xq)))))] [])) _
                    refine XS.iloadN X39.here hx rfl (hb hby d9_31) rfl ?_
                    show Steps p.tables e below (T39.setTop (mkF m 32 #[.val (.ref ra), .val (.int xq), .val (.int (own_at ss (own_at xs (own_at xs (own_at xs xq))))), .val (.int (own_at xs (own_at xs (own_at xs (own_at xs xq)))))] [(.int (own_at ss (own_at xs (own_at xs (own_at xs xq)))))])) _
                    exact k
                  obtain ⟨fs, hr, hrun, hended, hW, hsame⟩ := X39.leave (v := some (.int (own_at ss (own_at xs (own_at xs (own_at xs xq)))))) (fun h => by rw [Bd.returns] at h; cases h)
                  refine ⟨_, _, pre44 _ ?_, hrun, hended, _, _, rfl, ?_, ⟨_, rfl⟩, hW, hsame.mono (by decide) (by decide)⟩
                  · exact retI X39 hx Bd.returns (hb hby d9_32) hr
                  · show Q_rm_sub Z ra xq ki kj xs ss rp rs h0 n0 _ T39.heap _
                    rw [e39]
                    exact ⟨congrArg (fun z => some (Value.int z)) (show (own_at ss (own_at xs (own_at xs (own_at xs xq)))) = (F_rm_sub xq xs ss) from by rw [F_rm_sub, if_pos hc6_2, if_neg hc11_2, if_pos hc6_3, if_neg hc11_3, if_pos hc6_4, if_neg hc11_4, if_pos hc6_5, if_pos hc11_5]), N0, rfl⟩
                · have pre45 : ∀ t, Steps p.tables e below (T39.setTop (mkF m 15 #[.val (.ref ra), .val (.int xq), .val (.int (own_at ss (own_at xs (own_at xs (own_at xs xq))))), .val (.int (own_at xs (own_at xs (own_at xs (own_at xs xq)))))] [(.ref ra)])) t → Steps p.tables e below (s₁.setTop (entryFrame m #[(.ref ra), (.int xq)] 4)) t := by
                    intro t k
                    refine pre43 t ?_
                    refine XS.icmpNo X39.here hx rfl (hb hby d9_11) rfl (feq hc11_5).1 ?_
                    show Steps p.tables e below (T39.setTop (mkF m 14 #[.val (.ref ra), .val (.int xq), .val (.int (own_at ss (own_at xs (own_at xs (own_at xs xq))))), .val (.int (own_at xs (own_at xs (own_at xs (own_at xs xq)))))] [])) _
                    refine XS.aloadN X39.here hx rfl (hb hby d9_14) rfl rfl ?_
                    show Steps p.tables e below (T39.setTop (mkF m 15 #[.val (.ref ra), .val (.int xq), .val (.int (own_at ss (own_at xs (own_at xs (own_at xs xq))))), .val (.int (own_at xs (own_at xs (own_at xs (own_at xs xq)))))] [(.ref ra)])) _
                    exact k
                  obtain ⟨T46, X46, e46, st46⟩ := getF X39 hx hZ hown (host := "") (Or.inl (hw _ (List.mem_of_getElem? (i := 86) rfl))) Via.refl e39 F2 (g := (mkF m 15 #[.val (.ref ra), .val (.int xq), .val (.int (own_at ss (own_at xs (own_at xs (own_at xs xq))))), .val (.int (own_at xs (own_at xs (own_at xs (own_at xs xq)))))] [(.ref ra)])) rfl rfl (hb hby d9_15)
                  have pre47 : ∀ t, Steps p.tables e below (T46.setTop (mkF m 18 #[.val (.ref ra), .val (.int xq), .val (.int (own_at ss (own_at xs (own_at xs (own_at xs xq))))), .val (.int (own_at xs (own_at xs (own_at xs (own_at xs xq)))))] [(.ref rs)])) t → Steps p.tables e below (s₁.setTop (entryFrame m #[(.ref ra), (.int xq)] 4)) t := fun t k => pre45 t (st46 t k)
                  have pre49 : ∀ t, Steps p.tables e below (T46.setTop (mkF m 22 #[.val (.ref ra), .val (.int xq), .val (.int (own_at ss (own_at xs (own_at xs (own_at xs (own_at xs xq)))))), .val (.int (own_at xs (own_at xs (own_at xs (own_at xs xq)))))] [(.ref ra)])) t → Steps p.tables e below (s₁.setTop (entryFrame m #[(.ref ra), (.int xq)] 4)) t := by
                    intro t k
                    refine pre47 t ?_
                    refine XS.iloadN X46.here hx rfl (hb hby d9_18) rfl ?_
                    show Steps p.tables e below (T46.setTop (mkF m 19 #[.val (.ref ra), .val (.int xq), .val (.int (own_at ss (own_at xs (own_at xs (own_at xs xq))))), .val (.int (own_at xs (own_at xs (own_at xs (own_at xs xq)))))] [(.int (own_at xs (own_at xs (own_at xs (own_at xs xq))))), (.ref rs)])) _
                    obtain ⟨c48, a48, q48, s48, m48, i48, u48⟩ := id V2
                    have hin48 := inb_of (j := (own_at xs (own_at xs (own_at xs (own_at xs xq))))) s48 (own_un2 ((own_un2 ((own_un2 ((own_un2 ((own_un2 hP).2 (fun q => q hc6_2) hc11_2)).2 (fun q => q hc6_3) hc11_3)).2 (fun q => q hc6_4) hc11_4)).2 (fun q => q hc6_5) hc11_5)).1
                    refine X46.iaload hx (j := (own_at xs (own_at xs (own_at xs (own_at xs xq))))) (v := (.int (own_at ss (own_at xs (own_at xs (own_at xs (own_at xs xq))))))) (by rw [e46]; exact a48.1) (State.isArrayOf_alike hZ.alike a48.2.1) a48.2.2 hin48 (i48.at hin48 (own_getD ss _)) (g := (mkF m 19 #[.val (.ref ra), .val (.int xq), .val (.int (own_at ss (own_at xs (own_at xs (own_at xs xq))))), .val (.int (own_at xs (own_at xs (own_at xs (own_at xs xq)))))] [(.int (own_at xs (own_at xs (own_at xs (own_at xs xq))))), (.ref rs)])) rfl rfl (hb hby d9_19) _ ?_
                    show Steps p.tables e below (T46.setTop (mkF m 20 #[.val (.ref ra), .val (.int xq), .val (.int (own_at ss (own_at xs (own_at xs (own_at xs xq))))), .val (.int (own_at xs (own_at xs (own_at xs (own_at xs xq)))))] [(.int (own_at ss (own_at xs (own_at xs (own_at xs (own_at xs xq))))))])) _
                    refine XS.istoreN X46.here hx rfl (hb hby d9_20) rfl (l' := #[.val (.ref ra), .val (.int xq), .val (.int (own_at ss (own_at xs (own_at xs (own_at xs (own_at xs xq)))))), .val (.int (own_at xs (own_at xs (own_at xs (own_at xs xq)))))]) rfl ?_
                    show Steps p.tables e below (T46.setTop (mkF m 21 #[.val (.ref ra), .val (.int xq), .val (.int (own_at ss (own_at xs (own_at xs (own_at xs (own_at xs xq)))))), .val (.int (own_at xs (own_at xs (own_at xs (own_at xs xq)))))] [])) _
                    refine XS.aloadN X46.here hx rfl (hb hby d9_21) rfl rfl ?_
                    show Steps p.tables e below (T46.setTop (mkF m 22 #[.val (.ref ra), .val (.int xq), .val (.int (own_at ss (own_at xs (own_at xs (own_at xs (own_at xs xq)))))), .val (.int (own_at xs (own_at xs (own_at xs (own_at xs xq)))))] [(.ref ra)])) _
                    exact k
                  obtain ⟨T50, X50, e50, st50⟩ := getF X46 hx hZ hown (host := "") (Or.inl (hw _ (List.mem_of_getElem? (i := 83) rfl))) Via.refl e46 F1 (g := (mkF m 22 #[.val (.ref ra), .val (.int xq), .val (.int (own_at ss (own_at xs (own_at xs (own_at xs (own_at xs xq)))))), .val (.int (own_at xs (own_at xs (own_at xs (own_at xs xq)))))] [(.ref ra)])) rfl rfl (hb hby d9_22)
                  have pre51 : ∀ t, Steps p.tables e below (T50.setTop (mkF m 25 #[.val (.ref ra), .val (.int xq), .val (.int (own_at ss (own_at xs (own_at xs (own_at xs (own_at xs xq)))))), .val (.int (own_at xs (own_at xs (own_at xs (own_at xs xq)))))] [(.ref rp)])) t → Steps p.tables e below (s₁.setTop (entryFrame m #[(.ref ra), (.int xq)] 4)) t := fun t k => pre49 t (st50 t k)
                  have pre53 : ∀ t, Steps p.tables e below (T50.setTop (mkF m 6 #[.val (.ref ra), .val (.int xq), .val (.int (own_at ss (own_at xs (own_at xs (own_at xs (own_at xs xq)))))), .val (.int (own_at xs (own_at xs (own_at xs (own_at xs (own_at xs xq))))))] [(.int (-1 : Int32)), (.int (own_at ss (own_at xs (own_at xs (own_at xs (own_at xs xq))))))])) t → Steps p.tables e below (s₁.setTop (entryFrame m #[(.ref ra), (.int xq)] 4)) t := by
                    intro t k
                    refine pre51 t ?_
                    refine XS.iloadN X50.here hx rfl (hb hby d9_25) rfl ?_
                    show Steps p.tables e below (T50.setTop (mkF m 26 #[.val (.ref ra), .val (.int xq), .val (.int (own_at ss (own_at xs (own_at xs (own_at xs (own_at xs xq)))))), .val (.int (own_at xs (own_at xs (own_at xs (own_at xs xq)))))] [(.int (own_at xs (own_at xs (own_at xs (own_at xs xq))))), (.ref rp)])) _
                    obtain ⟨c52, a52, q52, s52, m52, i52, u52⟩ := id V1
                    have hin52 := inb_of (j := (own_at xs (own_at xs (own_at xs (own_at xs xq))))) s52 (own_un2 ((own_un2 ((own_un2 ((own_un2 ((own_un2 hP).2 (fun q => q hc6_2) hc11_2)).2 (fun q => q hc6_3) hc11_3)).2 (fun q => q hc6_4) hc11_4)).2 (fun q => q hc6_5) hc11_5)).1
                    refine X50.iaload hx (j := (own_at xs (own_at xs (own_at xs (own_at xs xq))))) (v := (.int (own_at xs (own_at xs (own_at xs (own_at xs (own_at xs xq))))))) (by rw [e50]; exact a52.1) (State.isArrayOf_alike hZ.alike a52.2.1) a52.2.2 hin52 (i52.at hin52 (own_getD xs _)) (g := (mkF m 26 #[.val (.ref ra), .val (.int xq), .val (.int (own_at ss (own_at xs (own_at xs (own_at xs (own_at xs xq)))))), .val (.int (own_at xs (own_at xs (own_at xs (own_at xs xq)))))] [(.int (own_at xs (own_at xs (own_at xs (own_at xs xq))))), (.ref rp)])) rfl rfl (hb hby d9_26) _ ?_
                    show Steps p.tables e below (T50.setTop (mkF m 27 #[.val (.ref ra), .val (.int xq), .val (.int (own_at ss (own_at xs (own_at xs (own_at xs (own_at xs xq)))))), .val (.int (own_at xs (own_at xs (own_at xs (own_at xs xq)))))] [(.int (own_at xs (own_at xs (own_at xs (own_at xs (own_at xs xq))))))])) _
                    refine XS.istoreN X50.here hx rfl (hb hby d9_27) rfl (l' := #[.val (.ref ra), .val (.int xq), .val (.int (own_at ss (own_at xs (own_at xs (own_at xs (own_at xs xq)))))), .val (.int (own_at xs (own_at xs (own_at xs (own_at xs (own_at xs xq))))))]) rfl ?_
                    show Steps p.tables e below (T50.setTop (mkF m 28 #[.val (.ref ra), .val (.int xq), .val (.int (own_at ss (own_at xs (own_at xs (own_at xs (own_at xs xq)))))), .val (.int (own_at xs (own_at xs (own_at xs (own_at xs (own_at xs xq))))))] [])) _
                    refine XS.goto X50.here hx rfl (pc0 := 28) (pc' := 4) rfl (hb hby d9_28) (by decide) (by decide) ?_
                    show Steps p.tables e below (T50.setTop (mkF m 4 #[.val (.ref ra), .val (.int xq), .val (.int (own_at ss (own_at xs (own_at xs (own_at xs (own_at xs xq)))))), .val (.int (own_at xs (own_at xs (own_at xs (own_at xs (own_at xs xq))))))] [])) _
                    refine XS.iloadN X50.here hx rfl (hb hby d9_4) rfl ?_
                    show Steps p.tables e below (T50.setTop (mkF m 5 #[.val (.ref ra), .val (.int xq), .val (.int (own_at ss (own_at xs (own_at xs (own_at xs (own_at xs xq)))))), .val (.int (own_at xs (own_at xs (own_at xs (own_at xs (own_at xs xq))))))] [(.int (own_at ss (own_at xs (own_at xs (own_at xs (own_at xs xq))))))])) _
                    refine XS.iconst X50.here hx rfl (hb hby d9_5) ?_
                    show Steps p.tables e below (T50.setTop (mkF m 6 #[.val (.ref ra), .val (.int xq), .val (.int (own_at ss (own_at xs (own_at xs (own_at xs (own_at xs xq)))))), .val (.int (own_at xs (own_at xs (own_at xs (own_at xs (own_at xs xq))))))] [(.int (-1 : Int32)), (.int (own_at ss (own_at xs (own_at xs (own_at xs (own_at xs xq))))))])) _
                    exact k
                  by_cases hc6_6 : (own_at ss (own_at xs (own_at xs (own_at xs (own_at xs xq))))) = (-1 : Int32)
                  · have pre54 : ∀ t, Steps p.tables e below (T50.setTop (mkF m 11 #[.val (.ref ra), .val (.int xq), .val (.int (own_at ss (own_at xs (own_at xs (own_at xs (own_at xs xq)))))), .val (.int (own_at xs (own_at xs (own_at xs (own_at xs (own_at xs xq))))))] [(.int (-1 : Int32)), (.int (own_at xs (own_at xs (own_at xs (own_at xs (own_at xs xq))))))])) t → Steps p.tables e below (s₁.setTop (entryFrame m #[(.ref ra), (.int xq)] 4)) t := by
                      intro t k
                      refine pre53 t ?_
                      refine XS.icmpNo X50.here hx rfl (hb hby d9_6) rfl (teq hc6_6).2 ?_
                      show Steps p.tables e below (T50.setTop (mkF m 9 #[.val (.ref ra), .val (.int xq), .val (.int (own_at ss (own_at xs (own_at xs (own_at xs (own_at xs xq)))))), .val (.int (own_at xs (own_at xs (own_at xs (own_at xs (own_at xs xq))))))] [])) _
                      refine XS.iloadN X50.here hx rfl (hb hby d9_9) rfl ?_
                      show Steps p.tables e below (T50.setTop (mkF m 10 #[.val (.ref ra), .val (.int xq), .val (.int (own_at ss (own_at xs (own_at xs (own_at xs (own_at xs xq)))))), .val (.int (own_at xs (own_at xs (own_at xs (own_at xs (own_at xs xq))))))] [(.int (own_at xs (own_at xs (own_at xs (own_at xs (own_at xs xq))))))])) _
                      refine XS.iconst X50.here hx rfl (hb hby d9_10) ?_
                      show Steps p.tables e below (T50.setTop (mkF m 11 #[.val (.ref ra), .val (.int xq), .val (.int (own_at ss (own_at xs (own_at xs (own_at xs (own_at xs xq)))))), .val (.int (own_at xs (own_at xs (own_at xs (own_at xs (own_at xs xq))))))] [(.int (-1 : Int32)), (.int (own_at xs (own_at xs (own_at xs (own_at xs (own_at xs xq))))))])) _
                      exact k
                    by_cases hc11_6 : (own_at xs (own_at xs (own_at xs (own_at xs (own_at xs xq))))) = (-1 : Int32)
                    · have pre55 : ∀ t, Steps p.tables e below (T50.setTop (mkF m 32 #[.val (.ref ra), .val (.int xq), .val (.int (own_at ss (own_at xs (own_at xs (own_at xs (own_at xs xq)))))), .val (.int (own_at xs (own_at xs (own_at xs (own_at xs (own_at xs xq))))))] [(.int (own_at ss (own_at xs (own_at xs (own_at xs (own_at xs xq))))))])) t → Steps p.tables e below (s₁.setTop (entryFrame m #[(.ref ra), (.int xq)] 4)) t := by
                        intro t k
                        refine pre54 t ?_
                        refine XS.icmpYes X50.here hx rfl (pc0 := 11) (pc' := 31) rfl (hb hby d9_11) rfl (teq hc11_6).1 (by decide) (by decide) ?_
                        show Steps p.tables e below (T50.setTop (mkF m 31 #[.val (.ref ra), .val (.int xq), .val (.int (own_at ss (own_at xs (own_at xs (own_at xs (own_at xs xq)))))), .val (.int (own_at xs (own_at xs (own_at xs (own_at xs (own_at xs xq))))))] [])) _
                        refine XS.iloadN X50.here hx rfl (hb hby d9_31) rfl ?_
                        show Steps p.tables e below (T50.setTop (mkF m 32 #[.val (.ref ra), .val (.int xq), .val (.int (own_at ss (own_at xs (own_at xs (own_at xs (own_at xs xq)))))), .val (.int (own_at xs (own_at xs (own_at xs (own_at xs (own_at xs xq))))))] [(.int (own_at ss (own_at xs (own_at xs (own_at xs (own_at xs xq))))))])) _
                        exact k
                      obtain ⟨fs, hr, hrun, hended, hW, hsame⟩ := X50.leave (v := some (.int (own_at ss (own_at xs (own_at xs (own_at xs (own_at xs xq))))))) (fun h => by rw [Bd.returns] at h; cases h)
                      refine ⟨_, _, pre55 _ ?_, hrun, hended, _, _, rfl, ?_, ⟨_, rfl⟩, hW, hsame.mono (by decide) (by decide)⟩
                      · exact retI X50 hx Bd.returns (hb hby d9_32) hr
                      · show Q_rm_sub Z ra xq ki kj xs ss rp rs h0 n0 _ T50.heap _
                        rw [e50]
                        exact ⟨congrArg (fun z => some (Value.int z)) (show (own_at ss (own_at xs (own_at xs (own_at xs (own_at xs xq))))) = (F_rm_sub xq xs ss) from by rw [F_rm_sub, if_pos hc6_2, if_neg hc11_2, if_pos hc6_3, if_neg hc11_3, if_pos hc6_4, if_neg hc11_4, if_pos hc6_5, if_neg hc11_5, if_pos hc6_6, if_pos hc11_6]), N0, rfl⟩
                    · have pre56 : ∀ t, Steps p.tables e below (T50.setTop (mkF m 15 #[.val (.ref ra), .val (.int xq), .val (.int (own_at ss (own_at xs (own_at xs (own_at xs (own_at xs xq)))))), .val (.int (own_at xs (own_at xs (own_at xs (own_at xs (own_at xs xq))))))] [(.ref ra)])) t → Steps p.tables e below (s₁.setTop (entryFrame m #[(.ref ra), (.int xq)] 4)) t := by
                        intro t k
                        refine pre54 t ?_
                        refine XS.icmpNo X50.here hx rfl (hb hby d9_11) rfl (feq hc11_6).1 ?_
                        show Steps p.tables e below (T50.setTop (mkF m 14 #[.val (.ref ra), .val (.int xq), .val (.int (own_at ss (own_at xs (own_at xs (own_at xs (own_at xs xq)))))), .val (.int (own_at xs (own_at xs (own_at xs (own_at xs (own_at xs xq))))))] [])) _
                        refine XS.aloadN X50.here hx rfl (hb hby d9_14) rfl rfl ?_
                        show Steps p.tables e below (T50.setTop (mkF m 15 #[.val (.ref ra), .val (.int xq), .val (.int (own_at ss (own_at xs (own_at xs (own_at xs (own_at xs xq)))))), .val (.int (own_at xs (own_at xs (own_at xs (own_at xs (own_at xs xq))))))] [(.ref ra)])) _
                        exact k
                      obtain ⟨T57, X57, e57, st57⟩ := getF X50 hx hZ hown (host := "") (Or.inl (hw _ (List.mem_of_getElem? (i := 86) rfl))) Via.refl e50 F2 (g := (mkF m 15 #[.val (.ref ra), .val (.int xq), .val (.int (own_at ss (own_at xs (own_at xs (own_at xs (own_at xs xq)))))), .val (.int (own_at xs (own_at xs (own_at xs (own_at xs (own_at xs xq))))))] [(.ref ra)])) rfl rfl (hb hby d9_15)
                      have pre58 : ∀ t, Steps p.tables e below (T57.setTop (mkF m 18 #[.val (.ref ra), .val (.int xq), .val (.int (own_at ss (own_at xs (own_at xs (own_at xs (own_at xs xq)))))), .val (.int (own_at xs (own_at xs (own_at xs (own_at xs (own_at xs xq))))))] [(.ref rs)])) t → Steps p.tables e below (s₁.setTop (entryFrame m #[(.ref ra), (.int xq)] 4)) t := fun t k => pre56 t (st57 t k)
                      have pre60 : ∀ t, Steps p.tables e below (T57.setTop (mkF m 22 #[.val (.ref ra), .val (.int xq), .val (.int (own_at ss (own_at xs (own_at xs (own_at xs (own_at xs (own_at xs xq))))))), .val (.int (own_at xs (own_at xs (own_at xs (own_at xs (own_at xs xq))))))] [(.ref ra)])) t → Steps p.tables e below (s₁.setTop (entryFrame m #[(.ref ra), (.int xq)] 4)) t := by
                        intro t k
                        refine pre58 t ?_
                        refine XS.iloadN X57.here hx rfl (hb hby d9_18) rfl ?_
                        show Steps p.tables e below (T57.setTop (mkF m 19 #[.val (.ref ra), .val (.int xq), .val (.int (own_at ss (own_at xs (own_at xs (own_at xs (own_at xs xq)))))), .val (.int (own_at xs (own_at xs (own_at xs (own_at xs (own_at xs xq))))))] [(.int (own_at xs (own_at xs (own_at xs (own_at xs (own_at xs xq)))))), (.ref rs)])) _
                        obtain ⟨c59, a59, q59, s59, m59, i59, u59⟩ := id V2
                        have hin59 := inb_of (j := (own_at xs (own_at xs (own_at xs (own_at xs (own_at xs xq)))))) s59 (own_un2 ((own_un2 ((own_un2 ((own_un2 ((own_un2 ((own_un2 hP).2 (fun q => q hc6_2) hc11_2)).2 (fun q => q hc6_3) hc11_3)).2 (fun q => q hc6_4) hc11_4)).2 (fun q => q hc6_5) hc11_5)).2 (fun q => q hc6_6) hc11_6)).1
                        refine X57.iaload hx (j := (own_at xs (own_at xs (own_at xs (own_at xs (own_at xs xq)))))) (v := (.int (own_at ss (own_at xs (own_at xs (own_at xs (own_at xs (own_at xs xq)))))))) (by rw [e57]; exact a59.1) (State.isArrayOf_alike hZ.alike a59.2.1) a59.2.2 hin59 (i59.at hin59 (own_getD ss _)) (g := (mkF m 19 #[.val (.ref ra), .val (.int xq), .val (.int (own_at ss (own_at xs (own_at xs (own_at xs (own_at xs xq)))))), .val (.int (own_at xs (own_at xs (own_at xs (own_at xs (own_at xs xq))))))] [(.int (own_at xs (own_at xs (own_at xs (own_at xs (own_at xs xq)))))), (.ref rs)])) rfl rfl (hb hby d9_19) _ ?_
                        show Steps p.tables e below (T57.setTop (mkF m 20 #[.val (.ref ra), .val (.int xq), .val (.int (own_at ss (own_at xs (own_at xs (own_at xs (own_at xs xq)))))), .val (.int (own_at xs (own_at xs (own_at xs (own_at xs (own_at xs xq))))))] [(.int (own_at ss (own_at xs (own_at xs (own_at xs (own_at xs (own_at xs xq)))))))])) _
                        refine XS.istoreN X57.here hx rfl (hb hby d9_20) rfl (l' := #[.val (.ref ra), .val (.int xq), .val (.int (own_at ss (own_at xs (own_at xs (own_at xs (own_at xs (own_at xs xq))))))), .val (.int (own_at xs (own_at xs (own_at xs (own_at xs (own_at xs xq))))))]) rfl ?_
                        show Steps p.tables e below (T57.setTop (mkF m 21 #[.val (.ref ra), .val (.int xq), .val (.int (own_at ss (own_at xs (own_at xs (own_at xs (own_at xs (own_at xs xq))))))), .val (.int (own_at xs (own_at xs (own_at xs (own_at xs (own_at xs xq))))))] [])) _
                        refine XS.aloadN X57.here hx rfl (hb hby d9_21) rfl rfl ?_
                        show Steps p.tables e below (T57.setTop (mkF m 22 #[.val (.ref ra), .val (.int xq), .val (.int (own_at ss (own_at xs (own_at xs (own_at xs (own_at xs (own_at xs xq))))))), .val (.int (own_at xs (own_at xs (own_at xs (own_at xs (own_at xs xq))))))] [(.ref ra)])) _
                        exact k
                      obtain ⟨T61, X61, e61, st61⟩ := getF X57 hx hZ hown (host := "") (Or.inl (hw _ (List.mem_of_getElem? (i := 83) rfl))) Via.refl e57 F1 (g := (mkF m 22 #[.val (.ref ra), .val (.int xq), .val (.int (own_at ss (own_at xs (own_at xs (own_at xs (own_at xs (own_at xs xq))))))), .val (.int (own_at xs (own_at xs (own_at xs (own_at xs (own_at xs xq))))))] [(.ref ra)])) rfl rfl (hb hby d9_22)
                      have pre62 : ∀ t, Steps p.tables e below (T61.setTop (mkF m 25 #[.val (.ref ra), .val (.int xq), .val (.int (own_at ss (own_at xs (own_at xs (own_at xs (own_at xs (own_at xs xq))))))), .val (.int (own_at xs (own_at xs (own_at xs (own_at xs (own_at xs xq))))))] [(.ref rp)])) t → Steps p.tables e below (s₁.setTop (entryFrame m #[(.ref ra), (.int xq)] 4)) t := fun t k => pre60 t (st61 t k)
                      have pre64 : ∀ t, Steps p.tables e below (T61.setTop (mkF m 6 #[.val (.ref ra), .val (.int xq), .val (.int (own_at ss (own_at xs (own_at xs (own_at xs (own_at xs (own_at xs xq))))))), .val (.int (own_at xs (own_at xs (own_at xs (own_at xs (own_at xs (own_at xs xq)))))))] [(.int (-1 : Int32)), (.int (own_at ss (own_at xs (own_at xs (own_at xs (own_at xs (own_at xs xq)))))))])) t → Steps p.tables e below (s₁.setTop (entryFrame m #[(.ref ra), (.int xq)] 4)) t := by
                        intro t k
                        refine pre62 t ?_
                        refine XS.iloadN X61.here hx rfl (hb hby d9_25) rfl ?_
                        show Steps p.tables e below (T61.setTop (mkF m 26 #[.val (.ref ra), .val (.int xq), .val (.int (own_at ss (own_at xs (own_at xs (own_at xs (own_at xs (own_at xs xq))))))), .val (.int (own_at xs (own_at xs (own_at xs (own_at xs (own_at xs xq))))))] [(.int (own_at xs (own_at xs (own_at xs (own_at xs (own_at xs xq)))))), (.ref rp)])) _
                        obtain ⟨c63, a63, q63, s63, m63, i63, u63⟩ := id V1
                        have hin63 := inb_of (j := (own_at xs (own_at xs (own_at xs (own_at xs (own_at xs xq)))))) s63 (own_un2 ((own_un2 ((own_un2 ((own_un2 ((own_un2 ((own_un2 hP).2 (fun q => q hc6_2) hc11_2)).2 (fun q => q hc6_3) hc11_3)).2 (fun q => q hc6_4) hc11_4)).2 (fun q => q hc6_5) hc11_5)).2 (fun q => q hc6_6) hc11_6)).1
                        refine X61.iaload hx (j := (own_at xs (own_at xs (own_at xs (own_at xs (own_at xs xq)))))) (v := (.int (own_at xs (own_at xs (own_at xs (own_at xs (own_at xs (own_at xs xq)))))))) (by rw [e61]; exact a63.1) (State.isArrayOf_alike hZ.alike a63.2.1) a63.2.2 hin63 (i63.at hin63 (own_getD xs _)) (g := (mkF m 26 #[.val (.ref ra), .val (.int xq), .val (.int (own_at ss (own_at xs (own_at xs (own_at xs (own_at xs (own_at xs xq))))))), .val (.int (own_at xs (own_at xs (own_at xs (own_at xs (own_at xs xq))))))] [(.int (own_at xs (own_at xs (own_at xs (own_at xs (own_at xs xq)))))), (.ref rp)])) rfl rfl (hb hby d9_26) _ ?_
                        show Steps p.tables e below (T61.setTop (mkF m 27 #[.val (.ref ra), .val (.int xq), .val (.int (own_at ss (own_at xs (own_at xs (own_at xs (own_at xs (own_at xs xq))))))), .val (.int (own_at xs (own_at xs (own_at xs (own_at xs (own_at xs xq))))))] [(.int (own_at xs (own_at xs (own_at xs (own_at xs (own_at xs (own_at xs xq)))))))])) _
                        refine XS.istoreN X61.here hx rfl (hb hby d9_27) rfl (l' := #[.val (.ref ra), .val (.int xq), .val (.int (own_at ss (own_at xs (own_at xs (own_at xs (own_at xs (own_at xs xq))))))), .val (.int (own_at xs (own_at xs (own_at xs (own_at xs (own_at xs (own_at xs xq)))))))]) rfl ?_
                        show Steps p.tables e below (T61.setTop (mkF m 28 #[.val (.ref ra), .val (.int xq), .val (.int (own_at ss (own_at xs (own_at xs (own_at xs (own_at xs (own_at xs xq))))))), .val (.int (own_at xs (own_at xs (own_at xs (own_at xs (own_at xs (own_at xs xq)))))))] [])) _
                        refine XS.goto X61.here hx rfl (pc0 := 28) (pc' := 4) rfl (hb hby d9_28) (by decide) (by decide) ?_
                        show Steps p.tables e below (T61.setTop (mkF m 4 #[.val (.ref ra), .val (.int xq), .val (.int (own_at ss (own_at xs (own_at xs (own_at xs (own_at xs (own_at xs xq))))))), .val (.int (own_at xs (own_at xs (own_at xs (own_at xs (own_at xs (own_at xs xq)))))))] [])) _
                        refine XS.iloadN X61.here hx rfl (hb hby d9_4) rfl ?_
                        show Steps p.tables e below (T61.setTop (mkF m 5 #[.val (.ref ra), .val (.int xq), .val (.int (own_at ss (own_at xs (own_at xs (own_at xs (own_at xs (own_at xs xq))))))), .val (.int (own_at xs (own_at xs (own_at xs (own_at xs (own_at xs (own_at xs xq)))))))] [(.int (own_at ss (own_at xs (own_at xs (own_at xs (own_at xs (own_at xs xq)))))))])) _
                        refine XS.iconst X61.here hx rfl (hb hby d9_5) ?_
                        show Steps p.tables e below (T61.setTop (mkF m 6 #[.val (.ref ra), .val (.int xq), .val (.int (own_at ss (own_at xs (own_at xs (own_at xs (own_at xs (own_at xs xq))))))), .val (.int (own_at xs (own_at xs (own_at xs (own_at xs (own_at xs (own_at xs xq)))))))] [(.int (-1 : Int32)), (.int (own_at ss (own_at xs (own_at xs (own_at xs (own_at xs (own_at xs xq)))))))])) _
                        exact k
                      by_cases hc6_7 : (own_at ss (own_at xs (own_at xs (own_at xs (own_at xs (own_at xs xq)))))) = (-1 : Int32)
                      · have pre65 : ∀ t, Steps p.tables e below (T61.setTop (mkF m 32 #[.val (.ref ra), .val (.int xq), .val (.int (own_at ss (own_at xs (own_at xs (own_at xs (own_at xs (own_at xs xq))))))), .val (.int (own_at xs (own_at xs (own_at xs (own_at xs (own_at xs (own_at xs xq)))))))] [(.int (own_at ss (own_at xs (own_at xs (own_at xs (own_at xs (own_at xs xq)))))))])) t → Steps p.tables e below (s₁.setTop (entryFrame m #[(.ref ra), (.int xq)] 4)) t := by
                          intro t k
                          refine pre64 t ?_
                          refine XS.icmpNo X61.here hx rfl (hb hby d9_6) rfl (teq hc6_7).2 ?_
                          show Steps p.tables e below (T61.setTop (mkF m 9 #[.val (.ref ra), .val (.int xq), .val (.int (own_at ss (own_at xs (own_at xs (own_at xs (own_at xs (own_at xs xq))))))), .val (.int (own_at xs (own_at xs (own_at xs (own_at xs (own_at xs (own_at xs xq)))))))] [])) _
                          refine XS.iloadN X61.here hx rfl (hb hby d9_9) rfl ?_
                          show Steps p.tables e below (T61.setTop (mkF m 10 #[.val (.ref ra), .val (.int xq), .val (.int (own_at ss (own_at xs (own_at xs (own_at xs (own_at xs (own_at xs xq))))))), .val (.int (own_at xs (own_at xs (own_at xs (own_at xs (own_at xs (own_at xs xq)))))))] [(.int (own_at xs (own_at xs (own_at xs (own_at xs (own_at xs (own_at xs xq)))))))])) _
                          refine XS.iconst X61.here hx rfl (hb hby d9_10) ?_
                          show Steps p.tables e below (T61.setTop (mkF m 11 #[.val (.ref ra), .val (.int xq), .val (.int (own_at ss (own_at xs (own_at xs (own_at xs (own_at xs (own_at xs xq))))))), .val (.int (own_at xs (own_at xs (own_at xs (own_at xs (own_at xs (own_at xs xq)))))))] [(.int (-1 : Int32)), (.int (own_at xs (own_at xs (own_at xs (own_at xs (own_at xs (own_at xs xq)))))))])) _
                          refine XS.icmpYes X61.here hx rfl (pc0 := 11) (pc' := 31) rfl (hb hby d9_11) rfl (teq (show (own_at xs (own_at xs (own_at xs (own_at xs (own_at xs (own_at xs xq)))))) = (-1 : Int32) from (Decidable.byContradiction fun q => by cases (own_un2 ((own_un2 ((own_un2 ((own_un2 ((own_un2 ((own_un2 hP).2 (fun q => q hc6_2) hc11_2)).2 (fun q => q hc6_3) hc11_3)).2 (fun q => q hc6_4) hc11_4)).2 (fun q => q hc6_5) hc11_5)).2 (fun q => q hc6_6) hc11_6)).2 (fun q => q hc6_7) q))).1 (by decide) (by decide) ?_
                          show Steps p.tables e below (T61.setTop (mkF m 31 #[.val (.ref ra), .val (.int xq), .val (.int (own_at ss (own_at xs (own_at xs (own_at xs (own_at xs (own_at xs xq))))))), .val (.int (own_at xs (own_at xs (own_at xs (own_at xs (own_at xs (own_at xs xq)))))))] [])) _
                          refine XS.iloadN X61.here hx rfl (hb hby d9_31) rfl ?_
                          show Steps p.tables e below (T61.setTop (mkF m 32 #[.val (.ref ra), .val (.int xq), .val (.int (own_at ss (own_at xs (own_at xs (own_at xs (own_at xs (own_at xs xq))))))), .val (.int (own_at xs (own_at xs (own_at xs (own_at xs (own_at xs (own_at xs xq)))))))] [(.int (own_at ss (own_at xs (own_at xs (own_at xs (own_at xs (own_at xs xq)))))))])) _
                          exact k
                        obtain ⟨fs, hr, hrun, hended, hW, hsame⟩ := X61.leave (v := some (.int (own_at ss (own_at xs (own_at xs (own_at xs (own_at xs (own_at xs xq)))))))) (fun h => by rw [Bd.returns] at h; cases h)
                        refine ⟨_, _, pre65 _ ?_, hrun, hended, _, _, rfl, ?_, ⟨_, rfl⟩, hW, hsame.mono (by decide) (by decide)⟩
                        · exact retI X61 hx Bd.returns (hb hby d9_32) hr
                        · show Q_rm_sub Z ra xq ki kj xs ss rp rs h0 n0 _ T61.heap _
                          rw [e61]
                          exact ⟨congrArg (fun z => some (Value.int z)) (show (own_at ss (own_at xs (own_at xs (own_at xs (own_at xs (own_at xs xq)))))) = (F_rm_sub xq xs ss) from by rw [F_rm_sub, if_pos hc6_2, if_neg hc11_2, if_pos hc6_3, if_neg hc11_3, if_pos hc6_4, if_neg hc11_4, if_pos hc6_5, if_neg hc11_5, if_pos hc6_6, if_neg hc11_6, if_pos hc6_7]), N0, rfl⟩
                      · have pre66 : ∀ t, Steps p.tables e below (T61.setTop (mkF m 32 #[.val (.ref ra), .val (.int xq), .val (.int (own_at ss (own_at xs (own_at xs (own_at xs (own_at xs (own_at xs xq))))))), .val (.int (own_at xs (own_at xs (own_at xs (own_at xs (own_at xs (own_at xs xq)))))))] [(.int (own_at ss (own_at xs (own_at xs (own_at xs (own_at xs (own_at xs xq)))))))])) t → Steps p.tables e below (s₁.setTop (entryFrame m #[(.ref ra), (.int xq)] 4)) t := by
                          intro t k
                          refine pre64 t ?_
                          refine XS.icmpYes X61.here hx rfl (pc0 := 6) (pc' := 31) rfl (hb hby d9_6) rfl (feq hc6_7).2 (by decide) (by decide) ?_
                          show Steps p.tables e below (T61.setTop (mkF m 31 #[.val (.ref ra), .val (.int xq), .val (.int (own_at ss (own_at xs (own_at xs (own_at xs (own_at xs (own_at xs xq))))))), .val (.int (own_at xs (own_at xs (own_at xs (own_at xs (own_at xs (own_at xs xq)))))))] [])) _
                          refine XS.iloadN X61.here hx rfl (hb hby d9_31) rfl ?_
                          show Steps p.tables e below (T61.setTop (mkF m 32 #[.val (.ref ra), .val (.int xq), .val (.int (own_at ss (own_at xs (own_at xs (own_at xs (own_at xs (own_at xs xq))))))), .val (.int (own_at xs (own_at xs (own_at xs (own_at xs (own_at xs (own_at xs xq)))))))] [(.int (own_at ss (own_at xs (own_at xs (own_at xs (own_at xs (own_at xs xq)))))))])) _
                          exact k
                        obtain ⟨fs, hr, hrun, hended, hW, hsame⟩ := X61.leave (v := some (.int (own_at ss (own_at xs (own_at xs (own_at xs (own_at xs (own_at xs xq)))))))) (fun h => by rw [Bd.returns] at h; cases h)
                        refine ⟨_, _, pre66 _ ?_, hrun, hended, _, _, rfl, ?_, ⟨_, rfl⟩, hW, hsame.mono (by decide) (by decide)⟩
                        · exact retI X61 hx Bd.returns (hb hby d9_32) hr
                        · show Q_rm_sub Z ra xq ki kj xs ss rp rs h0 n0 _ T61.heap _
                          rw [e61]
                          exact ⟨congrArg (fun z => some (Value.int z)) (show (own_at ss (own_at xs (own_at xs (own_at xs (own_at xs (own_at xs xq)))))) = (F_rm_sub xq xs ss) from by rw [F_rm_sub, if_pos hc6_2, if_neg hc11_2, if_pos hc6_3, if_neg hc11_3, if_pos hc6_4, if_neg hc11_4, if_pos hc6_5, if_neg hc11_5, if_pos hc6_6, if_neg hc11_6, if_neg hc6_7]), N0, rfl⟩
                  · have pre67 : ∀ t, Steps p.tables e below (T50.setTop (mkF m 32 #[.val (.ref ra), .val (.int xq), .val (.int (own_at ss (own_at xs (own_at xs (own_at xs (own_at xs xq)))))), .val (.int (own_at xs (own_at xs (own_at xs (own_at xs (own_at xs xq))))))] [(.int (own_at ss (own_at xs (own_at xs (own_at xs (own_at xs xq))))))])) t → Steps p.tables e below (s₁.setTop (entryFrame m #[(.ref ra), (.int xq)] 4)) t := by
                      intro t k
                      refine pre53 t ?_
                      refine XS.icmpYes X50.here hx rfl (pc0 := 6) (pc' := 31) rfl (hb hby d9_6) rfl (feq hc6_6).2 (by decide) (by decide) ?_
                      show Steps p.tables e below (T50.setTop (mkF m 31 #[.val (.ref ra), .val (.int xq), .val (.int (own_at ss (own_at xs (own_at xs (own_at xs (own_at xs xq)))))), .val (.int (own_at xs (own_at xs (own_at xs (own_at xs (own_at xs xq))))))] [])) _
                      refine XS.iloadN X50.here hx rfl (hb hby d9_31) rfl ?_
                      show Steps p.tables e below (T50.setTop (mkF m 32 #[.val (.ref ra), .val (.int xq), .val (.int (own_at ss (own_at xs (own_at xs (own_at xs (own_at xs xq)))))), .val (.int (own_at xs (own_at xs (own_at xs (own_at xs (own_at xs xq))))))] [(.int (own_at ss (own_at xs (own_at xs (own_at xs (own_at xs xq))))))])) _
                      exact k
                    obtain ⟨fs, hr, hrun, hended, hW, hsame⟩ := X50.leave (v := some (.int (own_at ss (own_at xs (own_at xs (own_at xs (own_at xs xq))))))) (fun h => by rw [Bd.returns] at h; cases h)
                    refine ⟨_, _, pre67 _ ?_, hrun, hended, _, _, rfl, ?_, ⟨_, rfl⟩, hW, hsame.mono (by decide) (by decide)⟩
                    · exact retI X50 hx Bd.returns (hb hby d9_32) hr
                    · show Q_rm_sub Z ra xq ki kj xs ss rp rs h0 n0 _ T50.heap _
                      rw [e50]
                      exact ⟨congrArg (fun z => some (Value.int z)) (show (own_at ss (own_at xs (own_at xs (own_at xs (own_at xs xq))))) = (F_rm_sub xq xs ss) from by rw [F_rm_sub, if_pos hc6_2, if_neg hc11_2, if_pos hc6_3, if_neg hc11_3, if_pos hc6_4, if_neg hc11_4, if_pos hc6_5, if_neg hc11_5, if_neg hc6_6]), N0, rfl⟩
              · have pre68 : ∀ t, Steps p.tables e below (T39.setTop (mkF m 32 #[.val (.ref ra), .val (.int xq), .val (.int (own_at ss (own_at xs (own_at xs (own_at xs xq))))), .val (.int (own_at xs (own_at xs (own_at xs (own_at xs xq)))))] [(.int (own_at ss (own_at xs (own_at xs (own_at xs xq)))))])) t → Steps p.tables e below (s₁.setTop (entryFrame m #[(.ref ra), (.int xq)] 4)) t := by
                  intro t k
                  refine pre42 t ?_
                  refine XS.icmpYes X39.here hx rfl (pc0 := 6) (pc' := 31) rfl (hb hby d9_6) rfl (feq hc6_5).2 (by decide) (by decide) ?_
                  show Steps p.tables e below (T39.setTop (mkF m 31 #[.val (.ref ra), .val (.int xq), .val (.int (own_at ss (own_at xs (own_at xs (own_at xs xq))))), .val (.int (own_at xs (own_at xs (own_at xs (own_at xs xq)))))] [])) _
                  refine XS.iloadN X39.here hx rfl (hb hby d9_31) rfl ?_
                  show Steps p.tables e below (T39.setTop (mkF m 32 #[.val (.ref ra), .val (.int xq), .val (.int (own_at ss (own_at xs (own_at xs (own_at xs xq))))), .val (.int (own_at xs (own_at xs (own_at xs (own_at xs xq)))))] [(.int (own_at ss (own_at xs (own_at xs (own_at xs xq)))))])) _
                  exact k
                obtain ⟨fs, hr, hrun, hended, hW, hsame⟩ := X39.leave (v := some (.int (own_at ss (own_at xs (own_at xs (own_at xs xq)))))) (fun h => by rw [Bd.returns] at h; cases h)
                refine ⟨_, _, pre68 _ ?_, hrun, hended, _, _, rfl, ?_, ⟨_, rfl⟩, hW, hsame.mono (by decide) (by decide)⟩
                · exact retI X39 hx Bd.returns (hb hby d9_32) hr
                · show Q_rm_sub Z ra xq ki kj xs ss rp rs h0 n0 _ T39.heap _
                  rw [e39]
                  exact ⟨congrArg (fun z => some (Value.int z)) (show (own_at ss (own_at xs (own_at xs (own_at xs xq)))) = (F_rm_sub xq xs ss) from by rw [F_rm_sub, if_pos hc6_2, if_neg hc11_2, if_pos hc6_3, if_neg hc11_3, if_pos hc6_4, if_neg hc11_4, if_neg hc6_5]), N0, rfl⟩
          · have pre69 : ∀ t, Steps p.tables e below (T28.setTop (mkF m 32 #[.val (.ref ra), .val (.int xq), .val (.int (own_at ss (own_at xs (own_at xs xq)))), .val (.int (own_at xs (own_at xs (own_at xs xq))))] [(.int (own_at ss (own_at xs (own_at xs xq))))])) t → Steps p.tables e below (s₁.setTop (entryFrame m #[(.ref ra), (.int xq)] 4)) t := by
              intro t k
              refine pre31 t ?_
              refine XS.icmpYes X28.here hx rfl (pc0 := 6) (pc' := 31) rfl (hb hby d9_6) rfl (feq hc6_4).2 (by decide) (by decide) ?_
              show Steps p.tables e below (T28.setTop (mkF m 31 #[.val (.ref ra), .val (.int xq), .val (.int (own_at ss (own_at xs (own_at xs xq)))), .val (.int (own_at xs (own_at xs (own_at xs xq))))] [])) _
              refine XS.iloadN X28.here hx rfl (hb hby d9_31) rfl ?_
              show Steps p.tables e below (T28.setTop (mkF m 32 #[.val (.ref ra), .val (.int xq), .val (.int (own_at ss (own_at xs (own_at xs xq)))), .val (.int (own_at xs (own_at xs (own_at xs xq))))] [(.int (own_at ss (own_at xs (own_at xs xq))))])) _
              exact k
            obtain ⟨fs, hr, hrun, hended, hW, hsame⟩ := X28.leave (v := some (.int (own_at ss (own_at xs (own_at xs xq))))) (fun h => by rw [Bd.returns] at h; cases h)
            refine ⟨_, _, pre69 _ ?_, hrun, hended, _, _, rfl, ?_, ⟨_, rfl⟩, hW, hsame.mono (by decide) (by decide)⟩
            · exact retI X28 hx Bd.returns (hb hby d9_32) hr
            · show Q_rm_sub Z ra xq ki kj xs ss rp rs h0 n0 _ T28.heap _
              rw [e28]
              exact ⟨congrArg (fun z => some (Value.int z)) (show (own_at ss (own_at xs (own_at xs xq))) = (F_rm_sub xq xs ss) from by rw [F_rm_sub, if_pos hc6_2, if_neg hc11_2, if_pos hc6_3, if_neg hc11_3, if_neg hc6_4]), N0, rfl⟩
      · have pre70 : ∀ t, Steps p.tables e below (T17.setTop (mkF m 32 #[.val (.ref ra), .val (.int xq), .val (.int (own_at ss (own_at xs xq))), .val (.int (own_at xs (own_at xs xq)))] [(.int (own_at ss (own_at xs xq)))])) t → Steps p.tables e below (s₁.setTop (entryFrame m #[(.ref ra), (.int xq)] 4)) t := by
          intro t k
          refine pre20 t ?_
          refine XS.icmpYes X17.here hx rfl (pc0 := 6) (pc' := 31) rfl (hb hby d9_6) rfl (feq hc6_3).2 (by decide) (by decide) ?_
          show Steps p.tables e below (T17.setTop (mkF m 31 #[.val (.ref ra), .val (.int xq), .val (.int (own_at ss (own_at xs xq))), .val (.int (own_at xs (own_at xs xq)))] [])) _
          refine XS.iloadN X17.here hx rfl (hb hby d9_31) rfl ?_
          show Steps p.tables e below (T17.setTop (mkF m 32 #[.val (.ref ra), .val (.int xq), .val (.int (own_at ss (own_at xs xq))), .val (.int (own_at xs (own_at xs xq)))] [(.int (own_at ss (own_at xs xq)))])) _
          exact k
        obtain ⟨fs, hr, hrun, hended, hW, hsame⟩ := X17.leave (v := some (.int (own_at ss (own_at xs xq)))) (fun h => by rw [Bd.returns] at h; cases h)
        refine ⟨_, _, pre70 _ ?_, hrun, hended, _, _, rfl, ?_, ⟨_, rfl⟩, hW, hsame.mono (by decide) (by decide)⟩
        · exact retI X17 hx Bd.returns (hb hby d9_32) hr
        · show Q_rm_sub Z ra xq ki kj xs ss rp rs h0 n0 _ T17.heap _
          rw [e17]
          exact ⟨congrArg (fun z => some (Value.int z)) (show (own_at ss (own_at xs xq)) = (F_rm_sub xq xs ss) from by rw [F_rm_sub, if_pos hc6_2, if_neg hc11_2, if_neg hc6_3]), N0, rfl⟩
  · have pre71 : ∀ t, Steps p.tables e below (T6.setTop (mkF m 32 #[.val (.ref ra), .val (.int xq), .val (.int (own_at ss xq)), .val (.int (own_at xs xq))] [(.int (own_at ss xq))])) t → Steps p.tables e below (s₁.setTop (entryFrame m #[(.ref ra), (.int xq)] 4)) t := by
      intro t k
      refine pre9 t ?_
      refine XS.icmpYes X6.here hx rfl (pc0 := 6) (pc' := 31) rfl (hb hby d9_6) rfl (feq hc6_2).2 (by decide) (by decide) ?_
      show Steps p.tables e below (T6.setTop (mkF m 31 #[.val (.ref ra), .val (.int xq), .val (.int (own_at ss xq)), .val (.int (own_at xs xq))] [])) _
      refine XS.iloadN X6.here hx rfl (hb hby d9_31) rfl ?_
      show Steps p.tables e below (T6.setTop (mkF m 32 #[.val (.ref ra), .val (.int xq), .val (.int (own_at ss xq)), .val (.int (own_at xs xq))] [(.int (own_at ss xq))])) _
      exact k
    obtain ⟨fs, hr, hrun, hended, hW, hsame⟩ := X6.leave (v := some (.int (own_at ss xq))) (fun h => by rw [Bd.returns] at h; cases h)
    refine ⟨_, _, pre71 _ ?_, hrun, hended, _, _, rfl, ?_, ⟨_, rfl⟩, hW, hsame.mono (by decide) (by decide)⟩
    · exact retI X6 hx Bd.returns (hb hby d9_32) hr
    · show Q_rm_sub Z ra xq ki kj xs ss rp rs h0 n0 _ T6.heap _
      rw [e6]
      exact ⟨congrArg (fun z => some (Value.int z)) (show (own_at ss xq) = (F_rm_sub xq xs ss) from by rw [F_rm_sub, if_neg hc6_2]), N0, rfl⟩
theorem own_okP (p2 p3 p4 p5 s0 s1 s2 s3 s4 s5 qq : Int32) (G : own_G5 p2 p3 p4 p5) (hq : own_in qq) (k0 : s0 = (F_rm_next (0 : Int32) ([(-1 : Int32), (0 : Int32), p2, p3, p4, p5] : List Int32))) (k1 : s1 = (F_rm_next (1 : Int32) ([(-1 : Int32), (0 : Int32), p2, p3, p4, p5] : List Int32))) (k2 : s2 = (F_rm_next (2 : Int32) ([(-1 : Int32), (0 : Int32), p2, p3, p4, p5] : List Int32))) (k3 : s3 = (F_rm_next (3 : Int32) ([(-1 : Int32), (0 : Int32), p2, p3, p4, p5] : List Int32))) (k4 : s4 = (F_rm_next (4 : Int32) ([(-1 : Int32), (0 : Int32), p2, p3, p4, p5] : List Int32))) (k5 : s5 = (F_rm_next (5 : Int32) ([(-1 : Int32), (0 : Int32), p2, p3, p4, p5] : List Int32))) : own_P ([(-1 : Int32), (0 : Int32), p2, p3, p4, p5] : List Int32) ([s0, s1, s2, s3, s4, s5] : List Int32) qq = true := by
  subst k0 k1 k2 k3 k4 k5
  obtain ⟨c2, c3, c4, c5, rfl, rfl, rfl, rfl⟩ := G
  obtain ⟨i, rfl⟩ := own_in_fin qq hq
  exact (by decide +kernel : ∀ c2 : Fin 2, ∀ c3 : Fin 3, ∀ c4 : Fin 4, ∀ c5 : Fin 5, ∀ i : Fin 6, own_P ([(-1 : Int32), (0 : Int32), (own_P2 c2), (own_P3 c2 c3), (own_P4 c2 c3 c4), (own_P5 c2 c3 c4 c5)] : List Int32) ([(F_rm_next (0 : Int32) ([(-1 : Int32), (0 : Int32), (own_P2 c2), (own_P3 c2 c3), (own_P4 c2 c3 c4), (own_P5 c2 c3 c4 c5)] : List Int32)), (F_rm_next (1 : Int32) ([(-1 : Int32), (0 : Int32), (own_P2 c2), (own_P3 c2 c3), (own_P4 c2 c3 c4), (own_P5 c2 c3 c4 c5)] : List Int32)), (F_rm_next (2 : Int32) ([(-1 : Int32), (0 : Int32), (own_P2 c2), (own_P3 c2 c3), (own_P4 c2 c3 c4), (own_P5 c2 c3 c4 c5)] : List Int32)), (F_rm_next (3 : Int32) ([(-1 : Int32), (0 : Int32), (own_P2 c2), (own_P3 c2 c3), (own_P4 c2 c3 c4), (own_P5 c2 c3 c4 c5)] : List Int32)), (F_rm_next (4 : Int32) ([(-1 : Int32), (0 : Int32), (own_P2 c2), (own_P3 c2 c3), (own_P4 c2 c3 c4), (own_P5 c2 c3 c4 c5)] : List Int32)), (F_rm_next (5 : Int32) ([(-1 : Int32), (0 : Int32), (own_P2 c2), (own_P3 c2 c3), (own_P4 c2 c3 c4), (own_P5 c2 c3 c4 c5)] : List Int32))] : List Int32) (own_n i) = true) c2 c3 c4 c5 i
theorem own_fin (p2 p3 p4 p5 s0 s1 s2 s3 s4 s5 qq : Int32) (G : own_G5 p2 p3 p4 p5) (hq : own_in qq) (k0 : s0 = (F_rm_next (0 : Int32) ([(-1 : Int32), (0 : Int32), p2, p3, p4, p5] : List Int32))) (k1 : s1 = (F_rm_next (1 : Int32) ([(-1 : Int32), (0 : Int32), p2, p3, p4, p5] : List Int32))) (k2 : s2 = (F_rm_next (2 : Int32) ([(-1 : Int32), (0 : Int32), p2, p3, p4, p5] : List Int32))) (k3 : s3 = (F_rm_next (3 : Int32) ([(-1 : Int32), (0 : Int32), p2, p3, p4, p5] : List Int32))) (k4 : s4 = (F_rm_next (4 : Int32) ([(-1 : Int32), (0 : Int32), p2, p3, p4, p5] : List Int32))) (k5 : s5 = (F_rm_next (5 : Int32) ([(-1 : Int32), (0 : Int32), p2, p3, p4, p5] : List Int32))) : (F_rm_sub qq ([(-1 : Int32), (0 : Int32), p2, p3, p4, p5] : List Int32) ([s0, s1, s2, s3, s4, s5] : List Int32)) = (F_rm_after qq ([(-1 : Int32), (0 : Int32), p2, p3, p4, p5] : List Int32)) := by
  subst k0 k1 k2 k3 k4 k5
  obtain ⟨c2, c3, c4, c5, rfl, rfl, rfl, rfl⟩ := G
  obtain ⟨i, rfl⟩ := own_in_fin qq hq
  exact (by decide +kernel : ∀ c2 : Fin 2, ∀ c3 : Fin 3, ∀ c4 : Fin 4, ∀ c5 : Fin 5, ∀ i : Fin 6, (F_rm_sub (own_n i) ([(-1 : Int32), (0 : Int32), (own_P2 c2), (own_P3 c2 c3), (own_P4 c2 c3 c4), (own_P5 c2 c3 c4 c5)] : List Int32) ([(F_rm_next (0 : Int32) ([(-1 : Int32), (0 : Int32), (own_P2 c2), (own_P3 c2 c3), (own_P4 c2 c3 c4), (own_P5 c2 c3 c4 c5)] : List Int32)), (F_rm_next (1 : Int32) ([(-1 : Int32), (0 : Int32), (own_P2 c2), (own_P3 c2 c3), (own_P4 c2 c3 c4), (own_P5 c2 c3 c4 c5)] : List Int32)), (F_rm_next (2 : Int32) ([(-1 : Int32), (0 : Int32), (own_P2 c2), (own_P3 c2 c3), (own_P4 c2 c3 c4), (own_P5 c2 c3 c4 c5)] : List Int32)), (F_rm_next (3 : Int32) ([(-1 : Int32), (0 : Int32), (own_P2 c2), (own_P3 c2 c3), (own_P4 c2 c3 c4), (own_P5 c2 c3 c4 c5)] : List Int32)), (F_rm_next (4 : Int32) ([(-1 : Int32), (0 : Int32), (own_P2 c2), (own_P3 c2 c3), (own_P4 c2 c3 c4), (own_P5 c2 c3 c4 c5)] : List Int32)), (F_rm_next (5 : Int32) ([(-1 : Int32), (0 : Int32), (own_P2 c2), (own_P3 c2 c3), (own_P4 c2 c3 c4), (own_P5 c2 c3 c4 c5)] : List Int32))] : List Int32)) = (F_rm_after (own_n i) ([(-1 : Int32), (0 : Int32), (own_P2 c2), (own_P3 c2 c3), (own_P4 c2 c3 c4), (own_P5 c2 c3 c4 c5)] : List Int32))) c2 c3 c4 c5 i
theorem own_q (xb qq : Int32) (h : qq = ((xb &&& (2147483647 : Int32)) % (6 : Int32))) : own_in qq := by
  subst h
  have := rng32 xb
  have := c_mask xb (2147483647 : Int32) 31 (by decide) (by decide +kernel)
  have := rng32 (xb &&& (2147483647 : Int32))
  have : (6 : Int32).toInt = 6 := rfl
  have := c_irem (xb &&& (2147483647 : Int32)) (6 : Int32) 6 rfl
  have := rng32 ((xb &&& (2147483647 : Int32)) % (6 : Int32))
  have : (0 : Int32).toInt = 0 := rfl
  simp only [own_in, Int32.lt_iff_toInt_lt]
  omega
theorem pd1 : parseMethodDescriptor "([III)I" = some ⟨[(.array .int), .int, .int], some .int⟩ := by decide +kernel
theorem pd2 : parseMethodDescriptor "([II)I" = some ⟨[(.array .int), .int], some .int⟩ := by decide +kernel
theorem pd3 : parseMethodDescriptor "(Lcom/example/xidr/xidr/xml/tree/TreeBuilder$Parts;)V" = some ⟨[(.object "com/example/xidr/xidr/xml/tree/TreeBuilder$Parts")], none⟩ := by decide +kernel
theorem pd4 : parseMethodDescriptor "(I)I" = some ⟨[.int], some .int⟩ := by decide +kernel
theorem ef_rm0 (m : MethodId) (xa : Int32) (xb : Int32) : entryFrame m #[(.int xa), (.int xb)] maxLocals = mkF m 0 #[.val (.int xa), .val (.int xb), .unset, .unset, .unset, .unset, .unset] [] := by first | (simp [entryFrame, mkF, argsToLocals, Value.category, maxLocals]; done) | rfl
def Q_rm0 (Z : State) (xa : Int32) (xb : Int32) (wl : Addr) (h0 : Heap) (n0 : Nat) (v : Option Value) (h : Heap) (L : List Loc) : Prop := v = some (.int (1 : Int32)) ∧ Fr n0 L
set_option maxRecDepth 65536 in
set_option maxHeartbeats 40000000 in
theorem rm0 (l : Launch) (Z : State) (a0 : Array Value) (hw : ∀ d ∈ tables_1, d.before a0 Z = true) (ws : List Jvm.Cond) (xa : Int32) (xb : Int32) (wl : Addr) (h0 : Heap) (n0 : Nat) (Z0 : n0 ≤ h0.size) (SD : Sta Z h0 "java/util/ArrayList" "DEFAULTCAPACITY_EMPTY_ELEMENTDATA" "[Ljava/lang/Object;" (.ref wl)) :
    MetFree l x (head1 (Jvm.Cond.code x code maxLocals ret :: ws) room_1) (fun a U => a = #[(.int xa), (.int xb)] ∧ Z.Warmed39 U.vm ∧ U.heap = h0) (fun _ _ _ _ _ => True) (fun _ U o U' => ∃ v L, o = .returned v ∧ Q_rm0 Z xa xb wl h0 n0 v U'.heap L ∧ FrameEnd U o U' L room_1.cells room_1.slots) := by
  refine MetFree.of_bodySF (plainFor_of_name pn5) hisR ?_
  intro p e s m args below meth c s₁ Bd hml0 hP hK
  obtain ⟨rfl, hZ, hh⟩ := hP
  have hx := Bd.exec
  have hby := Bd.bytes
  have hml : c.maxLocals = 7 := hml0
  have hown : s.vm.findClass "com/example/xidr/xidr/xml/tree/TreeAfterSubtreePinLaw" = some m.cls := findClass_of_methodNamed Bd.named
  have hnm := (name_of_methodNamed Bd.named Bd.method).1
  have X0 : Stand p l e room_1 s m #[(.int xa), (.int xb)] below meth c s₁ [] 0 0 := Stand.of_body Bd
  have e0 : s₁.heap = h0 := by rw [← hh, Bd.state]; rfl
  have N0 := Fr.nil n0
  have pre0 : ∀ t, Steps p.tables e below (s₁.setTop (mkF m 0 #[.val (.int xa), .val (.int xb), .unset, .unset, .unset, .unset, .unset] [])) t → Steps p.tables e below (s₁.setTop (entryFrame m #[(.int xa), (.int xb)] maxLocals)) t := fun t k => castTop (ef_rm0 m xa xb) k
  have pre1 : ∀ t, Steps p.tables e below (s₁.setTop (mkF m 2 #[.val (.int xa), .val (.int xb), .unset, .unset, .unset, .unset, .unset] [(.int (6 : Int32))])) t → Steps p.tables e below (s₁.setTop (entryFrame m #[(.int xa), (.int xb)] maxLocals)) t := by
    intro t k
    refine pre0 t ?_
    refine XS.bipush X0.here hx rfl (hb hby at_0) ?_
    show Steps p.tables e below (s₁.setTop (mkF m 2 #[.val (.int xa), .val (.int xb), .unset, .unset, .unset, .unset, .unset] [(.int (6 : Int32))])) _
    exact k
  obtain ⟨T2, h2, k2, X2, e2, E2, A2, st2⟩ := newP X0 hx hZ (hw _ (List.mem_of_getElem? (i := 0) rfl)) e0 (g := (mkF m 2 #[.val (.int xa), .val (.int xb), .unset, .unset, .unset, .unset, .unset] [(.int (6 : Int32))])) rfl (hb hby at_2) rfl (by decide) (cap := 6) (by decide) (by decide) (by decide) (by decide)
  obtain ⟨b2, g2⟩ : ∃ z, z = h0.size := ⟨_, rfl⟩
  rw [← g2] at A2 st2
  have g_b2 : n0 ≤ b2 := Nat.le_trans Z0 (Nat.le_of_eq g2.symm)
  have sz_b2 : h0.size ≤ b2 := Nat.le_trans (Keep.refl h0 ([] : List Addr)).1 (Nat.le_of_eq g2.symm)
  have K2 : Keep h0 h2 ([] : List Addr) := (Keep.refl h0 ([] : List Addr)).ext E2
  have z2 : n0 ≤ h2.size := Nat.le_trans Z0 K2.1
  have V_b2 : Arv Z h2 b2 k2 .int (6 : Int32) [(.int (0 : Int32)), (.int (0 : Int32)), (.int (0 : Int32)), (.int (0 : Int32)), (.int (0 : Int32)), (.int (0 : Int32))] (.int (0 : Int32)) := (Arv.new A2 (by decide)).pad (pad_rep [] (.int (0 : Int32)) 6)
  have X2 : Stand p l e _ s m _ below meth c T2 _ 1 6 := X2
  have pre3 : ∀ t, Steps p.tables e below (T2.setTop (mkF m 4 #[.val (.int xa), .val (.int xb), .unset, .unset, .unset, .unset, .unset] [(.ref b2)])) t → Steps p.tables e below (s₁.setTop (entryFrame m #[(.int xa), (.int xb)] maxLocals)) t := fun t k => pre1 t (st2 t k)
  have pre4 : ∀ t, Steps p.tables e below (T2.setTop (mkF m 8 #[.val (.int xa), .val (.int xb), .val (.ref b2), .unset, .unset, .unset, .unset] [(.int (-1 : Int32)), (.int (0 : Int32)), (.ref b2)])) t → Steps p.tables e below (s₁.setTop (entryFrame m #[(.int xa), (.int xb)] maxLocals)) t := by
    intro t k
    refine pre3 t ?_
    refine XS.astoreN X2.here hx rfl (hb hby at_4) rfl rfl (l' := #[.val (.int xa), .val (.int xb), .val (.ref b2), .unset, .unset, .unset, .unset]) rfl ?_
    show Steps p.tables e below (T2.setTop (mkF m 5 #[.val (.int xa), .val (.int xb), .val (.ref b2), .unset, .unset, .unset, .unset] [])) _
    refine XS.aloadN X2.here hx rfl (hb hby at_5) rfl rfl ?_
    show Steps p.tables e below (T2.setTop (mkF m 6 #[.val (.int xa), .val (.int xb), .val (.ref b2), .unset, .unset, .unset, .unset] [(.ref b2)])) _
    refine XS.iconst X2.here hx rfl (hb hby at_6) ?_
    show Steps p.tables e below (T2.setTop (mkF m 7 #[.val (.int xa), .val (.int xb), .val (.ref b2), .unset, .unset, .unset, .unset] [(.int (0 : Int32)), (.ref b2)])) _
    refine XS.iconst X2.here hx rfl (hb hby at_7) ?_
    show Steps p.tables e below (T2.setTop (mkF m 8 #[.val (.int xa), .val (.int xb), .val (.ref b2), .unset, .unset, .unset, .unset] [(.int (-1 : Int32)), (.int (0 : Int32)), (.ref b2)])) _
    exact k
  obtain ⟨c5, a5, q5, s5, m5, i5, u5⟩ := id V_b2
  obtain ⟨T6, h6, X6, e6, W6, st6⟩ := stI X2 hx hZ e2 a5 (j := (0 : Int32)) (inb_of s5 ⟨by decide, by decide⟩) (g := (mkF m 8 #[.val (.int xa), .val (.int xb), .val (.ref b2), .unset, .unset, .unset, .unset] [(.int (-1 : Int32)), (.int (0 : Int32)), (.ref b2)])) rfl rfl (hb hby at_8)
  have K6 : Keep h0 h6 ([] : List Addr) := K2.wr W6 (Or.inr sz_b2)
  have z6 : n0 ≤ h6.size := Nat.le_trans Z0 K6.1
  have N6 := Fr.snoc X6 N0 g_b2
  have V6 : Arv Z h6 b2 k2 .int (6 : Int32) [(.int (-1 : Int32)), (.int (0 : Int32)), (.int (0 : Int32)), (.int (0 : Int32)), (.int (0 : Int32)), (.int (0 : Int32))] (.int (0 : Int32)) := Arv.set a5 q5 s5 m5 i5 u5 rfl W6 0 rfl (Nat.le_of_ble_eq_true rfl)
  have pre7 : ∀ t, Steps p.tables e below (T6.setTop (mkF m 9 #[.val (.int xa), .val (.int xb), .val (.ref b2), .unset, .unset, .unset, .unset] [])) t → Steps p.tables e below (s₁.setTop (entryFrame m #[(.int xa), (.int xb)] maxLocals)) t := fun t k => pre4 t (st6 t k)
  have pre8 : ∀ t, Steps p.tables e below (T6.setTop (mkF m 12 #[.val (.int xa), .val (.int xb), .val (.ref b2), .unset, .unset, .unset, .unset] [(.int (0 : Int32)), (.int (1 : Int32)), (.ref b2)])) t → Steps p.tables e below (s₁.setTop (entryFrame m #[(.int xa), (.int xb)] maxLocals)) t := by
    intro t k
    refine pre7 t ?_
    refine XS.aloadN X6.here hx rfl (hb hby at_9) rfl rfl ?_
    show Steps p.tables e below (T6.setTop (mkF m 10 #[.val (.int xa), .val (.int xb), .val (.ref b2), .unset, .unset, .unset, .unset] [(.ref b2)])) _
    refine XS.iconst X6.here hx rfl (hb hby at_10) ?_
    show Steps p.tables e below (T6.setTop (mkF m 11 #[.val (.int xa), .val (.int xb), .val (.ref b2), .unset, .unset, .unset, .unset] [(.int (1 : Int32)), (.ref b2)])) _
    refine XS.iconst X6.here hx rfl (hb hby at_11) ?_
    show Steps p.tables e below (T6.setTop (mkF m 12 #[.val (.int xa), .val (.int xb), .val (.ref b2), .unset, .unset, .unset, .unset] [(.int (0 : Int32)), (.int (1 : Int32)), (.ref b2)])) _
    exact k
  obtain ⟨c9, a9, q9, s9, m9, i9, u9⟩ := id V6
  obtain ⟨T10, h10, X10, e10, W10, st10⟩ := stI X6 hx hZ e6 a9 (j := (1 : Int32)) (inb_of s9 ⟨by decide, by decide⟩) (g := (mkF m 12 #[.val (.int xa), .val (.int xb), .val (.ref b2), .unset, .unset, .unset, .unset] [(.int (0 : Int32)), (.int (1 : Int32)), (.ref b2)])) rfl rfl (hb hby at_12)
  have K10 : Keep h0 h10 ([] : List Addr) := K6.wr W10 (Or.inr sz_b2)
  have z10 : n0 ≤ h10.size := Nat.le_trans Z0 K10.1
  have N10 := Fr.snoc X10 N6 g_b2
  have V10 : Arv Z h10 b2 k2 .int (6 : Int32) [(.int (-1 : Int32)), (.int (0 : Int32)), (.int (0 : Int32)), (.int (0 : Int32)), (.int (0 : Int32)), (.int (0 : Int32))] (.int (0 : Int32)) := Arv.set a9 q9 s9 m9 i9 u9 rfl W10 1 rfl (Nat.le_of_ble_eq_true rfl)
  have pre11 : ∀ t, Steps p.tables e below (T10.setTop (mkF m 13 #[.val (.int xa), .val (.int xb), .val (.ref b2), .unset, .unset, .unset, .unset] [])) t → Steps p.tables e below (s₁.setTop (entryFrame m #[(.int xa), (.int xb)] maxLocals)) t := fun t k => pre8 t (st10 t k)
  have pre12 : ∀ t, Steps p.tables e below (T10.setTop (mkF m 21 #[.val (.int xa), .val (.int xb), .val (.ref b2), .unset, .unset, .unset, .unset] [(.int (xa &&& (7 : Int32))), (.int (1 : Int32)), (.ref b2), (.int (2 : Int32)), (.ref b2)])) t → Steps p.tables e below (s₁.setTop (entryFrame m #[(.int xa), (.int xb)] maxLocals)) t := by
    intro t k
    refine pre11 t ?_
    refine XS.aloadN X10.here hx rfl (hb hby at_13) rfl rfl ?_
    show Steps p.tables e below (T10.setTop (mkF m 14 #[.val (.int xa), .val (.int xb), .val (.ref b2), .unset, .unset, .unset, .unset] [(.ref b2)])) _
    refine XS.iconst X10.here hx rfl (hb hby at_14) ?_
    show Steps p.tables e below (T10.setTop (mkF m 15 #[.val (.int xa), .val (.int xb), .val (.ref b2), .unset, .unset, .unset, .unset] [(.int (2 : Int32)), (.ref b2)])) _
    refine XS.aloadN X10.here hx rfl (hb hby at_15) rfl rfl ?_
    show Steps p.tables e below (T10.setTop (mkF m 16 #[.val (.int xa), .val (.int xb), .val (.ref b2), .unset, .unset, .unset, .unset] [(.ref b2), (.int (2 : Int32)), (.ref b2)])) _
    refine XS.iconst X10.here hx rfl (hb hby at_16) ?_
    show Steps p.tables e below (T10.setTop (mkF m 17 #[.val (.int xa), .val (.int xb), .val (.ref b2), .unset, .unset, .unset, .unset] [(.int (1 : Int32)), (.ref b2), (.int (2 : Int32)), (.ref b2)])) _
    refine XS.iloadN X10.here hx rfl (hb hby at_17) rfl ?_
    show Steps p.tables e below (T10.setTop (mkF m 18 #[.val (.int xa), .val (.int xb), .val (.ref b2), .unset, .unset, .unset, .unset] [(.int xa), (.int (1 : Int32)), (.ref b2), (.int (2 : Int32)), (.ref b2)])) _
    refine XS.bipush X10.here hx rfl (hb hby at_18) ?_
    show Steps p.tables e below (T10.setTop (mkF m 20 #[.val (.int xa), .val (.int xb), .val (.ref b2), .unset, .unset, .unset, .unset] [(.int (7 : Int32)), (.int xa), (.int (1 : Int32)), (.ref b2), (.int (2 : Int32)), (.ref b2)])) _
    refine XS.iand X10.here hx rfl (hb hby at_20) rfl ?_
    show Steps p.tables e below (T10.setTop (mkF m 21 #[.val (.int xa), .val (.int xb), .val (.ref b2), .unset, .unset, .unset, .unset] [(.int (xa &&& (7 : Int32))), (.int (1 : Int32)), (.ref b2), (.int (2 : Int32)), (.ref b2)])) _
    exact k
  obtain ⟨_, _, ⟨T13, L13, k13, n13⟩, -, X13, ⟨Lc13, hQ13, l13, y13, z13⟩, st13⟩ := Jvm.LawKit.callS X10 hx (y := (⟨"com/example/xidr/xidr/xml/tree/TreeAfterSubtreePinLaw", "up", "([III)I"⟩ : MethodName)) hown (mvT hZ (hw _ (List.mem_of_getElem? (i := 1) rfl))) (mvT hZ (hw _ (List.mem_of_getElem? (i := 2) rfl))) (mvT hZ (hw _ (List.mem_of_getElem? (i := 3) rfl))) (mvT hZ (hw _ (List.mem_of_getElem? (i := 4) rfl))) (by decide) (backOf (W := 2) (rm_up l Z a0 hw [] b2 (1 : Int32) (xa &&& (7 : Int32)) k2 ([(-1 : Int32), (0 : Int32), (0 : Int32), (0 : Int32), (0 : Int32), (0 : Int32)] : List Int32) h10 n0 z10 V10 (by decide) (own_cl2 )) hZ (hw _ (List.mem_of_getElem? (i := 4) rfl)) (hw _ (List.mem_of_getElem? (i := 3) rfl)) (by decide) (by decide)) (g := (mkF m 21 #[.val (.int xa), .val (.int xb), .val (.ref b2), .unset, .unset, .unset, .unset] [(.int (xa &&& (7 : Int32))), (.int (1 : Int32)), (.ref b2), (.int (2 : Int32)), (.ref b2)])) rfl (by rw [hml]; rfl) (argsL := [(.ref b2), (.int (1 : Int32)), (.int (xa &&& (7 : Int32)))]) (rest := [(.int (2 : Int32)), (.ref b2)]) (lenOf pd1 rfl) rfl (by show 2 * 0 + _ ≤ _; exact Nat.le_of_eq rfl) (hb hby at_21) (fun _ _ => ⟨rfl, e10, (by decide : 1 + 0 ≤ _), (by decide : 6 + 0 ≤ _)⟩)
  dsimp only [Pt.U, Pt.locs, Pt.cells, Pt.slots] at X13 l13 y13 z13 st13 hQ13
  subst y13 z13
  obtain ⟨rfl, M13, e13⟩ := hQ13
  have N13 : Fr n0 L13 := by rw [l13]; exact Fr.app N10 M13
  clear l13
  have X13 : Stand p l e _ s m _ below meth c T13 _ 1 6 := X13
  have pre14 : ∀ t, Steps p.tables e below (T13.setTop (mkF m 24 #[.val (.int xa), .val (.int xb), .val (.ref b2), .unset, .unset, .unset, .unset] [(.int (own_up ([(-1 : Int32), (0 : Int32), (0 : Int32), (0 : Int32), (0 : Int32), (0 : Int32)] : List Int32) (1 : Int32) (xa &&& (7 : Int32)))), (.int (2 : Int32)), (.ref b2)])) t → Steps p.tables e below (s₁.setTop (entryFrame m #[(.int xa), (.int xb)] maxLocals)) t := fun t k => pre12 t (st13 t k)
  obtain ⟨p2, hp2⟩ : ∃ z : Int32, z = (own_up ([(-1 : Int32), (0 : Int32), (0 : Int32), (0 : Int32), (0 : Int32), (0 : Int32)] : List Int32) (1 : Int32) (xa &&& (7 : Int32))) := ⟨_, rfl⟩
  rw [← hp2] at pre14
  have G2 := own_g2 _ _ hp2
  obtain ⟨c15, a15, q15, s15, m15, i15, u15⟩ := id V10
  obtain ⟨T16, h16, X16, e16, W16, st16⟩ := stI X13 hx hZ e13 a15 (j := (2 : Int32)) (inb_of s15 ⟨by decide, by decide⟩) (g := (mkF m 24 #[.val (.int xa), .val (.int xb), .val (.ref b2), .unset, .unset, .unset, .unset] [(.int p2), (.int (2 : Int32)), (.ref b2)])) rfl rfl (hb hby at_24)
  have K16 : Keep h0 h16 ([] : List Addr) := K10.wr W16 (Or.inr sz_b2)
  have z16 : n0 ≤ h16.size := Nat.le_trans Z0 K16.1
  have N16 := Fr.snoc X16 N13 g_b2
  have V16 : Arv Z h16 b2 k2 .int (6 : Int32) [(.int (-1 : Int32)), (.int (0 : Int32)), (.int p2), (.int (0 : Int32)), (.int (0 : Int32)), (.int (0 : Int32))] (.int (0 : Int32)) := Arv.set a15 q15 s15 m15 i15 u15 rfl W16 2 rfl (Nat.le_of_ble_eq_true rfl)
  have pre17 : ∀ t, Steps p.tables e below (T16.setTop (mkF m 25 #[.val (.int xa), .val (.int xb), .val (.ref b2), .unset, .unset, .unset, .unset] [])) t → Steps p.tables e below (s₁.setTop (entryFrame m #[(.int xa), (.int xb)] maxLocals)) t := fun t k => pre14 t (st16 t k)
  have pre18 : ∀ t, Steps p.tables e below (T16.setTop (mkF m 35 #[.val (.int xa), .val (.int xb), .val (.ref b2), .unset, .unset, .unset, .unset] [(.int (((xa.toUInt32 >>> ((3 : Int32) &&& 31).toUInt32).toInt32) &&& (7 : Int32))), (.int (2 : Int32)), (.ref b2), (.int (3 : Int32)), (.ref b2)])) t → Steps p.tables e below (s₁.setTop (entryFrame m #[(.int xa), (.int xb)] maxLocals)) t := by
    intro t k
    refine pre17 t ?_
    refine XS.aloadN X16.here hx rfl (hb hby at_25) rfl rfl ?_
    show Steps p.tables e below (T16.setTop (mkF m 26 #[.val (.int xa), .val (.int xb), .val (.ref b2), .unset, .unset, .unset, .unset] [(.ref b2)])) _
    refine XS.iconst X16.here hx rfl (hb hby at_26) ?_
    show Steps p.tables e below (T16.setTop (mkF m 27 #[.val (.int xa), .val (.int xb), .val (.ref b2), .unset, .unset, .unset, .unset] [(.int (3 : Int32)), (.ref b2)])) _
    refine XS.aloadN X16.here hx rfl (hb hby at_27) rfl rfl ?_
    show Steps p.tables e below (T16.setTop (mkF m 28 #[.val (.int xa), .val (.int xb), .val (.ref b2), .unset, .unset, .unset, .unset] [(.ref b2), (.int (3 : Int32)), (.ref b2)])) _
    refine XS.iconst X16.here hx rfl (hb hby at_28) ?_
    show Steps p.tables e below (T16.setTop (mkF m 29 #[.val (.int xa), .val (.int xb), .val (.ref b2), .unset, .unset, .unset, .unset] [(.int (2 : Int32)), (.ref b2), (.int (3 : Int32)), (.ref b2)])) _
    refine XS.iloadN X16.here hx rfl (hb hby at_29) rfl ?_
    show Steps p.tables e below (T16.setTop (mkF m 30 #[.val (.int xa), .val (.int xb), .val (.ref b2), .unset, .unset, .unset, .unset] [(.int xa), (.int (2 : Int32)), (.ref b2), (.int (3 : Int32)), (.ref b2)])) _
    refine XS.iconst X16.here hx rfl (hb hby at_30) ?_
    show Steps p.tables e below (T16.setTop (mkF m 31 #[.val (.int xa), .val (.int xb), .val (.ref b2), .unset, .unset, .unset, .unset] [(.int (3 : Int32)), (.int xa), (.int (2 : Int32)), (.ref b2), (.int (3 : Int32)), (.ref b2)])) _
    refine XS.iushr X16.here hx rfl (hb hby at_31) rfl ?_
    show Steps p.tables e below (T16.setTop (mkF m 32 #[.val (.int xa), .val (.int xb), .val (.ref b2), .unset, .unset, .unset, .unset] [(.int ((xa.toUInt32 >>> ((3 : Int32) &&& 31).toUInt32).toInt32)), (.int (2 : Int32)), (.ref b2), (.int (3 : Int32)), (.ref b2)])) _
    refine XS.bipush X16.here hx rfl (hb hby at_32) ?_
    show Steps p.tables e below (T16.setTop (mkF m 34 #[.val (.int xa), .val (.int xb), .val (.ref b2), .unset, .unset, .unset, .unset] [(.int (7 : Int32)), (.int ((xa.toUInt32 >>> ((3 : Int32) &&& 31).toUInt32).toInt32)), (.int (2 : Int32)), (.ref b2), (.int (3 : Int32)), (.ref b2)])) _
    refine XS.iand X16.here hx rfl (hb hby at_34) rfl ?_
    show Steps p.tables e below (T16.setTop (mkF m 35 #[.val (.int xa), .val (.int xb), .val (.ref b2), .unset, .unset, .unset, .unset] [(.int (((xa.toUInt32 >>> ((3 : Int32) &&& 31).toUInt32).toInt32) &&& (7 : Int32))), (.int (2 : Int32)), (.ref b2), (.int (3 : Int32)), (.ref b2)])) _
    exact k
  obtain ⟨_, _, ⟨T19, L19, k19, n19⟩, -, X19, ⟨Lc19, hQ19, l19, y19, z19⟩, st19⟩ := Jvm.LawKit.callS X16 hx (y := (⟨"com/example/xidr/xidr/xml/tree/TreeAfterSubtreePinLaw", "up", "([III)I"⟩ : MethodName)) hown (mvT hZ (hw _ (List.mem_of_getElem? (i := 1) rfl))) (mvT hZ (hw _ (List.mem_of_getElem? (i := 2) rfl))) (mvT hZ (hw _ (List.mem_of_getElem? (i := 3) rfl))) (mvT hZ (hw _ (List.mem_of_getElem? (i := 4) rfl))) (by decide) (backOf (W := 2) (rm_up l Z a0 hw [] b2 (2 : Int32) (((xa.toUInt32 >>> ((3 : Int32) &&& 31).toUInt32).toInt32) &&& (7 : Int32)) k2 ([(-1 : Int32), (0 : Int32), p2, (0 : Int32), (0 : Int32), (0 : Int32)] : List Int32) h16 n0 z16 V16 (by decide) (own_cl3 _ G2)) hZ (hw _ (List.mem_of_getElem? (i := 4) rfl)) (hw _ (List.mem_of_getElem? (i := 3) rfl)) (by decide) (by decide)) (g := (mkF m 35 #[.val (.int xa), .val (.int xb), .val (.ref b2), .unset, .unset, .unset, .unset] [(.int (((xa.toUInt32 >>> ((3 : Int32) &&& 31).toUInt32).toInt32) &&& (7 : Int32))), (.int (2 : Int32)), (.ref b2), (.int (3 : Int32)), (.ref b2)])) rfl (by rw [hml]; rfl) (argsL := [(.ref b2), (.int (2 : Int32)), (.int (((xa.toUInt32 >>> ((3 : Int32) &&& 31).toUInt32).toInt32) &&& (7 : Int32)))]) (rest := [(.int (3 : Int32)), (.ref b2)]) (lenOf pd1 rfl) rfl (by show 2 * 0 + _ ≤ _; exact Nat.le_of_eq rfl) (hb hby at_35) (fun _ _ => ⟨rfl, e16, (by decide : 1 + 0 ≤ _), (by decide : 6 + 0 ≤ _)⟩)
  dsimp only [Pt.U, Pt.locs, Pt.cells, Pt.slots] at X19 l19 y19 z19 st19 hQ19
  subst y19 z19
  obtain ⟨rfl, M19, e19⟩ := hQ19
  have N19 : Fr n0 L19 := by rw [l19]; exact Fr.app N16 M19
  clear l19
  have X19 : Stand p l e _ s m _ below meth c T19 _ 1 6 := X19
  have pre20 : ∀ t, Steps p.tables e below (T19.setTop (mkF m 38 #[.val (.int xa), .val (.int xb), .val (.ref b2), .unset, .unset, .unset, .unset] [(.int (own_up ([(-1 : Int32), (0 : Int32), p2, (0 : Int32), (0 : Int32), (0 : Int32)] : List Int32) (2 : Int32) (((xa.toUInt32 >>> ((3 : Int32) &&& 31).toUInt32).toInt32) &&& (7 : Int32)))), (.int (3 : Int32)), (.ref b2)])) t → Steps p.tables e below (s₁.setTop (entryFrame m #[(.int xa), (.int xb)] maxLocals)) t := fun t k => pre18 t (st19 t k)
  obtain ⟨p3, hp3⟩ : ∃ z : Int32, z = (own_up ([(-1 : Int32), (0 : Int32), p2, (0 : Int32), (0 : Int32), (0 : Int32)] : List Int32) (2 : Int32) (((xa.toUInt32 >>> ((3 : Int32) &&& 31).toUInt32).toInt32) &&& (7 : Int32))) := ⟨_, rfl⟩
  rw [← hp3] at pre20
  have G3 := own_g3 _ _ _ G2 hp3
  obtain ⟨c21, a21, q21, s21, m21, i21, u21⟩ := id V16
  obtain ⟨T22, h22, X22, e22, W22, st22⟩ := stI X19 hx hZ e19 a21 (j := (3 : Int32)) (inb_of s21 ⟨by decide, by decide⟩) (g := (mkF m 38 #[.val (.int xa), .val (.int xb), .val (.ref b2), .unset, .unset, .unset, .unset] [(.int p3), (.int (3 : Int32)), (.ref b2)])) rfl rfl (hb hby at_38)
  have K22 : Keep h0 h22 ([] : List Addr) := K16.wr W22 (Or.inr sz_b2)
  have z22 : n0 ≤ h22.size := Nat.le_trans Z0 K22.1
  have N22 := Fr.snoc X22 N19 g_b2
  have V22 : Arv Z h22 b2 k2 .int (6 : Int32) [(.int (-1 : Int32)), (.int (0 : Int32)), (.int p2), (.int p3), (.int (0 : Int32)), (.int (0 : Int32))] (.int (0 : Int32)) := Arv.set a21 q21 s21 m21 i21 u21 rfl W22 3 rfl (Nat.le_of_ble_eq_true rfl)
  have pre23 : ∀ t, Steps p.tables e below (T22.setTop (mkF m 39 #[.val (.int xa), .val (.int xb), .val (.ref b2), .unset, .unset, .unset, .unset] [])) t → Steps p.tables e below (s₁.setTop (entryFrame m #[(.int xa), (.int xb)] maxLocals)) t := fun t k => pre20 t (st22 t k)
  have pre24 : ∀ t, Steps p.tables e below (T22.setTop (mkF m 50 #[.val (.int xa), .val (.int xb), .val (.ref b2), .unset, .unset, .unset, .unset] [(.int (((xa.toUInt32 >>> ((6 : Int32) &&& 31).toUInt32).toInt32) &&& (7 : Int32))), (.int (3 : Int32)), (.ref b2), (.int (4 : Int32)), (.ref b2)])) t → Steps p.tables e below (s₁.setTop (entryFrame m #[(.int xa), (.int xb)] maxLocals)) t := by
    intro t k
    refine pre23 t ?_
    refine XS.aloadN X22.here hx rfl (hb hby at_39) rfl rfl ?_
    show Steps p.tables e below (T22.setTop (mkF m 40 #[.val (.int xa), .val (.int xb), .val (.ref b2), .unset, .unset, .unset, .unset] [(.ref b2)])) _
    refine XS.iconst X22.here hx rfl (hb hby at_40) ?_
    show Steps p.tables e below (T22.setTop (mkF m 41 #[.val (.int xa), .val (.int xb), .val (.ref b2), .unset, .unset, .unset, .unset] [(.int (4 : Int32)), (.ref b2)])) _
    refine XS.aloadN X22.here hx rfl (hb hby at_41) rfl rfl ?_
    show Steps p.tables e below (T22.setTop (mkF m 42 #[.val (.int xa), .val (.int xb), .val (.ref b2), .unset, .unset, .unset, .unset] [(.ref b2), (.int (4 : Int32)), (.ref b2)])) _
    refine XS.iconst X22.here hx rfl (hb hby at_42) ?_
    show Steps p.tables e below (T22.setTop (mkF m 43 #[.val (.int xa), .val (.int xb), .val (.ref b2), .unset, .unset, .unset, .unset] [(.int (3 : Int32)), (.ref b2), (.int (4 : Int32)), (.ref b2)])) _
    refine XS.iloadN X22.here hx rfl (hb hby at_43) rfl ?_
    show Steps p.tables e below (T22.setTop (mkF m 44 #[.val (.int xa), .val (.int xb), .val (.ref b2), .unset, .unset, .unset, .unset] [(.int xa), (.int (3 : Int32)), (.ref b2), (.int (4 : Int32)), (.ref b2)])) _
    refine XS.bipush X22.here hx rfl (hb hby at_44) ?_
    show Steps p.tables e below (T22.setTop (mkF m 46 #[.val (.int xa), .val (.int xb), .val (.ref b2), .unset, .unset, .unset, .unset] [(.int (6 : Int32)), (.int xa), (.int (3 : Int32)), (.ref b2), (.int (4 : Int32)), (.ref b2)])) _
    refine XS.iushr X22.here hx rfl (hb hby at_46) rfl ?_
    show Steps p.tables e below (T22.setTop (mkF m 47 #[.val (.int xa), .val (.int xb), .val (.ref b2), .unset, .unset, .unset, .unset] [(.int ((xa.toUInt32 >>> ((6 : Int32) &&& 31).toUInt32).toInt32)), (.int (3 : Int32)), (.ref b2), (.int (4 : Int32)), (.ref b2)])) _
    refine XS.bipush X22.here hx rfl (hb hby at_47) ?_
    show Steps p.tables e below (T22.setTop (mkF m 49 #[.val (.int xa), .val (.int xb), .val (.ref b2), .unset, .unset, .unset, .unset] [(.int (7 : Int32)), (.int ((xa.toUInt32 >>> ((6 : Int32) &&& 31).toUInt32).toInt32)), (.int (3 : Int32)), (.ref b2), (.int (4 : Int32)), (.ref b2)])) _
    refine XS.iand X22.here hx rfl (hb hby at_49) rfl ?_
    show Steps p.tables e below (T22.setTop (mkF m 50 #[.val (.int xa), .val (.int xb), .val (.ref b2), .unset, .unset, .unset, .unset] [(.int (((xa.toUInt32 >>> ((6 : Int32) &&& 31).toUInt32).toInt32) &&& (7 : Int32))), (.int (3 : Int32)), (.ref b2), (.int (4 : Int32)), (.ref b2)])) _
    exact k
  obtain ⟨_, _, ⟨T25, L25, k25, n25⟩, -, X25, ⟨Lc25, hQ25, l25, y25, z25⟩, st25⟩ := Jvm.LawKit.callS X22 hx (y := (⟨"com/example/xidr/xidr/xml/tree/TreeAfterSubtreePinLaw", "up", "([III)I"⟩ : MethodName)) hown (mvT hZ (hw _ (List.mem_of_getElem? (i := 1) rfl))) (mvT hZ (hw _ (List.mem_of_getElem? (i := 2) rfl))) (mvT hZ (hw _ (List.mem_of_getElem? (i := 3) rfl))) (mvT hZ (hw _ (List.mem_of_getElem? (i := 4) rfl))) (by decide) (backOf (W := 2) (rm_up l Z a0 hw [] b2 (3 : Int32) (((xa.toUInt32 >>> ((6 : Int32) &&& 31).toUInt32).toInt32) &&& (7 : Int32)) k2 ([(-1 : Int32), (0 : Int32), p2, p3, (0 : Int32), (0 : Int32)] : List Int32) h22 n0 z22 V22 (by decide) (own_cl4 _ _ G3)) hZ (hw _ (List.mem_of_getElem? (i := 4) rfl)) (hw _ (List.mem_of_getElem? (i := 3) rfl)) (by decide) (by decide)) (g := (mkF m 50 #[.val (.int xa), .val (.int xb), .val (.ref b2), .unset, .unset, .unset, .unset] [(.int (((xa.toUInt32 >>> ((6 : Int32) &&& 31).toUInt32).toInt32) &&& (7 : Int32))), (.int (3 : Int32)), (.ref b2), (.int (4 : Int32)), (.ref b2)])) rfl (by rw [hml]; rfl) (argsL := [(.ref b2), (.int (3 : Int32)), (.int (((xa.toUInt32 >>> ((6 : Int32) &&& 31).toUInt32).toInt32) &&& (7 : Int32)))]) (rest := [(.int (4 : Int32)), (.ref b2)]) (lenOf pd1 rfl) rfl (by show 2 * 0 + _ ≤ _; exact Nat.le_of_eq rfl) (hb hby at_50) (fun _ _ => ⟨rfl, e22, (by decide : 1 + 0 ≤ _), (by decide : 6 + 0 ≤ _)⟩)
  dsimp only [Pt.U, Pt.locs, Pt.cells, Pt.slots] at X25 l25 y25 z25 st25 hQ25
  subst y25 z25
  obtain ⟨rfl, M25, e25⟩ := hQ25
  have N25 : Fr n0 L25 := by rw [l25]; exact Fr.app N22 M25
  clear l25
  have X25 : Stand p l e _ s m _ below meth c T25 _ 1 6 := X25
  have pre26 : ∀ t, Steps p.tables e below (T25.setTop (mkF m 53 #[.val (.int xa), .val (.int xb), .val (.ref b2), .unset, .unset, .unset, .unset] [(.int (own_up ([(-1 : Int32), (0 : Int32), p2, p3, (0 : Int32), (0 : Int32)] : List Int32) (3 : Int32) (((xa.toUInt32 >>> ((6 : Int32) &&& 31).toUInt32).toInt32) &&& (7 : Int32)))), (.int (4 : Int32)), (.ref b2)])) t → Steps p.tables e below (s₁.setTop (entryFrame m #[(.int xa), (.int xb)] maxLocals)) t := fun t k => pre24 t (st25 t k)
  obtain ⟨p4, hp4⟩ : ∃ z : Int32, z = (own_up ([(-1 : Int32), (0 : Int32), p2, p3, (0 : Int32), (0 : Int32)] : List Int32) (3 : Int32) (((xa.toUInt32 >>> ((6 : Int32) &&& 31).toUInt32).toInt32) &&& (7 : Int32))) := ⟨_, rfl⟩
  rw [← hp4] at pre26
  have G4 := own_g4 _ _ _ _ G3 hp4
  obtain ⟨c27, a27, q27, s27, m27, i27, u27⟩ := id V22
  obtain ⟨T28, h28, X28, e28, W28, st28⟩ := stI X25 hx hZ e25 a27 (j := (4 : Int32)) (inb_of s27 ⟨by decide, by decide⟩) (g := (mkF m 53 #[.val (.int xa), .val (.int xb), .val (.ref b2), .unset, .unset, .unset, .unset] [(.int p4), (.int (4 : Int32)), (.ref b2)])) rfl rfl (hb hby at_53)
  have K28 : Keep h0 h28 ([] : List Addr) := K22.wr W28 (Or.inr sz_b2)
  have z28 : n0 ≤ h28.size := Nat.le_trans Z0 K28.1
  have N28 := Fr.snoc X28 N25 g_b2
  have V28 : Arv Z h28 b2 k2 .int (6 : Int32) [(.int (-1 : Int32)), (.int (0 : Int32)), (.int p2), (.int p3), (.int p4), (.int (0 : Int32))] (.int (0 : Int32)) := Arv.set a27 q27 s27 m27 i27 u27 rfl W28 4 rfl (Nat.le_of_ble_eq_true rfl)
  have pre29 : ∀ t, Steps p.tables e below (T28.setTop (mkF m 54 #[.val (.int xa), .val (.int xb), .val (.ref b2), .unset, .unset, .unset, .unset] [])) t → Steps p.tables e below (s₁.setTop (entryFrame m #[(.int xa), (.int xb)] maxLocals)) t := fun t k => pre26 t (st28 t k)
  have pre30 : ∀ t, Steps p.tables e below (T28.setTop (mkF m 65 #[.val (.int xa), .val (.int xb), .val (.ref b2), .unset, .unset, .unset, .unset] [(.int (((xa.toUInt32 >>> ((9 : Int32) &&& 31).toUInt32).toInt32) &&& (7 : Int32))), (.int (4 : Int32)), (.ref b2), (.int (5 : Int32)), (.ref b2)])) t → Steps p.tables e below (s₁.setTop (entryFrame m #[(.int xa), (.int xb)] maxLocals)) t := by
    intro t k
    refine pre29 t ?_
    refine XS.aloadN X28.here hx rfl (hb hby at_54) rfl rfl ?_
    show Steps p.tables e below (T28.setTop (mkF m 55 #[.val (.int xa), .val (.int xb), .val (.ref b2), .unset, .unset, .unset, .unset] [(.ref b2)])) _
    refine XS.iconst X28.here hx rfl (hb hby at_55) ?_
    show Steps p.tables e below (T28.setTop (mkF m 56 #[.val (.int xa), .val (.int xb), .val (.ref b2), .unset, .unset, .unset, .unset] [(.int (5 : Int32)), (.ref b2)])) _
    refine XS.aloadN X28.here hx rfl (hb hby at_56) rfl rfl ?_
    show Steps p.tables e below (T28.setTop (mkF m 57 #[.val (.int xa), .val (.int xb), .val (.ref b2), .unset, .unset, .unset, .unset] [(.ref b2), (.int (5 : Int32)), (.ref b2)])) _
    refine XS.iconst X28.here hx rfl (hb hby at_57) ?_
    show Steps p.tables e below (T28.setTop (mkF m 58 #[.val (.int xa), .val (.int xb), .val (.ref b2), .unset, .unset, .unset, .unset] [(.int (4 : Int32)), (.ref b2), (.int (5 : Int32)), (.ref b2)])) _
    refine XS.iloadN X28.here hx rfl (hb hby at_58) rfl ?_
    show Steps p.tables e below (T28.setTop (mkF m 59 #[.val (.int xa), .val (.int xb), .val (.ref b2), .unset, .unset, .unset, .unset] [(.int xa), (.int (4 : Int32)), (.ref b2), (.int (5 : Int32)), (.ref b2)])) _
    refine XS.bipush X28.here hx rfl (hb hby at_59) ?_
    show Steps p.tables e below (T28.setTop (mkF m 61 #[.val (.int xa), .val (.int xb), .val (.ref b2), .unset, .unset, .unset, .unset] [(.int (9 : Int32)), (.int xa), (.int (4 : Int32)), (.ref b2), (.int (5 : Int32)), (.ref b2)])) _
    refine XS.iushr X28.here hx rfl (hb hby at_61) rfl ?_
    show Steps p.tables e below (T28.setTop (mkF m 62 #[.val (.int xa), .val (.int xb), .val (.ref b2), .unset, .unset, .unset, .unset] [(.int ((xa.toUInt32 >>> ((9 : Int32) &&& 31).toUInt32).toInt32)), (.int (4 : Int32)), (.ref b2), (.int (5 : Int32)), (.ref b2)])) _
    refine XS.bipush X28.here hx rfl (hb hby at_62) ?_
    show Steps p.tables e below (T28.setTop (mkF m 64 #[.val (.int xa), .val (.int xb), .val (.ref b2), .unset, .unset, .unset, .unset] [(.int (7 : Int32)), (.int ((xa.toUInt32 >>> ((9 : Int32) &&& 31).toUInt32).toInt32)), (.int (4 : Int32)), (.ref b2), (.int (5 : Int32)), (.ref b2)])) _
    refine XS.iand X28.here hx rfl (hb hby at_64) rfl ?_
    show Steps p.tables e below (T28.setTop (mkF m 65 #[.val (.int xa), .val (.int xb), .val (.ref b2), .unset, .unset, .unset, .unset] [(.int (((xa.toUInt32 >>> ((9 : Int32) &&& 31).toUInt32).toInt32) &&& (7 : Int32))), (.int (4 : Int32)), (.ref b2), (.int (5 : Int32)), (.ref b2)])) _
    exact k
  obtain ⟨_, _, ⟨T31, L31, k31, n31⟩, -, X31, ⟨Lc31, hQ31, l31, y31, z31⟩, st31⟩ := Jvm.LawKit.callS X28 hx (y := (⟨"com/example/xidr/xidr/xml/tree/TreeAfterSubtreePinLaw", "up", "([III)I"⟩ : MethodName)) hown (mvT hZ (hw _ (List.mem_of_getElem? (i := 1) rfl))) (mvT hZ (hw _ (List.mem_of_getElem? (i := 2) rfl))) (mvT hZ (hw _ (List.mem_of_getElem? (i := 3) rfl))) (mvT hZ (hw _ (List.mem_of_getElem? (i := 4) rfl))) (by decide) (backOf (W := 2) (rm_up l Z a0 hw [] b2 (4 : Int32) (((xa.toUInt32 >>> ((9 : Int32) &&& 31).toUInt32).toInt32) &&& (7 : Int32)) k2 ([(-1 : Int32), (0 : Int32), p2, p3, p4, (0 : Int32)] : List Int32) h28 n0 z28 V28 (by decide) (own_cl5 _ _ _ G4)) hZ (hw _ (List.mem_of_getElem? (i := 4) rfl)) (hw _ (List.mem_of_getElem? (i := 3) rfl)) (by decide) (by decide)) (g := (mkF m 65 #[.val (.int xa), .val (.int xb), .val (.ref b2), .unset, .unset, .unset, .unset] [(.int (((xa.toUInt32 >>> ((9 : Int32) &&& 31).toUInt32).toInt32) &&& (7 : Int32))), (.int (4 : Int32)), (.ref b2), (.int (5 : Int32)), (.ref b2)])) rfl (by rw [hml]; rfl) (argsL := [(.ref b2), (.int (4 : Int32)), (.int (((xa.toUInt32 >>> ((9 : Int32) &&& 31).toUInt32).toInt32) &&& (7 : Int32)))]) (rest := [(.int (5 : Int32)), (.ref b2)]) (lenOf pd1 rfl) rfl (by show 2 * 0 + _ ≤ _; exact Nat.le_of_eq rfl) (hb hby at_65) (fun _ _ => ⟨rfl, e28, (by decide : 1 + 0 ≤ _), (by decide : 6 + 0 ≤ _)⟩)
  dsimp only [Pt.U, Pt.locs, Pt.cells, Pt.slots] at X31 l31 y31 z31 st31 hQ31
  subst y31 z31
  obtain ⟨rfl, M31, e31⟩ := hQ31
  have N31 : Fr n0 L31 := by rw [l31]; exact Fr.app N28 M31
  clear l31
  have X31 : Stand p l e _ s m _ below meth c T31 _ 1 6 := X31
  have pre32 : ∀ t, Steps p.tables e below (T31.setTop (mkF m 68 #[.val (.int xa), .val (.int xb), .val (.ref b2), .unset, .unset, .unset, .unset] [(.int (own_up ([(-1 : Int32), (0 : Int32), p2, p3, p4, (0 : Int32)] : List Int32) (4 : Int32) (((xa.toUInt32 >>> ((9 : Int32) &&& 31).toUInt32).toInt32) &&& (7 : Int32)))), (.int (5 : Int32)), (.ref b2)])) t → Steps p.tables e below (s₁.setTop (entryFrame m #[(.int xa), (.int xb)] maxLocals)) t := fun t k => pre30 t (st31 t k)
  obtain ⟨p5, hp5⟩ : ∃ z : Int32, z = (own_up ([(-1 : Int32), (0 : Int32), p2, p3, p4, (0 : Int32)] : List Int32) (4 : Int32) (((xa.toUInt32 >>> ((9 : Int32) &&& 31).toUInt32).toInt32) &&& (7 : Int32))) := ⟨_, rfl⟩
  rw [← hp5] at pre32
  have G5 := own_g5 _ _ _ _ _ G4 hp5
  obtain ⟨c33, a33, q33, s33, m33, i33, u33⟩ := id V28
  obtain ⟨T34, h34, X34, e34, W34, st34⟩ := stI X31 hx hZ e31 a33 (j := (5 : Int32)) (inb_of s33 ⟨by decide, by decide⟩) (g := (mkF m 68 #[.val (.int xa), .val (.int xb), .val (.ref b2), .unset, .unset, .unset, .unset] [(.int p5), (.int (5 : Int32)), (.ref b2)])) rfl rfl (hb hby at_68)
  have K34 : Keep h0 h34 ([] : List Addr) := K28.wr W34 (Or.inr sz_b2)
  have z34 : n0 ≤ h34.size := Nat.le_trans Z0 K34.1
  have N34 := Fr.snoc X34 N31 g_b2
  have V34 : Arv Z h34 b2 k2 .int (6 : Int32) [(.int (-1 : Int32)), (.int (0 : Int32)), (.int p2), (.int p3), (.int p4), (.int p5)] (.int (0 : Int32)) := Arv.set a33 q33 s33 m33 i33 u33 rfl W34 5 rfl (Nat.le_of_ble_eq_true rfl)
  have pre35 : ∀ t, Steps p.tables e below (T34.setTop (mkF m 69 #[.val (.int xa), .val (.int xb), .val (.ref b2), .unset, .unset, .unset, .unset] [])) t → Steps p.tables e below (s₁.setTop (entryFrame m #[(.int xa), (.int xb)] maxLocals)) t := fun t k => pre32 t (st34 t k)
  have pre36 : ∀ t, Steps p.tables e below (T34.setTop (mkF m 71 #[.val (.int xa), .val (.int xb), .val (.ref b2), .unset, .unset, .unset, .unset] [(.int (6 : Int32))])) t → Steps p.tables e below (s₁.setTop (entryFrame m #[(.int xa), (.int xb)] maxLocals)) t := by
    intro t k
    refine pre35 t ?_
    refine XS.bipush X34.here hx rfl (hb hby at_69) ?_
    show Steps p.tables e below (T34.setTop (mkF m 71 #[.val (.int xa), .val (.int xb), .val (.ref b2), .unset, .unset, .unset, .unset] [(.int (6 : Int32))])) _
    exact k
  obtain ⟨T37, h37, k37, X37, e37, E37, A37, st37⟩ := newP X34 hx hZ (hw _ (List.mem_of_getElem? (i := 0) rfl)) e34 (g := (mkF m 71 #[.val (.int xa), .val (.int xb), .val (.ref b2), .unset, .unset, .unset, .unset] [(.int (6 : Int32))])) rfl (hb hby at_71) rfl (by decide) (cap := 6) (by decide) (by decide) (by decide) (by decide)
  obtain ⟨b37, g37⟩ : ∃ z, z = h34.size := ⟨_, rfl⟩
  rw [← g37] at A37 st37
  have g_b37 : n0 ≤ b37 := Nat.le_trans z34 (Nat.le_of_eq g37.symm)
  have sz_b37 : h0.size ≤ b37 := Nat.le_trans K34.1 (Nat.le_of_eq g37.symm)
  have K37 : Keep h0 h37 ([] : List Addr) := K34.ext E37
  have z37 : n0 ≤ h37.size := Nat.le_trans Z0 K37.1
  have V_b37 : Arv Z h37 b37 k37 .int (6 : Int32) [(.int (0 : Int32)), (.int (0 : Int32)), (.int (0 : Int32)), (.int (0 : Int32)), (.int (0 : Int32)), (.int (0 : Int32))] (.int (0 : Int32)) := (Arv.new A37 (by decide)).pad (pad_rep [] (.int (0 : Int32)) 6)
  have X37 : Stand p l e _ s m _ below meth c T37 _ 2 12 := X37
  have pre38 : ∀ t, Steps p.tables e below (T37.setTop (mkF m 73 #[.val (.int xa), .val (.int xb), .val (.ref b2), .unset, .unset, .unset, .unset] [(.ref b37)])) t → Steps p.tables e below (s₁.setTop (entryFrame m #[(.int xa), (.int xb)] maxLocals)) t := fun t k => pre36 t (st37 t k)
  have pre39 : ∀ t, Steps p.tables e below (T37.setTop (mkF m 78 #[.val (.int xa), .val (.int xb), .val (.ref b2), .val (.ref b37), .unset, .unset, .unset] [(.int (0 : Int32)), (.ref b2), (.int (0 : Int32)), (.ref b37)])) t → Steps p.tables e below (s₁.setTop (entryFrame m #[(.int xa), (.int xb)] maxLocals)) t := by
    intro t k
    refine pre38 t ?_
    refine XS.astoreN X37.here hx rfl (hb hby at_73) rfl rfl (l' := #[.val (.int xa), .val (.int xb), .val (.ref b2), .val (.ref b37), .unset, .unset, .unset]) rfl ?_
    show Steps p.tables e below (T37.setTop (mkF m 74 #[.val (.int xa), .val (.int xb), .val (.ref b2), .val (.ref b37), .unset, .unset, .unset] [])) _
    refine XS.aloadN X37.here hx rfl (hb hby at_74) rfl rfl ?_
    show Steps p.tables e below (T37.setTop (mkF m 75 #[.val (.int xa), .val (.int xb), .val (.ref b2), .val (.ref b37), .unset, .unset, .unset] [(.ref b37)])) _
    refine XS.iconst X37.here hx rfl (hb hby at_75) ?_
    show Steps p.tables e below (T37.setTop (mkF m 76 #[.val (.int xa), .val (.int xb), .val (.ref b2), .val (.ref b37), .unset, .unset, .unset] [(.int (0 : Int32)), (.ref b37)])) _
    refine XS.aloadN X37.here hx rfl (hb hby at_76) rfl rfl ?_
    show Steps p.tables e below (T37.setTop (mkF m 77 #[.val (.int xa), .val (.int xb), .val (.ref b2), .val (.ref b37), .unset, .unset, .unset] [(.ref b2), (.int (0 : Int32)), (.ref b37)])) _
    refine XS.iconst X37.here hx rfl (hb hby at_77) ?_
    show Steps p.tables e below (T37.setTop (mkF m 78 #[.val (.int xa), .val (.int xb), .val (.ref b2), .val (.ref b37), .unset, .unset, .unset] [(.int (0 : Int32)), (.ref b2), (.int (0 : Int32)), (.ref b37)])) _
    exact k
  have f40 := (V34.ext E37)
  obtain ⟨_, _, ⟨T41, L41, k41, n41⟩, -, X41, ⟨Lc41, hQ41, l41, y41, z41⟩, st41⟩ := Jvm.LawKit.callS X37 hx (y := (⟨"com/example/xidr/xidr/xml/tree/TreeAfterSubtreePinLaw", "next", "([II)I"⟩ : MethodName)) hown (mvT hZ (hw _ (List.mem_of_getElem? (i := 5) rfl))) (mvT hZ (hw _ (List.mem_of_getElem? (i := 6) rfl))) (mvT hZ (hw _ (List.mem_of_getElem? (i := 3) rfl))) (mvT hZ (hw _ (List.mem_of_getElem? (i := 7) rfl))) (by decide) (backOf (W := 2) (rm_next l Z a0 hw [] b2 (0 : Int32) k2 ([(-1 : Int32), (0 : Int32), p2, p3, p4, p5] : List Int32) h37 n0 z37 f40 (by decide)) hZ (hw _ (List.mem_of_getElem? (i := 7) rfl)) (hw _ (List.mem_of_getElem? (i := 3) rfl)) (by decide) (by decide)) (g := (mkF m 78 #[.val (.int xa), .val (.int xb), .val (.ref b2), .val (.ref b37), .unset, .unset, .unset] [(.int (0 : Int32)), (.ref b2), (.int (0 : Int32)), (.ref b37)])) rfl (by rw [hml]; rfl) (argsL := [(.ref b2), (.int (0 : Int32))]) (rest := [(.int (0 : Int32)), (.ref b37)]) (lenOf pd2 rfl) rfl (by show 2 * 0 + _ ≤ _; exact Nat.le_of_eq rfl) (hb hby at_78) (fun _ _ => ⟨rfl, e37, (by decide : 2 + 0 ≤ _), (by decide : 12 + 0 ≤ _)⟩)
  dsimp only [Pt.U, Pt.locs, Pt.cells, Pt.slots] at X41 l41 y41 z41 st41 hQ41
  subst y41 z41
  obtain ⟨rfl, M41, e41⟩ := hQ41
  have N41 : Fr n0 L41 := by rw [l41]; exact Fr.app N34 M41
  clear l41
  have X41 : Stand p l e _ s m _ below meth c T41 _ 2 12 := X41
  have pre42 : ∀ t, Steps p.tables e below (T41.setTop (mkF m 81 #[.val (.int xa), .val (.int xb), .val (.ref b2), .val (.ref b37), .unset, .unset, .unset] [(.int (F_rm_next (0 : Int32) ([(-1 : Int32), (0 : Int32), p2, p3, p4, p5] : List Int32))), (.int (0 : Int32)), (.ref b37)])) t → Steps p.tables e below (s₁.setTop (entryFrame m #[(.int xa), (.int xb)] maxLocals)) t := fun t k => pre39 t (st41 t k)
  obtain ⟨s0, hs0⟩ : ∃ z : Int32, z = (F_rm_next (0 : Int32) ([(-1 : Int32), (0 : Int32), p2, p3, p4, p5] : List Int32)) := ⟨_, rfl⟩
  rw [← hs0] at pre42
  obtain ⟨c43, a43, q43, s43, m43, i43, u43⟩ := id V_b37
  obtain ⟨T44, h44, X44, e44, W44, st44⟩ := stI X41 hx hZ e41 a43 (j := (0 : Int32)) (inb_of s43 ⟨by decide, by decide⟩) (g := (mkF m 81 #[.val (.int xa), .val (.int xb), .val (.ref b2), .val (.ref b37), .unset, .unset, .unset] [(.int s0), (.int (0 : Int32)), (.ref b37)])) rfl rfl (hb hby at_81)
  have K44 : Keep h0 h44 ([] : List Addr) := K37.wr W44 (Or.inr sz_b37)
  have z44 : n0 ≤ h44.size := Nat.le_trans Z0 K44.1
  have N44 := Fr.snoc X44 N41 g_b37
  have V44 : Arv Z h44 b37 k37 .int (6 : Int32) [(.int s0), (.int (0 : Int32)), (.int (0 : Int32)), (.int (0 : Int32)), (.int (0 : Int32)), (.int (0 : Int32))] (.int (0 : Int32)) := Arv.set a43 q43 s43 m43 i43 u43 rfl W44 0 rfl (Nat.le_of_ble_eq_true rfl)
  have pre45 : ∀ t, Steps p.tables e below (T44.setTop (mkF m 82 #[.val (.int xa), .val (.int xb), .val (.ref b2), .val (.ref b37), .unset, .unset, .unset] [])) t → Steps p.tables e below (s₁.setTop (entryFrame m #[(.int xa), (.int xb)] maxLocals)) t := fun t k => pre42 t (st44 t k)
  have pre46 : ∀ t, Steps p.tables e below (T44.setTop (mkF m 86 #[.val (.int xa), .val (.int xb), .val (.ref b2), .val (.ref b37), .unset, .unset, .unset] [(.int (1 : Int32)), (.ref b2), (.int (1 : Int32)), (.ref b37)])) t → Steps p.tables e below (s₁.setTop (entryFrame m #[(.int xa), (.int xb)] maxLocals)) t := by
    intro t k
    refine pre45 t ?_
    refine XS.aloadN X44.here hx rfl (hb hby at_82) rfl rfl ?_
    show Steps p.tables e below (T44.setTop (mkF m 83 #[.val (.int xa), .val (.int xb), .val (.ref b2), .val (.ref b37), .unset, .unset, .unset] [(.ref b37)])) _
    refine XS.iconst X44.here hx rfl (hb hby at_83) ?_
    show Steps p.tables e below (T44.setTop (mkF m 84 #[.val (.int xa), .val (.int xb), .val (.ref b2), .val (.ref b37), .unset, .unset, .unset] [(.int (1 : Int32)), (.ref b37)])) _
    refine XS.aloadN X44.here hx rfl (hb hby at_84) rfl rfl ?_
    show Steps p.tables e below (T44.setTop (mkF m 85 #[.val (.int xa), .val (.int xb), .val (.ref b2), .val (.ref b37), .unset, .unset, .unset] [(.ref b2), (.int (1 : Int32)), (.ref b37)])) _
    refine XS.iconst X44.here hx rfl (hb hby at_85) ?_
    show Steps p.tables e below (T44.setTop (mkF m 86 #[.val (.int xa), .val (.int xb), .val (.ref b2), .val (.ref b37), .unset, .unset, .unset] [(.int (1 : Int32)), (.ref b2), (.int (1 : Int32)), (.ref b37)])) _
    exact k
  have f47 := (f40.other W44 (Nat.ne_of_lt (Nat.lt_of_lt_of_le V34.lt (Nat.le_of_eq g37.symm))))
  obtain ⟨_, _, ⟨T48, L48, k48, n48⟩, -, X48, ⟨Lc48, hQ48, l48, y48, z48⟩, st48⟩ := Jvm.LawKit.callS X44 hx (y := (⟨"com/example/xidr/xidr/xml/tree/TreeAfterSubtreePinLaw", "next", "([II)I"⟩ : MethodName)) hown (mvT hZ (hw _ (List.mem_of_getElem? (i := 5) rfl))) (mvT hZ (hw _ (List.mem_of_getElem? (i := 6) rfl))) (mvT hZ (hw _ (List.mem_of_getElem? (i := 3) rfl))) (mvT hZ (hw _ (List.mem_of_getElem? (i := 7) rfl))) (by decide) (backOf (W := 2) (rm_next l Z a0 hw [] b2 (1 : Int32) k2 ([(-1 : Int32), (0 : Int32), p2, p3, p4, p5] : List Int32) h44 n0 z44 f47 (by decide)) hZ (hw _ (List.mem_of_getElem? (i := 7) rfl)) (hw _ (List.mem_of_getElem? (i := 3) rfl)) (by decide) (by decide)) (g := (mkF m 86 #[.val (.int xa), .val (.int xb), .val (.ref b2), .val (.ref b37), .unset, .unset, .unset] [(.int (1 : Int32)), (.ref b2), (.int (1 : Int32)), (.ref b37)])) rfl (by rw [hml]; rfl) (argsL := [(.ref b2), (.int (1 : Int32))]) (rest := [(.int (1 : Int32)), (.ref b37)]) (lenOf pd2 rfl) rfl (by show 2 * 0 + _ ≤ _; exact Nat.le_of_eq rfl) (hb hby at_86) (fun _ _ => ⟨rfl, e44, (by decide : 2 + 0 ≤ _), (by decide : 12 + 0 ≤ _)⟩)
  dsimp only [Pt.U, Pt.locs, Pt.cells, Pt.slots] at X48 l48 y48 z48 st48 hQ48
  subst y48 z48
  obtain ⟨rfl, M48, e48⟩ := hQ48
  have N48 : Fr n0 L48 := by rw [l48]; exact Fr.app N44 M48
  clear l48
  have X48 : Stand p l e _ s m _ below meth c T48 _ 2 12 := X48
  have pre49 : ∀ t, Steps p.tables e below (T48.setTop (mkF m 89 #[.val (.int xa), .val (.int xb), .val (.ref b2), .val (.ref b37), .unset, .unset, .unset] [(.int (F_rm_next (1 : Int32) ([(-1 : Int32), (0 : Int32), p2, p3, p4, p5] : List Int32))), (.int (1 : Int32)), (.ref b37)])) t → Steps p.tables e below (s₁.setTop (entryFrame m #[(.int xa), (.int xb)] maxLocals)) t := fun t k => pre46 t (st48 t k)
  obtain ⟨s1, hs1⟩ : ∃ z : Int32, z = (F_rm_next (1 : Int32) ([(-1 : Int32), (0 : Int32), p2, p3, p4, p5] : List Int32)) := ⟨_, rfl⟩
  rw [← hs1] at pre49
  obtain ⟨c50, a50, q50, s50, m50, i50, u50⟩ := id V44
  obtain ⟨T51, h51, X51, e51, W51, st51⟩ := stI X48 hx hZ e48 a50 (j := (1 : Int32)) (inb_of s50 ⟨by decide, by decide⟩) (g := (mkF m 89 #[.val (.int xa), .val (.int xb), .val (.ref b2), .val (.ref b37), .unset, .unset, .unset] [(.int s1), (.int (1 : Int32)), (.ref b37)])) rfl rfl (hb hby at_89)
  have K51 : Keep h0 h51 ([] : List Addr) := K44.wr W51 (Or.inr sz_b37)
  have z51 : n0 ≤ h51.size := Nat.le_trans Z0 K51.1
  have N51 := Fr.snoc X51 N48 g_b37
  have V51 : Arv Z h51 b37 k37 .int (6 : Int32) [(.int s0), (.int s1), (.int (0 : Int32)), (.int (0 : Int32)), (.int (0 : Int32)), (.int (0 : Int32))] (.int (0 : Int32)) := Arv.set a50 q50 s50 m50 i50 u50 rfl W51 1 rfl (Nat.le_of_ble_eq_true rfl)
  have pre52 : ∀ t, Steps p.tables e below (T51.setTop (mkF m 90 #[.val (.int xa), .val (.int xb), .val (.ref b2), .val (.ref b37), .unset, .unset, .unset] [])) t → Steps p.tables e below (s₁.setTop (entryFrame m #[(.int xa), (.int xb)] maxLocals)) t := fun t k => pre49 t (st51 t k)
  have pre53 : ∀ t, Steps p.tables e below (T51.setTop (mkF m 94 #[.val (.int xa), .val (.int xb), .val (.ref b2), .val (.ref b37), .unset, .unset, .unset] [(.int (2 : Int32)), (.ref b2), (.int (2 : Int32)), (.ref b37)])) t → Steps p.tables e below (s₁.setTop (entryFrame m #[(.int xa), (.int xb)] maxLocals)) t := by
    intro t k
    refine pre52 t ?_
    refine XS.aloadN X51.here hx rfl (hb hby at_90) rfl rfl ?_
    show Steps p.tables e below (T51.setTop (mkF m 91 #[.val (.int xa), .val (.int xb), .val (.ref b2), .val (.ref b37), .unset, .unset, .unset] [(.ref b37)])) _
    refine XS.iconst X51.here hx rfl (hb hby at_91) ?_
    show Steps p.tables e below (T51.setTop (mkF m 92 #[.val (.int xa), .val (.int xb), .val (.ref b2), .val (.ref b37), .unset, .unset, .unset] [(.int (2 : Int32)), (.ref b37)])) _
    refine XS.aloadN X51.here hx rfl (hb hby at_92) rfl rfl ?_
    show Steps p.tables e below (T51.setTop (mkF m 93 #[.val (.int xa), .val (.int xb), .val (.ref b2), .val (.ref b37), .unset, .unset, .unset] [(.ref b2), (.int (2 : Int32)), (.ref b37)])) _
    refine XS.iconst X51.here hx rfl (hb hby at_93) ?_
    show Steps p.tables e below (T51.setTop (mkF m 94 #[.val (.int xa), .val (.int xb), .val (.ref b2), .val (.ref b37), .unset, .unset, .unset] [(.int (2 : Int32)), (.ref b2), (.int (2 : Int32)), (.ref b37)])) _
    exact k
  have f54 := (f47.other W51 (Nat.ne_of_lt (Nat.lt_of_lt_of_le V34.lt (Nat.le_of_eq g37.symm))))
  obtain ⟨_, _, ⟨T55, L55, k55, n55⟩, -, X55, ⟨Lc55, hQ55, l55, y55, z55⟩, st55⟩ := Jvm.LawKit.callS X51 hx (y := (⟨"com/example/xidr/xidr/xml/tree/TreeAfterSubtreePinLaw", "next", "([II)I"⟩ : MethodName)) hown (mvT hZ (hw _ (List.mem_of_getElem? (i := 5) rfl))) (mvT hZ (hw _ (List.mem_of_getElem? (i := 6) rfl))) (mvT hZ (hw _ (List.mem_of_getElem? (i := 3) rfl))) (mvT hZ (hw _ (List.mem_of_getElem? (i := 7) rfl))) (by decide) (backOf (W := 2) (rm_next l Z a0 hw [] b2 (2 : Int32) k2 ([(-1 : Int32), (0 : Int32), p2, p3, p4, p5] : List Int32) h51 n0 z51 f54 (by decide)) hZ (hw _ (List.mem_of_getElem? (i := 7) rfl)) (hw _ (List.mem_of_getElem? (i := 3) rfl)) (by decide) (by decide)) (g := (mkF m 94 #[.val (.int xa), .val (.int xb), .val (.ref b2), .val (.ref b37), .unset, .unset, .unset] [(.int (2 : Int32)), (.ref b2), (.int (2 : Int32)), (.ref b37)])) rfl (by rw [hml]; rfl) (argsL := [(.ref b2), (.int (2 : Int32))]) (rest := [(.int (2 : Int32)), (.ref b37)]) (lenOf pd2 rfl) rfl (by show 2 * 0 + _ ≤ _; exact Nat.le_of_eq rfl) (hb hby at_94) (fun _ _ => ⟨rfl, e51, (by decide : 2 + 0 ≤ _), (by decide : 12 + 0 ≤ _)⟩)
  dsimp only [Pt.U, Pt.locs, Pt.cells, Pt.slots] at X55 l55 y55 z55 st55 hQ55
  subst y55 z55
  obtain ⟨rfl, M55, e55⟩ := hQ55
  have N55 : Fr n0 L55 := by rw [l55]; exact Fr.app N51 M55
  clear l55
  have X55 : Stand p l e _ s m _ below meth c T55 _ 2 12 := X55
  have pre56 : ∀ t, Steps p.tables e below (T55.setTop (mkF m 97 #[.val (.int xa), .val (.int xb), .val (.ref b2), .val (.ref b37), .unset, .unset, .unset] [(.int (F_rm_next (2 : Int32) ([(-1 : Int32), (0 : Int32), p2, p3, p4, p5] : List Int32))), (.int (2 : Int32)), (.ref b37)])) t → Steps p.tables e below (s₁.setTop (entryFrame m #[(.int xa), (.int xb)] maxLocals)) t := fun t k => pre53 t (st55 t k)
  obtain ⟨s2, hs2⟩ : ∃ z : Int32, z = (F_rm_next (2 : Int32) ([(-1 : Int32), (0 : Int32), p2, p3, p4, p5] : List Int32)) := ⟨_, rfl⟩
  rw [← hs2] at pre56
  obtain ⟨c57, a57, q57, s57, m57, i57, u57⟩ := id V51
  obtain ⟨T58, h58, X58, e58, W58, st58⟩ := stI X55 hx hZ e55 a57 (j := (2 : Int32)) (inb_of s57 ⟨by decide, by decide⟩) (g := (mkF m 97 #[.val (.int xa), .val (.int xb), .val (.ref b2), .val (.ref b37), .unset, .unset, .unset] [(.int s2), (.int (2 : Int32)), (.ref b37)])) rfl rfl (hb hby at_97)
  have K58 : Keep h0 h58 ([] : List Addr) := K51.wr W58 (Or.inr sz_b37)
  have z58 : n0 ≤ h58.size := Nat.le_trans Z0 K58.1
  have N58 := Fr.snoc X58 N55 g_b37
  have V58 : Arv Z h58 b37 k37 .int (6 : Int32) [(.int s0), (.int s1), (.int s2), (.int (0 : Int32)), (.int (0 : Int32)), (.int (0 : Int32))] (.int (0 : Int32)) := Arv.set a57 q57 s57 m57 i57 u57 rfl W58 2 rfl (Nat.le_of_ble_eq_true rfl)
  have pre59 : ∀ t, Steps p.tables e below (T58.setTop (mkF m 98 #[.val (.int xa), .val (.int xb), .val (.ref b2), .val (.ref b37), .unset, .unset, .unset] [])) t → Steps p.tables e below (s₁.setTop (entryFrame m #[(.int xa), (.int xb)] maxLocals)) t := fun t k => pre56 t (st58 t k)
  have pre60 : ∀ t, Steps p.tables e below (T58.setTop (mkF m 102 #[.val (.int xa), .val (.int xb), .val (.ref b2), .val (.ref b37), .unset, .unset, .unset] [(.int (3 : Int32)), (.ref b2), (.int (3 : Int32)), (.ref b37)])) t → Steps p.tables e below (s₁.setTop (entryFrame m #[(.int xa), (.int xb)] maxLocals)) t := by
    intro t k
    refine pre59 t ?_
    refine XS.aloadN X58.here hx rfl (hb hby at_98) rfl rfl ?_
    show Steps p.tables e below (T58.setTop (mkF m 99 #[.val (.int xa), .val (.int xb), .val (.ref b2), .val (.ref b37), .unset, .unset, .unset] [(.ref b37)])) _
    refine XS.iconst X58.here hx rfl (hb hby at_99) ?_
    show Steps p.tables e below (T58.setTop (mkF m 100 #[.val (.int xa), .val (.int xb), .val (.ref b2), .val (.ref b37), .unset, .unset, .unset] [(.int (3 : Int32)), (.ref b37)])) _
    refine XS.aloadN X58.here hx rfl (hb hby at_100) rfl rfl ?_
    show Steps p.tables e below (T58.setTop (mkF m 101 #[.val (.int xa), .val (.int xb), .val (.ref b2), .val (.ref b37), .unset, .unset, .unset] [(.ref b2), (.int (3 : Int32)), (.ref b37)])) _
    refine XS.iconst X58.here hx rfl (hb hby at_101) ?_
    show Steps p.tables e below (T58.setTop (mkF m 102 #[.val (.int xa), .val (.int xb), .val (.ref b2), .val (.ref b37), .unset, .unset, .unset] [(.int (3 : Int32)), (.ref b2), (.int (3 : Int32)), (.ref b37)])) _
    exact k
  have f61 := (f54.other W58 (Nat.ne_of_lt (Nat.lt_of_lt_of_le V34.lt (Nat.le_of_eq g37.symm))))
  obtain ⟨_, _, ⟨T62, L62, k62, n62⟩, -, X62, ⟨Lc62, hQ62, l62, y62, z62⟩, st62⟩ := Jvm.LawKit.callS X58 hx (y := (⟨"com/example/xidr/xidr/xml/tree/TreeAfterSubtreePinLaw", "next", "([II)I"⟩ : MethodName)) hown (mvT hZ (hw _ (List.mem_of_getElem? (i := 5) rfl))) (mvT hZ (hw _ (List.mem_of_getElem? (i := 6) rfl))) (mvT hZ (hw _ (List.mem_of_getElem? (i := 3) rfl))) (mvT hZ (hw _ (List.mem_of_getElem? (i := 7) rfl))) (by decide) (backOf (W := 2) (rm_next l Z a0 hw [] b2 (3 : Int32) k2 ([(-1 : Int32), (0 : Int32), p2, p3, p4, p5] : List Int32) h58 n0 z58 f61 (by decide)) hZ (hw _ (List.mem_of_getElem? (i := 7) rfl)) (hw _ (List.mem_of_getElem? (i := 3) rfl)) (by decide) (by decide)) (g := (mkF m 102 #[.val (.int xa), .val (.int xb), .val (.ref b2), .val (.ref b37), .unset, .unset, .unset] [(.int (3 : Int32)), (.ref b2), (.int (3 : Int32)), (.ref b37)])) rfl (by rw [hml]; rfl) (argsL := [(.ref b2), (.int (3 : Int32))]) (rest := [(.int (3 : Int32)), (.ref b37)]) (lenOf pd2 rfl) rfl (by show 2 * 0 + _ ≤ _; exact Nat.le_of_eq rfl) (hb hby at_102) (fun _ _ => ⟨rfl, e58, (by decide : 2 + 0 ≤ _), (by decide : 12 + 0 ≤ _)⟩)
  dsimp only [Pt.U, Pt.locs, Pt.cells, Pt.slots] at X62 l62 y62 z62 st62 hQ62
  subst y62 z62
  obtain ⟨rfl, M62, e62⟩ := hQ62
  have N62 : Fr n0 L62 := by rw [l62]; exact Fr.app N58 M62
  clear l62
  have X62 : Stand p l e _ s m _ below meth c T62 _ 2 12 := X62
  have pre63 : ∀ t, Steps p.tables e below (T62.setTop (mkF m 105 #[.val (.int xa), .val (.int xb), .val (.ref b2), .val (.ref b37), .unset, .unset, .unset] [(.int (F_rm_next (3 : Int32) ([(-1 : Int32), (0 : Int32), p2, p3, p4, p5] : List Int32))), (.int (3 : Int32)), (.ref b37)])) t → Steps p.tables e below (s₁.setTop (entryFrame m #[(.int xa), (.int xb)] maxLocals)) t := fun t k => pre60 t (st62 t k)
  obtain ⟨s3, hs3⟩ : ∃ z : Int32, z = (F_rm_next (3 : Int32) ([(-1 : Int32), (0 : Int32), p2, p3, p4, p5] : List Int32)) := ⟨_, rfl⟩
  rw [← hs3] at pre63
  obtain ⟨c64, a64, q64, s64, m64, i64, u64⟩ := id V58
  obtain ⟨T65, h65, X65, e65, W65, st65⟩ := stI X62 hx hZ e62 a64 (j := (3 : Int32)) (inb_of s64 ⟨by decide, by decide⟩) (g := (mkF m 105 #[.val (.int xa), .val (.int xb), .val (.ref b2), .val (.ref b37), .unset, .unset, .unset] [(.int s3), (.int (3 : Int32)), (.ref b37)])) rfl rfl (hb hby at_105)
  have K65 : Keep h0 h65 ([] : List Addr) := K58.wr W65 (Or.inr sz_b37)
  have z65 : n0 ≤ h65.size := Nat.le_trans Z0 K65.1
  have N65 := Fr.snoc X65 N62 g_b37
  have V65 : Arv Z h65 b37 k37 .int (6 : Int32) [(.int s0), (.int s1), (.int s2), (.int s3), (.int (0 : Int32)), (.int (0 : Int32))] (.int (0 : Int32)) := Arv.set a64 q64 s64 m64 i64 u64 rfl W65 3 rfl (Nat.le_of_ble_eq_true rfl)
  have pre66 : ∀ t, Steps p.tables e below (T65.setTop (mkF m 106 #[.val (.int xa), .val (.int xb), .val (.ref b2), .val (.ref b37), .unset, .unset, .unset] [])) t → Steps p.tables e below (s₁.setTop (entryFrame m #[(.int xa), (.int xb)] maxLocals)) t := fun t k => pre63 t (st65 t k)
  have pre67 : ∀ t, Steps p.tables e below (T65.setTop (mkF m 110 #[.val (.int xa), .val (.int xb), .val (.ref b2), .val (.ref b37), .unset, .unset, .unset] [(.int (4 : Int32)), (.ref b2), (.int (4 : Int32)), (.ref b37)])) t → Steps p.tables e below (s₁.setTop (entryFrame m #[(.int xa), (.int xb)] maxLocals)) t := by
    intro t k
    refine pre66 t ?_
    refine XS.aloadN X65.here hx rfl (hb hby at_106) rfl rfl ?_
    show Steps p.tables e below (T65.setTop (mkF m 107 #[.val (.int xa), .val (.int xb), .val (.ref b2), .val (.ref b37), .unset, .unset, .unset] [(.ref b37)])) _
    refine XS.iconst X65.here hx rfl (hb hby at_107) ?_
    show Steps p.tables e below (T65.setTop (mkF m 108 #[.val (.int xa), .val (.int xb), .val (.ref b2), .val (.ref b37), .unset, .unset, .unset] [(.int (4 : Int32)), (.ref b37)])) _
    refine XS.aloadN X65.here hx rfl (hb hby at_108) rfl rfl ?_
    show Steps p.tables e below (T65.setTop (mkF m 109 #[.val (.int xa), .val (.int xb), .val (.ref b2), .val (.ref b37), .unset, .unset, .unset] [(.ref b2), (.int (4 : Int32)), (.ref b37)])) _
    refine XS.iconst X65.here hx rfl (hb hby at_109) ?_
    show Steps p.tables e below (T65.setTop (mkF m 110 #[.val (.int xa), .val (.int xb), .val (.ref b2), .val (.ref b37), .unset, .unset, .unset] [(.int (4 : Int32)), (.ref b2), (.int (4 : Int32)), (.ref b37)])) _
    exact k
  have f68 := (f61.other W65 (Nat.ne_of_lt (Nat.lt_of_lt_of_le V34.lt (Nat.le_of_eq g37.symm))))
  obtain ⟨_, _, ⟨T69, L69, k69, n69⟩, -, X69, ⟨Lc69, hQ69, l69, y69, z69⟩, st69⟩ := Jvm.LawKit.callS X65 hx (y := (⟨"com/example/xidr/xidr/xml/tree/TreeAfterSubtreePinLaw", "next", "([II)I"⟩ : MethodName)) hown (mvT hZ (hw _ (List.mem_of_getElem? (i := 5) rfl))) (mvT hZ (hw _ (List.mem_of_getElem? (i := 6) rfl))) (mvT hZ (hw _ (List.mem_of_getElem? (i := 3) rfl))) (mvT hZ (hw _ (List.mem_of_getElem? (i := 7) rfl))) (by decide) (backOf (W := 2) (rm_next l Z a0 hw [] b2 (4 : Int32) k2 ([(-1 : Int32), (0 : Int32), p2, p3, p4, p5] : List Int32) h65 n0 z65 f68 (by decide)) hZ (hw _ (List.mem_of_getElem? (i := 7) rfl)) (hw _ (List.mem_of_getElem? (i := 3) rfl)) (by decide) (by decide)) (g := (mkF m 110 #[.val (.int xa), .val (.int xb), .val (.ref b2), .val (.ref b37), .unset, .unset, .unset] [(.int (4 : Int32)), (.ref b2), (.int (4 : Int32)), (.ref b37)])) rfl (by rw [hml]; rfl) (argsL := [(.ref b2), (.int (4 : Int32))]) (rest := [(.int (4 : Int32)), (.ref b37)]) (lenOf pd2 rfl) rfl (by show 2 * 0 + _ ≤ _; exact Nat.le_of_eq rfl) (hb hby at_110) (fun _ _ => ⟨rfl, e65, (by decide : 2 + 0 ≤ _), (by decide : 12 + 0 ≤ _)⟩)
  dsimp only [Pt.U, Pt.locs, Pt.cells, Pt.slots] at X69 l69 y69 z69 st69 hQ69
  subst y69 z69
  obtain ⟨rfl, M69, e69⟩ := hQ69
  have N69 : Fr n0 L69 := by rw [l69]; exact Fr.app N65 M69
  clear l69
  have X69 : Stand p l e _ s m _ below meth c T69 _ 2 12 := X69
  have pre70 : ∀ t, Steps p.tables e below (T69.setTop (mkF m 113 #[.val (.int xa), .val (.int xb), .val (.ref b2), .val (.ref b37), .unset, .unset, .unset] [(.int (F_rm_next (4 : Int32) ([(-1 : Int32), (0 : Int32), p2, p3, p4, p5] : List Int32))), (.int (4 : Int32)), (.ref b37)])) t → Steps p.tables e below (s₁.setTop (entryFrame m #[(.int xa), (.int xb)] maxLocals)) t := fun t k => pre67 t (st69 t k)
  obtain ⟨s4, hs4⟩ : ∃ z : Int32, z = (F_rm_next (4 : Int32) ([(-1 : Int32), (0 : Int32), p2, p3, p4, p5] : List Int32)) := ⟨_, rfl⟩
  rw [← hs4] at pre70
  obtain ⟨c71, a71, q71, s71, m71, i71, u71⟩ := id V65
  obtain ⟨T72, h72, X72, e72, W72, st72⟩ := stI X69 hx hZ e69 a71 (j := (4 : Int32)) (inb_of s71 ⟨by decide, by decide⟩) (g := (mkF m 113 #[.val (.int xa), .val (.int xb), .val (.ref b2), .val (.ref b37), .unset, .unset, .unset] [(.int s4), (.int (4 : Int32)), (.ref b37)])) rfl rfl (hb hby at_113)
  have K72 : Keep h0 h72 ([] : List Addr) := K65.wr W72 (Or.inr sz_b37)
  have z72 : n0 ≤ h72.size := Nat.le_trans Z0 K72.1
  have N72 := Fr.snoc X72 N69 g_b37
  have V72 : Arv Z h72 b37 k37 .int (6 : Int32) [(.int s0), (.int s1), (.int s2), (.int s3), (.int s4), (.int (0 : Int32))] (.int (0 : Int32)) := Arv.set a71 q71 s71 m71 i71 u71 rfl W72 4 rfl (Nat.le_of_ble_eq_true rfl)
  have pre73 : ∀ t, Steps p.tables e below (T72.setTop (mkF m 114 #[.val (.int xa), .val (.int xb), .val (.ref b2), .val (.ref b37), .unset, .unset, .unset] [])) t → Steps p.tables e below (s₁.setTop (entryFrame m #[(.int xa), (.int xb)] maxLocals)) t := fun t k => pre70 t (st72 t k)
  have pre74 : ∀ t, Steps p.tables e below (T72.setTop (mkF m 118 #[.val (.int xa), .val (.int xb), .val (.ref b2), .val (.ref b37), .unset, .unset, .unset] [(.int (5 : Int32)), (.ref b2), (.int (5 : Int32)), (.ref b37)])) t → Steps p.tables e below (s₁.setTop (entryFrame m #[(.int xa), (.int xb)] maxLocals)) t := by
    intro t k
    refine pre73 t ?_
    refine XS.aloadN X72.here hx rfl (hb hby at_114) rfl rfl ?_
    show Steps p.tables e below (T72.setTop (mkF m 115 #[.val (.int xa), .val (.int xb), .val (.ref b2), .val (.ref b37), .unset, .unset, .unset] [(.ref b37)])) _
    refine XS.iconst X72.here hx rfl (hb hby at_115) ?_
    show Steps p.tables e below (T72.setTop (mkF m 116 #[.val (.int xa), .val (.int xb), .val (.ref b2), .val (.ref b37), .unset, .unset, .unset] [(.int (5 : Int32)), (.ref b37)])) _
    refine XS.aloadN X72.here hx rfl (hb hby at_116) rfl rfl ?_
    show Steps p.tables e below (T72.setTop (mkF m 117 #[.val (.int xa), .val (.int xb), .val (.ref b2), .val (.ref b37), .unset, .unset, .unset] [(.ref b2), (.int (5 : Int32)), (.ref b37)])) _
    refine XS.iconst X72.here hx rfl (hb hby at_117) ?_
    show Steps p.tables e below (T72.setTop (mkF m 118 #[.val (.int xa), .val (.int xb), .val (.ref b2), .val (.ref b37), .unset, .unset, .unset] [(.int (5 : Int32)), (.ref b2), (.int (5 : Int32)), (.ref b37)])) _
    exact k
  have f75 := (f68.other W72 (Nat.ne_of_lt (Nat.lt_of_lt_of_le V34.lt (Nat.le_of_eq g37.symm))))
  obtain ⟨_, _, ⟨T76, L76, k76, n76⟩, -, X76, ⟨Lc76, hQ76, l76, y76, z76⟩, st76⟩ := Jvm.LawKit.callS X72 hx (y := (⟨"com/example/xidr/xidr/xml/tree/TreeAfterSubtreePinLaw", "next", "([II)I"⟩ : MethodName)) hown (mvT hZ (hw _ (List.mem_of_getElem? (i := 5) rfl))) (mvT hZ (hw _ (List.mem_of_getElem? (i := 6) rfl))) (mvT hZ (hw _ (List.mem_of_getElem? (i := 3) rfl))) (mvT hZ (hw _ (List.mem_of_getElem? (i := 7) rfl))) (by decide) (backOf (W := 2) (rm_next l Z a0 hw [] b2 (5 : Int32) k2 ([(-1 : Int32), (0 : Int32), p2, p3, p4, p5] : List Int32) h72 n0 z72 f75 (by decide)) hZ (hw _ (List.mem_of_getElem? (i := 7) rfl)) (hw _ (List.mem_of_getElem? (i := 3) rfl)) (by decide) (by decide)) (g := (mkF m 118 #[.val (.int xa), .val (.int xb), .val (.ref b2), .val (.ref b37), .unset, .unset, .unset] [(.int (5 : Int32)), (.ref b2), (.int (5 : Int32)), (.ref b37)])) rfl (by rw [hml]; rfl) (argsL := [(.ref b2), (.int (5 : Int32))]) (rest := [(.int (5 : Int32)), (.ref b37)]) (lenOf pd2 rfl) rfl (by show 2 * 0 + _ ≤ _; exact Nat.le_of_eq rfl) (hb hby at_118) (fun _ _ => ⟨rfl, e72, (by decide : 2 + 0 ≤ _), (by decide : 12 + 0 ≤ _)⟩)
  dsimp only [Pt.U, Pt.locs, Pt.cells, Pt.slots] at X76 l76 y76 z76 st76 hQ76
  subst y76 z76
  obtain ⟨rfl, M76, e76⟩ := hQ76
  have N76 : Fr n0 L76 := by rw [l76]; exact Fr.app N72 M76
  clear l76
  have X76 : Stand p l e _ s m _ below meth c T76 _ 2 12 := X76
  have pre77 : ∀ t, Steps p.tables e below (T76.setTop (mkF m 121 #[.val (.int xa), .val (.int xb), .val (.ref b2), .val (.ref b37), .unset, .unset, .unset] [(.int (F_rm_next (5 : Int32) ([(-1 : Int32), (0 : Int32), p2, p3, p4, p5] : List Int32))), (.int (5 : Int32)), (.ref b37)])) t → Steps p.tables e below (s₁.setTop (entryFrame m #[(.int xa), (.int xb)] maxLocals)) t := fun t k => pre74 t (st76 t k)
  obtain ⟨s5, hs5⟩ : ∃ z : Int32, z = (F_rm_next (5 : Int32) ([(-1 : Int32), (0 : Int32), p2, p3, p4, p5] : List Int32)) := ⟨_, rfl⟩
  rw [← hs5] at pre77
  obtain ⟨c78, a78, q78, s78, m78, i78, u78⟩ := id V72
  obtain ⟨T79, h79, X79, e79, W79, st79⟩ := stI X76 hx hZ e76 a78 (j := (5 : Int32)) (inb_of s78 ⟨by decide, by decide⟩) (g := (mkF m 121 #[.val (.int xa), .val (.int xb), .val (.ref b2), .val (.ref b37), .unset, .unset, .unset] [(.int s5), (.int (5 : Int32)), (.ref b37)])) rfl rfl (hb hby at_121)
  have K79 : Keep h0 h79 ([] : List Addr) := K72.wr W79 (Or.inr sz_b37)
  have z79 : n0 ≤ h79.size := Nat.le_trans Z0 K79.1
  have N79 := Fr.snoc X79 N76 g_b37
  have V79 : Arv Z h79 b37 k37 .int (6 : Int32) [(.int s0), (.int s1), (.int s2), (.int s3), (.int s4), (.int s5)] (.int (0 : Int32)) := Arv.set a78 q78 s78 m78 i78 u78 rfl W79 5 rfl (Nat.le_of_ble_eq_true rfl)
  have pre80 : ∀ t, Steps p.tables e below (T79.setTop (mkF m 122 #[.val (.int xa), .val (.int xb), .val (.ref b2), .val (.ref b37), .unset, .unset, .unset] [])) t → Steps p.tables e below (s₁.setTop (entryFrame m #[(.int xa), (.int xb)] maxLocals)) t := fun t k => pre77 t (st79 t k)
  obtain ⟨T81, h81, X81, e81, E81, A81, D81, -, st81⟩ := newO X79 hx hZ hown (hw _ (List.mem_of_getElem? (i := 8) rfl)) (hw _ (List.mem_of_getElem? (i := 9) rfl)) (hw _ (List.mem_of_getElem? (i := 10) rfl)) e79 (g := (mkF m 122 #[.val (.int xa), .val (.int xb), .val (.ref b2), .val (.ref b37), .unset, .unset, .unset] [])) rfl (hb hby at_122) (by decide) (by decide)
  obtain ⟨b81, g81⟩ : ∃ z, z = h79.size := ⟨_, rfl⟩
  rw [← g81] at A81 D81 st81
  have g_b81 : n0 ≤ b81 := Nat.le_trans z79 (Nat.le_of_eq g81.symm)
  have sz_b81 : h0.size ≤ b81 := Nat.le_trans K79.1 (Nat.le_of_eq g81.symm)
  have K81 : Keep h0 h81 ([] : List Addr) := K79.ext E81
  have z81 : n0 ≤ h81.size := Nat.le_trans Z0 K81.1
  have F_kinds_b81 : Fld Z h81 b81 "com/example/xidr/xidr/xml/tree/TreeBuilder$Parts" "kinds" "[B" .null := D81 (Or.inl (hw _ (List.mem_of_getElem? (i := 19) rfl))) (ty := (.array .byte)) (by decide)
  have F_parents_b81 : Fld Z h81 b81 "com/example/xidr/xidr/xml/tree/TreeBuilder$Parts" "parents" "[I" .null := D81 (Or.inl (hw _ (List.mem_of_getElem? (i := 21) rfl))) (ty := (.array .int)) (by decide)
  have F_nextSiblings_b81 : Fld Z h81 b81 "com/example/xidr/xidr/xml/tree/TreeBuilder$Parts" "nextSiblings" "[I" .null := D81 (Or.inl (hw _ (List.mem_of_getElem? (i := 23) rfl))) (ty := (.array .int)) (by decide)
  have F_data_b81 : Fld Z h81 b81 "com/example/xidr/xidr/xml/tree/TreeBuilder$Parts" "data" "[I" .null := D81 (Or.inl (hw _ (List.mem_of_getElem? (i := 25) rfl))) (ty := (.array .int)) (by decide)
  have F_owners_b81 : Fld Z h81 b81 "com/example/xidr/xidr/xml/tree/TreeBuilder$Parts" "owners" "[I" .null := D81 (Or.inl (hw _ (List.mem_of_getElem? (i := 27) rfl))) (ty := (.array .int)) (by decide)
  have F_attributeNames_b81 : Fld Z h81 b81 "com/example/xidr/xidr/xml/tree/TreeBuilder$Parts" "attributeNames" "[I" .null := D81 (Or.inl (hw _ (List.mem_of_getElem? (i := 29) rfl))) (ty := (.array .int)) (by decide)
  have F_attributeValues_b81 : Fld Z h81 b81 "com/example/xidr/xidr/xml/tree/TreeBuilder$Parts" "attributeValues" "[I" .null := D81 (Or.inl (hw _ (List.mem_of_getElem? (i := 31) rfl))) (ty := (.array .int)) (by decide)
  have F_attributeTypes_b81 : Fld Z h81 b81 "com/example/xidr/xidr/xml/tree/TreeBuilder$Parts" "attributeTypes" "[B" .null := D81 (Or.inl (hw _ (List.mem_of_getElem? (i := 33) rfl))) (ty := (.array .byte)) (by decide)
  have F_names_b81 : Fld Z h81 b81 "com/example/xidr/xidr/xml/tree/TreeBuilder$Parts" "names" "Ljava/util/List;" .null := D81 (Or.inr (hw _ (List.mem_of_getElem? (i := 59) rfl))) (ty := (.object "java/util/List")) (by decide)
  have F_narrowText_b81 : Fld Z h81 b81 "com/example/xidr/xidr/xml/tree/TreeBuilder$Parts" "narrowText" "[B" .null := D81 (Or.inl (hw _ (List.mem_of_getElem? (i := 61) rfl))) (ty := (.array .byte)) (by decide)
  have F_valueStarts_b81 : Fld Z h81 b81 "com/example/xidr/xidr/xml/tree/TreeBuilder$Parts" "valueStarts" "[I" .null := D81 (Or.inl (hw _ (List.mem_of_getElem? (i := 63) rfl))) (ty := (.array .int)) (by decide)
  have F_instructions_b81 : Fld Z h81 b81 "com/example/xidr/xidr/xml/tree/TreeBuilder$Parts" "instructions" "[I" .null := D81 (Or.inl (hw _ (List.mem_of_getElem? (i := 65) rfl))) (ty := (.array .int)) (by decide)
  have F_instructionData_b81 : Fld Z h81 b81 "com/example/xidr/xidr/xml/tree/TreeBuilder$Parts" "instructionData" "[I" .null := D81 (Or.inl (hw _ (List.mem_of_getElem? (i := 67) rfl))) (ty := (.array .int)) (by decide)
  have F_nodeCount_b81 : Fld Z h81 b81 "com/example/xidr/xidr/xml/tree/TreeBuilder$Parts" "nodeCount" "I" (.int (0 : Int32)) := D81 (Or.inl (hw _ (List.mem_of_getElem? (i := 71) rfl))) (ty := .int) (by decide)
  have F_attributeCount_b81 : Fld Z h81 b81 "com/example/xidr/xidr/xml/tree/TreeBuilder$Parts" "attributeCount" "I" (.int (0 : Int32)) := D81 (Or.inl (hw _ (List.mem_of_getElem? (i := 107) rfl))) (ty := .int) (by decide)
  have F_wideText_b81 : Fld Z h81 b81 "com/example/xidr/xidr/xml/tree/TreeBuilder$Parts" "wideText" "[C" .null := D81 (Or.inl (hw _ (List.mem_of_getElem? (i := 117) rfl))) (ty := (.array .char)) (by decide)
  have X81 : Stand p l e _ s m _ below meth c T81 _ 3 29 := X81
  have pre82 : ∀ t, Steps p.tables e below (T81.setTop (mkF m 125 #[.val (.int xa), .val (.int xb), .val (.ref b2), .val (.ref b37), .unset, .unset, .unset] [(.ref b81)])) t → Steps p.tables e below (s₁.setTop (entryFrame m #[(.int xa), (.int xb)] maxLocals)) t := fun t k => pre80 t (st81 t k)
  have pre83 : ∀ t, Steps p.tables e below (T81.setTop (mkF m 126 #[.val (.int xa), .val (.int xb), .val (.ref b2), .val (.ref b37), .unset, .unset, .unset] [(.ref b81), (.ref b81)])) t → Steps p.tables e below (s₁.setTop (entryFrame m #[(.int xa), (.int xb)] maxLocals)) t := by
    intro t k
    refine pre82 t ?_
    refine XS.dup X81.here hx rfl (hb hby at_125) rfl rfl ?_
    show Steps p.tables e below (T81.setTop (mkF m 126 #[.val (.int xa), .val (.int xb), .val (.ref b2), .val (.ref b37), .unset, .unset, .unset] [(.ref b81), (.ref b81)])) _
    exact k
  have f84 := (SD.ext (own_keep_ext K81))
  obtain ⟨_, _, ⟨T85, L85, k85, n85⟩, -, X85, ⟨Lc85, hQ85, l85, y85, z85⟩, st85⟩ := X81.specialBack hx (y := (⟨"com/example/xidr/xidr/xml/tree/TreeBuilder$Parts", "<init>", "()V"⟩ : MethodName)) rfl hown (mvT hZ (hw _ (List.mem_of_getElem? (i := 11) rfl))) (mvT hZ (hw _ (List.mem_of_getElem? (i := 12) rfl))) (mvT hZ (hw _ (List.mem_of_getElem? (i := 13) rfl))) (by decide) (backOf (W := 1) (rm_parts l Z a0 hw [] b81 wl h81 n0 z81 A81 (g_b81) F_kinds_b81 F_parents_b81 F_nextSiblings_b81 F_data_b81 F_owners_b81 F_attributeNames_b81 F_attributeValues_b81 F_attributeTypes_b81 F_names_b81 F_narrowText_b81 F_valueStarts_b81 F_instructions_b81 F_instructionData_b81 F_nodeCount_b81 F_attributeCount_b81 F_wideText_b81 f84) hZ (hw _ (List.mem_of_getElem? (i := 13) rfl)) (hw _ (List.mem_of_getElem? (i := 10) rfl)) (by decide) (by decide)) (g := (mkF m 126 #[.val (.int xa), .val (.int xb), .val (.ref b2), .val (.ref b37), .unset, .unset, .unset] [(.ref b81), (.ref b81)])) rfl (by rw [hml]; rfl) (Steps.refl _) (a := b81) (argsL := []) (rest := [(.ref b81)]) (lenOf pd0 rfl) rfl (by show 2 * 0 + _ ≤ _; exact Nat.le_of_eq rfl) (hb hby at_126) (fun _ _ => ⟨rfl, e81, (by decide : 3 + 13 ≤ _), (by decide : 29 + 10244 ≤ _)⟩)
  dsimp only [Pt.U, Pt.locs, Pt.cells, Pt.slots] at X85 l85 y85 z85 st85 hQ85
  subst y85 z85
  obtain ⟨y_kinds_85, y_parents_85, y_nextSiblings_85, y_data_85, y_owners_85, y_attributeNames_85, y_attributeValues_85, y_attributeTypes_85, y_names_85, y_narrowText_85, y_valueStarts_85, y_instructions_85, y_instructionData_85, rfl, M85, kp85, f85_0, f85_1, f85_2, f85_3, f85_4, f85_5, f85_6, f85_7, f85_8, f85_9, f85_10, f85_11, f85_12, f85_13, f85_14, f85_15, f85_16⟩ := hQ85
  have K85 : Keep h0 T85.heap ([] : List Addr) := K81.trans kp85 (allS (P := fun x => x ∈ ([] : List Addr) ∨ h0.size ≤ x) (Or.inr sz_b81) all0)
  have zz85 : n0 ≤ T85.heap.size := Nat.le_trans Z0 K85.1
  have N85 : Fr n0 L85 := by rw [l85]; exact Fr.app N79 M85
  clear l85
  have X85 : Stand p l e _ s m _ below meth c T85 _ 16 10273 := X85
  have pre86 : ∀ t, Steps p.tables e below (T85.setTop (mkF m 129 #[.val (.int xa), .val (.int xb), .val (.ref b2), .val (.ref b37), .unset, .unset, .unset] [(.ref b81)])) t → Steps p.tables e below (s₁.setTop (entryFrame m #[(.int xa), (.int xb)] maxLocals)) t := fun t k => pre83 t (st85.trans k)
  have pre87 : ∀ t, Steps p.tables e below (T85.setTop (mkF m 134 #[.val (.int xa), .val (.int xb), .val (.ref b2), .val (.ref b37), .val (.ref b81), .unset, .unset] [(.ref b2), (.ref b81)])) t → Steps p.tables e below (s₁.setTop (entryFrame m #[(.int xa), (.int xb)] maxLocals)) t := by
    intro t k
    refine pre86 t ?_
    refine XS.astore X85.here hx rfl (hb hby at_129) rfl rfl (l' := #[.val (.int xa), .val (.int xb), .val (.ref b2), .val (.ref b37), .val (.ref b81), .unset, .unset]) rfl ?_
    show Steps p.tables e below (T85.setTop (mkF m 131 #[.val (.int xa), .val (.int xb), .val (.ref b2), .val (.ref b37), .val (.ref b81), .unset, .unset] [])) _
    refine XS.aload X85.here hx rfl (hb hby at_131) rfl rfl ?_
    show Steps p.tables e below (T85.setTop (mkF m 133 #[.val (.int xa), .val (.int xb), .val (.ref b2), .val (.ref b37), .val (.ref b81), .unset, .unset] [(.ref b81)])) _
    refine XS.aloadN X85.here hx rfl (hb hby at_133) rfl rfl ?_
    show Steps p.tables e below (T85.setTop (mkF m 134 #[.val (.int xa), .val (.int xb), .val (.ref b2), .val (.ref b37), .val (.ref b81), .unset, .unset] [(.ref b2), (.ref b81)])) _
    exact k
  obtain ⟨T88, h88, X88, e88, W88, st88⟩ := putF X85 hx hZ hown (host := "") (Or.inl (hw _ (List.mem_of_getElem? (i := 68) rfl))) Via.refl rfl f85_2 f85_0 (Or.inl (hw _ (List.mem_of_getElem? (i := 21) rfl))) (hw _ (List.mem_of_getElem? (i := 9) rfl)) (ty := (.array .int)) (by decide) rfl rfl (g := (mkF m 134 #[.val (.int xa), .val (.int xb), .val (.ref b2), .val (.ref b37), .val (.ref b81), .unset, .unset] [(.ref b2), (.ref b81)])) rfl rfl (hb hby at_134)
  have K88 : Keep h0 h88 ([] : List Addr) := K85.wr W88 (Or.inr sz_b81)
  have z88 : n0 ≤ h88.size := Nat.le_trans Z0 K88.1
  have N88 := Fr.snoc X88 N85 g_b81
  have Fw88 := f85_2.same W88
  have pre89 : ∀ t, Steps p.tables e below (T88.setTop (mkF m 137 #[.val (.int xa), .val (.int xb), .val (.ref b2), .val (.ref b37), .val (.ref b81), .unset, .unset] [])) t → Steps p.tables e below (s₁.setTop (entryFrame m #[(.int xa), (.int xb)] maxLocals)) t := fun t k => pre87 t (st88 t k)
  have pre90 : ∀ t, Steps p.tables e below (T88.setTop (mkF m 140 #[.val (.int xa), .val (.int xb), .val (.ref b2), .val (.ref b37), .val (.ref b81), .unset, .unset] [(.ref b37), (.ref b81)])) t → Steps p.tables e below (s₁.setTop (entryFrame m #[(.int xa), (.int xb)] maxLocals)) t := by
    intro t k
    refine pre89 t ?_
    refine XS.aload X88.here hx rfl (hb hby at_137) rfl rfl ?_
    show Steps p.tables e below (T88.setTop (mkF m 139 #[.val (.int xa), .val (.int xb), .val (.ref b2), .val (.ref b37), .val (.ref b81), .unset, .unset] [(.ref b81)])) _
    refine XS.aloadN X88.here hx rfl (hb hby at_139) rfl rfl ?_
    show Steps p.tables e below (T88.setTop (mkF m 140 #[.val (.int xa), .val (.int xb), .val (.ref b2), .val (.ref b37), .val (.ref b81), .unset, .unset] [(.ref b37), (.ref b81)])) _
    exact k
  have f91 := (f85_0.wr W88)
  have f92 := (f85_3.other W88 (Or.inr (slot_ne (Or.inl (hw _ (List.mem_of_getElem? (i := 23) rfl))) (Or.inl (hw _ (List.mem_of_getElem? (i := 21) rfl))) (by decide) (t := (.array .int)) (t' := (.array .int)) (by decide) (by decide))))
  obtain ⟨T93, h93, X93, e93, W93, st93⟩ := putF X88 hx hZ hown (host := "") (Or.inl (hw _ (List.mem_of_getElem? (i := 69) rfl))) Via.refl e88 f92 f91 (Or.inl (hw _ (List.mem_of_getElem? (i := 23) rfl))) (hw _ (List.mem_of_getElem? (i := 9) rfl)) (ty := (.array .int)) (by decide) rfl rfl (g := (mkF m 140 #[.val (.int xa), .val (.int xb), .val (.ref b2), .val (.ref b37), .val (.ref b81), .unset, .unset] [(.ref b37), (.ref b81)])) rfl rfl (hb hby at_140)
  have K93 : Keep h0 h93 ([] : List Addr) := K88.wr W93 (Or.inr sz_b81)
  have z93 : n0 ≤ h93.size := Nat.le_trans Z0 K93.1
  have N93 := Fr.snoc X93 N88 g_b81
  have Fw93 := f92.same W93
  have pre94 : ∀ t, Steps p.tables e below (T93.setTop (mkF m 143 #[.val (.int xa), .val (.int xb), .val (.ref b2), .val (.ref b37), .val (.ref b81), .unset, .unset] [])) t → Steps p.tables e below (s₁.setTop (entryFrame m #[(.int xa), (.int xb)] maxLocals)) t := fun t k => pre90 t (st93 t k)
  have pre95 : ∀ t, Steps p.tables e below (T93.setTop (mkF m 147 #[.val (.int xa), .val (.int xb), .val (.ref b2), .val (.ref b37), .val (.ref b81), .unset, .unset] [(.int (6 : Int32)), (.ref b81)])) t → Steps p.tables e below (s₁.setTop (entryFrame m #[(.int xa), (.int xb)] maxLocals)) t := by
    intro t k
    refine pre94 t ?_
    refine XS.aload X93.here hx rfl (hb hby at_143) rfl rfl ?_
    show Steps p.tables e below (T93.setTop (mkF m 145 #[.val (.int xa), .val (.int xb), .val (.ref b2), .val (.ref b37), .val (.ref b81), .unset, .unset] [(.ref b81)])) _
    refine XS.bipush X93.here hx rfl (hb hby at_145) ?_
    show Steps p.tables e below (T93.setTop (mkF m 147 #[.val (.int xa), .val (.int xb), .val (.ref b2), .val (.ref b37), .val (.ref b81), .unset, .unset] [(.int (6 : Int32)), (.ref b81)])) _
    exact k
  have f96 := (f91.wr W93)
  have f97 := ((f85_14.other W88 (Or.inr (slot_ne (Or.inl (hw _ (List.mem_of_getElem? (i := 71) rfl))) (Or.inl (hw _ (List.mem_of_getElem? (i := 21) rfl))) (by decide) (t := .int) (t' := (.array .int)) (by decide) (by decide)))).other W93 (Or.inr (slot_ne (Or.inl (hw _ (List.mem_of_getElem? (i := 71) rfl))) (Or.inl (hw _ (List.mem_of_getElem? (i := 23) rfl))) (by decide) (t := .int) (t' := (.array .int)) (by decide) (by decide))))
  obtain ⟨T98, h98, X98, e98, W98, st98⟩ := putF X93 hx hZ hown (host := "") (Or.inl (hw _ (List.mem_of_getElem? (i := 70) rfl))) Via.refl e93 f97 f96 (Or.inl (hw _ (List.mem_of_getElem? (i := 71) rfl))) (hw _ (List.mem_of_getElem? (i := 9) rfl)) (ty := .int) (by decide) rfl rfl (g := (mkF m 147 #[.val (.int xa), .val (.int xb), .val (.ref b2), .val (.ref b37), .val (.ref b81), .unset, .unset] [(.int (6 : Int32)), (.ref b81)])) rfl rfl (hb hby at_147)
  have K98 : Keep h0 h98 ([] : List Addr) := K93.wr W98 (Or.inr sz_b81)
  have z98 : n0 ≤ h98.size := Nat.le_trans Z0 K98.1
  have N98 := Fr.snoc X98 N93 g_b81
  have Fw98 := f97.same W98
  have pre99 : ∀ t, Steps p.tables e below (T98.setTop (mkF m 150 #[.val (.int xa), .val (.int xb), .val (.ref b2), .val (.ref b37), .val (.ref b81), .unset, .unset] [])) t → Steps p.tables e below (s₁.setTop (entryFrame m #[(.int xa), (.int xb)] maxLocals)) t := fun t k => pre95 t (st98 t k)
  obtain ⟨T100, h100, X100, e100, E100, A100, D100, -, st100⟩ := newO X98 hx hZ hown (hw _ (List.mem_of_getElem? (i := 72) rfl)) (hw _ (List.mem_of_getElem? (i := 73) rfl)) (hw _ (List.mem_of_getElem? (i := 74) rfl)) e98 (g := (mkF m 150 #[.val (.int xa), .val (.int xb), .val (.ref b2), .val (.ref b37), .val (.ref b81), .unset, .unset] [])) rfl (hb hby at_150) (by decide) (by decide)
  obtain ⟨b100, g100⟩ : ∃ z, z = h98.size := ⟨_, rfl⟩
  rw [← g100] at A100 D100 st100
  have g_b100 : n0 ≤ b100 := Nat.le_trans z98 (Nat.le_of_eq g100.symm)
  have sz_b100 : h0.size ≤ b100 := Nat.le_trans K98.1 (Nat.le_of_eq g100.symm)
  have K100 : Keep h0 h100 ([] : List Addr) := K98.ext E100
  have z100 : n0 ≤ h100.size := Nat.le_trans Z0 K100.1
  have F_kinds_b100 : Fld Z h100 b100 "com/example/xidr/xidr/xml/tree/Tree" "kinds" "[B" .null := D100 (Or.inr (hw _ (List.mem_of_getElem? (i := 81) rfl))) (ty := (.array .byte)) (by decide)
  have F_parents_b100 : Fld Z h100 b100 "com/example/xidr/xidr/xml/tree/Tree" "parents" "[I" .null := D100 (Or.inr (hw _ (List.mem_of_getElem? (i := 84) rfl))) (ty := (.array .int)) (by decide)
  have F_nextSiblings_b100 : Fld Z h100 b100 "com/example/xidr/xidr/xml/tree/Tree" "nextSiblings" "[I" .null := D100 (Or.inr (hw _ (List.mem_of_getElem? (i := 87) rfl))) (ty := (.array .int)) (by decide)
  have F_data_b100 : Fld Z h100 b100 "com/example/xidr/xidr/xml/tree/Tree" "data" "[I" .null := D100 (Or.inr (hw _ (List.mem_of_getElem? (i := 90) rfl))) (ty := (.array .int)) (by decide)
  have F_nodeCount_b100 : Fld Z h100 b100 "com/example/xidr/xidr/xml/tree/Tree" "nodeCount" "I" (.int (0 : Int32)) := D100 (Or.inr (hw _ (List.mem_of_getElem? (i := 93) rfl))) (ty := .int) (by decide)
  have F_owners_b100 : Fld Z h100 b100 "com/example/xidr/xidr/xml/tree/Tree" "owners" "[I" .null := D100 (Or.inr (hw _ (List.mem_of_getElem? (i := 96) rfl))) (ty := (.array .int)) (by decide)
  have F_attributeNames_b100 : Fld Z h100 b100 "com/example/xidr/xidr/xml/tree/Tree" "attributeNames" "[I" .null := D100 (Or.inr (hw _ (List.mem_of_getElem? (i := 99) rfl))) (ty := (.array .int)) (by decide)
  have F_attributeValues_b100 : Fld Z h100 b100 "com/example/xidr/xidr/xml/tree/Tree" "attributeValues" "[I" .null := D100 (Or.inr (hw _ (List.mem_of_getElem? (i := 102) rfl))) (ty := (.array .int)) (by decide)
  have F_attributeTypes_b100 : Fld Z h100 b100 "com/example/xidr/xidr/xml/tree/Tree" "attributeTypes" "[B" .null := D100 (Or.inr (hw _ (List.mem_of_getElem? (i := 105) rfl))) (ty := (.array .byte)) (by decide)
  have F_attributeCount_b100 : Fld Z h100 b100 "com/example/xidr/xidr/xml/tree/Tree" "attributeCount" "I" (.int (0 : Int32)) := D100 (Or.inr (hw _ (List.mem_of_getElem? (i := 109) rfl))) (ty := .int) (by decide)
  have F_names_b100 : Fld Z h100 b100 "com/example/xidr/xidr/xml/tree/Tree" "names" "Ljava/util/List;" .null := D100 (Or.inr (hw _ (List.mem_of_getElem? (i := 112) rfl))) (ty := (.object "java/util/List")) (by decide)
  have F_narrowText_b100 : Fld Z h100 b100 "com/example/xidr/xidr/xml/tree/Tree" "narrowText" "[B" .null := D100 (Or.inr (hw _ (List.mem_of_getElem? (i := 115) rfl))) (ty := (.array .byte)) (by decide)
  have F_wideText_b100 : Fld Z h100 b100 "com/example/xidr/xidr/xml/tree/Tree" "wideText" "[C" .null := D100 (Or.inr (hw _ (List.mem_of_getElem? (i := 119) rfl))) (ty := (.array .char)) (by decide)
  have F_valueStarts_b100 : Fld Z h100 b100 "com/example/xidr/xidr/xml/tree/Tree" "valueStarts" "[I" .null := D100 (Or.inr (hw _ (List.mem_of_getElem? (i := 122) rfl))) (ty := (.array .int)) (by decide)
  have F_instructions_b100 : Fld Z h100 b100 "com/example/xidr/xidr/xml/tree/Tree" "instructions" "[I" .null := D100 (Or.inr (hw _ (List.mem_of_getElem? (i := 125) rfl))) (ty := (.array .int)) (by decide)
  have F_instructionData_b100 : Fld Z h100 b100 "com/example/xidr/xidr/xml/tree/Tree" "instructionData" "[I" .null := D100 (Or.inr (hw _ (List.mem_of_getElem? (i := 128) rfl))) (ty := (.array .int)) (by decide)
  have X100 : Stand p l e _ s m _ below meth c T100 _ 17 10290 := X100
  have pre101 : ∀ t, Steps p.tables e below (T100.setTop (mkF m 153 #[.val (.int xa), .val (.int xb), .val (.ref b2), .val (.ref b37), .val (.ref b81), .unset, .unset] [(.ref b100)])) t → Steps p.tables e below (s₁.setTop (entryFrame m #[(.int xa), (.int xb)] maxLocals)) t := fun t k => pre99 t (st100 t k)
  have pre102 : ∀ t, Steps p.tables e below (T100.setTop (mkF m 156 #[.val (.int xa), .val (.int xb), .val (.ref b2), .val (.ref b37), .val (.ref b81), .unset, .unset] [(.ref b81), (.ref b100), (.ref b100)])) t → Steps p.tables e below (s₁.setTop (entryFrame m #[(.int xa), (.int xb)] maxLocals)) t := by
    intro t k
    refine pre101 t ?_
    refine XS.dup X100.here hx rfl (hb hby at_153) rfl rfl ?_
    show Steps p.tables e below (T100.setTop (mkF m 154 #[.val (.int xa), .val (.int xb), .val (.ref b2), .val (.ref b37), .val (.ref b81), .unset, .unset] [(.ref b100), (.ref b100)])) _
    refine XS.aload X100.here hx rfl (hb hby at_154) rfl rfl ?_
    show Steps p.tables e below (T100.setTop (mkF m 156 #[.val (.int xa), .val (.int xb), .val (.ref b2), .val (.ref b37), .val (.ref b81), .unset, .unset] [(.ref b81), (.ref b100), (.ref b100)])) _
    exact k
  have f103 := ((((f85_1.other W88 (Or.inr (slot_ne (Or.inl (hw _ (List.mem_of_getElem? (i := 19) rfl))) (Or.inl (hw _ (List.mem_of_getElem? (i := 21) rfl))) (by decide) (t := (.array .byte)) (t' := (.array .int)) (by decide) (by decide)))).other W93 (Or.inr (slot_ne (Or.inl (hw _ (List.mem_of_getElem? (i := 19) rfl))) (Or.inl (hw _ (List.mem_of_getElem? (i := 23) rfl))) (by decide) (t := (.array .byte)) (t' := (.array .int)) (by decide) (by decide)))).other W98 (Or.inr (slot_ne (Or.inl (hw _ (List.mem_of_getElem? (i := 19) rfl))) (Or.inl (hw _ (List.mem_of_getElem? (i := 71) rfl))) (by decide) (t := (.array .byte)) (t' := .int) (by decide) (by decide)))).ext E100)
  have f104 := (((Fw88.other W93 (Or.inr (slot_ne (Or.inl (hw _ (List.mem_of_getElem? (i := 21) rfl))) (Or.inl (hw _ (List.mem_of_getElem? (i := 23) rfl))) (by decide) (t := (.array .int)) (t' := (.array .int)) (by decide) (by decide)))).other W98 (Or.inr (slot_ne (Or.inl (hw _ (List.mem_of_getElem? (i := 21) rfl))) (Or.inl (hw _ (List.mem_of_getElem? (i := 71) rfl))) (by decide) (t := (.array .int)) (t' := .int) (by decide) (by decide)))).ext E100)
  have f105 := ((Fw93.other W98 (Or.inr (slot_ne (Or.inl (hw _ (List.mem_of_getElem? (i := 23) rfl))) (Or.inl (hw _ (List.mem_of_getElem? (i := 71) rfl))) (by decide) (t := (.array .int)) (t' := .int) (by decide) (by decide)))).ext E100)
  have f106 := ((((f85_4.other W88 (Or.inr (slot_ne (Or.inl (hw _ (List.mem_of_getElem? (i := 25) rfl))) (Or.inl (hw _ (List.mem_of_getElem? (i := 21) rfl))) (by decide) (t := (.array .int)) (t' := (.array .int)) (by decide) (by decide)))).other W93 (Or.inr (slot_ne (Or.inl (hw _ (List.mem_of_getElem? (i := 25) rfl))) (Or.inl (hw _ (List.mem_of_getElem? (i := 23) rfl))) (by decide) (t := (.array .int)) (t' := (.array .int)) (by decide) (by decide)))).other W98 (Or.inr (slot_ne (Or.inl (hw _ (List.mem_of_getElem? (i := 25) rfl))) (Or.inl (hw _ (List.mem_of_getElem? (i := 71) rfl))) (by decide) (t := (.array .int)) (t' := .int) (by decide) (by decide)))).ext E100)
  have f107 := ((((f85_5.other W88 (Or.inr (slot_ne (Or.inl (hw _ (List.mem_of_getElem? (i := 27) rfl))) (Or.inl (hw _ (List.mem_of_getElem? (i := 21) rfl))) (by decide) (t := (.array .int)) (t' := (.array .int)) (by decide) (by decide)))).other W93 (Or.inr (slot_ne (Or.inl (hw _ (List.mem_of_getElem? (i := 27) rfl))) (Or.inl (hw _ (List.mem_of_getElem? (i := 23) rfl))) (by decide) (t := (.array .int)) (t' := (.array .int)) (by decide) (by decide)))).other W98 (Or.inr (slot_ne (Or.inl (hw _ (List.mem_of_getElem? (i := 27) rfl))) (Or.inl (hw _ (List.mem_of_getElem? (i := 71) rfl))) (by decide) (t := (.array .int)) (t' := .int) (by decide) (by decide)))).ext E100)
  have f108 := ((((f85_6.other W88 (Or.inr (slot_ne (Or.inl (hw _ (List.mem_of_getElem? (i := 29) rfl))) (Or.inl (hw _ (List.mem_of_getElem? (i := 21) rfl))) (by decide) (t := (.array .int)) (t' := (.array .int)) (by decide) (by decide)))).other W93 (Or.inr (slot_ne (Or.inl (hw _ (List.mem_of_getElem? (i := 29) rfl))) (Or.inl (hw _ (List.mem_of_getElem? (i := 23) rfl))) (by decide) (t := (.array .int)) (t' := (.array .int)) (by decide) (by decide)))).other W98 (Or.inr (slot_ne (Or.inl (hw _ (List.mem_of_getElem? (i := 29) rfl))) (Or.inl (hw _ (List.mem_of_getElem? (i := 71) rfl))) (by decide) (t := (.array .int)) (t' := .int) (by decide) (by decide)))).ext E100)
  have f109 := ((((f85_7.other W88 (Or.inr (slot_ne (Or.inl (hw _ (List.mem_of_getElem? (i := 31) rfl))) (Or.inl (hw _ (List.mem_of_getElem? (i := 21) rfl))) (by decide) (t := (.array .int)) (t' := (.array .int)) (by decide) (by decide)))).other W93 (Or.inr (slot_ne (Or.inl (hw _ (List.mem_of_getElem? (i := 31) rfl))) (Or.inl (hw _ (List.mem_of_getElem? (i := 23) rfl))) (by decide) (t := (.array .int)) (t' := (.array .int)) (by decide) (by decide)))).other W98 (Or.inr (slot_ne (Or.inl (hw _ (List.mem_of_getElem? (i := 31) rfl))) (Or.inl (hw _ (List.mem_of_getElem? (i := 71) rfl))) (by decide) (t := (.array .int)) (t' := .int) (by decide) (by decide)))).ext E100)
  have f110 := ((((f85_8.other W88 (Or.inr (slot_ne (Or.inl (hw _ (List.mem_of_getElem? (i := 33) rfl))) (Or.inl (hw _ (List.mem_of_getElem? (i := 21) rfl))) (by decide) (t := (.array .byte)) (t' := (.array .int)) (by decide) (by decide)))).other W93 (Or.inr (slot_ne (Or.inl (hw _ (List.mem_of_getElem? (i := 33) rfl))) (Or.inl (hw _ (List.mem_of_getElem? (i := 23) rfl))) (by decide) (t := (.array .byte)) (t' := (.array .int)) (by decide) (by decide)))).other W98 (Or.inr (slot_ne (Or.inl (hw _ (List.mem_of_getElem? (i := 33) rfl))) (Or.inl (hw _ (List.mem_of_getElem? (i := 71) rfl))) (by decide) (t := (.array .byte)) (t' := .int) (by decide) (by decide)))).ext E100)
  have f111 := ((((f85_9.other W88 (Or.inr (slot_ne (Or.inr (hw _ (List.mem_of_getElem? (i := 59) rfl))) (Or.inl (hw _ (List.mem_of_getElem? (i := 21) rfl))) (by decide) (t := (.object "java/util/List")) (t' := (.array .int)) (by decide) (by decide)))).other W93 (Or.inr (slot_ne (Or.inr (hw _ (List.mem_of_getElem? (i := 59) rfl))) (Or.inl (hw _ (List.mem_of_getElem? (i := 23) rfl))) (by decide) (t := (.object "java/util/List")) (t' := (.array .int)) (by decide) (by decide)))).other W98 (Or.inr (slot_ne (Or.inr (hw _ (List.mem_of_getElem? (i := 59) rfl))) (Or.inl (hw _ (List.mem_of_getElem? (i := 71) rfl))) (by decide) (t := (.object "java/util/List")) (t' := .int) (by decide) (by decide)))).ext E100)
  have f112 := ((((f85_10.other W88 (Or.inr (slot_ne (Or.inl (hw _ (List.mem_of_getElem? (i := 61) rfl))) (Or.inl (hw _ (List.mem_of_getElem? (i := 21) rfl))) (by decide) (t := (.array .byte)) (t' := (.array .int)) (by decide) (by decide)))).other W93 (Or.inr (slot_ne (Or.inl (hw _ (List.mem_of_getElem? (i := 61) rfl))) (Or.inl (hw _ (List.mem_of_getElem? (i := 23) rfl))) (by decide) (t := (.array .byte)) (t' := (.array .int)) (by decide) (by decide)))).other W98 (Or.inr (slot_ne (Or.inl (hw _ (List.mem_of_getElem? (i := 61) rfl))) (Or.inl (hw _ (List.mem_of_getElem? (i := 71) rfl))) (by decide) (t := (.array .byte)) (t' := .int) (by decide) (by decide)))).ext E100)
  have f113 := ((((f85_11.other W88 (Or.inr (slot_ne (Or.inl (hw _ (List.mem_of_getElem? (i := 63) rfl))) (Or.inl (hw _ (List.mem_of_getElem? (i := 21) rfl))) (by decide) (t := (.array .int)) (t' := (.array .int)) (by decide) (by decide)))).other W93 (Or.inr (slot_ne (Or.inl (hw _ (List.mem_of_getElem? (i := 63) rfl))) (Or.inl (hw _ (List.mem_of_getElem? (i := 23) rfl))) (by decide) (t := (.array .int)) (t' := (.array .int)) (by decide) (by decide)))).other W98 (Or.inr (slot_ne (Or.inl (hw _ (List.mem_of_getElem? (i := 63) rfl))) (Or.inl (hw _ (List.mem_of_getElem? (i := 71) rfl))) (by decide) (t := (.array .int)) (t' := .int) (by decide) (by decide)))).ext E100)
  have f114 := ((((f85_12.other W88 (Or.inr (slot_ne (Or.inl (hw _ (List.mem_of_getElem? (i := 65) rfl))) (Or.inl (hw _ (List.mem_of_getElem? (i := 21) rfl))) (by decide) (t := (.array .int)) (t' := (.array .int)) (by decide) (by decide)))).other W93 (Or.inr (slot_ne (Or.inl (hw _ (List.mem_of_getElem? (i := 65) rfl))) (Or.inl (hw _ (List.mem_of_getElem? (i := 23) rfl))) (by decide) (t := (.array .int)) (t' := (.array .int)) (by decide) (by decide)))).other W98 (Or.inr (slot_ne (Or.inl (hw _ (List.mem_of_getElem? (i := 65) rfl))) (Or.inl (hw _ (List.mem_of_getElem? (i := 71) rfl))) (by decide) (t := (.array .int)) (t' := .int) (by decide) (by decide)))).ext E100)
  have f115 := ((((f85_13.other W88 (Or.inr (slot_ne (Or.inl (hw _ (List.mem_of_getElem? (i := 67) rfl))) (Or.inl (hw _ (List.mem_of_getElem? (i := 21) rfl))) (by decide) (t := (.array .int)) (t' := (.array .int)) (by decide) (by decide)))).other W93 (Or.inr (slot_ne (Or.inl (hw _ (List.mem_of_getElem? (i := 67) rfl))) (Or.inl (hw _ (List.mem_of_getElem? (i := 23) rfl))) (by decide) (t := (.array .int)) (t' := (.array .int)) (by decide) (by decide)))).other W98 (Or.inr (slot_ne (Or.inl (hw _ (List.mem_of_getElem? (i := 67) rfl))) (Or.inl (hw _ (List.mem_of_getElem? (i := 71) rfl))) (by decide) (t := (.array .int)) (t' := .int) (by decide) (by decide)))).ext E100)
  have f116 := (Fw98.ext E100)
  have f117 := ((((f85_15.other W88 (Or.inr (slot_ne (Or.inl (hw _ (List.mem_of_getElem? (i := 107) rfl))) (Or.inl (hw _ (List.mem_of_getElem? (i := 21) rfl))) (by decide) (t := .int) (t' := (.array .int)) (by decide) (by decide)))).other W93 (Or.inr (slot_ne (Or.inl (hw _ (List.mem_of_getElem? (i := 107) rfl))) (Or.inl (hw _ (List.mem_of_getElem? (i := 23) rfl))) (by decide) (t := .int) (t' := (.array .int)) (by decide) (by decide)))).other W98 (Or.inr (slot_ne (Or.inl (hw _ (List.mem_of_getElem? (i := 107) rfl))) (Or.inl (hw _ (List.mem_of_getElem? (i := 71) rfl))) (by decide) (t := .int) (t' := .int) (by decide) (by decide)))).ext E100)
  have f118 := ((((f85_16.other W88 (Or.inr (slot_ne (Or.inl (hw _ (List.mem_of_getElem? (i := 117) rfl))) (Or.inl (hw _ (List.mem_of_getElem? (i := 21) rfl))) (by decide) (t := (.array .char)) (t' := (.array .int)) (by decide) (by decide)))).other W93 (Or.inr (slot_ne (Or.inl (hw _ (List.mem_of_getElem? (i := 117) rfl))) (Or.inl (hw _ (List.mem_of_getElem? (i := 23) rfl))) (by decide) (t := (.array .char)) (t' := (.array .int)) (by decide) (by decide)))).other W98 (Or.inr (slot_ne (Or.inl (hw _ (List.mem_of_getElem? (i := 117) rfl))) (Or.inl (hw _ (List.mem_of_getElem? (i := 71) rfl))) (by decide) (t := (.array .char)) (t' := .int) (by decide) (by decide)))).ext E100)
  obtain ⟨_, _, ⟨T119, L119, k119, n119⟩, -, X119, ⟨Lc119, hQ119, l119, y119, z119⟩, st119⟩ := X100.specialBack hx (y := (⟨"com/example/xidr/xidr/xml/tree/Tree", "<init>", "(Lcom/example/xidr/xidr/xml/tree/TreeBuilder$Parts;)V"⟩ : MethodName)) rfl hown (mvT hZ (hw _ (List.mem_of_getElem? (i := 75) rfl))) (mvT hZ (hw _ (List.mem_of_getElem? (i := 76) rfl))) (mvT hZ (hw _ (List.mem_of_getElem? (i := 77) rfl))) (by decide) (backOf (W := 1) (rm_tree l Z a0 hw [] b100 b81 y_kinds_85 b2 b37 y_data_85 y_owners_85 y_attributeNames_85 y_attributeValues_85 y_attributeTypes_85 y_names_85 y_narrowText_85 y_valueStarts_85 y_instructions_85 y_instructionData_85 (6 : Int32) (0 : Int32) h100 n0 z100 A100 (g_b100) F_kinds_b100 F_parents_b100 F_nextSiblings_b100 F_data_b100 F_nodeCount_b100 F_owners_b100 F_attributeNames_b100 F_attributeValues_b100 F_attributeTypes_b100 F_attributeCount_b100 F_names_b100 F_narrowText_b100 F_wideText_b100 F_valueStarts_b100 F_instructions_b100 F_instructionData_b100 f103 f104 f105 f106 f107 f108 f109 f110 f111 f112 f113 f114 f115 f116 f117 f118 ((Nat.ne_of_lt (Nat.lt_of_lt_of_le (f96.wr W98).lt (Nat.le_of_eq g100.symm))))) hZ (hw _ (List.mem_of_getElem? (i := 77) rfl)) (hw _ (List.mem_of_getElem? (i := 74) rfl)) (by decide) (by decide)) (g := (mkF m 156 #[.val (.int xa), .val (.int xb), .val (.ref b2), .val (.ref b37), .val (.ref b81), .unset, .unset] [(.ref b81), (.ref b100), (.ref b100)])) rfl (by rw [hml]; rfl) (Steps.refl _) (a := b100) (argsL := [(.ref b81)]) (rest := [(.ref b100)]) (lenOf pd3 rfl) rfl (by show 2 * 0 + _ ≤ _; exact Nat.le_of_eq rfl) (hb hby at_156) (fun _ _ => ⟨rfl, e100, (by decide : 17 + 0 ≤ _), (by decide : 10290 + 0 ≤ _)⟩)
  dsimp only [Pt.U, Pt.locs, Pt.cells, Pt.slots] at X119 l119 y119 z119 st119 hQ119
  subst y119 z119
  obtain ⟨rfl, M119, kp119, f119_0, f119_1, f119_2⟩ := hQ119
  have K119 : Keep h0 T119.heap ([] : List Addr) := K100.trans kp119 (allS (P := fun x => x ∈ ([] : List Addr) ∨ h0.size ≤ x) (Or.inr sz_b100) all0)
  have zz119 : n0 ≤ T119.heap.size := Nat.le_trans Z0 K119.1
  have N119 : Fr n0 L119 := by rw [l119]; exact Fr.app N98 M119
  clear l119
  have X119 : Stand p l e _ s m _ below meth c T119 _ 17 10290 := X119
  have pre120 : ∀ t, Steps p.tables e below (T119.setTop (mkF m 159 #[.val (.int xa), .val (.int xb), .val (.ref b2), .val (.ref b37), .val (.ref b81), .unset, .unset] [(.ref b100)])) t → Steps p.tables e below (s₁.setTop (entryFrame m #[(.int xa), (.int xb)] maxLocals)) t := fun t k => pre102 t (st119.trans k)
  have pre121 : ∀ t, Steps p.tables e below (T119.setTop (mkF m 170 #[.val (.int xa), .val (.int xb), .val (.ref b2), .val (.ref b37), .val (.ref b81), .val (.ref b100), .val (.int ((xb &&& (2147483647 : Int32)) % (6 : Int32)))] [])) t → Steps p.tables e below (s₁.setTop (entryFrame m #[(.int xa), (.int xb)] maxLocals)) t := by
    intro t k
    refine pre120 t ?_
    refine XS.astore X119.here hx rfl (hb hby at_159) rfl rfl (l' := #[.val (.int xa), .val (.int xb), .val (.ref b2), .val (.ref b37), .val (.ref b81), .val (.ref b100), .unset]) rfl ?_
    show Steps p.tables e below (T119.setTop (mkF m 161 #[.val (.int xa), .val (.int xb), .val (.ref b2), .val (.ref b37), .val (.ref b81), .val (.ref b100), .unset] [])) _
    refine XS.iloadN X119.here hx rfl (hb hby at_161) rfl ?_
    show Steps p.tables e below (T119.setTop (mkF m 162 #[.val (.int xa), .val (.int xb), .val (.ref b2), .val (.ref b37), .val (.ref b81), .val (.ref b100), .unset] [(.int xb)])) _
    refine X119.ldcInt hx hown (mvT hZ (hw _ (List.mem_of_getElem? (i := 129) rfl))) (g := (mkF m 162 #[.val (.int xa), .val (.int xb), .val (.ref b2), .val (.ref b37), .val (.ref b81), .val (.ref b100), .unset] [(.int xb)])) rfl (hb hby at_162) _ ?_
    show Steps p.tables e below (T119.setTop (mkF m 164 #[.val (.int xa), .val (.int xb), .val (.ref b2), .val (.ref b37), .val (.ref b81), .val (.ref b100), .unset] [(.int (2147483647 : Int32)), (.int xb)])) _
    refine XS.iand X119.here hx rfl (hb hby at_164) rfl ?_
    show Steps p.tables e below (T119.setTop (mkF m 165 #[.val (.int xa), .val (.int xb), .val (.ref b2), .val (.ref b37), .val (.ref b81), .val (.ref b100), .unset] [(.int (xb &&& (2147483647 : Int32)))])) _
    refine XS.bipush X119.here hx rfl (hb hby at_165) ?_
    show Steps p.tables e below (T119.setTop (mkF m 167 #[.val (.int xa), .val (.int xb), .val (.ref b2), .val (.ref b37), .val (.ref b81), .val (.ref b100), .unset] [(.int (6 : Int32)), (.int (xb &&& (2147483647 : Int32)))])) _
    refine iremM X119 hx rfl (hb hby at_167) rfl (by decide) ?_
    show Steps p.tables e below (T119.setTop (mkF m 168 #[.val (.int xa), .val (.int xb), .val (.ref b2), .val (.ref b37), .val (.ref b81), .val (.ref b100), .unset] [(.int ((xb &&& (2147483647 : Int32)) % (6 : Int32)))])) _
    refine XS.istore X119.here hx rfl (hb hby at_168) rfl (l' := #[.val (.int xa), .val (.int xb), .val (.ref b2), .val (.ref b37), .val (.ref b81), .val (.ref b100), .val (.int ((xb &&& (2147483647 : Int32)) % (6 : Int32)))]) rfl ?_
    show Steps p.tables e below (T119.setTop (mkF m 170 #[.val (.int xa), .val (.int xb), .val (.ref b2), .val (.ref b37), .val (.ref b81), .val (.ref b100), .val (.int ((xb &&& (2147483647 : Int32)) % (6 : Int32)))] [])) _
    exact k
  obtain ⟨qq, hqq⟩ : ∃ z : Int32, z = ((xb &&& (2147483647 : Int32)) % (6 : Int32)) := ⟨_, rfl⟩
  rw [← hqq] at pre121
  have pre122 : ∀ t, Steps p.tables e below (T119.setTop (mkF m 174 #[.val (.int xa), .val (.int xb), .val (.ref b2), .val (.ref b37), .val (.ref b81), .val (.ref b100), .val (.int qq)] [(.int qq), (.ref b100)])) t → Steps p.tables e below (s₁.setTop (entryFrame m #[(.int xa), (.int xb)] maxLocals)) t := by
    intro t k
    refine pre121 t ?_
    refine XS.aload X119.here hx rfl (hb hby at_170) rfl rfl ?_
    show Steps p.tables e below (T119.setTop (mkF m 172 #[.val (.int xa), .val (.int xb), .val (.ref b2), .val (.ref b37), .val (.ref b81), .val (.ref b100), .val (.int qq)] [(.ref b100)])) _
    refine XS.iload X119.here hx rfl (hb hby at_172) rfl ?_
    show Steps p.tables e below (T119.setTop (mkF m 174 #[.val (.int xa), .val (.int xb), .val (.ref b2), .val (.ref b37), .val (.ref b81), .val (.ref b100), .val (.int qq)] [(.int qq), (.ref b100)])) _
    exact k
  have f123 := ((((((((f75.other W79 (Nat.ne_of_lt (Nat.lt_of_lt_of_le V34.lt (Nat.le_of_eq g37.symm)))).ext E81).keep kp85 (ninS (Nat.ne_of_lt (Nat.lt_of_lt_of_le (f75.other W79 (Nat.ne_of_lt (Nat.lt_of_lt_of_le V34.lt (Nat.le_of_eq g37.symm)))).lt (Nat.le_of_eq g81.symm))) nin0)).other W88 (Nat.ne_of_lt (Nat.lt_of_lt_of_le (f75.other W79 (Nat.ne_of_lt (Nat.lt_of_lt_of_le V34.lt (Nat.le_of_eq g37.symm)))).lt (Nat.le_of_eq g81.symm)))).other W93 (Nat.ne_of_lt (Nat.lt_of_lt_of_le (f75.other W79 (Nat.ne_of_lt (Nat.lt_of_lt_of_le V34.lt (Nat.le_of_eq g37.symm)))).lt (Nat.le_of_eq g81.symm)))).other W98 (Nat.ne_of_lt (Nat.lt_of_lt_of_le (f75.other W79 (Nat.ne_of_lt (Nat.lt_of_lt_of_le V34.lt (Nat.le_of_eq g37.symm)))).lt (Nat.le_of_eq g81.symm)))).ext E100).keep kp119 (ninS (Nat.ne_of_lt (Nat.lt_of_lt_of_le ((((((f75.other W79 (Nat.ne_of_lt (Nat.lt_of_lt_of_le V34.lt (Nat.le_of_eq g37.symm)))).ext E81).keep kp85 (ninS (Nat.ne_of_lt (Nat.lt_of_lt_of_le (f75.other W79 (Nat.ne_of_lt (Nat.lt_of_lt_of_le V34.lt (Nat.le_of_eq g37.symm)))).lt (Nat.le_of_eq g81.symm))) nin0)).other W88 (Nat.ne_of_lt (Nat.lt_of_lt_of_le (f75.other W79 (Nat.ne_of_lt (Nat.lt_of_lt_of_le V34.lt (Nat.le_of_eq g37.symm)))).lt (Nat.le_of_eq g81.symm)))).other W93 (Nat.ne_of_lt (Nat.lt_of_lt_of_le (f75.other W79 (Nat.ne_of_lt (Nat.lt_of_lt_of_le V34.lt (Nat.le_of_eq g37.symm)))).lt (Nat.le_of_eq g81.symm)))).other W98 (Nat.ne_of_lt (Nat.lt_of_lt_of_le (f75.other W79 (Nat.ne_of_lt (Nat.lt_of_lt_of_le V34.lt (Nat.le_of_eq g37.symm)))).lt (Nat.le_of_eq g81.symm)))).lt (Nat.le_of_eq g100.symm))) nin0))
  have f124 := (((((((V79.ext E81).keep kp85 (ninS (Nat.ne_of_lt (Nat.lt_of_lt_of_le V79.lt (Nat.le_of_eq g81.symm))) nin0)).other W88 (Nat.ne_of_lt (Nat.lt_of_lt_of_le V79.lt (Nat.le_of_eq g81.symm)))).other W93 (Nat.ne_of_lt (Nat.lt_of_lt_of_le V79.lt (Nat.le_of_eq g81.symm)))).other W98 (Nat.ne_of_lt (Nat.lt_of_lt_of_le V79.lt (Nat.le_of_eq g81.symm)))).ext E100).keep kp119 (ninS (Nat.ne_of_lt (Nat.lt_of_lt_of_le (((((V79.ext E81).keep kp85 (ninS (Nat.ne_of_lt (Nat.lt_of_lt_of_le V79.lt (Nat.le_of_eq g81.symm))) nin0)).other W88 (Nat.ne_of_lt (Nat.lt_of_lt_of_le V79.lt (Nat.le_of_eq g81.symm)))).other W93 (Nat.ne_of_lt (Nat.lt_of_lt_of_le V79.lt (Nat.le_of_eq g81.symm)))).other W98 (Nat.ne_of_lt (Nat.lt_of_lt_of_le V79.lt (Nat.le_of_eq g81.symm)))).lt (Nat.le_of_eq g100.symm))) nin0))
  obtain ⟨cq125, kq125, q125a, q125b, q125c⟩ := isOf hZ rfl f119_0
  obtain ⟨_, _, ⟨T125, L125, k125, n125⟩, -, X125, ⟨Lc125, hQ125, l125, y125, z125⟩, st125⟩ := X119.virtualBack hx (y := (⟨"com/example/xidr/xidr/xml/tree/Tree", "afterSubtree", "(I)I"⟩ : MethodName)) (z := (⟨"com/example/xidr/xidr/xml/tree/Tree", "afterSubtree", "(I)I"⟩ : MethodName)) hown (mvT hZ (hw _ (List.mem_of_getElem? (i := 130) rfl))) (mvT hZ (hw _ (List.mem_of_getElem? (i := 131) rfl))) (notFace_of_selects (args := #[]) (mvT hZ (hw _ (List.mem_of_getElem? (i := 133) rfl)))) (mvT hZ (hw _ (List.mem_of_getElem? (i := 133) rfl))) (mvT hZ (hw _ (List.mem_of_getElem? (i := 132) rfl))) (by decide) (backOf (W := 0) (rm_sub l Z a0 hw [] b100 qq k2 k37 ([(-1 : Int32), (0 : Int32), p2, p3, p4, p5] : List Int32) ([s0, s1, s2, s3, s4, s5] : List Int32) b2 b37 T119.heap n0 zz119 f119_1 f119_2 f123 f124 (own_okP _ _ _ _ _ _ _ _ _ _ _ G5 (own_q _ _ hqq) hs0 hs1 hs2 hs3 hs4 hs5)) hZ (hw _ (List.mem_of_getElem? (i := 134) rfl)) (hw _ (List.mem_of_getElem? (i := 74) rfl)) (by decide) (by decide)) q125a q125c (g := (mkF m 174 #[.val (.int xa), .val (.int xb), .val (.ref b2), .val (.ref b37), .val (.ref b81), .val (.ref b100), .val (.int qq)] [(.int qq), (.ref b100)])) rfl (by rw [hml]; rfl) (Steps.refl _) (argsL := [(.int qq)]) (rest := []) (lenOf pd4 rfl) rfl (by show 2 * 0 + _ ≤ _; exact Nat.le_of_eq rfl) (hb hby at_174) (fun _ _ => ⟨rfl, rfl, (by decide : 17 + 0 ≤ _), (by decide : 10290 + 0 ≤ _)⟩)
  dsimp only [Pt.U, Pt.locs, Pt.cells, Pt.slots] at X125 l125 y125 z125 st125 hQ125
  subst y125 z125
  obtain ⟨rfl, M125, e125⟩ := hQ125
  have N125 : Fr n0 L125 := by rw [l125]; exact Fr.app N119 M125
  clear l125
  have X125 : Stand p l e _ s m _ below meth c T125 _ 17 10290 := X125
  have pre126 : ∀ t, Steps p.tables e below (T125.setTop (mkF m 177 #[.val (.int xa), .val (.int xb), .val (.ref b2), .val (.ref b37), .val (.ref b81), .val (.ref b100), .val (.int qq)] [(.int (F_rm_sub qq ([(-1 : Int32), (0 : Int32), p2, p3, p4, p5] : List Int32) ([s0, s1, s2, s3, s4, s5] : List Int32)))])) t → Steps p.tables e below (s₁.setTop (entryFrame m #[(.int xa), (.int xb)] maxLocals)) t := fun t k => pre122 t (st125.trans k)
  have pre127 : ∀ t, Steps p.tables e below (T125.setTop (mkF m 180 #[.val (.int xa), .val (.int xb), .val (.ref b2), .val (.ref b37), .val (.ref b81), .val (.ref b100), .val (.int qq)] [(.int qq), (.ref b2), (.int (F_rm_sub qq ([(-1 : Int32), (0 : Int32), p2, p3, p4, p5] : List Int32) ([s0, s1, s2, s3, s4, s5] : List Int32)))])) t → Steps p.tables e below (s₁.setTop (entryFrame m #[(.int xa), (.int xb)] maxLocals)) t := by
    intro t k
    refine pre126 t ?_
    refine XS.aloadN X125.here hx rfl (hb hby at_177) rfl rfl ?_
    show Steps p.tables e below (T125.setTop (mkF m 178 #[.val (.int xa), .val (.int xb), .val (.ref b2), .val (.ref b37), .val (.ref b81), .val (.ref b100), .val (.int qq)] [(.ref b2), (.int (F_rm_sub qq ([(-1 : Int32), (0 : Int32), p2, p3, p4, p5] : List Int32) ([s0, s1, s2, s3, s4, s5] : List Int32)))])) _
    refine XS.iload X125.here hx rfl (hb hby at_178) rfl ?_
    show Steps p.tables e below (T125.setTop (mkF m 180 #[.val (.int xa), .val (.int xb), .val (.ref b2), .val (.ref b37), .val (.ref b81), .val (.ref b100), .val (.int qq)] [(.int qq), (.ref b2), (.int (F_rm_sub qq ([(-1 : Int32), (0 : Int32), p2, p3, p4, p5] : List Int32) ([s0, s1, s2, s3, s4, s5] : List Int32)))])) _
    exact k
  obtain ⟨_, _, ⟨T128, L128, k128, n128⟩, -, X128, ⟨Lc128, hQ128, l128, y128, z128⟩, st128⟩ := Jvm.LawKit.callS X125 hx (y := (⟨"com/example/xidr/xidr/xml/tree/TreeAfterSubtreePinLaw", "after", "([II)I"⟩ : MethodName)) hown (mvT hZ (hw _ (List.mem_of_getElem? (i := 135) rfl))) (mvT hZ (hw _ (List.mem_of_getElem? (i := 136) rfl))) (mvT hZ (hw _ (List.mem_of_getElem? (i := 3) rfl))) (mvT hZ (hw _ (List.mem_of_getElem? (i := 137) rfl))) (by decide) (backOf (W := 1) (rm_after l Z a0 hw [] b2 qq k2 ([(-1 : Int32), (0 : Int32), p2, p3, p4, p5] : List Int32) T119.heap n0 zz119 f123) hZ (hw _ (List.mem_of_getElem? (i := 137) rfl)) (hw _ (List.mem_of_getElem? (i := 3) rfl)) (by decide) (by decide)) (g := (mkF m 180 #[.val (.int xa), .val (.int xb), .val (.ref b2), .val (.ref b37), .val (.ref b81), .val (.ref b100), .val (.int qq)] [(.int qq), (.ref b2), (.int (F_rm_sub qq ([(-1 : Int32), (0 : Int32), p2, p3, p4, p5] : List Int32) ([s0, s1, s2, s3, s4, s5] : List Int32)))])) rfl (by rw [hml]; rfl) (argsL := [(.ref b2), (.int qq)]) (rest := [(.int (F_rm_sub qq ([(-1 : Int32), (0 : Int32), p2, p3, p4, p5] : List Int32) ([s0, s1, s2, s3, s4, s5] : List Int32)))]) (lenOf pd2 rfl) rfl (by show 2 * 0 + _ ≤ _; exact Nat.le_of_eq rfl) (hb hby at_180) (fun _ _ => ⟨rfl, e125, (by decide : 17 + 0 ≤ _), (by decide : 10290 + 0 ≤ _)⟩)
  dsimp only [Pt.U, Pt.locs, Pt.cells, Pt.slots] at X128 l128 y128 z128 st128 hQ128
  subst y128 z128
  obtain ⟨rfl, M128, e128⟩ := hQ128
  have N128 : Fr n0 L128 := by rw [l128]; exact Fr.app N125 M128
  clear l128
  have X128 : Stand p l e _ s m _ below meth c T128 _ 17 10290 := X128
  have pre129 : ∀ t, Steps p.tables e below (T128.setTop (mkF m 183 #[.val (.int xa), .val (.int xb), .val (.ref b2), .val (.ref b37), .val (.ref b81), .val (.ref b100), .val (.int qq)] [(.int (F_rm_after qq ([(-1 : Int32), (0 : Int32), p2, p3, p4, p5] : List Int32))), (.int (F_rm_sub qq ([(-1 : Int32), (0 : Int32), p2, p3, p4, p5] : List Int32) ([s0, s1, s2, s3, s4, s5] : List Int32)))])) t → Steps p.tables e below (s₁.setTop (entryFrame m #[(.int xa), (.int xb)] maxLocals)) t := fun t k => pre127 t (st128 t k)
  have pre130 : ∀ t, Steps p.tables e below (T128.setTop (mkF m 191 #[.val (.int xa), .val (.int xb), .val (.ref b2), .val (.ref b37), .val (.ref b81), .val (.ref b100), .val (.int qq)] [(.int (1 : Int32))])) t → Steps p.tables e below (s₁.setTop (entryFrame m #[(.int xa), (.int xb)] maxLocals)) t := by
    intro t k
    refine pre129 t ?_
    refine XS.icmpNo X128.here hx rfl (hb hby at_183) rfl (teq (show (F_rm_sub qq ([(-1 : Int32), (0 : Int32), p2, p3, p4, p5] : List Int32) ([s0, s1, s2, s3, s4, s5] : List Int32)) = (F_rm_after qq ([(-1 : Int32), (0 : Int32), p2, p3, p4, p5] : List Int32)) from own_fin _ _ _ _ _ _ _ _ _ _ _ G5 (own_q _ _ hqq) hs0 hs1 hs2 hs3 hs4 hs5)).2 ?_
    show Steps p.tables e below (T128.setTop (mkF m 186 #[.val (.int xa), .val (.int xb), .val (.ref b2), .val (.ref b37), .val (.ref b81), .val (.ref b100), .val (.int qq)] [])) _
    refine XS.iconst X128.here hx rfl (hb hby at_186) ?_
    show Steps p.tables e below (T128.setTop (mkF m 187 #[.val (.int xa), .val (.int xb), .val (.ref b2), .val (.ref b37), .val (.ref b81), .val (.ref b100), .val (.int qq)] [(.int (1 : Int32))])) _
    refine XS.goto X128.here hx rfl (pc0 := 187) (pc' := 191) rfl (hb hby at_187) (by decide) (by decide) ?_
    show Steps p.tables e below (T128.setTop (mkF m 191 #[.val (.int xa), .val (.int xb), .val (.ref b2), .val (.ref b37), .val (.ref b81), .val (.ref b100), .val (.int qq)] [(.int (1 : Int32))])) _
    exact k
  obtain ⟨fs, hr, hrun, hended, hW, hsame⟩ := X128.leave (v := some (.int (1 : Int32))) (fun h => by rw [Bd.returns] at h; cases h)
  refine ⟨_, _, pre130 _ ?_, hrun, hended, _, _, rfl, ?_, ⟨_, rfl⟩, hW, hsame.mono (by decide) (by decide)⟩
  · exact retN X128 hx (t := .boolean) Bd.returns (by simp) (hb hby at_191) hr
  · show Q_rm0 Z xa xb wl h0 n0 _ T128.heap _
    rw [e128]
    exact ⟨rfl, N128⟩
set_option maxRecDepth 65536 in
set_option maxHeartbeats 40000000 in
theorem comes_1 {Post : Tables → Env → Array Value → State → Outcome → State → Prop} (hpost : ∀ tb e args s v u, (limb_1_1.after args s (.returned v) u = true ∧ limb_1_2.after args s (.returned v) u = true ∧ True) → FrameEnd s (.returned v) u (Jvm.fieldLocs frame_1_writes args s ++ Jvm.arrayLocs frame_1_arrays args s ++ Jvm.staticLocs frame_1_statics s) 48 20672 → Post tb e args s (.returned v) u) :
    ArmFor flags0 classFile x code maxLocals ret World_1 tables_1 room_1 Calls_1 rest_1 Pre_1 Post := by
  intro l hfl _ _ p e ha hc hk s m args below hf hA hF happ hP
  obtain ⟨hcalls, hrest, hpre⟩ := hP
  obtain ⟨-, -, -, hnamed, -, -, -, hat⟩ := (Spec.applies_iff hf).mp happ
  obtain ⟨hg, hn⟩ := and_e (Cond.before_iff.mp (show (Jvm.Cond.and given_1 narrow_1).before args s = true from hpre))
  obtain ⟨ga1, gb1⟩ := and_e hg
  obtain ⟨ga2, gb2⟩ := and_e gb1
  obtain ⟨w0, w1, rfl⟩ : ∃ w0 w1 : Value, args = #[w0, w1] := by
    have hs : args.size = 2 := by simpa [Cond.value, given_1] using ga1
    obtain ⟨L⟩ := args
    match L, hs with
    | [w0, w1], _ => exact ⟨w0, w1, rfl⟩
  have hw := fun d (hd : d ∈ tables_1) => atoms_spec (ws := Jvm.Cond.code x code maxLocals ret :: tables_1) hat d (List.mem_cons_of_mem _ hd)
  have hfit : Fit s := fun {y c} hc i hi => by
    obtain ⟨ha, rfl⟩ := Array.getElem?_eq_some_iff.mp hc
    have q := List.all_eq_true.mp ((Array.all_eq_true_iff_forall_mem.mp hF) _ (Array.getElem_mem ha)) i (List.mem_range.mpr hi)
    simpa [Array.getElem?_eq_getElem hi] using q
  obtain ⟨hsets, hown0⟩ := atoms_of _ (rest_1_c_eq ▸ (show rest_1_c.before _ s = true from hrest))
  have hr0 := Cond.before_iff.mp hown0
  obtain ⟨i0, ei0⟩ := is_v ga2
  obtain rfl : w0 = (.int i0) := Option.some.inj ei0
  obtain ⟨i1, ei1⟩ := is_v gb2
  obtain rfl : w1 = (.int i1) := Option.some.inj ei1
  obtain ⟨wl, ewl⟩ := exa_v (Cond.before_iff.mp (hsets _ (List.mem_of_getElem? (i := 7) rfl)))
  have SD := Sta.start ewl (Or.inr ⟨(hw _ (List.mem_of_getElem? (i := 36) rfl)), (hsets _ (List.mem_of_getElem? (i := 2) rfl))⟩)
  obtain ⟨n, o, h1, h2, h3, _, L, rfl, ⟨rfl, N⟩, hq⟩ := rm0 l s _ hw tables_1 i0 i1 wl s.heap s.heap.size (Nat.le_refl _) SD p e ha hc hk s m _ below hf ((Spec.applies_iff_loose hf).mp happ).1 ⟨rfl, State.Warmed39.refl s, rfl⟩ trivial
  refine ⟨n, _, h1, h2, h3, hpost _ _ _ _ _ _ ⟨Cond.after_iff.mpr rfl, Cond.after_iff.mpr (eq_i res_at (Term.int_eval (1)) rfl), trivial⟩ ⟨hq.1, hq.2.1, (hq.2.2.sift fun y hy => Or.inr (N y hy)).mono (by decide) (by decide)⟩⟩
theorem main_1_1 : Claimed_1_1 := comes_1 fun _ _ _ _ _ _ h hF => ⟨h.1, hF⟩
theorem main_1_2 : Claimed_1_2 := comes_1 fun _ _ _ _ _ _ h hF => ⟨h.2.1, hF⟩
end Jvm.Pilot.@@N@@
namespace Jvm.Pilot.@@N@@
open Jvm Jvm.ClassFile Sem Op Lib Jvm.Free Jvm.Stand Jvm.Pilot.@@N@@.Jvm.D
/-! MADE BY PROGRAM (witnessworld.py) out of the Statement's table words and the real class files: 19 classes; the members and pool entries that the words name. The judged class is class 1, her method 1. -/
namespace start1
open Jvm.ClassFile
def u (s : String) : CpInfo := .utf8 (stringToUtf16 s)
/-- a pool by its gaps: so many unusable entries, then the entry; so many at the end -/
def gap : Nat → List CpInfo → List CpInfo
  | 0, r => r
  | n + 1, r => .unusable :: gap n r
def poolList (es : List (Nat × CpInfo)) (last : Nat) : List CpInfo := es.foldr (fun e r => gap e.1 (e.2 :: r)) (gap last [])
def pool (es : List (Nat × CpInfo)) (last : Nat) : Array CpInfo := ⟨poolList es last⟩
def fileOf (pool : Array CpInfo) (this : Nat) (attrs : Array Attribute := #[]) (ms : Array MethodInfo := #[]) (fl : Nat := 33) (sup : Nat := 0) (ifs : Array Nat := #[]) (fds : Array FieldInfo := #[]) : ClassFile where
  minorVersion := 0
  majorVersion := 65
  constantPool := pool
  accessFlags := fl
  thisClass := this
  superClass := sup
  interfaces := ifs
  fields := fds
  methods := ms
  attributes := attrs
def plain (name : String) (sup : Option ClassId) : Class where
  name := name
  kind := .ordinary
  loader := none
  accessFlags := 33
  super := sup
  interfaces := #[]
  cf := none
  fields := #[]
  methods := #[]
  instanceTypes := #[]
  staticTypes := #[]
  resolved := #[]
  callSites := []
  init := .initialized
  statics := none
  mirror := none

def pool0 : Array CpInfo := pool [(5, u "<init>"), (0, u "()V"), (1, .class_ 10), (1, u "java/lang/Object")] 113

def k0c0 : Code := { maxStack := 0, maxLocals := 1, code := object_method_1_code, exceptionTable := #[], attributes := #[] }
def k0m0 : Method := { name := "<init>", desc := "()V", sig := { parameters := [], returnType := none }, accessFlags := 1, code := some k0c0 }
/-- java/lang/Object -/
def k0 : Class := { plain "java/lang/Object" none with
  accessFlags := 33
  interfaces := #[]
  cf := some (fileOf pool0 8 #[] #[{ accessFlags := 1, nameIndex := 5, descriptorIndex := 6, attributes := #[] }] 33 0 #[] #[])
  fields := #[]
  methods := #[k0m0]
  instanceTypes := #[]
  staticTypes := #[]
  resolved := Array.replicate 124 none
  statics := none }

def pool1 : Array CpInfo := pool [(2, .class_ 4), (0, .nameAndType 5 6), (0, u "java/lang/Object"), (0, u "<init>"), (0, u "()V"), (0, .methodref 8 9), (0, .class_ 10), (0, .nameAndType 11 12), (0, u "com/example/xidr/xidr/xml/tree/TreeAfterSubtreePinLaw"), (0, u "up"), (0, u "([III)I"), (0, .methodref 8 14), (0, .nameAndType 15 16), (0, u "next"), (0, u "([II)I"), (0, .class_ 18), (0, u "com/example/xidr/xidr/xml/tree/TreeBuilder$Parts"), (0, .methodref 17 3), (0, .fieldref 17 21), (0, .nameAndType 22 23), (0, u "parents"), (0, u "[I"), (0, .fieldref 17 25), (0, .nameAndType 26 23), (0, u "nextSiblings"), (0, .fieldref 17 28), (0, .nameAndType 29 30), (0, u "nodeCount"), (0, u "I"), (0, .class_ 32), (0, u "com/example/xidr/xidr/xml/tree/Tree"), (0, .methodref 31 34), (0, .nameAndType 5 35), (0, u "(Lcom/example/xidr/xidr/xml/tree/TreeBuilder$Parts;)V"), (0, .integer 2147483647), (0, .methodref 31 38), (0, .nameAndType 39 40), (0, u "afterSubtree"), (0, u "(I)I"), (0, .methodref 8 42), (0, .nameAndType 43 16), (0, u "after"), (2, u "law"), (0, u "(II)Z")] 8

def k1m0 : Method := { name := "<init>", desc := "()V", sig := { parameters := [], returnType := none }, accessFlags := 1, code := none }
def k1c1 : Code := { maxStack := 6, maxLocals := 7, code := code, exceptionTable := #[], attributes := #[] }
def k1m1 : Method := { name := "law", desc := "(II)Z", sig := { parameters := [.int, .int], returnType := some .boolean }, accessFlags := 9, code := some k1c1 }
def k1c2 : Code := { maxStack := 2, maxLocals := 4, code := method_3_code, exceptionTable := #[], attributes := #[] }
def k1m2 : Method := { name := "up", desc := "([III)I", sig := { parameters := [(.array .int), .int, .int], returnType := some .int }, accessFlags := 10, code := some k1c2 }
def k1c3 : Code := { maxStack := 3, maxLocals := 2, code := method_4_code, exceptionTable := #[], attributes := #[] }
def k1m3 : Method := { name := "next", desc := "([II)I", sig := { parameters := [(.array .int), .int], returnType := some .int }, accessFlags := 10, code := some k1c3 }
def k1c4 : Code := { maxStack := 2, maxLocals := 2, code := method_5_code, exceptionTable := #[], attributes := #[] }
def k1m4 : Method := { name := "after", desc := "([II)I", sig := { parameters := [(.array .int), .int], returnType := some .int }, accessFlags := 10, code := some k1c4 }
/-- com/example/xidr/xidr/xml/tree/TreeAfterSubtreePinLaw -/
def k1 : Class := { plain "com/example/xidr/xidr/xml/tree/TreeAfterSubtreePinLaw" (some 0) with
  accessFlags := 49
  interfaces := #[]
  cf := some (fileOf pool1 8 #[] #[{ accessFlags := 1, nameIndex := 5, descriptorIndex := 6, attributes := #[] }, { accessFlags := 9, nameIndex := 46, descriptorIndex := 47, attributes := #[] }, { accessFlags := 10, nameIndex := 11, descriptorIndex := 12, attributes := #[] }, { accessFlags := 10, nameIndex := 15, descriptorIndex := 16, attributes := #[] }, { accessFlags := 10, nameIndex := 43, descriptorIndex := 16, attributes := #[] }] 49 2 #[] #[])
  fields := #[]
  methods := #[k1m0, k1m1, k1m2, k1m3, k1m4]
  instanceTypes := #[]
  staticTypes := #[]
  resolved := Array.replicate 56 none
  statics := none }

def pool2 : Array CpInfo := pool [(1, .class_ 2), (0, u "com/example/xidr/xidr/xml/tree/TreeBuilder"), (0, .methodref 4 5), (0, .class_ 6), (0, .nameAndType 7 8), (0, u "java/lang/Object"), (0, u "<init>"), (0, u "()V"), (0, .fieldref 10 11), (0, .class_ 12), (0, .nameAndType 13 14), (0, u "com/example/xidr/xidr/xml/tree/TreeBuilder$Parts"), (0, u "kinds"), (0, u "[B"), (0, .fieldref 10 16), (0, .nameAndType 17 18), (0, u "parents"), (0, u "[I"), (0, .fieldref 10 20), (0, .nameAndType 21 18), (0, u "nextSiblings"), (0, .fieldref 10 23), (0, .nameAndType 24 18), (0, u "data"), (0, .fieldref 10 26), (0, .nameAndType 27 18), (0, u "owners"), (0, .fieldref 10 29), (0, .nameAndType 30 18), (0, u "attributeNames"), (0, .fieldref 10 32), (0, .nameAndType 33 18), (0, u "attributeValues"), (0, .fieldref 10 35), (0, .nameAndType 36 14), (0, u "attributeTypes"), (0, .class_ 38), (0, u "java/util/ArrayList"), (0, .methodref 37 5), (0, .fieldref 10 41), (0, .nameAndType 42 43), (0, u "names"), (0, u "Ljava/util/List;"), (0, .fieldref 10 45), (0, .nameAndType 46 14), (0, u "narrowText"), (0, .fieldref 10 48), (0, .nameAndType 49 18), (0, u "valueStarts"), (0, .fieldref 10 51), (0, .nameAndType 52 18), (0, u "instructions"), (0, .fieldref 10 54), (0, .nameAndType 55 18), (0, u "instructionData"), (2, u "nodeCount"), (0, u "I"), (11, u "attributeCount"), (2, u "wideText"), (0, u "[C"), (5, u "instructionCount")] 17

def k2c0 : Code := { maxStack := 3, maxLocals := 1, code := prog_37_method_1_code, exceptionTable := #[], attributes := #[] }
def k2m0 : Method := { name := "<init>", desc := "()V", sig := { parameters := [], returnType := none }, accessFlags := 0, code := some k2c0 }
/-- com/example/xidr/xidr/xml/tree/TreeBuilder$Parts -/
def k2 : Class := { plain "com/example/xidr/xidr/xml/tree/TreeBuilder$Parts" (some 0) with
  accessFlags := 48
  interfaces := #[]
  cf := some (fileOf pool2 10 #[.nestHost 1] #[{ accessFlags := 0, nameIndex := 7, descriptorIndex := 8, attributes := #[] }] 48 4 #[] #[{ accessFlags := 0, nameIndex := 13, descriptorIndex := 14, attributes := #[] }, { accessFlags := 0, nameIndex := 17, descriptorIndex := 18, attributes := #[] }, { accessFlags := 0, nameIndex := 21, descriptorIndex := 18, attributes := #[] }, { accessFlags := 0, nameIndex := 24, descriptorIndex := 18, attributes := #[] }, { accessFlags := 0, nameIndex := 58, descriptorIndex := 59, attributes := #[] }, { accessFlags := 0, nameIndex := 27, descriptorIndex := 18, attributes := #[] }, { accessFlags := 0, nameIndex := 30, descriptorIndex := 18, attributes := #[] }, { accessFlags := 0, nameIndex := 33, descriptorIndex := 18, attributes := #[] }, { accessFlags := 0, nameIndex := 36, descriptorIndex := 14, attributes := #[] }, { accessFlags := 0, nameIndex := 71, descriptorIndex := 59, attributes := #[] }, { accessFlags := 16, nameIndex := 42, descriptorIndex := 43, attributes := #[] }, { accessFlags := 0, nameIndex := 46, descriptorIndex := 14, attributes := #[] }, { accessFlags := 0, nameIndex := 74, descriptorIndex := 75, attributes := #[] }, { accessFlags := 0, nameIndex := 49, descriptorIndex := 18, attributes := #[] }, { accessFlags := 0, nameIndex := 52, descriptorIndex := 18, attributes := #[] }, { accessFlags := 0, nameIndex := 55, descriptorIndex := 18, attributes := #[] }, { accessFlags := 0, nameIndex := 81, descriptorIndex := 59, attributes := #[] }])
  fields := #[{ name := "kinds", type := (.array .byte), accessFlags := 0, slot := 0, constantValue := 0 }, { name := "parents", type := (.array .int), accessFlags := 0, slot := 1, constantValue := 0 }, { name := "nextSiblings", type := (.array .int), accessFlags := 0, slot := 2, constantValue := 0 }, { name := "data", type := (.array .int), accessFlags := 0, slot := 3, constantValue := 0 }, { name := "nodeCount", type := .int, accessFlags := 0, slot := 4, constantValue := 0 }, { name := "owners", type := (.array .int), accessFlags := 0, slot := 5, constantValue := 0 }, { name := "attributeNames", type := (.array .int), accessFlags := 0, slot := 6, constantValue := 0 }, { name := "attributeValues", type := (.array .int), accessFlags := 0, slot := 7, constantValue := 0 }, { name := "attributeTypes", type := (.array .byte), accessFlags := 0, slot := 8, constantValue := 0 }, { name := "attributeCount", type := .int, accessFlags := 0, slot := 9, constantValue := 0 }, { name := "names", type := (.object "java/util/List"), accessFlags := 16, slot := 10, constantValue := 0 }, { name := "narrowText", type := (.array .byte), accessFlags := 0, slot := 11, constantValue := 0 }, { name := "wideText", type := (.array .char), accessFlags := 0, slot := 12, constantValue := 0 }, { name := "valueStarts", type := (.array .int), accessFlags := 0, slot := 13, constantValue := 0 }, { name := "instructions", type := (.array .int), accessFlags := 0, slot := 14, constantValue := 0 }, { name := "instructionData", type := (.array .int), accessFlags := 0, slot := 15, constantValue := 0 }, { name := "instructionCount", type := .int, accessFlags := 0, slot := 16, constantValue := 0 }]
  methods := #[k2m0]
  instanceTypes := #[(.array .byte), (.array .int), (.array .int), (.array .int), .int, (.array .int), (.array .int), (.array .int), (.array .byte), .int, (.object "java/util/List"), (.array .byte), (.array .char), (.array .int), (.array .int), (.array .int), .int]
  staticTypes := #[]
  resolved := Array.replicate 99 none
  statics := none }

def pool3 : Array CpInfo := pool [(8, .class_ 10), (1, u "java/lang/Iterable"), (24, .class_ 36), (0, u "java/lang/Object")] 25

/-- java/lang/Iterable -/
def k3 : Class := { plain "java/lang/Iterable" (some 0) with
  accessFlags := 1537
  interfaces := #[]
  cf := some (fileOf pool3 8 #[] #[] 1537 35 #[] #[])
  fields := #[]
  methods := #[]
  instanceTypes := #[]
  staticTypes := #[]
  resolved := Array.replicate 62 none
  statics := none }

def pool4 : Array CpInfo := pool [(10, .class_ 12), (1, u "java/util/Collection"), (47, .class_ 61), (0, u "java/lang/Object"), (0, .class_ 63), (0, u "java/lang/Iterable")] 51

/-- java/util/Collection -/
def k4 : Class := { plain "java/util/Collection" (some 0) with
  accessFlags := 1537
  interfaces := #[3]
  cf := some (fileOf pool4 10 #[] #[] 1537 60 #[62] #[])
  fields := #[]
  methods := #[]
  instanceTypes := #[]
  staticTypes := #[]
  resolved := Array.replicate 115 none
  statics := none }

def pool5 : Array CpInfo := pool [(1, .methodref 2 3), (0, .class_ 4), (0, .nameAndType 5 6), (0, u "java/lang/Object"), (0, u "<init>"), (0, u "()V"), (1, .class_ 10), (1, u "java/util/AbstractCollection"), (66, .class_ 78), (0, u "java/util/Collection")] 81

def k5c0 : Code := { maxStack := 1, maxLocals := 1, code := jdk_22_method_1_code, exceptionTable := #[], attributes := #[] }
def k5m0 : Method := { name := "<init>", desc := "()V", sig := { parameters := [], returnType := none }, accessFlags := 4, code := some k5c0 }
/-- java/util/AbstractCollection -/
def k5 : Class := { plain "java/util/AbstractCollection" (some 0) with
  accessFlags := 1057
  interfaces := #[4]
  cf := some (fileOf pool5 8 #[] #[{ accessFlags := 4, nameIndex := 5, descriptorIndex := 6, attributes := #[] }] 1057 2 #[77] #[])
  fields := #[]
  methods := #[k5m0]
  instanceTypes := #[]
  staticTypes := #[]
  resolved := Array.replicate 160 none
  statics := none }

def pool6 : Array CpInfo := pool [(8, .class_ 10), (1, u "java/util/SequencedCollection"), (15, .class_ 27), (0, u "java/lang/Object"), (0, .class_ 29), (0, u "java/util/Collection")] 27

/-- java/util/SequencedCollection -/
def k6 : Class := { plain "java/util/SequencedCollection" (some 0) with
  accessFlags := 1537
  interfaces := #[4]
  cf := some (fileOf pool6 8 #[] #[] 1537 26 #[28] #[])
  fields := #[]
  methods := #[]
  instanceTypes := #[]
  staticTypes := #[]
  resolved := Array.replicate 57 none
  statics := none }

def pool7 : Array CpInfo := pool [(8, .class_ 10), (1, u "java/util/List"), (92, .class_ 104), (0, u "java/lang/Object"), (15, .class_ 121), (0, u "java/util/SequencedCollection")] 129

/-- java/util/List -/
def k7 : Class := { plain "java/util/List" (some 0) with
  accessFlags := 1537
  interfaces := #[6]
  cf := some (fileOf pool7 8 #[] #[] 1537 103 #[120] #[])
  fields := #[]
  methods := #[]
  instanceTypes := #[]
  staticTypes := #[]
  resolved := Array.replicate 251 none
  statics := none }

def pool8 : Array CpInfo := pool [(1, .methodref 2 3), (0, .class_ 4), (0, .nameAndType 5 6), (0, u "java/util/AbstractCollection"), (0, u "<init>"), (0, u "()V"), (0, .fieldref 8 9), (0, .class_ 10), (0, .nameAndType 11 12), (0, u "java/util/AbstractList"), (0, u "modCount"), (0, u "I"), (64, .class_ 78), (0, u "java/util/AbstractList$Itr"), (3, .class_ 83), (0, u "java/util/AbstractList$ListItr"), (9, .class_ 94), (0, u "java/util/AbstractList$RandomAccessSubList"), (3, .class_ 99), (0, u "java/util/AbstractList$SubList"), (33, .class_ 134), (0, u "java/util/List"), (73, .class_ 209), (0, u "java/util/AbstractList$SubList$1"), (0, .class_ 211), (0, u "java/util/AbstractList$RandomAccessSpliterator")] 6

def k8c0 : Code := { maxStack := 2, maxLocals := 1, code := jdk_39_method_1_code, exceptionTable := #[], attributes := #[] }
def k8m0 : Method := { name := "<init>", desc := "()V", sig := { parameters := [], returnType := none }, accessFlags := 4, code := some k8c0 }
/-- java/util/AbstractList -/
def k8 : Class := { plain "java/util/AbstractList" (some 5) with
  accessFlags := 1057
  interfaces := #[7]
  cf := some (fileOf pool8 8 #[.nestMembers #[93, 98, 208, 210, 82, 77]] #[{ accessFlags := 4, nameIndex := 5, descriptorIndex := 6, attributes := #[] }] 1057 2 #[133] #[{ accessFlags := 132, nameIndex := 11, descriptorIndex := 12, attributes := #[] }])
  fields := #[{ name := "modCount", type := .int, accessFlags := 132, slot := 0, constantValue := 0 }]
  methods := #[k8m0]
  instanceTypes := #[.int]
  staticTypes := #[]
  resolved := Array.replicate 218 none
  statics := none }

def pool9 : Array CpInfo := pool [(1, .class_ 2), (0, u "java/util/RandomAccess"), (0, .class_ 4), (0, u "java/lang/Object")] 2

/-- java/util/RandomAccess -/
def k9 : Class := { plain "java/util/RandomAccess" (some 0) with
  accessFlags := 1537
  interfaces := #[]
  cf := some (fileOf pool9 1 #[] #[] 1537 3 #[] #[])
  fields := #[]
  methods := #[]
  instanceTypes := #[]
  staticTypes := #[]
  resolved := Array.replicate 7 none
  statics := none }

def pool10 : Array CpInfo := pool [(1, .class_ 2), (0, u "java/lang/Cloneable"), (0, .class_ 4), (0, u "java/lang/Object")] 2

/-- java/lang/Cloneable -/
def k10 : Class := { plain "java/lang/Cloneable" (some 0) with
  accessFlags := 1537
  interfaces := #[]
  cf := some (fileOf pool10 1 #[] #[] 1537 3 #[] #[])
  fields := #[]
  methods := #[]
  instanceTypes := #[]
  staticTypes := #[]
  resolved := Array.replicate 7 none
  statics := none }

def pool11 : Array CpInfo := pool [(1, .class_ 2), (0, u "java/io/Serializable"), (0, .class_ 4), (0, u "java/lang/Object")] 2

/-- java/io/Serializable -/
def k11 : Class := { plain "java/io/Serializable" (some 0) with
  accessFlags := 1537
  interfaces := #[]
  cf := some (fileOf pool11 1 #[] #[] 1537 3 #[] #[])
  fields := #[]
  methods := #[]
  instanceTypes := #[]
  staticTypes := #[]
  resolved := Array.replicate 7 none
  statics := none }

def pool12 : Array CpInfo := pool [(1, .methodref 2 3), (0, .class_ 4), (0, .nameAndType 5 6), (0, u "java/util/AbstractList"), (0, u "<init>"), (0, u "()V"), (2, .fieldref 10 11), (0, .class_ 12), (0, .nameAndType 13 14), (0, u "java/util/ArrayList"), (0, u "elementData"), (0, u "[Ljava/lang/Object;"), (2, u "EMPTY_ELEMENTDATA"), (21, .fieldref 10 40), (0, .nameAndType 41 14), (0, u "DEFAULTCAPACITY_EMPTY_ELEMENTDATA"), (8, u "size"), (0, u "I"), (96, .class_ 149), (0, u "java/util/List"), (112, .class_ 263), (0, u "java/util/ArrayList$ListItr"), (3, .class_ 268), (0, u "java/util/ArrayList$Itr"), (7, .class_ 277), (0, u "java/util/ArrayList$SubList"), (12, .class_ 291), (0, u "java/util/ArrayList$ArrayListSpliterator"), (37, .class_ 330), (0, u "java/util/RandomAccess"), (0, .class_ 332), (0, u "java/lang/Cloneable"), (0, .class_ 334), (0, u "java/io/Serializable"), (0, u "serialVersionUID"), (0, u "J"), (3, u "DEFAULT_CAPACITY"), (159, .class_ 501), (0, u "java/util/ArrayList$SubList$2"), (0, .class_ 503), (0, u "java/util/ArrayList$SubList$1")] 5

def k12c0 : Code := { maxStack := 2, maxLocals := 1, code := jdk_38_method_2_code, exceptionTable := #[], attributes := #[] }
def k12m0 : Method := { name := "<init>", desc := "()V", sig := { parameters := [], returnType := none }, accessFlags := 1, code := some k12c0 }
/-- java/util/ArrayList -/
def k12 : Class := { plain "java/util/ArrayList" (some 8) with
  accessFlags := 33
  interfaces := #[7, 9, 10, 11]
  cf := some (fileOf pool12 10 #[.nestMembers #[290, 276, 500, 502, 262, 267]] #[{ accessFlags := 1, nameIndex := 5, descriptorIndex := 6, attributes := #[] }] 33 2 #[148, 329, 331, 333] #[{ accessFlags := 26, nameIndex := 335, descriptorIndex := 336, attributes := #[] }, { accessFlags := 26, nameIndex := 340, descriptorIndex := 51, attributes := #[] }, { accessFlags := 26, nameIndex := 17, descriptorIndex := 14, attributes := #[] }, { accessFlags := 26, nameIndex := 41, descriptorIndex := 14, attributes := #[] }, { accessFlags := 128, nameIndex := 13, descriptorIndex := 14, attributes := #[] }, { accessFlags := 2, nameIndex := 50, descriptorIndex := 51, attributes := #[] }])
  fields := #[{ name := "serialVersionUID", type := .long, accessFlags := 26, slot := 0, constantValue := 0 }, { name := "DEFAULT_CAPACITY", type := .int, accessFlags := 26, slot := 1, constantValue := 0 }, { name := "EMPTY_ELEMENTDATA", type := (.array (.object "java/lang/Object")), accessFlags := 26, slot := 2, constantValue := 0 }, { name := "DEFAULTCAPACITY_EMPTY_ELEMENTDATA", type := (.array (.object "java/lang/Object")), accessFlags := 26, slot := 3, constantValue := 0 }, { name := "elementData", type := (.array (.object "java/lang/Object")), accessFlags := 128, slot := 1, constantValue := 0 }, { name := "size", type := .int, accessFlags := 2, slot := 2, constantValue := 0 }]
  methods := #[k12m0]
  instanceTypes := #[.int, (.array (.object "java/lang/Object")), .int]
  staticTypes := #[.long, .int, (.array (.object "java/lang/Object")), (.array (.object "java/lang/Object"))]
  resolved := Array.replicate 509 none
  statics := some 0 }

def pool13 : Array CpInfo := pool [(1, .methodref 2 3), (0, .class_ 4), (0, .nameAndType 5 6), (0, u "java/lang/Object"), (0, u "<init>"), (0, u "()V"), (0, .fieldref 8 9), (0, .class_ 10), (0, .nameAndType 11 12), (0, u "com/example/xidr/xidr/xml/tree/TreeBuilder$Parts"), (0, u "kinds"), (0, u "[B"), (0, .fieldref 14 9), (0, .class_ 15), (0, u "com/example/xidr/xidr/xml/tree/Tree"), (0, .fieldref 8 17), (0, .nameAndType 18 19), (0, u "parents"), (0, u "[I"), (0, .fieldref 14 17), (0, .fieldref 8 22), (0, .nameAndType 23 19), (0, u "nextSiblings"), (0, .fieldref 14 22), (0, .fieldref 8 26), (0, .nameAndType 27 19), (0, u "data"), (0, .fieldref 14 26), (0, .fieldref 8 30), (0, .nameAndType 31 32), (0, u "nodeCount"), (0, u "I"), (0, .fieldref 14 30), (0, .fieldref 8 35), (0, .nameAndType 36 19), (0, u "owners"), (0, .fieldref 14 35), (0, .fieldref 8 39), (0, .nameAndType 40 19), (0, u "attributeNames"), (0, .fieldref 14 39), (0, .fieldref 8 43), (0, .nameAndType 44 19), (0, u "attributeValues"), (0, .fieldref 14 43), (0, .fieldref 8 47), (0, .nameAndType 48 12), (0, u "attributeTypes"), (0, .fieldref 14 47), (0, .fieldref 8 51), (0, .nameAndType 52 32), (0, u "attributeCount"), (0, .fieldref 14 51), (0, .fieldref 8 55), (0, .nameAndType 56 57), (0, u "names"), (0, u "Ljava/util/List;"), (0, .fieldref 14 55), (0, .fieldref 8 60), (0, .nameAndType 61 12), (0, u "narrowText"), (0, .fieldref 14 60), (0, .fieldref 8 64), (0, .nameAndType 65 66), (0, u "wideText"), (0, u "[C"), (0, .fieldref 14 64), (0, .fieldref 8 69), (0, .nameAndType 70 19), (0, u "valueStarts"), (0, .fieldref 14 69), (0, .fieldref 8 73), (0, .nameAndType 74 19), (0, u "instructions"), (0, .fieldref 14 73), (0, .fieldref 8 77), (0, .nameAndType 78 19), (0, u "instructionData"), (0, .fieldref 14 77), (2, u "afterSubtree"), (0, u "(I)I"), (19, .class_ 104), (0, u "com/example/xidr/xidr/xml/tree/Tree$Name"), (48, u "NONE"), (2, u "WITH_ATTRIBUTES"), (0, u "B"), (1, u "PASSES"), (1, u "FAILS"), (3, u "document"), (0, u "Lcom/example/xidr/xidr/xml/tree/TreeDocument;"), (0, u "(Lcom/example/xidr/xidr/xml/tree/TreeBuilder$Parts;)V")] 33

def k13c0 : Code := { maxStack := 2, maxLocals := 2, code := prog_30_method_1_code, exceptionTable := #[], attributes := #[] }
def k13m0 : Method := { name := "<init>", desc := "(Lcom/example/xidr/xidr/xml/tree/TreeBuilder$Parts;)V", sig := { parameters := [(.object "com/example/xidr/xidr/xml/tree/TreeBuilder$Parts")], returnType := none }, accessFlags := 0, code := some k13c0 }
def k13c1 : Code := { maxStack := 2, maxLocals := 4, code := prog_30_method_10_code, exceptionTable := #[], attributes := #[] }
def k13m1 : Method := { name := "afterSubtree", desc := "(I)I", sig := { parameters := [.int], returnType := some .int }, accessFlags := 0, code := some k13c1 }
/-- com/example/xidr/xidr/xml/tree/Tree -/
def k13 : Class := { plain "com/example/xidr/xidr/xml/tree/Tree" (some 0) with
  accessFlags := 48
  interfaces := #[]
  cf := some (fileOf pool13 14 #[.nestMembers #[103]] #[{ accessFlags := 0, nameIndex := 5, descriptorIndex := 167, attributes := #[] }, { accessFlags := 0, nameIndex := 82, descriptorIndex := 83, attributes := #[] }] 48 2 #[] #[{ accessFlags := 24, nameIndex := 153, descriptorIndex := 32, attributes := #[] }, { accessFlags := 24, nameIndex := 156, descriptorIndex := 157, attributes := #[] }, { accessFlags := 26, nameIndex := 159, descriptorIndex := 157, attributes := #[] }, { accessFlags := 26, nameIndex := 161, descriptorIndex := 157, attributes := #[] }, { accessFlags := 18, nameIndex := 11, descriptorIndex := 12, attributes := #[] }, { accessFlags := 18, nameIndex := 18, descriptorIndex := 19, attributes := #[] }, { accessFlags := 18, nameIndex := 23, descriptorIndex := 19, attributes := #[] }, { accessFlags := 18, nameIndex := 27, descriptorIndex := 19, attributes := #[] }, { accessFlags := 18, nameIndex := 31, descriptorIndex := 32, attributes := #[] }, { accessFlags := 18, nameIndex := 36, descriptorIndex := 19, attributes := #[] }, { accessFlags := 18, nameIndex := 40, descriptorIndex := 19, attributes := #[] }, { accessFlags := 18, nameIndex := 44, descriptorIndex := 19, attributes := #[] }, { accessFlags := 18, nameIndex := 48, descriptorIndex := 12, attributes := #[] }, { accessFlags := 18, nameIndex := 52, descriptorIndex := 32, attributes := #[] }, { accessFlags := 18, nameIndex := 56, descriptorIndex := 57, attributes := #[] }, { accessFlags := 18, nameIndex := 61, descriptorIndex := 12, attributes := #[] }, { accessFlags := 18, nameIndex := 65, descriptorIndex := 66, attributes := #[] }, { accessFlags := 18, nameIndex := 70, descriptorIndex := 19, attributes := #[] }, { accessFlags := 18, nameIndex := 74, descriptorIndex := 19, attributes := #[] }, { accessFlags := 18, nameIndex := 78, descriptorIndex := 19, attributes := #[] }, { accessFlags := 0, nameIndex := 165, descriptorIndex := 166, attributes := #[] }])
  fields := #[{ name := "NONE", type := .int, accessFlags := 24, slot := 0, constantValue := 0 }, { name := "WITH_ATTRIBUTES", type := .byte, accessFlags := 24, slot := 1, constantValue := 0 }, { name := "PASSES", type := .byte, accessFlags := 26, slot := 2, constantValue := 0 }, { name := "FAILS", type := .byte, accessFlags := 26, slot := 3, constantValue := 0 }, { name := "kinds", type := (.array .byte), accessFlags := 18, slot := 0, constantValue := 0 }, { name := "parents", type := (.array .int), accessFlags := 18, slot := 1, constantValue := 0 }, { name := "nextSiblings", type := (.array .int), accessFlags := 18, slot := 2, constantValue := 0 }, { name := "data", type := (.array .int), accessFlags := 18, slot := 3, constantValue := 0 }, { name := "nodeCount", type := .int, accessFlags := 18, slot := 4, constantValue := 0 }, { name := "owners", type := (.array .int), accessFlags := 18, slot := 5, constantValue := 0 }, { name := "attributeNames", type := (.array .int), accessFlags := 18, slot := 6, constantValue := 0 }, { name := "attributeValues", type := (.array .int), accessFlags := 18, slot := 7, constantValue := 0 }, { name := "attributeTypes", type := (.array .byte), accessFlags := 18, slot := 8, constantValue := 0 }, { name := "attributeCount", type := .int, accessFlags := 18, slot := 9, constantValue := 0 }, { name := "names", type := (.object "java/util/List"), accessFlags := 18, slot := 10, constantValue := 0 }, { name := "narrowText", type := (.array .byte), accessFlags := 18, slot := 11, constantValue := 0 }, { name := "wideText", type := (.array .char), accessFlags := 18, slot := 12, constantValue := 0 }, { name := "valueStarts", type := (.array .int), accessFlags := 18, slot := 13, constantValue := 0 }, { name := "instructions", type := (.array .int), accessFlags := 18, slot := 14, constantValue := 0 }, { name := "instructionData", type := (.array .int), accessFlags := 18, slot := 15, constantValue := 0 }, { name := "document", type := (.object "com/example/xidr/xidr/xml/tree/TreeDocument"), accessFlags := 0, slot := 16, constantValue := 0 }]
  methods := #[k13m0, k13m1]
  instanceTypes := #[(.array .byte), (.array .int), (.array .int), (.array .int), .int, (.array .int), (.array .int), (.array .int), (.array .byte), .int, (.object "java/util/List"), (.array .byte), (.array .char), (.array .int), (.array .int), (.array .int), (.object "com/example/xidr/xidr/xml/tree/TreeDocument")]
  staticTypes := #[.int, .byte, .byte, .byte]
  resolved := Array.replicate 201 none
  statics := none }

/-- the primitive byte -/
def k14 : Class := { plain "byte" none with kind := .primitive 'B', accessFlags := 0x411 }
/-- [B -/
def k15 : Class := { plain "[B" (some 0) with kind := .array 14 .byte, interfaces := #[10, 11], accessFlags := 1041 }

/-- the primitive int -/
def k16 : Class := { plain "int" none with kind := .primitive 'I', accessFlags := 0x411 }
/-- [I -/
def k17 : Class := { plain "[I" (some 0) with kind := .array 16 .int, interfaces := #[10, 11], accessFlags := 1041 }

/-- [Ljava/lang/Object; -/
def k18 : Class := { plain "[Ljava/lang/Object;" (some 0) with kind := .array 0 (.object "java/lang/Object"), interfaces := #[10, 11], accessFlags := 1041 }

def heap : Heap := #[{ cls := 12, slots := #[.long 0, .int 0, .ref 1, .ref 2], vm := .statics 12 },
  { cls := 18, slots := #[], vm := .none },
  { cls := 18, slots := #[], vm := .none }]
def classes : Array Class := #[k0, k1, k2, k3, k4, k5, k6, k7, k8, k9, k10, k11, k12, k13, k14, k15, k16, k17, k18]
def interned : List (Array UInt16 × Addr) := []
def slotsUsed : Nat := 4
def theMethod : MethodId := ⟨1, 1⟩
def args0 : Array Value := #[.int 5, .int 5]
def aboutOver (below : List Frame) : State where
  vm := { classes := classes, interned := interned.toArray }
  heap := heap
  slotsUsed := slotsUsed
  threads := #[{ frames := .invoking theMethod args0 :: below }]
def below0 : List Frame := [.native { method := ⟨0, 0⟩, args := #[] }]
def about1 : State := aboutOver below0
def p0 : Program := .bare "" "" ""
def e0 : Env := launch0.env 0 0 0
theorem w_frames : about1.frames = Frame.invoking theMethod args0 :: below0 := rfl
set_option maxRecDepth 65536 in
theorem w_args : argsFit about1.vm theMethod args0 = true := by decide +kernel
set_option maxRecDepth 65536 in
theorem w_heap : heapFits about1 = true := by decide +kernel
set_option maxRecDepth 65536 in
theorem w_runnable : about1.curStatus? = some .runnable := by decide +kernel
set_option maxRecDepth 65536 in
theorem w_alone : about1.alone = true := by decide +kernel
set_option maxRecDepth 65536 in
theorem w_named : about1.methodNamed? x = some theMethod := by decide +kernel
set_option maxRecDepth 65536 in
theorem w_hears : about1.hears theMethod below0 = true := by decide +kernel
set_option maxRecDepth 65536 in
theorem w_ripe : about1.ripe theMethod args0 below0 = true := by decide +kernel
theorem w_running : about1.status = .running := rfl
set_option maxRecDepth 65536 in
theorem w_room : about1.hasRoom e0.platform room_1 = true :=
  launch0.hasRoom_least _ room_1 (by decide +kernel) (by decide +kernel) (by decide +kernel) (by decide +kernel) (by decide +kernel) (by decide +kernel)
theorem allAtoms_all (ts : List Jvm.Cond) (a : Array Jvm.Value) (st : Jvm.State) : (allAtoms ts).before a st = ts.all (fun c => c.before a st) := by
  induction ts with
  | nil => rfl
  | cons c t ih =>
    show (Jvm.Cond.and c (allAtoms t)).before a st = _
    rw [Jvm.Cond.before_and, ih, List.all_cons]
def words1 : List Jvm.Cond := Jvm.Cond.code x code maxLocals ret :: tables_1
/-- a 'code' word, met by the world's own term for the bytes: nothing is compared byte by byte -/
theorem code_word {y : MethodName} {bytes : ByteArray} {mx : Nat} {rt : Option FieldType} {a : Array Value} {s : State} {m : MethodId} {meth : Method} {c : Code} (h1 : s.methodNamed? y = some m) (h2 : s.vm.method? m = some meth) (h3 : meth.code = some c) (h4 : c.code = bytes)
    (h5 : (c.maxLocals == mx && c.exceptionTable.isEmpty && decide (c.maxStack ≤ mostOperands) && decide (meth.sig.returnType = rt) && !meth.locks && decide (parseMethodDescriptor y.desc = some meth.sig)) = true) : (Jvm.Cond.code y bytes mx rt).before a s = true := by
  simp only [Bool.and_eq_true, beq_iff_eq, Bool.not_eq_true', decide_eq_true_eq] at h5
  obtain ⟨⟨⟨⟨⟨g1, g2⟩, g3⟩, g4⟩, g5⟩, g6⟩ := h5
  simp [Cond.before, Cond.holds, Cond.value, h1, h2, h3, h4, g1, g2, g3, g4, g5, g6]
def isCode : Jvm.Cond → Bool
  | .code _ _ _ _ => true
  | _ => false
theorem all_split {L : List Jvm.Cond} {P : Jvm.Cond → Bool} (h1 : L.all (fun c => isCode c || P c) = true) (h2 : ∀ c ∈ L.filter isCode, P c = true) : L.all P = true := by
  refine List.all_eq_true.mpr fun c hc => ?_
  have h := List.all_eq_true.mp h1 c hc
  rcases Bool.eq_false_or_eq_true (isCode c) with hi | hi
  · exact h2 c (List.mem_filter.mpr ⟨hc, hi⟩)
  · simpa [hi] using h
set_option maxRecDepth 65536 in
theorem w_c0 : (Jvm.Cond.code x code maxLocals ret).before args0 about1 = true := code_word (m := ⟨1, 1⟩) (meth := k1m1) (c := k1c1) (by decide +kernel) rfl rfl rfl (by decide +kernel)
set_option maxRecDepth 65536 in
theorem w_c1 : (Jvm.Cond.code ({ cls := "com/example/xidr/xidr/xml/tree/TreeAfterSubtreePinLaw", name := "up", desc := "([III)I" } : Jvm.MethodName) method_3_code (4 : Nat) (Option.some Jvm.ClassFile.FieldType.int)).before args0 about1 = true := code_word (m := ⟨1, 2⟩) (meth := k1m2) (c := k1c2) (by decide +kernel) rfl rfl rfl (by decide +kernel)
set_option maxRecDepth 65536 in
theorem w_c2 : (Jvm.Cond.code ({ cls := "com/example/xidr/xidr/xml/tree/TreeAfterSubtreePinLaw", name := "next", desc := "([II)I" } : Jvm.MethodName) method_4_code (2 : Nat) (Option.some Jvm.ClassFile.FieldType.int)).before args0 about1 = true := code_word (m := ⟨1, 3⟩) (meth := k1m3) (c := k1c3) (by decide +kernel) rfl rfl rfl (by decide +kernel)
set_option maxRecDepth 65536 in
theorem w_c3 : (Jvm.Cond.code ({ cls := "com/example/xidr/xidr/xml/tree/TreeBuilder$Parts", name := "<init>", desc := "()V" } : Jvm.MethodName) prog_37_method_1_code (1 : Nat) (Option.none : Option Jvm.ClassFile.FieldType)).before args0 about1 = true := code_word (m := ⟨2, 0⟩) (meth := k2m0) (c := k2c0) (by decide +kernel) rfl rfl rfl (by decide +kernel)
set_option maxRecDepth 65536 in
theorem w_c4 : (Jvm.Cond.code ({ cls := "java/lang/Object", name := "<init>", desc := "()V" } : Jvm.MethodName) object_method_1_code (1 : Nat) (Option.none : Option Jvm.ClassFile.FieldType)).before args0 about1 = true := code_word (m := ⟨0, 0⟩) (meth := k0m0) (c := k0c0) (by decide +kernel) rfl rfl rfl (by decide +kernel)
set_option maxRecDepth 65536 in
theorem w_c5 : (Jvm.Cond.code ({ cls := "java/util/ArrayList", name := "<init>", desc := "()V" } : Jvm.MethodName) jdk_38_method_2_code (1 : Nat) (Option.none : Option Jvm.ClassFile.FieldType)).before args0 about1 = true := code_word (m := ⟨12, 0⟩) (meth := k12m0) (c := k12c0) (by decide +kernel) rfl rfl rfl (by decide +kernel)
set_option maxRecDepth 65536 in
theorem w_c6 : (Jvm.Cond.code ({ cls := "java/util/AbstractList", name := "<init>", desc := "()V" } : Jvm.MethodName) jdk_39_method_1_code (1 : Nat) (Option.none : Option Jvm.ClassFile.FieldType)).before args0 about1 = true := code_word (m := ⟨8, 0⟩) (meth := k8m0) (c := k8c0) (by decide +kernel) rfl rfl rfl (by decide +kernel)
set_option maxRecDepth 65536 in
theorem w_c7 : (Jvm.Cond.code ({ cls := "java/util/AbstractCollection", name := "<init>", desc := "()V" } : Jvm.MethodName) jdk_22_method_1_code (1 : Nat) (Option.none : Option Jvm.ClassFile.FieldType)).before args0 about1 = true := code_word (m := ⟨5, 0⟩) (meth := k5m0) (c := k5c0) (by decide +kernel) rfl rfl rfl (by decide +kernel)
set_option maxRecDepth 65536 in
theorem w_c8 : (Jvm.Cond.code ({ cls := "com/example/xidr/xidr/xml/tree/Tree", name := "<init>", desc := "(Lcom/example/xidr/xidr/xml/tree/TreeBuilder$Parts;)V" } : Jvm.MethodName) prog_30_method_1_code (2 : Nat) (Option.none : Option Jvm.ClassFile.FieldType)).before args0 about1 = true := code_word (m := ⟨13, 0⟩) (meth := k13m0) (c := k13c0) (by decide +kernel) rfl rfl rfl (by decide +kernel)
set_option maxRecDepth 65536 in
theorem w_c9 : (Jvm.Cond.code ({ cls := "com/example/xidr/xidr/xml/tree/Tree", name := "afterSubtree", desc := "(I)I" } : Jvm.MethodName) prog_30_method_10_code (4 : Nat) (Option.some Jvm.ClassFile.FieldType.int)).before args0 about1 = true := code_word (m := ⟨13, 1⟩) (meth := k13m1) (c := k13c1) (by decide +kernel) rfl rfl rfl (by decide +kernel)
set_option maxRecDepth 65536 in
theorem w_c10 : (Jvm.Cond.code ({ cls := "com/example/xidr/xidr/xml/tree/TreeAfterSubtreePinLaw", name := "after", desc := "([II)I" } : Jvm.MethodName) method_5_code (2 : Nat) (Option.some Jvm.ClassFile.FieldType.int)).before args0 about1 = true := code_word (m := ⟨1, 4⟩) (meth := k1m4) (c := k1c4) (by decide +kernel) rfl rfl rfl (by decide +kernel)
def codes1 : List Jvm.Cond := [Jvm.Cond.code x code maxLocals ret, Jvm.Cond.code ({ cls := "com/example/xidr/xidr/xml/tree/TreeAfterSubtreePinLaw", name := "up", desc := "([III)I" } : Jvm.MethodName) method_3_code (4 : Nat) (Option.some Jvm.ClassFile.FieldType.int), Jvm.Cond.code ({ cls := "com/example/xidr/xidr/xml/tree/TreeAfterSubtreePinLaw", name := "next", desc := "([II)I" } : Jvm.MethodName) method_4_code (2 : Nat) (Option.some Jvm.ClassFile.FieldType.int), Jvm.Cond.code ({ cls := "com/example/xidr/xidr/xml/tree/TreeBuilder$Parts", name := "<init>", desc := "()V" } : Jvm.MethodName) prog_37_method_1_code (1 : Nat) (Option.none : Option Jvm.ClassFile.FieldType), Jvm.Cond.code ({ cls := "java/lang/Object", name := "<init>", desc := "()V" } : Jvm.MethodName) object_method_1_code (1 : Nat) (Option.none : Option Jvm.ClassFile.FieldType), Jvm.Cond.code ({ cls := "java/util/ArrayList", name := "<init>", desc := "()V" } : Jvm.MethodName) jdk_38_method_2_code (1 : Nat) (Option.none : Option Jvm.ClassFile.FieldType), Jvm.Cond.code ({ cls := "java/util/AbstractList", name := "<init>", desc := "()V" } : Jvm.MethodName) jdk_39_method_1_code (1 : Nat) (Option.none : Option Jvm.ClassFile.FieldType), Jvm.Cond.code ({ cls := "java/util/AbstractCollection", name := "<init>", desc := "()V" } : Jvm.MethodName) jdk_22_method_1_code (1 : Nat) (Option.none : Option Jvm.ClassFile.FieldType), Jvm.Cond.code ({ cls := "com/example/xidr/xidr/xml/tree/Tree", name := "<init>", desc := "(Lcom/example/xidr/xidr/xml/tree/TreeBuilder$Parts;)V" } : Jvm.MethodName) prog_30_method_1_code (2 : Nat) (Option.none : Option Jvm.ClassFile.FieldType), Jvm.Cond.code ({ cls := "com/example/xidr/xidr/xml/tree/Tree", name := "afterSubtree", desc := "(I)I" } : Jvm.MethodName) prog_30_method_10_code (4 : Nat) (Option.some Jvm.ClassFile.FieldType.int), Jvm.Cond.code ({ cls := "com/example/xidr/xidr/xml/tree/TreeAfterSubtreePinLaw", name := "after", desc := "([II)I" } : Jvm.MethodName) method_5_code (2 : Nat) (Option.some Jvm.ClassFile.FieldType.int)]
set_option maxRecDepth 65536 in
theorem codes_eq : words1.filter isCode = codes1 := rfl
theorem w_codes : ∀ c ∈ words1.filter isCode, c.before args0 about1 = true := by
  rw [codes_eq]
  intro c hc
  simp only [codes1, List.mem_cons, List.not_mem_nil, or_false] at hc
  rcases hc with rfl | rfl | rfl | rfl | rfl | rfl | rfl | rfl | rfl | rfl | rfl
  · exact w_c0
  · exact w_c1
  · exact w_c2
  · exact w_c3
  · exact w_c4
  · exact w_c5
  · exact w_c6
  · exact w_c7
  · exact w_c8
  · exact w_c9
  · exact w_c10
set_option maxRecDepth 65536 in
theorem w_t1 : (words1.take 24).all (fun c => isCode c || c.before args0 about1) = true := by decide +kernel
set_option maxRecDepth 65536 in
theorem w_t2 : ((words1.drop 24).take 24).all (fun c => isCode c || c.before args0 about1) = true := by decide +kernel
set_option maxRecDepth 65536 in
theorem w_t3 : (((words1.drop 24).drop 24).take 24).all (fun c => isCode c || c.before args0 about1) = true := by decide +kernel
set_option maxRecDepth 65536 in
theorem w_t4 : ((((words1.drop 24).drop 24).drop 24).take 24).all (fun c => isCode c || c.before args0 about1) = true := by decide +kernel
set_option maxRecDepth 65536 in
theorem w_t5 : (((((words1.drop 24).drop 24).drop 24).drop 24).take 24).all (fun c => isCode c || c.before args0 about1) = true := by decide +kernel
set_option maxRecDepth 65536 in
theorem w_t6 : (((((words1.drop 24).drop 24).drop 24).drop 24).drop 24).all (fun c => isCode c || c.before args0 about1) = true := by decide +kernel
theorem w_tables : (allAtoms (Jvm.Cond.code x code maxLocals ret :: tables_1)).before args0 about1 = true := by
  rw [allAtoms_all]
  show words1.all (fun c => c.before args0 about1) = true
  refine all_split ?_ w_codes
  rw [← List.take_append_drop 24 words1, List.all_append, w_t1, ← List.take_append_drop 24 (words1.drop 24), List.all_append, w_t2, ← List.take_append_drop 24 ((words1.drop 24).drop 24), List.all_append, w_t3, ← List.take_append_drop 24 (((words1.drop 24).drop 24).drop 24), List.all_append, w_t4, ← List.take_append_drop 24 ((((words1.drop 24).drop 24).drop 24).drop 24), List.all_append, w_t5, w_t6]
  rfl
set_option maxRecDepth 65536 in
theorem w_rest : rest_1_c.before args0 about1 = true := by decide +kernel
set_option maxRecDepth 65536 in
theorem w_case : (Jvm.Cond.and given_1 narrow_1).before args0 about1 = true := by decide +kernel
theorem w_applies : (headSpec (Jvm.Cond.code x code maxLocals ret :: tables_1) room_1).applies x e0.platform about1 = true :=
  (Spec.applies_iff w_frames).mpr ⟨w_running, w_runnable, w_alone, w_named, w_hears, w_ripe, w_room, w_tables⟩
theorem atStart : AtStart classFile x code maxLocals ret World_1 tables_1 room_1 Calls_1 rest_1 Pre_1 launch0 p0 e0 about1 theMethod args0 below0 :=
  ⟨lists_1, trivial, launch0.admits_env _ _ _, launch0.least_env, fairChoices_fair.cas, fairChoices_fair.clock, w_frames, w_args, w_heap, w_applies, trivial, w_rest, w_case⟩
end start1
theorem witness_1 : WitnessClaimed_1 := ⟨start1.p0, start1.e0, start1.about1, start1.theMethod, start1.args0, start1.below0, start1.atStart⟩
end Jvm.Pilot.@@N@@
