import JvmDerived
import JvmDerived.Pilot.@@N@@Statement
import JvmDerived.Pilot.@@N@@Code
set_option linter.unusedVariables false
set_option linter.unusedSimpArgs false
namespace Jvm.RoadKit
open Sem ClassFile Op Lib Jvm.Stand Jvm.Free Jvm.LawKit
section New
variable {p : Program} {l : Launch} {e : Env} {R : Room} {s : State} {m : MethodId} {args : Array Value} {below : List Frame} {meth : Method} {c : Code} {T : State} {locs : List Loc} {cells slots : Nat}
theorem retI (X : Stand p l e R s m args below meth c T locs cells slots) (hx : p.tables.exec = Jvm.exec) {pc : Nat} {Ls : Array Slot} {z : Int32} {rest : List Value} (hret : meth.sig.returnType = some .int) (hd : decode c.code pc = .ok (.ireturn, 1)) {fs : List Frame}
    (hl : ∀ (f : JFrame) (acts : List Action), f.method = m → f.locked = none → f.entered = [] → (doReturn e (T.setTop f) acts (some (.int z))).1 = T.setFrames fs) : Steps p.tables e below (T.setTop (mkF m pc Ls (.int z :: rest))) (T.setFrames fs) := by
  have hm' : T.vm.method? m = some meth := X.method'
  have hn : narrow .int (.int z) = .int z := rfl
  show Steps p.tables e below (T.setTop { method := m, pc := pc, locals := Ls, stack := _ :: rest, locked := none }) _
  jvm_step X.here [X.here.top, hx, hd, hm', hret, hn]
  first | (intro acts; rw [hl _ acts rfl rfl rfl]) | rw [hl _ _ rfl rfl rfl]
  exact Steps.refl _
end New
end Jvm.RoadKit
namespace Jvm.Pilot.@@N@@
open Jvm Jvm.ClassFile Sem Op Lib Jvm.Free Jvm.Stand Jvm.LawKit Jvm.RoadKit Bundle Jvm.Pilot.@@N@@.Jvm.D
theorem own_keep_ext {h h' : Heap} (K : Keep h h' []) : Ext h h' := ⟨K.1, fun a c q => K.2.1 a c q nin0⟩
theorem own_sta_keep {Z : State} {h h' : Heap} {C n d K : String} {a : Addr} {v : Value} (F : Sta Z h C n d v) (Kp : Keep h h' [a]) (E : Exa Z h a K) : Sta Z h' C n d v := by
  obtain ⟨cf, i, k, f, st, cell, h1, h2, h3, h4, h5, h6, h7⟩ := F
  obtain ⟨cell', k', g1, -, -, g4, -⟩ := E
  have ne : st ≠ a := by
    intro q
    subst q
    rw [h5] at g1
    cases g1
    rw [h6] at g4
    cases g4
  exact ⟨cf, i, k, f, st, cell, h1, h2, h3, h4, Kp.2.1 st cell h5 (ninS ne nin0), h6, h7⟩
def own_at (xs : List Int32) (j : Int32) : Int32 := xs.getD j.toNatClampNeg 0
theorem own_getD (xs : List Int32) (i : Nat) : (xs.map Value.int).getD i (.int (0 : Int32)) = .int (xs.getD i 0) := by
  simp only [List.getD_eq_getElem?_getD, List.getElem?_map]
  cases xs[i]? <;> rfl
abbrev own_in (a : Int32) : Prop := ¬ (a < 0) ∧ a < (7 : Int32)
def own_n {k : Nat} (i : Fin k) : Int32 := Int32.ofNat i.val
theorem own_in_fin (a : Int32) (h : own_in a) : ∃ i : Fin 7, a = own_n i := by
  obtain ⟨h1, h2⟩ := h
  rw [Int32.lt_iff_toInt_lt] at h1 h2
  have z0 : (0 : Int32).toInt = 0 := rfl
  have z1 : (7 : Int32).toInt = 7 := rfl
  refine ⟨⟨a.toInt.toNat, by omega⟩, ?_⟩
  apply Int32.toInt_inj.mp
  show a.toInt = (Int32.ofNat a.toInt.toNat).toInt
  rw [Int32.toInt_ofNat_of_lt (by omega)]
  omega
theorem d6_0 : decode jdk_22_method_1_code 0 = .ok (.aload_n 0, 1) := by decide +kernel
theorem d6_1 : decode jdk_22_method_1_code 1 = .ok (.invokespecial 1, 3) := by decide +kernel
theorem d6_4 : decode jdk_22_method_1_code 4 = .ok (.return_, 1) := by decide +kernel
theorem pn0 : plainName "java/util/AbstractCollection" = true := by first | (simp [plainName, overriddenIn]; done) | decide +kernel
theorem ef_rm_ac (m : MethodId) (ra : Addr) : entryFrame m #[(.ref ra)] 1 = mkF m 0 #[.val (.ref ra)] [] := by first | (simp [entryFrame, mkF, argsToLocals, Value.category]; done) | rfl
def Q_rm_ac (Z : State) (ra : Addr) (h0 : Heap) (n0 : Nat) (v : Option Value) (h : Heap) (L : List Loc) : Prop := v = none ∧ Fr n0 L ∧ h = h0
set_option maxRecDepth 65536 in
set_option maxHeartbeats 40000000 in
theorem rm_ac (l : Launch) (Z : State) (a0 : Array Value) (hw : ∀ d ∈ tables_1, d.before a0 Z = true) (ws : List Jvm.Cond) (ra : Addr) (h0 : Heap) (n0 : Nat) (Z0 : n0 ≤ h0.size) :
    MetFree l (⟨"java/util/AbstractCollection", "<init>", "()V"⟩ : MethodName) (head1 (Jvm.Cond.code (⟨"java/util/AbstractCollection", "<init>", "()V"⟩ : MethodName) jdk_22_method_1_code 1 none :: ws) ({ frames := 1, cells := 0, slots := 0, locals := 12 } : Room)) (fun a U => a = #[(.ref ra)] ∧ Z.Warmed39 U.vm ∧ U.heap = h0) (fun _ _ _ _ _ => True) (fun _ U o U' => ∃ v L, o = .returned v ∧ Q_rm_ac Z ra h0 n0 v U'.heap L ∧ FrameEnd U o U' L ({ frames := 1, cells := 0, slots := 0, locals := 12 } : Room).cells ({ frames := 1, cells := 0, slots := 0, locals := 12 } : Room).slots) := by
  refine MetFree.of_bodySF (plainFor_of_name pn0) hisR ?_
  intro p e s m args below meth c s₁ Bd hml0 hP hK
  obtain ⟨rfl, hZ, hh⟩ := hP
  have hx := Bd.exec
  have hby := Bd.bytes
  have hml : c.maxLocals = 1 := hml0
  have hown : s.vm.findClass "java/util/AbstractCollection" = some m.cls := findClass_of_methodNamed Bd.named
  have hnm := (name_of_methodNamed Bd.named Bd.method).1
  have X0 : Stand p l e ({ frames := 1, cells := 0, slots := 0, locals := 12 } : Room) s m #[(.ref ra)] below meth c s₁ [] 0 0 := Stand.of_body Bd
  have e0 : s₁.heap = h0 := by rw [← hh, Bd.state]; rfl
  have N0 := Fr.nil n0
  have pre0 : ∀ t, Steps p.tables e below (s₁.setTop (mkF m 0 #[.val (.ref ra)] [])) t → Steps p.tables e below (s₁.setTop (entryFrame m #[(.ref ra)] 1)) t := fun t k => castTop (ef_rm_ac m ra) k
  have pre1 : ∀ t, Steps p.tables e below (s₁.setTop (mkF m 1 #[.val (.ref ra)] [(.ref ra)])) t → Steps p.tables e below (s₁.setTop (entryFrame m #[(.ref ra)] 1)) t := by
    intro t k
    refine pre0 t ?_
    refine XS.aloadN X0.here hx rfl (hb hby d6_0) rfl rfl ?_
    show Steps p.tables e below (s₁.setTop (mkF m 1 #[.val (.ref ra)] [(.ref ra)])) _
    exact k
  obtain ⟨T2, X2, e2, st2⟩ := initO X0 hx hZ hown (hw _ (List.mem_of_getElem? (i := 49) rfl)) (hw _ (List.mem_of_getElem? (i := 12) rfl)) (hw _ (List.mem_of_getElem? (i := 13) rfl)) e0 (g := (mkF m 1 #[.val (.ref ra)] [(.ref ra)])) rfl (by rw [hml]; rfl) rfl (hb hby d6_1) (by decide) (W := 0) (by show 2 * 0 + _ ≤ _; exact Nat.le_of_eq rfl) (by decide)
  have pre3 : ∀ t, Steps p.tables e below (T2.setTop (mkF m 4 #[.val (.ref ra)] [])) t → Steps p.tables e below (s₁.setTop (entryFrame m #[(.ref ra)] 1)) t := fun t k => pre1 t (st2 t k)
  obtain ⟨fs, hr, hrun, hended, hW, hsame⟩ := X2.leave (v := none) (fun _ => rfl)
  refine ⟨_, _, pre3 _ ?_, hrun, hended, _, _, rfl, ?_, ⟨_, rfl⟩, hW, hsame.mono (by decide) (by decide)⟩
  · exact X2.returnOut hx Bd.returns (hb hby d6_4) hr
  · show Q_rm_ac Z ra h0 n0 _ T2.heap _
    rw [e2]
    exact ⟨rfl, N0, rfl⟩
theorem d5_0 : decode jdk_39_method_1_code 0 = .ok (.aload_n 0, 1) := by decide +kernel
theorem d5_1 : decode jdk_39_method_1_code 1 = .ok (.invokespecial 1, 3) := by decide +kernel
theorem pd0 : parseMethodDescriptor "()V" = some ⟨[], none⟩ := by decide +kernel
theorem d5_4 : decode jdk_39_method_1_code 4 = .ok (.aload_n 0, 1) := by decide +kernel
theorem d5_5 : decode jdk_39_method_1_code 5 = .ok (.iconst 0, 1) := by decide +kernel
theorem d5_6 : decode jdk_39_method_1_code 6 = .ok (.putfield 7, 3) := by decide +kernel
theorem d5_9 : decode jdk_39_method_1_code 9 = .ok (.return_, 1) := by decide +kernel
theorem pn1 : plainName "java/util/AbstractList" = true := by first | (simp [plainName, overriddenIn]; done) | decide +kernel
theorem ef_rm_abl (m : MethodId) (ra : Addr) : entryFrame m #[(.ref ra)] 1 = mkF m 0 #[.val (.ref ra)] [] := by first | (simp [entryFrame, mkF, argsToLocals, Value.category]; done) | rfl
def Q_rm_abl (Z : State) (ra : Addr) (h0 : Heap) (n0 : Nat) (v : Option Value) (h : Heap) (L : List Loc) : Prop := v = none ∧ Fr n0 L ∧ Keep h0 h [ra] ∧ Exa Z h ra "java/util/ArrayList" ∧ Fld Z h ra "java/util/AbstractList" "modCount" "I" (.int (0 : Int32)) ∧ Fld Z h ra "java/util/ArrayList" "elementData" "[Ljava/lang/Object;" .null
set_option maxRecDepth 65536 in
set_option maxHeartbeats 40000000 in
theorem rm_abl (l : Launch) (Z : State) (a0 : Array Value) (hw : ∀ d ∈ tables_1, d.before a0 Z = true) (ws : List Jvm.Cond) (ra : Addr) (h0 : Heap) (n0 : Nat) (Z0 : n0 ≤ h0.size) (E_ra : Exa Z h0 ra "java/util/ArrayList") (g_ra : n0 ≤ ra) (F_modCount_ra : Fld Z h0 ra "java/util/AbstractList" "modCount" "I" (.int (0 : Int32))) (F_elementData_ra : Fld Z h0 ra "java/util/ArrayList" "elementData" "[Ljava/lang/Object;" .null) :
    MetFree l (⟨"java/util/AbstractList", "<init>", "()V"⟩ : MethodName) (head1 (Jvm.Cond.code (⟨"java/util/AbstractList", "<init>", "()V"⟩ : MethodName) jdk_39_method_1_code 1 none :: ws) ({ frames := 2, cells := 0, slots := 0, locals := 24 } : Room)) (fun a U => a = #[(.ref ra)] ∧ Z.Warmed39 U.vm ∧ U.heap = h0) (fun _ _ _ _ _ => True) (fun _ U o U' => ∃ v L, o = .returned v ∧ Q_rm_abl Z ra h0 n0 v U'.heap L ∧ FrameEnd U o U' L ({ frames := 2, cells := 0, slots := 0, locals := 24 } : Room).cells ({ frames := 2, cells := 0, slots := 0, locals := 24 } : Room).slots) := by
  refine MetFree.of_bodySF (plainFor_of_name pn1) hisR ?_
  intro p e s m args below meth c s₁ Bd hml0 hP hK
  obtain ⟨rfl, hZ, hh⟩ := hP
  have hx := Bd.exec
  have hby := Bd.bytes
  have hml : c.maxLocals = 1 := hml0
  have hown : s.vm.findClass "java/util/AbstractList" = some m.cls := findClass_of_methodNamed Bd.named
  have hnm := (name_of_methodNamed Bd.named Bd.method).1
  have X0 : Stand p l e ({ frames := 2, cells := 0, slots := 0, locals := 24 } : Room) s m #[(.ref ra)] below meth c s₁ [] 0 0 := Stand.of_body Bd
  have e0 : s₁.heap = h0 := by rw [← hh, Bd.state]; rfl
  have N0 := Fr.nil n0
  have pre0 : ∀ t, Steps p.tables e below (s₁.setTop (mkF m 0 #[.val (.ref ra)] [])) t → Steps p.tables e below (s₁.setTop (entryFrame m #[(.ref ra)] 1)) t := fun t k => castTop (ef_rm_abl m ra) k
  have pre1 : ∀ t, Steps p.tables e below (s₁.setTop (mkF m 1 #[.val (.ref ra)] [(.ref ra)])) t → Steps p.tables e below (s₁.setTop (entryFrame m #[(.ref ra)] 1)) t := by
    intro t k
    refine pre0 t ?_
    refine XS.aloadN X0.here hx rfl (hb hby d5_0) rfl rfl ?_
    show Steps p.tables e below (s₁.setTop (mkF m 1 #[.val (.ref ra)] [(.ref ra)])) _
    exact k
  obtain ⟨_, _, ⟨T2, L2, k2, n2⟩, -, X2, ⟨Lc2, hQ2, l2, y2, z2⟩, st2⟩ := X0.specialBack hx (y := (⟨"java/util/AbstractCollection", "<init>", "()V"⟩ : MethodName)) rfl hown (mvT hZ (hw _ (List.mem_of_getElem? (i := 43) rfl))) (mvT hZ (hw _ (List.mem_of_getElem? (i := 44) rfl))) (mvT hZ (hw _ (List.mem_of_getElem? (i := 48) rfl))) (by decide) (backOf (W := 0) (rm_ac l Z a0 hw [] ra h0 n0 Z0 ) hZ (hw _ (List.mem_of_getElem? (i := 48) rfl)) (hw _ (List.mem_of_getElem? (i := 47) rfl)) (by decide) (by decide)) (g := (mkF m 1 #[.val (.ref ra)] [(.ref ra)])) rfl (by rw [hml]; rfl) (Steps.refl _) (a := ra) (argsL := []) (rest := []) (lenOf pd0 rfl) rfl (by show 2 * 0 + _ ≤ _; exact Nat.le_of_eq rfl) (hb hby d5_1) (fun _ _ => ⟨rfl, e0, (by decide : 0 + 0 ≤ _), (by decide : 0 + 0 ≤ _)⟩)
  dsimp only [Pt.U, Pt.locs, Pt.cells, Pt.slots] at X2 l2 y2 z2 st2 hQ2
  subst y2 z2
  obtain ⟨rfl, M2, e2⟩ := hQ2
  have N2 : Fr n0 L2 := by rw [l2]; exact Fr.app N0 M2
  clear l2
  have X2 : Stand p l e _ s m _ below meth c T2 _ 0 0 := X2
  have pre3 : ∀ t, Steps p.tables e below (T2.setTop (mkF m 4 #[.val (.ref ra)] [])) t → Steps p.tables e below (s₁.setTop (entryFrame m #[(.ref ra)] 1)) t := fun t k => pre1 t (st2.trans k)
  have pre4 : ∀ t, Steps p.tables e below (T2.setTop (mkF m 6 #[.val (.ref ra)] [(.int (0 : Int32)), (.ref ra)])) t → Steps p.tables e below (s₁.setTop (entryFrame m #[(.ref ra)] 1)) t := by
    intro t k
    refine pre3 t ?_
    refine XS.aloadN X2.here hx rfl (hb hby d5_4) rfl rfl ?_
    show Steps p.tables e below (T2.setTop (mkF m 5 #[.val (.ref ra)] [(.ref ra)])) _
    refine XS.iconst X2.here hx rfl (hb hby d5_5) ?_
    show Steps p.tables e below (T2.setTop (mkF m 6 #[.val (.ref ra)] [(.int (0 : Int32)), (.ref ra)])) _
    exact k
  obtain ⟨T5, h5, X5, e5, W5, st5⟩ := putF X2 hx hZ hown (host := "") (Or.inl (hw _ (List.mem_of_getElem? (i := 50) rfl))) Via.refl e2 F_modCount_ra E_ra (Or.inl (hw _ (List.mem_of_getElem? (i := 51) rfl))) (hw _ (List.mem_of_getElem? (i := 32) rfl)) (ty := .int) (by decide) rfl rfl (g := (mkF m 6 #[.val (.ref ra)] [(.int (0 : Int32)), (.ref ra)])) rfl rfl (hb hby d5_6)
  have K5 : Keep h0 h5 [ra] := (Keep.refl h0 [ra]).wr W5 (Or.inl (by simp))
  have z5 : n0 ≤ h5.size := Nat.le_trans Z0 K5.1
  have N5 := Fr.snoc X5 N2 g_ra
  have Fw5 := F_modCount_ra.same W5
  have pre6 : ∀ t, Steps p.tables e below (T5.setTop (mkF m 9 #[.val (.ref ra)] [])) t → Steps p.tables e below (s₁.setTop (entryFrame m #[(.ref ra)] 1)) t := fun t k => pre4 t (st5 t k)
  obtain ⟨fs, hr, hrun, hended, hW, hsame⟩ := X5.leave (v := none) (fun _ => rfl)
  refine ⟨_, _, pre6 _ ?_, hrun, hended, _, _, rfl, ?_, ⟨_, rfl⟩, hW, hsame.mono (by decide) (by decide)⟩
  · exact X5.returnOut hx Bd.returns (hb hby d5_9) hr
  · show Q_rm_abl Z ra h0 n0 _ T5.heap _
    rw [e5]
    exact ⟨rfl, N5, K5, (E_ra.wr W5), Fw5, (F_elementData_ra.other W5 (Or.inr (slot_ne (Or.inl (hw _ (List.mem_of_getElem? (i := 54) rfl))) (Or.inl (hw _ (List.mem_of_getElem? (i := 51) rfl))) (by decide) (t := (.array (.object "java/lang/Object"))) (t' := .int) (by decide) (by decide))))⟩
theorem d4_0 : decode jdk_38_method_2_code 0 = .ok (.aload_n 0, 1) := by decide +kernel
theorem d4_1 : decode jdk_38_method_2_code 1 = .ok (.invokespecial 1, 3) := by decide +kernel
theorem d4_4 : decode jdk_38_method_2_code 4 = .ok (.aload_n 0, 1) := by decide +kernel
theorem d4_5 : decode jdk_38_method_2_code 5 = .ok (.getstatic 39, 3) := by decide +kernel
theorem d4_8 : decode jdk_38_method_2_code 8 = .ok (.putfield 9, 3) := by decide +kernel
theorem d4_11 : decode jdk_38_method_2_code 11 = .ok (.return_, 1) := by decide +kernel
theorem pn2 : plainName "java/util/ArrayList" = true := by first | (simp [plainName, overriddenIn]; done) | decide +kernel
theorem ef_rm_al (m : MethodId) (ra : Addr) : entryFrame m #[(.ref ra)] 1 = mkF m 0 #[.val (.ref ra)] [] := by first | (simp [entryFrame, mkF, argsToLocals, Value.category]; done) | rfl
def Q_rm_al (Z : State) (ra : Addr) (wl : Addr) (h0 : Heap) (n0 : Nat) (v : Option Value) (h : Heap) (L : List Loc) : Prop := v = none ∧ Fr n0 L ∧ Keep h0 h [ra] ∧ Exa Z h ra "java/util/ArrayList" ∧ Fld Z h ra "java/util/AbstractList" "modCount" "I" (.int (0 : Int32)) ∧ Fld Z h ra "java/util/ArrayList" "elementData" "[Ljava/lang/Object;" (.ref wl)
set_option maxRecDepth 65536 in
set_option maxHeartbeats 40000000 in
theorem rm_al (l : Launch) (Z : State) (a0 : Array Value) (hw : ∀ d ∈ tables_1, d.before a0 Z = true) (ws : List Jvm.Cond) (ra : Addr) (wl : Addr) (h0 : Heap) (n0 : Nat) (Z0 : n0 ≤ h0.size) (E_ra : Exa Z h0 ra "java/util/ArrayList") (g_ra : n0 ≤ ra) (F_modCount_ra : Fld Z h0 ra "java/util/AbstractList" "modCount" "I" (.int (0 : Int32))) (F_elementData_ra : Fld Z h0 ra "java/util/ArrayList" "elementData" "[Ljava/lang/Object;" .null) (SD : Sta Z h0 "java/util/ArrayList" "DEFAULTCAPACITY_EMPTY_ELEMENTDATA" "[Ljava/lang/Object;" (.ref wl)) :
    MetFree l (⟨"java/util/ArrayList", "<init>", "()V"⟩ : MethodName) (head1 (Jvm.Cond.code (⟨"java/util/ArrayList", "<init>", "()V"⟩ : MethodName) jdk_38_method_2_code 1 none :: ws) ({ frames := 3, cells := 0, slots := 0, locals := 36 } : Room)) (fun a U => a = #[(.ref ra)] ∧ Z.Warmed39 U.vm ∧ U.heap = h0) (fun _ _ _ _ _ => True) (fun _ U o U' => ∃ v L, o = .returned v ∧ Q_rm_al Z ra wl h0 n0 v U'.heap L ∧ FrameEnd U o U' L ({ frames := 3, cells := 0, slots := 0, locals := 36 } : Room).cells ({ frames := 3, cells := 0, slots := 0, locals := 36 } : Room).slots) := by
  refine MetFree.of_bodySF (plainFor_of_name pn2) hisR ?_
  intro p e s m args below meth c s₁ Bd hml0 hP hK
  obtain ⟨rfl, hZ, hh⟩ := hP
  have hx := Bd.exec
  have hby := Bd.bytes
  have hml : c.maxLocals = 1 := hml0
  have hown : s.vm.findClass "java/util/ArrayList" = some m.cls := findClass_of_methodNamed Bd.named
  have hnm := (name_of_methodNamed Bd.named Bd.method).1
  have X0 : Stand p l e ({ frames := 3, cells := 0, slots := 0, locals := 36 } : Room) s m #[(.ref ra)] below meth c s₁ [] 0 0 := Stand.of_body Bd
  have e0 : s₁.heap = h0 := by rw [← hh, Bd.state]; rfl
  have N0 := Fr.nil n0
  have pre0 : ∀ t, Steps p.tables e below (s₁.setTop (mkF m 0 #[.val (.ref ra)] [])) t → Steps p.tables e below (s₁.setTop (entryFrame m #[(.ref ra)] 1)) t := fun t k => castTop (ef_rm_al m ra) k
  have pre1 : ∀ t, Steps p.tables e below (s₁.setTop (mkF m 1 #[.val (.ref ra)] [(.ref ra)])) t → Steps p.tables e below (s₁.setTop (entryFrame m #[(.ref ra)] 1)) t := by
    intro t k
    refine pre0 t ?_
    refine XS.aloadN X0.here hx rfl (hb hby d4_0) rfl rfl ?_
    show Steps p.tables e below (s₁.setTop (mkF m 1 #[.val (.ref ra)] [(.ref ra)])) _
    exact k
  obtain ⟨_, _, ⟨T2, L2, k2, n2⟩, -, X2, ⟨Lc2, hQ2, l2, y2, z2⟩, st2⟩ := X0.specialBack hx (y := (⟨"java/util/AbstractList", "<init>", "()V"⟩ : MethodName)) rfl hown (mvT hZ (hw _ (List.mem_of_getElem? (i := 37) rfl))) (mvT hZ (hw _ (List.mem_of_getElem? (i := 38) rfl))) (mvT hZ (hw _ (List.mem_of_getElem? (i := 42) rfl))) (by decide) (backOf (W := 0) (rm_abl l Z a0 hw [] ra h0 n0 Z0 E_ra (g_ra) F_modCount_ra F_elementData_ra) hZ (hw _ (List.mem_of_getElem? (i := 42) rfl)) (hw _ (List.mem_of_getElem? (i := 41) rfl)) (by decide) (by decide)) (g := (mkF m 1 #[.val (.ref ra)] [(.ref ra)])) rfl (by rw [hml]; rfl) (Steps.refl _) (a := ra) (argsL := []) (rest := []) (lenOf pd0 rfl) rfl (by show 2 * 0 + _ ≤ _; exact Nat.le_of_eq rfl) (hb hby d4_1) (fun _ _ => ⟨rfl, e0, (by decide : 0 + 0 ≤ _), (by decide : 0 + 0 ≤ _)⟩)
  dsimp only [Pt.U, Pt.locs, Pt.cells, Pt.slots] at X2 l2 y2 z2 st2 hQ2
  subst y2 z2
  obtain ⟨rfl, M2, kp2, f2_0, f2_1, f2_2⟩ := hQ2
  have K2 : Keep h0 T2.heap [ra] := (Keep.refl h0 [ra]).trans kp2 (allS (P := fun x => x ∈ [ra] ∨ h0.size ≤ x) (Or.inl (by simp)) all0)
  have zz2 : n0 ≤ T2.heap.size := Nat.le_trans Z0 K2.1
  have N2 : Fr n0 L2 := by rw [l2]; exact Fr.app N0 M2
  clear l2
  have X2 : Stand p l e _ s m _ below meth c T2 _ 0 0 := X2
  have pre3 : ∀ t, Steps p.tables e below (T2.setTop (mkF m 4 #[.val (.ref ra)] [])) t → Steps p.tables e below (s₁.setTop (entryFrame m #[(.ref ra)] 1)) t := fun t k => pre1 t (st2.trans k)
  have f4 := (own_sta_keep SD kp2 E_ra)
  have pre6 : ∀ t, Steps p.tables e below (T2.setTop (mkF m 5 #[.val (.ref ra)] [(.ref ra)])) t → Steps p.tables e below (s₁.setTop (entryFrame m #[(.ref ra)] 1)) t := by
    intro t k
    refine pre3 t ?_
    refine XS.aloadN X2.here hx rfl (hb hby d4_4) rfl rfl ?_
    show Steps p.tables e below (T2.setTop (mkF m 5 #[.val (.ref ra)] [(.ref ra)])) _
    exact k
  obtain ⟨T5, X5, e5, st5⟩ := getS2 X2 hx hZ hown (host := "") (Or.inl (hw _ (List.mem_of_getElem? (i := 52) rfl))) Via.refl rfl f4 (g := (mkF m 5 #[.val (.ref ra)] [(.ref ra)])) rfl (hb hby d4_5)
  have pre7 : ∀ t, Steps p.tables e below (T5.setTop (mkF m 8 #[.val (.ref ra)] [(.ref wl), (.ref ra)])) t → Steps p.tables e below (s₁.setTop (entryFrame m #[(.ref ra)] 1)) t := fun t k => pre6 t (st5 t k)
  obtain ⟨T8, h8, X8, e8, W8, st8⟩ := putF X5 hx hZ hown (host := "") (Or.inl (hw _ (List.mem_of_getElem? (i := 53) rfl))) Via.refl e5 f2_2 f2_0 (Or.inl (hw _ (List.mem_of_getElem? (i := 54) rfl))) (hw _ (List.mem_of_getElem? (i := 32) rfl)) (ty := (.array (.object "java/lang/Object"))) (by decide) rfl rfl (g := (mkF m 8 #[.val (.ref ra)] [(.ref wl), (.ref ra)])) rfl rfl (hb hby d4_8)
  have K8 : Keep h0 h8 [ra] := K2.wr W8 (Or.inl (by simp))
  have z8 : n0 ≤ h8.size := Nat.le_trans Z0 K8.1
  have N8 := Fr.snoc X8 N2 g_ra
  have Fw8 := f2_2.same W8
  have pre9 : ∀ t, Steps p.tables e below (T8.setTop (mkF m 11 #[.val (.ref ra)] [])) t → Steps p.tables e below (s₁.setTop (entryFrame m #[(.ref ra)] 1)) t := fun t k => pre7 t (st8 t k)
  obtain ⟨fs, hr, hrun, hended, hW, hsame⟩ := X8.leave (v := none) (fun _ => rfl)
  refine ⟨_, _, pre9 _ ?_, hrun, hended, _, _, rfl, ?_, ⟨_, rfl⟩, hW, hsame.mono (by decide) (by decide)⟩
  · exact X8.returnOut hx Bd.returns (hb hby d4_11) hr
  · show Q_rm_al Z ra wl h0 n0 _ T8.heap _
    rw [e8]
    exact ⟨rfl, N8, K8, (f2_0.wr W8), (f2_1.other W8 (Or.inr (slot_ne (Or.inl (hw _ (List.mem_of_getElem? (i := 51) rfl))) (Or.inl (hw _ (List.mem_of_getElem? (i := 54) rfl))) (by decide) (t := .int) (t' := (.array (.object "java/lang/Object"))) (by decide) (by decide)))), Fw8⟩
theorem d2_0 : decode prog_36_method_1_code 0 = .ok (.aload_n 0, 1) := by decide +kernel
theorem d2_1 : decode prog_36_method_1_code 1 = .ok (.invokespecial 3, 3) := by decide +kernel
theorem d2_4 : decode prog_36_method_1_code 4 = .ok (.aload_n 0, 1) := by decide +kernel
theorem d2_5 : decode prog_36_method_1_code 5 = .ok (.sipush 1024, 3) := by decide +kernel
theorem d2_8 : decode prog_36_method_1_code 8 = .ok (.newarray .byte, 2) := by decide +kernel
theorem d2_10 : decode prog_36_method_1_code 10 = .ok (.putfield 9, 3) := by decide +kernel
theorem d2_13 : decode prog_36_method_1_code 13 = .ok (.aload_n 0, 1) := by decide +kernel
theorem d2_14 : decode prog_36_method_1_code 14 = .ok (.sipush 1024, 3) := by decide +kernel
theorem d2_17 : decode prog_36_method_1_code 17 = .ok (.newarray .int, 2) := by decide +kernel
theorem d2_19 : decode prog_36_method_1_code 19 = .ok (.putfield 15, 3) := by decide +kernel
theorem d2_22 : decode prog_36_method_1_code 22 = .ok (.aload_n 0, 1) := by decide +kernel
theorem d2_23 : decode prog_36_method_1_code 23 = .ok (.sipush 1024, 3) := by decide +kernel
theorem d2_26 : decode prog_36_method_1_code 26 = .ok (.newarray .int, 2) := by decide +kernel
theorem d2_28 : decode prog_36_method_1_code 28 = .ok (.putfield 19, 3) := by decide +kernel
theorem d2_31 : decode prog_36_method_1_code 31 = .ok (.aload_n 0, 1) := by decide +kernel
theorem d2_32 : decode prog_36_method_1_code 32 = .ok (.sipush 1024, 3) := by decide +kernel
theorem d2_35 : decode prog_36_method_1_code 35 = .ok (.newarray .int, 2) := by decide +kernel
theorem d2_37 : decode prog_36_method_1_code 37 = .ok (.putfield 22, 3) := by decide +kernel
theorem d2_40 : decode prog_36_method_1_code 40 = .ok (.aload_n 0, 1) := by decide +kernel
theorem d2_41 : decode prog_36_method_1_code 41 = .ok (.sipush 1024, 3) := by decide +kernel
theorem d2_44 : decode prog_36_method_1_code 44 = .ok (.newarray .int, 2) := by decide +kernel
theorem d2_46 : decode prog_36_method_1_code 46 = .ok (.putfield 25, 3) := by decide +kernel
theorem d2_49 : decode prog_36_method_1_code 49 = .ok (.aload_n 0, 1) := by decide +kernel
theorem d2_50 : decode prog_36_method_1_code 50 = .ok (.sipush 1024, 3) := by decide +kernel
theorem d2_53 : decode prog_36_method_1_code 53 = .ok (.newarray .int, 2) := by decide +kernel
theorem d2_55 : decode prog_36_method_1_code 55 = .ok (.putfield 28, 3) := by decide +kernel
theorem d2_58 : decode prog_36_method_1_code 58 = .ok (.aload_n 0, 1) := by decide +kernel
theorem d2_59 : decode prog_36_method_1_code 59 = .ok (.sipush 1024, 3) := by decide +kernel
theorem d2_62 : decode prog_36_method_1_code 62 = .ok (.newarray .int, 2) := by decide +kernel
theorem d2_64 : decode prog_36_method_1_code 64 = .ok (.putfield 31, 3) := by decide +kernel
theorem d2_67 : decode prog_36_method_1_code 67 = .ok (.aload_n 0, 1) := by decide +kernel
theorem d2_68 : decode prog_36_method_1_code 68 = .ok (.sipush 1024, 3) := by decide +kernel
theorem d2_71 : decode prog_36_method_1_code 71 = .ok (.newarray .byte, 2) := by decide +kernel
theorem d2_73 : decode prog_36_method_1_code 73 = .ok (.putfield 34, 3) := by decide +kernel
theorem d2_76 : decode prog_36_method_1_code 76 = .ok (.aload_n 0, 1) := by decide +kernel
theorem d2_77 : decode prog_36_method_1_code 77 = .ok (.new 37, 3) := by decide +kernel
theorem d2_80 : decode prog_36_method_1_code 80 = .ok (.dup, 1) := by decide +kernel
theorem d2_81 : decode prog_36_method_1_code 81 = .ok (.invokespecial 39, 3) := by decide +kernel
theorem d2_84 : decode prog_36_method_1_code 84 = .ok (.putfield 40, 3) := by decide +kernel
theorem d2_87 : decode prog_36_method_1_code 87 = .ok (.aload_n 0, 1) := by decide +kernel
theorem d2_88 : decode prog_36_method_1_code 88 = .ok (.sipush 1024, 3) := by decide +kernel
theorem d2_91 : decode prog_36_method_1_code 91 = .ok (.newarray .byte, 2) := by decide +kernel
theorem d2_93 : decode prog_36_method_1_code 93 = .ok (.putfield 44, 3) := by decide +kernel
theorem d2_96 : decode prog_36_method_1_code 96 = .ok (.aload_n 0, 1) := by decide +kernel
theorem d2_97 : decode prog_36_method_1_code 97 = .ok (.sipush 1025, 3) := by decide +kernel
theorem d2_100 : decode prog_36_method_1_code 100 = .ok (.newarray .int, 2) := by decide +kernel
theorem d2_102 : decode prog_36_method_1_code 102 = .ok (.putfield 47, 3) := by decide +kernel
theorem d2_105 : decode prog_36_method_1_code 105 = .ok (.aload_n 0, 1) := by decide +kernel
theorem d2_106 : decode prog_36_method_1_code 106 = .ok (.iconst 0, 1) := by decide +kernel
theorem d2_107 : decode prog_36_method_1_code 107 = .ok (.newarray .int, 2) := by decide +kernel
theorem d2_109 : decode prog_36_method_1_code 109 = .ok (.putfield 50, 3) := by decide +kernel
theorem d2_112 : decode prog_36_method_1_code 112 = .ok (.aload_n 0, 1) := by decide +kernel
theorem d2_113 : decode prog_36_method_1_code 113 = .ok (.iconst 0, 1) := by decide +kernel
theorem d2_114 : decode prog_36_method_1_code 114 = .ok (.newarray .int, 2) := by decide +kernel
theorem d2_116 : decode prog_36_method_1_code 116 = .ok (.putfield 53, 3) := by decide +kernel
theorem d2_119 : decode prog_36_method_1_code 119 = .ok (.return_, 1) := by decide +kernel
theorem pn3 : plainName "com/example/xidr/xidr/xml/tree/TreeBuilder$Parts" = true := by first | (simp [plainName, overriddenIn]; done) | decide +kernel
theorem ef_rm_parts (m : MethodId) (ra : Addr) : entryFrame m #[(.ref ra)] 1 = mkF m 0 #[.val (.ref ra)] [] := by first | (simp [entryFrame, mkF, argsToLocals, Value.category]; done) | rfl
def Q_rm_parts (Z : State) (ra : Addr) (wl : Addr) (h0 : Heap) (n0 : Nat) (v : Option Value) (h : Heap) (L : List Loc) : Prop := ∃ y_kinds : Addr, ∃ y_parents : Addr, ∃ y_nextSiblings : Addr, ∃ y_data : Addr, ∃ y_owners : Addr, ∃ y_attributeNames : Addr, ∃ y_attributeValues : Addr, ∃ y_attributeTypes : Addr, ∃ y_names : Addr, ∃ y_narrowText : Addr, ∃ y_valueStarts : Addr, ∃ y_instructions : Addr, ∃ y_instructionData : Addr, v = none ∧ Fr n0 L ∧ Keep h0 h [ra] ∧ Exa Z h ra "com/example/xidr/xidr/xml/tree/TreeBuilder$Parts" ∧ Fld Z h ra "com/example/xidr/xidr/xml/tree/TreeBuilder$Parts" "kinds" "[B" (.ref y_kinds) ∧ Fld Z h ra "com/example/xidr/xidr/xml/tree/TreeBuilder$Parts" "parents" "[I" (.ref y_parents) ∧ Fld Z h ra "com/example/xidr/xidr/xml/tree/TreeBuilder$Parts" "nextSiblings" "[I" (.ref y_nextSiblings) ∧ Fld Z h ra "com/example/xidr/xidr/xml/tree/TreeBuilder$Parts" "data" "[I" (.ref y_data) ∧ Fld Z h ra "com/example/xidr/xidr/xml/tree/TreeBuilder$Parts" "owners" "[I" (.ref y_owners) ∧ Fld Z h ra "com/example/xidr/xidr/xml/tree/TreeBuilder$Parts" "attributeNames" "[I" (.ref y_attributeNames) ∧ Fld Z h ra "com/example/xidr/xidr/xml/tree/TreeBuilder$Parts" "attributeValues" "[I" (.ref y_attributeValues) ∧ Fld Z h ra "com/example/xidr/xidr/xml/tree/TreeBuilder$Parts" "attributeTypes" "[B" (.ref y_attributeTypes) ∧ Fld Z h ra "com/example/xidr/xidr/xml/tree/TreeBuilder$Parts" "names" "Ljava/util/List;" (.ref y_names) ∧ Fld Z h ra "com/example/xidr/xidr/xml/tree/TreeBuilder$Parts" "narrowText" "[B" (.ref y_narrowText) ∧ Fld Z h ra "com/example/xidr/xidr/xml/tree/TreeBuilder$Parts" "valueStarts" "[I" (.ref y_valueStarts) ∧ Fld Z h ra "com/example/xidr/xidr/xml/tree/TreeBuilder$Parts" "instructions" "[I" (.ref y_instructions) ∧ Fld Z h ra "com/example/xidr/xidr/xml/tree/TreeBuilder$Parts" "instructionData" "[I" (.ref y_instructionData) ∧ Fld Z h ra "com/example/xidr/xidr/xml/tree/TreeBuilder$Parts" "nodeCount" "I" (.int (0 : Int32)) ∧ Fld Z h ra "com/example/xidr/xidr/xml/tree/TreeBuilder$Parts" "attributeCount" "I" (.int (0 : Int32)) ∧ Fld Z h ra "com/example/xidr/xidr/xml/tree/TreeBuilder$Parts" "wideText" "[C" .null
set_option maxRecDepth 65536 in
set_option maxHeartbeats 40000000 in
theorem rm_parts (l : Launch) (Z : State) (a0 : Array Value) (hw : ∀ d ∈ tables_1, d.before a0 Z = true) (ws : List Jvm.Cond) (ra : Addr) (wl : Addr) (h0 : Heap) (n0 : Nat) (Z0 : n0 ≤ h0.size) (E_ra : Exa Z h0 ra "com/example/xidr/xidr/xml/tree/TreeBuilder$Parts") (g_ra : n0 ≤ ra) (F_kinds_ra : Fld Z h0 ra "com/example/xidr/xidr/xml/tree/TreeBuilder$Parts" "kinds" "[B" .null) (F_parents_ra : Fld Z h0 ra "com/example/xidr/xidr/xml/tree/TreeBuilder$Parts" "parents" "[I" .null) (F_nextSiblings_ra : Fld Z h0 ra "com/example/xidr/xidr/xml/tree/TreeBuilder$Parts" "nextSiblings" "[I" .null) (F_data_ra : Fld Z h0 ra "com/example/xidr/xidr/xml/tree/TreeBuilder$Parts" "data" "[I" .null) (F_owners_ra : Fld Z h0 ra "com/example/xidr/xidr/xml/tree/TreeBuilder$Parts" "owners" "[I" .null) (F_attributeNames_ra : Fld Z h0 ra "com/example/xidr/xidr/xml/tree/TreeBuilder$Parts" "attributeNames" "[I" .null) (F_attributeValues_ra : Fld Z h0 ra "com/example/xidr/xidr/xml/tree/TreeBuilder$Parts" "attributeValues" "[I" .null) (F_attributeTypes_ra : Fld Z h0 ra "com/example/xidr/xidr/xml/tree/TreeBuilder$Parts" "attributeTypes" "[B" .null) (F_names_ra : Fld Z h0 ra "com/example/xidr/xidr/xml/tree/TreeBuilder$Parts" "names" "Ljava/util/List;" .null) (F_narrowText_ra : Fld Z h0 ra "com/example/xidr/xidr/xml/tree/TreeBuilder$Parts" "narrowText" "[B" .null) (F_valueStarts_ra : Fld Z h0 ra "com/example/xidr/xidr/xml/tree/TreeBuilder$Parts" "valueStarts" "[I" .null) (F_instructions_ra : Fld Z h0 ra "com/example/xidr/xidr/xml/tree/TreeBuilder$Parts" "instructions" "[I" .null) (F_instructionData_ra : Fld Z h0 ra "com/example/xidr/xidr/xml/tree/TreeBuilder$Parts" "instructionData" "[I" .null) (F_nodeCount_ra : Fld Z h0 ra "com/example/xidr/xidr/xml/tree/TreeBuilder$Parts" "nodeCount" "I" (.int (0 : Int32))) (F_attributeCount_ra : Fld Z h0 ra "com/example/xidr/xidr/xml/tree/TreeBuilder$Parts" "attributeCount" "I" (.int (0 : Int32))) (F_wideText_ra : Fld Z h0 ra "com/example/xidr/xidr/xml/tree/TreeBuilder$Parts" "wideText" "[C" .null) (SD : Sta Z h0 "java/util/ArrayList" "DEFAULTCAPACITY_EMPTY_ELEMENTDATA" "[Ljava/lang/Object;" (.ref wl)) :
    MetFree l (⟨"com/example/xidr/xidr/xml/tree/TreeBuilder$Parts", "<init>", "()V"⟩ : MethodName) (head1 (Jvm.Cond.code (⟨"com/example/xidr/xidr/xml/tree/TreeBuilder$Parts", "<init>", "()V"⟩ : MethodName) prog_36_method_1_code 1 none :: ws) ({ frames := 4, cells := 13, slots := 10244, locals := 50 } : Room)) (fun a U => a = #[(.ref ra)] ∧ Z.Warmed39 U.vm ∧ U.heap = h0) (fun _ _ _ _ _ => True) (fun _ U o U' => ∃ v L, o = .returned v ∧ Q_rm_parts Z ra wl h0 n0 v U'.heap L ∧ FrameEnd U o U' L ({ frames := 4, cells := 13, slots := 10244, locals := 50 } : Room).cells ({ frames := 4, cells := 13, slots := 10244, locals := 50 } : Room).slots) := by
  refine MetFree.of_bodySF (plainFor_of_name pn3) hisR ?_
  intro p e s m args below meth c s₁ Bd hml0 hP hK
  obtain ⟨rfl, hZ, hh⟩ := hP
  have hx := Bd.exec
  have hby := Bd.bytes
  have hml : c.maxLocals = 1 := hml0
  have hown : s.vm.findClass "com/example/xidr/xidr/xml/tree/TreeBuilder$Parts" = some m.cls := findClass_of_methodNamed Bd.named
  have hnm := (name_of_methodNamed Bd.named Bd.method).1
  have X0 : Stand p l e ({ frames := 4, cells := 13, slots := 10244, locals := 50 } : Room) s m #[(.ref ra)] below meth c s₁ [] 0 0 := Stand.of_body Bd
  have e0 : s₁.heap = h0 := by rw [← hh, Bd.state]; rfl
  have N0 := Fr.nil n0
  have pre0 : ∀ t, Steps p.tables e below (s₁.setTop (mkF m 0 #[.val (.ref ra)] [])) t → Steps p.tables e below (s₁.setTop (entryFrame m #[(.ref ra)] 1)) t := fun t k => castTop (ef_rm_parts m ra) k
  have pre1 : ∀ t, Steps p.tables e below (s₁.setTop (mkF m 1 #[.val (.ref ra)] [(.ref ra)])) t → Steps p.tables e below (s₁.setTop (entryFrame m #[(.ref ra)] 1)) t := by
    intro t k
    refine pre0 t ?_
    refine XS.aloadN X0.here hx rfl (hb hby d2_0) rfl rfl ?_
    show Steps p.tables e below (s₁.setTop (mkF m 1 #[.val (.ref ra)] [(.ref ra)])) _
    exact k
  obtain ⟨T2, X2, e2, st2⟩ := initO X0 hx hZ hown (hw _ (List.mem_of_getElem? (i := 11) rfl)) (hw _ (List.mem_of_getElem? (i := 12) rfl)) (hw _ (List.mem_of_getElem? (i := 13) rfl)) e0 (g := (mkF m 1 #[.val (.ref ra)] [(.ref ra)])) rfl (by rw [hml]; rfl) rfl (hb hby d2_1) (by decide) (W := 0) (by show 2 * 0 + _ ≤ _; exact Nat.le_of_eq rfl) (by decide)
  have pre3 : ∀ t, Steps p.tables e below (T2.setTop (mkF m 4 #[.val (.ref ra)] [])) t → Steps p.tables e below (s₁.setTop (entryFrame m #[(.ref ra)] 1)) t := fun t k => pre1 t (st2 t k)
  have pre4 : ∀ t, Steps p.tables e below (T2.setTop (mkF m 8 #[.val (.ref ra)] [(.int (1024 : Int32)), (.ref ra)])) t → Steps p.tables e below (s₁.setTop (entryFrame m #[(.ref ra)] 1)) t := by
    intro t k
    refine pre3 t ?_
    refine XS.aloadN X2.here hx rfl (hb hby d2_4) rfl rfl ?_
    show Steps p.tables e below (T2.setTop (mkF m 5 #[.val (.ref ra)] [(.ref ra)])) _
    refine XS.sipush X2.here hx rfl (hb hby d2_5) ?_
    show Steps p.tables e below (T2.setTop (mkF m 8 #[.val (.ref ra)] [(.int (1024 : Int32)), (.ref ra)])) _
    exact k
  obtain ⟨T5, h5, k5, X5, e5, E5, A5, st5⟩ := newP X2 hx hZ (hw _ (List.mem_of_getElem? (i := 14) rfl)) e2 (g := (mkF m 8 #[.val (.ref ra)] [(.int (1024 : Int32)), (.ref ra)])) rfl (hb hby d2_8) rfl (by decide) (cap := 1024) (by decide) (by decide) (by decide) (by decide)
  obtain ⟨b5, g5⟩ : ∃ z, z = h0.size := ⟨_, rfl⟩
  rw [← g5] at A5 st5
  have g_b5 : n0 ≤ b5 := Nat.le_trans Z0 (Nat.le_of_eq g5.symm)
  have sz_b5 : h0.size ≤ b5 := Nat.le_trans (Keep.refl h0 [ra]).1 (Nat.le_of_eq g5.symm)
  have K5 : Keep h0 h5 [ra] := (Keep.refl h0 [ra]).ext E5
  have z5 : n0 ≤ h5.size := Nat.le_trans Z0 K5.1
  have X5 : Stand p l e _ s m _ below meth c T5 _ 1 1024 := X5
  have pre6 : ∀ t, Steps p.tables e below (T5.setTop (mkF m 10 #[.val (.ref ra)] [(.ref b5), (.ref ra)])) t → Steps p.tables e below (s₁.setTop (entryFrame m #[(.ref ra)] 1)) t := fun t k => pre4 t (st5 t k)
  have f7 := (E_ra.ext E5)
  have f8 := (F_kinds_ra.ext E5)
  obtain ⟨T9, h9, X9, e9, W9, st9⟩ := putF X5 hx hZ hown (host := "") (Or.inl (hw _ (List.mem_of_getElem? (i := 15) rfl))) Via.refl e5 f8 f7 (Or.inl (hw _ (List.mem_of_getElem? (i := 16) rfl))) (hw _ (List.mem_of_getElem? (i := 6) rfl)) (ty := (.array .byte)) (by decide) rfl rfl (g := (mkF m 10 #[.val (.ref ra)] [(.ref b5), (.ref ra)])) rfl rfl (hb hby d2_10)
  have K9 : Keep h0 h9 [ra] := K5.wr W9 (Or.inl (by simp))
  have z9 : n0 ≤ h9.size := Nat.le_trans Z0 K9.1
  have N9 := Fr.snoc X9 N0 g_ra
  have Fw9 := f8.same W9
  have pre10 : ∀ t, Steps p.tables e below (T9.setTop (mkF m 13 #[.val (.ref ra)] [])) t → Steps p.tables e below (s₁.setTop (entryFrame m #[(.ref ra)] 1)) t := fun t k => pre6 t (st9 t k)
  have pre11 : ∀ t, Steps p.tables e below (T9.setTop (mkF m 17 #[.val (.ref ra)] [(.int (1024 : Int32)), (.ref ra)])) t → Steps p.tables e below (s₁.setTop (entryFrame m #[(.ref ra)] 1)) t := by
    intro t k
    refine pre10 t ?_
    refine XS.aloadN X9.here hx rfl (hb hby d2_13) rfl rfl ?_
    show Steps p.tables e below (T9.setTop (mkF m 14 #[.val (.ref ra)] [(.ref ra)])) _
    refine XS.sipush X9.here hx rfl (hb hby d2_14) ?_
    show Steps p.tables e below (T9.setTop (mkF m 17 #[.val (.ref ra)] [(.int (1024 : Int32)), (.ref ra)])) _
    exact k
  obtain ⟨T12, h12, k12, X12, e12, E12, A12, st12⟩ := newP X9 hx hZ (hw _ (List.mem_of_getElem? (i := 0) rfl)) e9 (g := (mkF m 17 #[.val (.ref ra)] [(.int (1024 : Int32)), (.ref ra)])) rfl (hb hby d2_17) rfl (by decide) (cap := 1024) (by decide) (by decide) (by decide) (by decide)
  obtain ⟨b12, g12⟩ : ∃ z, z = h9.size := ⟨_, rfl⟩
  rw [← g12] at A12 st12
  have g_b12 : n0 ≤ b12 := Nat.le_trans z9 (Nat.le_of_eq g12.symm)
  have sz_b12 : h0.size ≤ b12 := Nat.le_trans K9.1 (Nat.le_of_eq g12.symm)
  have K12 : Keep h0 h12 [ra] := K9.ext E12
  have z12 : n0 ≤ h12.size := Nat.le_trans Z0 K12.1
  have X12 : Stand p l e _ s m _ below meth c T12 _ 2 2048 := X12
  have pre13 : ∀ t, Steps p.tables e below (T12.setTop (mkF m 19 #[.val (.ref ra)] [(.ref b12), (.ref ra)])) t → Steps p.tables e below (s₁.setTop (entryFrame m #[(.ref ra)] 1)) t := fun t k => pre11 t (st12 t k)
  have f14 := ((f7.wr W9).ext E12)
  have f15 := (((F_parents_ra.ext E5).other W9 (Or.inr (slot_ne (Or.inl (hw _ (List.mem_of_getElem? (i := 18) rfl))) (Or.inl (hw _ (List.mem_of_getElem? (i := 16) rfl))) (by decide) (t := (.array .int)) (t' := (.array .byte)) (by decide) (by decide)))).ext E12)
  obtain ⟨T16, h16, X16, e16, W16, st16⟩ := putF X12 hx hZ hown (host := "") (Or.inl (hw _ (List.mem_of_getElem? (i := 17) rfl))) Via.refl e12 f15 f14 (Or.inl (hw _ (List.mem_of_getElem? (i := 18) rfl))) (hw _ (List.mem_of_getElem? (i := 6) rfl)) (ty := (.array .int)) (by decide) rfl rfl (g := (mkF m 19 #[.val (.ref ra)] [(.ref b12), (.ref ra)])) rfl rfl (hb hby d2_19)
  have K16 : Keep h0 h16 [ra] := K12.wr W16 (Or.inl (by simp))
  have z16 : n0 ≤ h16.size := Nat.le_trans Z0 K16.1
  have N16 := Fr.snoc X16 N9 g_ra
  have Fw16 := f15.same W16
  have pre17 : ∀ t, Steps p.tables e below (T16.setTop (mkF m 22 #[.val (.ref ra)] [])) t → Steps p.tables e below (s₁.setTop (entryFrame m #[(.ref ra)] 1)) t := fun t k => pre13 t (st16 t k)
  have pre18 : ∀ t, Steps p.tables e below (T16.setTop (mkF m 26 #[.val (.ref ra)] [(.int (1024 : Int32)), (.ref ra)])) t → Steps p.tables e below (s₁.setTop (entryFrame m #[(.ref ra)] 1)) t := by
    intro t k
    refine pre17 t ?_
    refine XS.aloadN X16.here hx rfl (hb hby d2_22) rfl rfl ?_
    show Steps p.tables e below (T16.setTop (mkF m 23 #[.val (.ref ra)] [(.ref ra)])) _
    refine XS.sipush X16.here hx rfl (hb hby d2_23) ?_
    show Steps p.tables e below (T16.setTop (mkF m 26 #[.val (.ref ra)] [(.int (1024 : Int32)), (.ref ra)])) _
    exact k
  obtain ⟨T19, h19, k19, X19, e19, E19, A19, st19⟩ := newP X16 hx hZ (hw _ (List.mem_of_getElem? (i := 0) rfl)) e16 (g := (mkF m 26 #[.val (.ref ra)] [(.int (1024 : Int32)), (.ref ra)])) rfl (hb hby d2_26) rfl (by decide) (cap := 1024) (by decide) (by decide) (by decide) (by decide)
  obtain ⟨b19, g19⟩ : ∃ z, z = h16.size := ⟨_, rfl⟩
  rw [← g19] at A19 st19
  have g_b19 : n0 ≤ b19 := Nat.le_trans z16 (Nat.le_of_eq g19.symm)
  have sz_b19 : h0.size ≤ b19 := Nat.le_trans K16.1 (Nat.le_of_eq g19.symm)
  have K19 : Keep h0 h19 [ra] := K16.ext E19
  have z19 : n0 ≤ h19.size := Nat.le_trans Z0 K19.1
  have X19 : Stand p l e _ s m _ below meth c T19 _ 3 3072 := X19
  have pre20 : ∀ t, Steps p.tables e below (T19.setTop (mkF m 28 #[.val (.ref ra)] [(.ref b19), (.ref ra)])) t → Steps p.tables e below (s₁.setTop (entryFrame m #[(.ref ra)] 1)) t := fun t k => pre18 t (st19 t k)
  have f21 := ((f14.wr W16).ext E19)
  have f22 := (((((F_nextSiblings_ra.ext E5).other W9 (Or.inr (slot_ne (Or.inl (hw _ (List.mem_of_getElem? (i := 20) rfl))) (Or.inl (hw _ (List.mem_of_getElem? (i := 16) rfl))) (by decide) (t := (.array .int)) (t' := (.array .byte)) (by decide) (by decide)))).ext E12).other W16 (Or.inr (slot_ne (Or.inl (hw _ (List.mem_of_getElem? (i := 20) rfl))) (Or.inl (hw _ (List.mem_of_getElem? (i := 18) rfl))) (by decide) (t := (.array .int)) (t' := (.array .int)) (by decide) (by decide)))).ext E19)
  obtain ⟨T23, h23, X23, e23, W23, st23⟩ := putF X19 hx hZ hown (host := "") (Or.inl (hw _ (List.mem_of_getElem? (i := 19) rfl))) Via.refl e19 f22 f21 (Or.inl (hw _ (List.mem_of_getElem? (i := 20) rfl))) (hw _ (List.mem_of_getElem? (i := 6) rfl)) (ty := (.array .int)) (by decide) rfl rfl (g := (mkF m 28 #[.val (.ref ra)] [(.ref b19), (.ref ra)])) rfl rfl (hb hby d2_28)
  have K23 : Keep h0 h23 [ra] := K19.wr W23 (Or.inl (by simp))
  have z23 : n0 ≤ h23.size := Nat.le_trans Z0 K23.1
  have N23 := Fr.snoc X23 N16 g_ra
  have Fw23 := f22.same W23
  have pre24 : ∀ t, Steps p.tables e below (T23.setTop (mkF m 31 #[.val (.ref ra)] [])) t → Steps p.tables e below (s₁.setTop (entryFrame m #[(.ref ra)] 1)) t := fun t k => pre20 t (st23 t k)
  have pre25 : ∀ t, Steps p.tables e below (T23.setTop (mkF m 35 #[.val (.ref ra)] [(.int (1024 : Int32)), (.ref ra)])) t → Steps p.tables e below (s₁.setTop (entryFrame m #[(.ref ra)] 1)) t := by
    intro t k
    refine pre24 t ?_
    refine XS.aloadN X23.here hx rfl (hb hby d2_31) rfl rfl ?_
    show Steps p.tables e below (T23.setTop (mkF m 32 #[.val (.ref ra)] [(.ref ra)])) _
    refine XS.sipush X23.here hx rfl (hb hby d2_32) ?_
    show Steps p.tables e below (T23.setTop (mkF m 35 #[.val (.ref ra)] [(.int (1024 : Int32)), (.ref ra)])) _
    exact k
  obtain ⟨T26, h26, k26, X26, e26, E26, A26, st26⟩ := newP X23 hx hZ (hw _ (List.mem_of_getElem? (i := 0) rfl)) e23 (g := (mkF m 35 #[.val (.ref ra)] [(.int (1024 : Int32)), (.ref ra)])) rfl (hb hby d2_35) rfl (by decide) (cap := 1024) (by decide) (by decide) (by decide) (by decide)
  obtain ⟨b26, g26⟩ : ∃ z, z = h23.size := ⟨_, rfl⟩
  rw [← g26] at A26 st26
  have g_b26 : n0 ≤ b26 := Nat.le_trans z23 (Nat.le_of_eq g26.symm)
  have sz_b26 : h0.size ≤ b26 := Nat.le_trans K23.1 (Nat.le_of_eq g26.symm)
  have K26 : Keep h0 h26 [ra] := K23.ext E26
  have z26 : n0 ≤ h26.size := Nat.le_trans Z0 K26.1
  have X26 : Stand p l e _ s m _ below meth c T26 _ 4 4096 := X26
  have pre27 : ∀ t, Steps p.tables e below (T26.setTop (mkF m 37 #[.val (.ref ra)] [(.ref b26), (.ref ra)])) t → Steps p.tables e below (s₁.setTop (entryFrame m #[(.ref ra)] 1)) t := fun t k => pre25 t (st26 t k)
  have f28 := ((f21.wr W23).ext E26)
  have f29 := (((((((F_data_ra.ext E5).other W9 (Or.inr (slot_ne (Or.inl (hw _ (List.mem_of_getElem? (i := 22) rfl))) (Or.inl (hw _ (List.mem_of_getElem? (i := 16) rfl))) (by decide) (t := (.array .int)) (t' := (.array .byte)) (by decide) (by decide)))).ext E12).other W16 (Or.inr (slot_ne (Or.inl (hw _ (List.mem_of_getElem? (i := 22) rfl))) (Or.inl (hw _ (List.mem_of_getElem? (i := 18) rfl))) (by decide) (t := (.array .int)) (t' := (.array .int)) (by decide) (by decide)))).ext E19).other W23 (Or.inr (slot_ne (Or.inl (hw _ (List.mem_of_getElem? (i := 22) rfl))) (Or.inl (hw _ (List.mem_of_getElem? (i := 20) rfl))) (by decide) (t := (.array .int)) (t' := (.array .int)) (by decide) (by decide)))).ext E26)
  obtain ⟨T30, h30, X30, e30, W30, st30⟩ := putF X26 hx hZ hown (host := "") (Or.inl (hw _ (List.mem_of_getElem? (i := 21) rfl))) Via.refl e26 f29 f28 (Or.inl (hw _ (List.mem_of_getElem? (i := 22) rfl))) (hw _ (List.mem_of_getElem? (i := 6) rfl)) (ty := (.array .int)) (by decide) rfl rfl (g := (mkF m 37 #[.val (.ref ra)] [(.ref b26), (.ref ra)])) rfl rfl (hb hby d2_37)
  have K30 : Keep h0 h30 [ra] := K26.wr W30 (Or.inl (by simp))
  have z30 : n0 ≤ h30.size := Nat.le_trans Z0 K30.1
  have N30 := Fr.snoc X30 N23 g_ra
  have Fw30 := f29.same W30
  have pre31 : ∀ t, Steps p.tables e below (T30.setTop (mkF m 40 #[.val (.ref ra)] [])) t → Steps p.tables e below (s₁.setTop (entryFrame m #[(.ref ra)] 1)) t := fun t k => pre27 t (st30 t k)
  have pre32 : ∀ t, Steps p.tables e below (T30.setTop (mkF m 44 #[.val (.ref ra)] [(.int (1024 : Int32)), (.ref ra)])) t → Steps p.tables e below (s₁.setTop (entryFrame m #[(.ref ra)] 1)) t := by
    intro t k
    refine pre31 t ?_
    refine XS.aloadN X30.here hx rfl (hb hby d2_40) rfl rfl ?_
    show Steps p.tables e below (T30.setTop (mkF m 41 #[.val (.ref ra)] [(.ref ra)])) _
    refine XS.sipush X30.here hx rfl (hb hby d2_41) ?_
    show Steps p.tables e below (T30.setTop (mkF m 44 #[.val (.ref ra)] [(.int (1024 : Int32)), (.ref ra)])) _
    exact k
  obtain ⟨T33, h33, k33, X33, e33, E33, A33, st33⟩ := newP X30 hx hZ (hw _ (List.mem_of_getElem? (i := 0) rfl)) e30 (g := (mkF m 44 #[.val (.ref ra)] [(.int (1024 : Int32)), (.ref ra)])) rfl (hb hby d2_44) rfl (by decide) (cap := 1024) (by decide) (by decide) (by decide) (by decide)
  obtain ⟨b33, g33⟩ : ∃ z, z = h30.size := ⟨_, rfl⟩
  rw [← g33] at A33 st33
  have g_b33 : n0 ≤ b33 := Nat.le_trans z30 (Nat.le_of_eq g33.symm)
  have sz_b33 : h0.size ≤ b33 := Nat.le_trans K30.1 (Nat.le_of_eq g33.symm)
  have K33 : Keep h0 h33 [ra] := K30.ext E33
  have z33 : n0 ≤ h33.size := Nat.le_trans Z0 K33.1
  have X33 : Stand p l e _ s m _ below meth c T33 _ 5 5120 := X33
  have pre34 : ∀ t, Steps p.tables e below (T33.setTop (mkF m 46 #[.val (.ref ra)] [(.ref b33), (.ref ra)])) t → Steps p.tables e below (s₁.setTop (entryFrame m #[(.ref ra)] 1)) t := fun t k => pre32 t (st33 t k)
  have f35 := ((f28.wr W30).ext E33)
  have f36 := (((((((((F_owners_ra.ext E5).other W9 (Or.inr (slot_ne (Or.inl (hw _ (List.mem_of_getElem? (i := 24) rfl))) (Or.inl (hw _ (List.mem_of_getElem? (i := 16) rfl))) (by decide) (t := (.array .int)) (t' := (.array .byte)) (by decide) (by decide)))).ext E12).other W16 (Or.inr (slot_ne (Or.inl (hw _ (List.mem_of_getElem? (i := 24) rfl))) (Or.inl (hw _ (List.mem_of_getElem? (i := 18) rfl))) (by decide) (t := (.array .int)) (t' := (.array .int)) (by decide) (by decide)))).ext E19).other W23 (Or.inr (slot_ne (Or.inl (hw _ (List.mem_of_getElem? (i := 24) rfl))) (Or.inl (hw _ (List.mem_of_getElem? (i := 20) rfl))) (by decide) (t := (.array .int)) (t' := (.array .int)) (by decide) (by decide)))).ext E26).other W30 (Or.inr (slot_ne (Or.inl (hw _ (List.mem_of_getElem? (i := 24) rfl))) (Or.inl (hw _ (List.mem_of_getElem? (i := 22) rfl))) (by decide) (t := (.array .int)) (t' := (.array .int)) (by decide) (by decide)))).ext E33)
  obtain ⟨T37, h37, X37, e37, W37, st37⟩ := putF X33 hx hZ hown (host := "") (Or.inl (hw _ (List.mem_of_getElem? (i := 23) rfl))) Via.refl e33 f36 f35 (Or.inl (hw _ (List.mem_of_getElem? (i := 24) rfl))) (hw _ (List.mem_of_getElem? (i := 6) rfl)) (ty := (.array .int)) (by decide) rfl rfl (g := (mkF m 46 #[.val (.ref ra)] [(.ref b33), (.ref ra)])) rfl rfl (hb hby d2_46)
  have K37 : Keep h0 h37 [ra] := K33.wr W37 (Or.inl (by simp))
  have z37 : n0 ≤ h37.size := Nat.le_trans Z0 K37.1
  have N37 := Fr.snoc X37 N30 g_ra
  have Fw37 := f36.same W37
  have pre38 : ∀ t, Steps p.tables e below (T37.setTop (mkF m 49 #[.val (.ref ra)] [])) t → Steps p.tables e below (s₁.setTop (entryFrame m #[(.ref ra)] 1)) t := fun t k => pre34 t (st37 t k)
  have pre39 : ∀ t, Steps p.tables e below (T37.setTop (mkF m 53 #[.val (.ref ra)] [(.int (1024 : Int32)), (.ref ra)])) t → Steps p.tables e below (s₁.setTop (entryFrame m #[(.ref ra)] 1)) t := by
    intro t k
    refine pre38 t ?_
    refine XS.aloadN X37.here hx rfl (hb hby d2_49) rfl rfl ?_
    show Steps p.tables e below (T37.setTop (mkF m 50 #[.val (.ref ra)] [(.ref ra)])) _
    refine XS.sipush X37.here hx rfl (hb hby d2_50) ?_
    show Steps p.tables e below (T37.setTop (mkF m 53 #[.val (.ref ra)] [(.int (1024 : Int32)), (.ref ra)])) _
    exact k
  obtain ⟨T40, h40, k40, X40, e40, E40, A40, st40⟩ := newP X37 hx hZ (hw _ (List.mem_of_getElem? (i := 0) rfl)) e37 (g := (mkF m 53 #[.val (.ref ra)] [(.int (1024 : Int32)), (.ref ra)])) rfl (hb hby d2_53) rfl (by decide) (cap := 1024) (by decide) (by decide) (by decide) (by decide)
  obtain ⟨b40, g40⟩ : ∃ z, z = h37.size := ⟨_, rfl⟩
  rw [← g40] at A40 st40
  have g_b40 : n0 ≤ b40 := Nat.le_trans z37 (Nat.le_of_eq g40.symm)
  have sz_b40 : h0.size ≤ b40 := Nat.le_trans K37.1 (Nat.le_of_eq g40.symm)
  have K40 : Keep h0 h40 [ra] := K37.ext E40
  have z40 : n0 ≤ h40.size := Nat.le_trans Z0 K40.1
  have X40 : Stand p l e _ s m _ below meth c T40 _ 6 6144 := X40
  have pre41 : ∀ t, Steps p.tables e below (T40.setTop (mkF m 55 #[.val (.ref ra)] [(.ref b40), (.ref ra)])) t → Steps p.tables e below (s₁.setTop (entryFrame m #[(.ref ra)] 1)) t := fun t k => pre39 t (st40 t k)
  have f42 := ((f35.wr W37).ext E40)
  have f43 := (((((((((((F_attributeNames_ra.ext E5).other W9 (Or.inr (slot_ne (Or.inl (hw _ (List.mem_of_getElem? (i := 26) rfl))) (Or.inl (hw _ (List.mem_of_getElem? (i := 16) rfl))) (by decide) (t := (.array .int)) (t' := (.array .byte)) (by decide) (by decide)))).ext E12).other W16 (Or.inr (slot_ne (Or.inl (hw _ (List.mem_of_getElem? (i := 26) rfl))) (Or.inl (hw _ (List.mem_of_getElem? (i := 18) rfl))) (by decide) (t := (.array .int)) (t' := (.array .int)) (by decide) (by decide)))).ext E19).other W23 (Or.inr (slot_ne (Or.inl (hw _ (List.mem_of_getElem? (i := 26) rfl))) (Or.inl (hw _ (List.mem_of_getElem? (i := 20) rfl))) (by decide) (t := (.array .int)) (t' := (.array .int)) (by decide) (by decide)))).ext E26).other W30 (Or.inr (slot_ne (Or.inl (hw _ (List.mem_of_getElem? (i := 26) rfl))) (Or.inl (hw _ (List.mem_of_getElem? (i := 22) rfl))) (by decide) (t := (.array .int)) (t' := (.array .int)) (by decide) (by decide)))).ext E33).other W37 (Or.inr (slot_ne (Or.inl (hw _ (List.mem_of_getElem? (i := 26) rfl))) (Or.inl (hw _ (List.mem_of_getElem? (i := 24) rfl))) (by decide) (t := (.array .int)) (t' := (.array .int)) (by decide) (by decide)))).ext E40)
  obtain ⟨T44, h44, X44, e44, W44, st44⟩ := putF X40 hx hZ hown (host := "") (Or.inl (hw _ (List.mem_of_getElem? (i := 25) rfl))) Via.refl e40 f43 f42 (Or.inl (hw _ (List.mem_of_getElem? (i := 26) rfl))) (hw _ (List.mem_of_getElem? (i := 6) rfl)) (ty := (.array .int)) (by decide) rfl rfl (g := (mkF m 55 #[.val (.ref ra)] [(.ref b40), (.ref ra)])) rfl rfl (hb hby d2_55)
  have K44 : Keep h0 h44 [ra] := K40.wr W44 (Or.inl (by simp))
  have z44 : n0 ≤ h44.size := Nat.le_trans Z0 K44.1
  have N44 := Fr.snoc X44 N37 g_ra
  have Fw44 := f43.same W44
  have pre45 : ∀ t, Steps p.tables e below (T44.setTop (mkF m 58 #[.val (.ref ra)] [])) t → Steps p.tables e below (s₁.setTop (entryFrame m #[(.ref ra)] 1)) t := fun t k => pre41 t (st44 t k)
  have pre46 : ∀ t, Steps p.tables e below (T44.setTop (mkF m 62 #[.val (.ref ra)] [(.int (1024 : Int32)), (.ref ra)])) t → Steps p.tables e below (s₁.setTop (entryFrame m #[(.ref ra)] 1)) t := by
    intro t k
    refine pre45 t ?_
    refine XS.aloadN X44.here hx rfl (hb hby d2_58) rfl rfl ?_
    show Steps p.tables e below (T44.setTop (mkF m 59 #[.val (.ref ra)] [(.ref ra)])) _
    refine XS.sipush X44.here hx rfl (hb hby d2_59) ?_
    show Steps p.tables e below (T44.setTop (mkF m 62 #[.val (.ref ra)] [(.int (1024 : Int32)), (.ref ra)])) _
    exact k
  obtain ⟨T47, h47, k47, X47, e47, E47, A47, st47⟩ := newP X44 hx hZ (hw _ (List.mem_of_getElem? (i := 0) rfl)) e44 (g := (mkF m 62 #[.val (.ref ra)] [(.int (1024 : Int32)), (.ref ra)])) rfl (hb hby d2_62) rfl (by decide) (cap := 1024) (by decide) (by decide) (by decide) (by decide)
  obtain ⟨b47, g47⟩ : ∃ z, z = h44.size := ⟨_, rfl⟩
  rw [← g47] at A47 st47
  have g_b47 : n0 ≤ b47 := Nat.le_trans z44 (Nat.le_of_eq g47.symm)
  have sz_b47 : h0.size ≤ b47 := Nat.le_trans K44.1 (Nat.le_of_eq g47.symm)
  have K47 : Keep h0 h47 [ra] := K44.ext E47
  have z47 : n0 ≤ h47.size := Nat.le_trans Z0 K47.1
  have X47 : Stand p l e _ s m _ below meth c T47 _ 7 7168 := X47
  have pre48 : ∀ t, Steps p.tables e below (T47.setTop (mkF m 64 #[.val (.ref ra)] [(.ref b47), (.ref ra)])) t → Steps p.tables e below (s₁.setTop (entryFrame m #[(.ref ra)] 1)) t := fun t k => pre46 t (st47 t k)
  have f49 := ((f42.wr W44).ext E47)
  have f50 := (((((((((((((F_attributeValues_ra.ext E5).other W9 (Or.inr (slot_ne (Or.inl (hw _ (List.mem_of_getElem? (i := 28) rfl))) (Or.inl (hw _ (List.mem_of_getElem? (i := 16) rfl))) (by decide) (t := (.array .int)) (t' := (.array .byte)) (by decide) (by decide)))).ext E12).other W16 (Or.inr (slot_ne (Or.inl (hw _ (List.mem_of_getElem? (i := 28) rfl))) (Or.inl (hw _ (List.mem_of_getElem? (i := 18) rfl))) (by decide) (t := (.array .int)) (t' := (.array .int)) (by decide) (by decide)))).ext E19).other W23 (Or.inr (slot_ne (Or.inl (hw _ (List.mem_of_getElem? (i := 28) rfl))) (Or.inl (hw _ (List.mem_of_getElem? (i := 20) rfl))) (by decide) (t := (.array .int)) (t' := (.array .int)) (by decide) (by decide)))).ext E26).other W30 (Or.inr (slot_ne (Or.inl (hw _ (List.mem_of_getElem? (i := 28) rfl))) (Or.inl (hw _ (List.mem_of_getElem? (i := 22) rfl))) (by decide) (t := (.array .int)) (t' := (.array .int)) (by decide) (by decide)))).ext E33).other W37 (Or.inr (slot_ne (Or.inl (hw _ (List.mem_of_getElem? (i := 28) rfl))) (Or.inl (hw _ (List.mem_of_getElem? (i := 24) rfl))) (by decide) (t := (.array .int)) (t' := (.array .int)) (by decide) (by decide)))).ext E40).other W44 (Or.inr (slot_ne (Or.inl (hw _ (List.mem_of_getElem? (i := 28) rfl))) (Or.inl (hw _ (List.mem_of_getElem? (i := 26) rfl))) (by decide) (t := (.array .int)) (t' := (.array .int)) (by decide) (by decide)))).ext E47)
  obtain ⟨T51, h51, X51, e51, W51, st51⟩ := putF X47 hx hZ hown (host := "") (Or.inl (hw _ (List.mem_of_getElem? (i := 27) rfl))) Via.refl e47 f50 f49 (Or.inl (hw _ (List.mem_of_getElem? (i := 28) rfl))) (hw _ (List.mem_of_getElem? (i := 6) rfl)) (ty := (.array .int)) (by decide) rfl rfl (g := (mkF m 64 #[.val (.ref ra)] [(.ref b47), (.ref ra)])) rfl rfl (hb hby d2_64)
  have K51 : Keep h0 h51 [ra] := K47.wr W51 (Or.inl (by simp))
  have z51 : n0 ≤ h51.size := Nat.le_trans Z0 K51.1
  have N51 := Fr.snoc X51 N44 g_ra
  have Fw51 := f50.same W51
  have pre52 : ∀ t, Steps p.tables e below (T51.setTop (mkF m 67 #[.val (.ref ra)] [])) t → Steps p.tables e below (s₁.setTop (entryFrame m #[(.ref ra)] 1)) t := fun t k => pre48 t (st51 t k)
  have pre53 : ∀ t, Steps p.tables e below (T51.setTop (mkF m 71 #[.val (.ref ra)] [(.int (1024 : Int32)), (.ref ra)])) t → Steps p.tables e below (s₁.setTop (entryFrame m #[(.ref ra)] 1)) t := by
    intro t k
    refine pre52 t ?_
    refine XS.aloadN X51.here hx rfl (hb hby d2_67) rfl rfl ?_
    show Steps p.tables e below (T51.setTop (mkF m 68 #[.val (.ref ra)] [(.ref ra)])) _
    refine XS.sipush X51.here hx rfl (hb hby d2_68) ?_
    show Steps p.tables e below (T51.setTop (mkF m 71 #[.val (.ref ra)] [(.int (1024 : Int32)), (.ref ra)])) _
    exact k
  obtain ⟨T54, h54, k54, X54, e54, E54, A54, st54⟩ := newP X51 hx hZ (hw _ (List.mem_of_getElem? (i := 14) rfl)) e51 (g := (mkF m 71 #[.val (.ref ra)] [(.int (1024 : Int32)), (.ref ra)])) rfl (hb hby d2_71) rfl (by decide) (cap := 1024) (by decide) (by decide) (by decide) (by decide)
  obtain ⟨b54, g54⟩ : ∃ z, z = h51.size := ⟨_, rfl⟩
  rw [← g54] at A54 st54
  have g_b54 : n0 ≤ b54 := Nat.le_trans z51 (Nat.le_of_eq g54.symm)
  have sz_b54 : h0.size ≤ b54 := Nat.le_trans K51.1 (Nat.le_of_eq g54.symm)
  have K54 : Keep h0 h54 [ra] := K51.ext E54
  have z54 : n0 ≤ h54.size := Nat.le_trans Z0 K54.1
  have X54 : Stand p l e _ s m _ below meth c T54 _ 8 8192 := X54
  have pre55 : ∀ t, Steps p.tables e below (T54.setTop (mkF m 73 #[.val (.ref ra)] [(.ref b54), (.ref ra)])) t → Steps p.tables e below (s₁.setTop (entryFrame m #[(.ref ra)] 1)) t := fun t k => pre53 t (st54 t k)
  have f56 := ((f49.wr W51).ext E54)
  have f57 := (((((((((((((((F_attributeTypes_ra.ext E5).other W9 (Or.inr (slot_ne (Or.inl (hw _ (List.mem_of_getElem? (i := 30) rfl))) (Or.inl (hw _ (List.mem_of_getElem? (i := 16) rfl))) (by decide) (t := (.array .byte)) (t' := (.array .byte)) (by decide) (by decide)))).ext E12).other W16 (Or.inr (slot_ne (Or.inl (hw _ (List.mem_of_getElem? (i := 30) rfl))) (Or.inl (hw _ (List.mem_of_getElem? (i := 18) rfl))) (by decide) (t := (.array .byte)) (t' := (.array .int)) (by decide) (by decide)))).ext E19).other W23 (Or.inr (slot_ne (Or.inl (hw _ (List.mem_of_getElem? (i := 30) rfl))) (Or.inl (hw _ (List.mem_of_getElem? (i := 20) rfl))) (by decide) (t := (.array .byte)) (t' := (.array .int)) (by decide) (by decide)))).ext E26).other W30 (Or.inr (slot_ne (Or.inl (hw _ (List.mem_of_getElem? (i := 30) rfl))) (Or.inl (hw _ (List.mem_of_getElem? (i := 22) rfl))) (by decide) (t := (.array .byte)) (t' := (.array .int)) (by decide) (by decide)))).ext E33).other W37 (Or.inr (slot_ne (Or.inl (hw _ (List.mem_of_getElem? (i := 30) rfl))) (Or.inl (hw _ (List.mem_of_getElem? (i := 24) rfl))) (by decide) (t := (.array .byte)) (t' := (.array .int)) (by decide) (by decide)))).ext E40).other W44 (Or.inr (slot_ne (Or.inl (hw _ (List.mem_of_getElem? (i := 30) rfl))) (Or.inl (hw _ (List.mem_of_getElem? (i := 26) rfl))) (by decide) (t := (.array .byte)) (t' := (.array .int)) (by decide) (by decide)))).ext E47).other W51 (Or.inr (slot_ne (Or.inl (hw _ (List.mem_of_getElem? (i := 30) rfl))) (Or.inl (hw _ (List.mem_of_getElem? (i := 28) rfl))) (by decide) (t := (.array .byte)) (t' := (.array .int)) (by decide) (by decide)))).ext E54)
  obtain ⟨T58, h58, X58, e58, W58, st58⟩ := putF X54 hx hZ hown (host := "") (Or.inl (hw _ (List.mem_of_getElem? (i := 29) rfl))) Via.refl e54 f57 f56 (Or.inl (hw _ (List.mem_of_getElem? (i := 30) rfl))) (hw _ (List.mem_of_getElem? (i := 6) rfl)) (ty := (.array .byte)) (by decide) rfl rfl (g := (mkF m 73 #[.val (.ref ra)] [(.ref b54), (.ref ra)])) rfl rfl (hb hby d2_73)
  have K58 : Keep h0 h58 [ra] := K54.wr W58 (Or.inl (by simp))
  have z58 : n0 ≤ h58.size := Nat.le_trans Z0 K58.1
  have N58 := Fr.snoc X58 N51 g_ra
  have Fw58 := f57.same W58
  have pre59 : ∀ t, Steps p.tables e below (T58.setTop (mkF m 76 #[.val (.ref ra)] [])) t → Steps p.tables e below (s₁.setTop (entryFrame m #[(.ref ra)] 1)) t := fun t k => pre55 t (st58 t k)
  have pre60 : ∀ t, Steps p.tables e below (T58.setTop (mkF m 77 #[.val (.ref ra)] [(.ref ra)])) t → Steps p.tables e below (s₁.setTop (entryFrame m #[(.ref ra)] 1)) t := by
    intro t k
    refine pre59 t ?_
    refine XS.aloadN X58.here hx rfl (hb hby d2_76) rfl rfl ?_
    show Steps p.tables e below (T58.setTop (mkF m 77 #[.val (.ref ra)] [(.ref ra)])) _
    exact k
  obtain ⟨T61, h61, X61, e61, E61, A61, D61, -, st61⟩ := newO X58 hx hZ hown (hw _ (List.mem_of_getElem? (i := 31) rfl)) (hw _ (List.mem_of_getElem? (i := 32) rfl)) (hw _ (List.mem_of_getElem? (i := 33) rfl)) e58 (g := (mkF m 77 #[.val (.ref ra)] [(.ref ra)])) rfl (hb hby d2_77) (by decide) (by decide)
  obtain ⟨b61, g61⟩ : ∃ z, z = h58.size := ⟨_, rfl⟩
  rw [← g61] at A61 D61 st61
  have g_b61 : n0 ≤ b61 := Nat.le_trans z58 (Nat.le_of_eq g61.symm)
  have sz_b61 : h0.size ≤ b61 := Nat.le_trans K58.1 (Nat.le_of_eq g61.symm)
  have K61 : Keep h0 h61 [ra] := K58.ext E61
  have z61 : n0 ≤ h61.size := Nat.le_trans Z0 K61.1
  have F_modCount_b61 : Fld Z h61 b61 "java/util/AbstractList" "modCount" "I" (.int (0 : Int32)) := D61 (Or.inl (hw _ (List.mem_of_getElem? (i := 51) rfl))) (ty := .int) (by decide)
  have F_elementData_b61 : Fld Z h61 b61 "java/util/ArrayList" "elementData" "[Ljava/lang/Object;" .null := D61 (Or.inl (hw _ (List.mem_of_getElem? (i := 54) rfl))) (ty := (.array (.object "java/lang/Object"))) (by decide)
  have X61 : Stand p l e _ s m _ below meth c T61 _ 9 8195 := X61
  have pre62 : ∀ t, Steps p.tables e below (T61.setTop (mkF m 80 #[.val (.ref ra)] [(.ref b61), (.ref ra)])) t → Steps p.tables e below (s₁.setTop (entryFrame m #[(.ref ra)] 1)) t := fun t k => pre60 t (st61 t k)
  have pre63 : ∀ t, Steps p.tables e below (T61.setTop (mkF m 81 #[.val (.ref ra)] [(.ref b61), (.ref b61), (.ref ra)])) t → Steps p.tables e below (s₁.setTop (entryFrame m #[(.ref ra)] 1)) t := by
    intro t k
    refine pre62 t ?_
    refine XS.dup X61.here hx rfl (hb hby d2_80) rfl rfl ?_
    show Steps p.tables e below (T61.setTop (mkF m 81 #[.val (.ref ra)] [(.ref b61), (.ref b61), (.ref ra)])) _
    exact k
  have f64 := (((((((((((((((((SD.ext E5).wr W9).ext E12).wr W16).ext E19).wr W23).ext E26).wr W30).ext E33).wr W37).ext E40).wr W44).ext E47).wr W51).ext E54).wr W58).ext E61)
  obtain ⟨_, _, ⟨T65, L65, k65, n65⟩, -, X65, ⟨Lc65, hQ65, l65, y65, z65⟩, st65⟩ := X61.specialBack hx (y := (⟨"java/util/ArrayList", "<init>", "()V"⟩ : MethodName)) rfl hown (mvT hZ (hw _ (List.mem_of_getElem? (i := 34) rfl))) (mvT hZ (hw _ (List.mem_of_getElem? (i := 35) rfl))) (mvT hZ (hw _ (List.mem_of_getElem? (i := 36) rfl))) (by decide) (backOf (W := 2) (rm_al l Z a0 hw [] b61 wl h61 n0 z61 A61 (g_b61) F_modCount_b61 F_elementData_b61 f64) hZ (hw _ (List.mem_of_getElem? (i := 36) rfl)) (hw _ (List.mem_of_getElem? (i := 33) rfl)) (by decide) (by decide)) (g := (mkF m 81 #[.val (.ref ra)] [(.ref b61), (.ref b61), (.ref ra)])) rfl (by rw [hml]; rfl) (Steps.refl _) (a := b61) (argsL := []) (rest := [(.ref b61), (.ref ra)]) (lenOf pd0 rfl) rfl (by show 2 * 0 + _ ≤ _; exact Nat.le_of_eq rfl) (hb hby d2_81) (fun _ _ => ⟨rfl, e61, (by decide : 9 + 0 ≤ _), (by decide : 8195 + 0 ≤ _)⟩)
  dsimp only [Pt.U, Pt.locs, Pt.cells, Pt.slots] at X65 l65 y65 z65 st65 hQ65
  subst y65 z65
  obtain ⟨rfl, M65, kp65, f65_0, f65_1, f65_2⟩ := hQ65
  have K65 : Keep h0 T65.heap [ra] := K61.trans kp65 (allS (P := fun x => x ∈ [ra] ∨ h0.size ≤ x) (Or.inr sz_b61) all0)
  have zz65 : n0 ≤ T65.heap.size := Nat.le_trans Z0 K65.1
  have N65 : Fr n0 L65 := by rw [l65]; exact Fr.app N58 M65
  clear l65
  have X65 : Stand p l e _ s m _ below meth c T65 _ 9 8195 := X65
  have pre66 : ∀ t, Steps p.tables e below (T65.setTop (mkF m 84 #[.val (.ref ra)] [(.ref b61), (.ref ra)])) t → Steps p.tables e below (s₁.setTop (entryFrame m #[(.ref ra)] 1)) t := fun t k => pre63 t (st65.trans k)
  have f67 := (((f56.wr W58).ext E61).keep kp65)
  have f68 := ((((((((((((((((((F_names_ra.ext E5).other W9 (Or.inr (slot_ne (Or.inr (hw _ (List.mem_of_getElem? (i := 56) rfl))) (Or.inl (hw _ (List.mem_of_getElem? (i := 16) rfl))) (by decide) (t := (.object "java/util/List")) (t' := (.array .byte)) (by decide) (by decide)))).ext E12).other W16 (Or.inr (slot_ne (Or.inr (hw _ (List.mem_of_getElem? (i := 56) rfl))) (Or.inl (hw _ (List.mem_of_getElem? (i := 18) rfl))) (by decide) (t := (.object "java/util/List")) (t' := (.array .int)) (by decide) (by decide)))).ext E19).other W23 (Or.inr (slot_ne (Or.inr (hw _ (List.mem_of_getElem? (i := 56) rfl))) (Or.inl (hw _ (List.mem_of_getElem? (i := 20) rfl))) (by decide) (t := (.object "java/util/List")) (t' := (.array .int)) (by decide) (by decide)))).ext E26).other W30 (Or.inr (slot_ne (Or.inr (hw _ (List.mem_of_getElem? (i := 56) rfl))) (Or.inl (hw _ (List.mem_of_getElem? (i := 22) rfl))) (by decide) (t := (.object "java/util/List")) (t' := (.array .int)) (by decide) (by decide)))).ext E33).other W37 (Or.inr (slot_ne (Or.inr (hw _ (List.mem_of_getElem? (i := 56) rfl))) (Or.inl (hw _ (List.mem_of_getElem? (i := 24) rfl))) (by decide) (t := (.object "java/util/List")) (t' := (.array .int)) (by decide) (by decide)))).ext E40).other W44 (Or.inr (slot_ne (Or.inr (hw _ (List.mem_of_getElem? (i := 56) rfl))) (Or.inl (hw _ (List.mem_of_getElem? (i := 26) rfl))) (by decide) (t := (.object "java/util/List")) (t' := (.array .int)) (by decide) (by decide)))).ext E47).other W51 (Or.inr (slot_ne (Or.inr (hw _ (List.mem_of_getElem? (i := 56) rfl))) (Or.inl (hw _ (List.mem_of_getElem? (i := 28) rfl))) (by decide) (t := (.object "java/util/List")) (t' := (.array .int)) (by decide) (by decide)))).ext E54).other W58 (Or.inr (slot_ne (Or.inr (hw _ (List.mem_of_getElem? (i := 56) rfl))) (Or.inl (hw _ (List.mem_of_getElem? (i := 30) rfl))) (by decide) (t := (.object "java/util/List")) (t' := (.array .byte)) (by decide) (by decide)))).ext E61).keep kp65 (ninS (Nat.ne_of_lt (Nat.lt_of_lt_of_le (f56.wr W58).lt (Nat.le_of_eq g61.symm))) nin0))
  obtain ⟨T69, h69, X69, e69, W69, st69⟩ := putF X65 hx hZ hown (host := "") (Or.inl (hw _ (List.mem_of_getElem? (i := 55) rfl))) Via.refl rfl f68 f67 (Or.inr ⟨(hw _ (List.mem_of_getElem? (i := 56) rfl)), rfl, hnm⟩) (hw _ (List.mem_of_getElem? (i := 6) rfl)) (ty := (.object "java/util/List")) (by decide) rfl rfl (g := (mkF m 84 #[.val (.ref ra)] [(.ref b61), (.ref ra)])) rfl rfl (hb hby d2_84)
  have K69 : Keep h0 h69 [ra] := K65.wr W69 (Or.inl (by simp))
  have z69 : n0 ≤ h69.size := Nat.le_trans Z0 K69.1
  have N69 := Fr.snoc X69 N65 g_ra
  have Fw69 := f68.same W69
  have pre70 : ∀ t, Steps p.tables e below (T69.setTop (mkF m 87 #[.val (.ref ra)] [])) t → Steps p.tables e below (s₁.setTop (entryFrame m #[(.ref ra)] 1)) t := fun t k => pre66 t (st69 t k)
  have pre71 : ∀ t, Steps p.tables e below (T69.setTop (mkF m 91 #[.val (.ref ra)] [(.int (1024 : Int32)), (.ref ra)])) t → Steps p.tables e below (s₁.setTop (entryFrame m #[(.ref ra)] 1)) t := by
    intro t k
    refine pre70 t ?_
    refine XS.aloadN X69.here hx rfl (hb hby d2_87) rfl rfl ?_
    show Steps p.tables e below (T69.setTop (mkF m 88 #[.val (.ref ra)] [(.ref ra)])) _
    refine XS.sipush X69.here hx rfl (hb hby d2_88) ?_
    show Steps p.tables e below (T69.setTop (mkF m 91 #[.val (.ref ra)] [(.int (1024 : Int32)), (.ref ra)])) _
    exact k
  obtain ⟨T72, h72, k72, X72, e72, E72, A72, st72⟩ := newP X69 hx hZ (hw _ (List.mem_of_getElem? (i := 14) rfl)) e69 (g := (mkF m 91 #[.val (.ref ra)] [(.int (1024 : Int32)), (.ref ra)])) rfl (hb hby d2_91) rfl (by decide) (cap := 1024) (by decide) (by decide) (by decide) (by decide)
  obtain ⟨b72, g72⟩ : ∃ z, z = h69.size := ⟨_, rfl⟩
  rw [← g72] at A72 st72
  have g_b72 : n0 ≤ b72 := Nat.le_trans z69 (Nat.le_of_eq g72.symm)
  have sz_b72 : h0.size ≤ b72 := Nat.le_trans K69.1 (Nat.le_of_eq g72.symm)
  have K72 : Keep h0 h72 [ra] := K69.ext E72
  have z72 : n0 ≤ h72.size := Nat.le_trans Z0 K72.1
  have X72 : Stand p l e _ s m _ below meth c T72 _ 10 9219 := X72
  have pre73 : ∀ t, Steps p.tables e below (T72.setTop (mkF m 93 #[.val (.ref ra)] [(.ref b72), (.ref ra)])) t → Steps p.tables e below (s₁.setTop (entryFrame m #[(.ref ra)] 1)) t := fun t k => pre71 t (st72 t k)
  have f74 := ((f67.wr W69).ext E72)
  have f75 := ((((((((((((((((((((F_narrowText_ra.ext E5).other W9 (Or.inr (slot_ne (Or.inl (hw _ (List.mem_of_getElem? (i := 58) rfl))) (Or.inl (hw _ (List.mem_of_getElem? (i := 16) rfl))) (by decide) (t := (.array .byte)) (t' := (.array .byte)) (by decide) (by decide)))).ext E12).other W16 (Or.inr (slot_ne (Or.inl (hw _ (List.mem_of_getElem? (i := 58) rfl))) (Or.inl (hw _ (List.mem_of_getElem? (i := 18) rfl))) (by decide) (t := (.array .byte)) (t' := (.array .int)) (by decide) (by decide)))).ext E19).other W23 (Or.inr (slot_ne (Or.inl (hw _ (List.mem_of_getElem? (i := 58) rfl))) (Or.inl (hw _ (List.mem_of_getElem? (i := 20) rfl))) (by decide) (t := (.array .byte)) (t' := (.array .int)) (by decide) (by decide)))).ext E26).other W30 (Or.inr (slot_ne (Or.inl (hw _ (List.mem_of_getElem? (i := 58) rfl))) (Or.inl (hw _ (List.mem_of_getElem? (i := 22) rfl))) (by decide) (t := (.array .byte)) (t' := (.array .int)) (by decide) (by decide)))).ext E33).other W37 (Or.inr (slot_ne (Or.inl (hw _ (List.mem_of_getElem? (i := 58) rfl))) (Or.inl (hw _ (List.mem_of_getElem? (i := 24) rfl))) (by decide) (t := (.array .byte)) (t' := (.array .int)) (by decide) (by decide)))).ext E40).other W44 (Or.inr (slot_ne (Or.inl (hw _ (List.mem_of_getElem? (i := 58) rfl))) (Or.inl (hw _ (List.mem_of_getElem? (i := 26) rfl))) (by decide) (t := (.array .byte)) (t' := (.array .int)) (by decide) (by decide)))).ext E47).other W51 (Or.inr (slot_ne (Or.inl (hw _ (List.mem_of_getElem? (i := 58) rfl))) (Or.inl (hw _ (List.mem_of_getElem? (i := 28) rfl))) (by decide) (t := (.array .byte)) (t' := (.array .int)) (by decide) (by decide)))).ext E54).other W58 (Or.inr (slot_ne (Or.inl (hw _ (List.mem_of_getElem? (i := 58) rfl))) (Or.inl (hw _ (List.mem_of_getElem? (i := 30) rfl))) (by decide) (t := (.array .byte)) (t' := (.array .byte)) (by decide) (by decide)))).ext E61).keep kp65 (ninS (Nat.ne_of_lt (Nat.lt_of_lt_of_le (f56.wr W58).lt (Nat.le_of_eq g61.symm))) nin0)).other W69 (Or.inr (slot_ne (Or.inl (hw _ (List.mem_of_getElem? (i := 58) rfl))) (Or.inr (hw _ (List.mem_of_getElem? (i := 56) rfl))) (by decide) (t := (.array .byte)) (t' := (.object "java/util/List")) (by decide) (by decide)))).ext E72)
  obtain ⟨T76, h76, X76, e76, W76, st76⟩ := putF X72 hx hZ hown (host := "") (Or.inl (hw _ (List.mem_of_getElem? (i := 57) rfl))) Via.refl e72 f75 f74 (Or.inl (hw _ (List.mem_of_getElem? (i := 58) rfl))) (hw _ (List.mem_of_getElem? (i := 6) rfl)) (ty := (.array .byte)) (by decide) rfl rfl (g := (mkF m 93 #[.val (.ref ra)] [(.ref b72), (.ref ra)])) rfl rfl (hb hby d2_93)
  have K76 : Keep h0 h76 [ra] := K72.wr W76 (Or.inl (by simp))
  have z76 : n0 ≤ h76.size := Nat.le_trans Z0 K76.1
  have N76 := Fr.snoc X76 N69 g_ra
  have Fw76 := f75.same W76
  have pre77 : ∀ t, Steps p.tables e below (T76.setTop (mkF m 96 #[.val (.ref ra)] [])) t → Steps p.tables e below (s₁.setTop (entryFrame m #[(.ref ra)] 1)) t := fun t k => pre73 t (st76 t k)
  have pre78 : ∀ t, Steps p.tables e below (T76.setTop (mkF m 100 #[.val (.ref ra)] [(.int (1025 : Int32)), (.ref ra)])) t → Steps p.tables e below (s₁.setTop (entryFrame m #[(.ref ra)] 1)) t := by
    intro t k
    refine pre77 t ?_
    refine XS.aloadN X76.here hx rfl (hb hby d2_96) rfl rfl ?_
    show Steps p.tables e below (T76.setTop (mkF m 97 #[.val (.ref ra)] [(.ref ra)])) _
    refine XS.sipush X76.here hx rfl (hb hby d2_97) ?_
    show Steps p.tables e below (T76.setTop (mkF m 100 #[.val (.ref ra)] [(.int (1025 : Int32)), (.ref ra)])) _
    exact k
  obtain ⟨T79, h79, k79, X79, e79, E79, A79, st79⟩ := newP X76 hx hZ (hw _ (List.mem_of_getElem? (i := 0) rfl)) e76 (g := (mkF m 100 #[.val (.ref ra)] [(.int (1025 : Int32)), (.ref ra)])) rfl (hb hby d2_100) rfl (by decide) (cap := 1025) (by decide) (by decide) (by decide) (by decide)
  obtain ⟨b79, g79⟩ : ∃ z, z = h76.size := ⟨_, rfl⟩
  rw [← g79] at A79 st79
  have g_b79 : n0 ≤ b79 := Nat.le_trans z76 (Nat.le_of_eq g79.symm)
  have sz_b79 : h0.size ≤ b79 := Nat.le_trans K76.1 (Nat.le_of_eq g79.symm)
  have K79 : Keep h0 h79 [ra] := K76.ext E79
  have z79 : n0 ≤ h79.size := Nat.le_trans Z0 K79.1
  have X79 : Stand p l e _ s m _ below meth c T79 _ 11 10244 := X79
  have pre80 : ∀ t, Steps p.tables e below (T79.setTop (mkF m 102 #[.val (.ref ra)] [(.ref b79), (.ref ra)])) t → Steps p.tables e below (s₁.setTop (entryFrame m #[(.ref ra)] 1)) t := fun t k => pre78 t (st79 t k)
  have f81 := ((f74.wr W76).ext E79)
  have f82 := ((((((((((((((((((((((F_valueStarts_ra.ext E5).other W9 (Or.inr (slot_ne (Or.inl (hw _ (List.mem_of_getElem? (i := 60) rfl))) (Or.inl (hw _ (List.mem_of_getElem? (i := 16) rfl))) (by decide) (t := (.array .int)) (t' := (.array .byte)) (by decide) (by decide)))).ext E12).other W16 (Or.inr (slot_ne (Or.inl (hw _ (List.mem_of_getElem? (i := 60) rfl))) (Or.inl (hw _ (List.mem_of_getElem? (i := 18) rfl))) (by decide) (t := (.array .int)) (t' := (.array .int)) (by decide) (by decide)))).ext E19).other W23 (Or.inr (slot_ne (Or.inl (hw _ (List.mem_of_getElem? (i := 60) rfl))) (Or.inl (hw _ (List.mem_of_getElem? (i := 20) rfl))) (by decide) (t := (.array .int)) (t' := (.array .int)) (by decide) (by decide)))).ext E26).other W30 (Or.inr (slot_ne (Or.inl (hw _ (List.mem_of_getElem? (i := 60) rfl))) (Or.inl (hw _ (List.mem_of_getElem? (i := 22) rfl))) (by decide) (t := (.array .int)) (t' := (.array .int)) (by decide) (by decide)))).ext E33).other W37 (Or.inr (slot_ne (Or.inl (hw _ (List.mem_of_getElem? (i := 60) rfl))) (Or.inl (hw _ (List.mem_of_getElem? (i := 24) rfl))) (by decide) (t := (.array .int)) (t' := (.array .int)) (by decide) (by decide)))).ext E40).other W44 (Or.inr (slot_ne (Or.inl (hw _ (List.mem_of_getElem? (i := 60) rfl))) (Or.inl (hw _ (List.mem_of_getElem? (i := 26) rfl))) (by decide) (t := (.array .int)) (t' := (.array .int)) (by decide) (by decide)))).ext E47).other W51 (Or.inr (slot_ne (Or.inl (hw _ (List.mem_of_getElem? (i := 60) rfl))) (Or.inl (hw _ (List.mem_of_getElem? (i := 28) rfl))) (by decide) (t := (.array .int)) (t' := (.array .int)) (by decide) (by decide)))).ext E54).other W58 (Or.inr (slot_ne (Or.inl (hw _ (List.mem_of_getElem? (i := 60) rfl))) (Or.inl (hw _ (List.mem_of_getElem? (i := 30) rfl))) (by decide) (t := (.array .int)) (t' := (.array .byte)) (by decide) (by decide)))).ext E61).keep kp65 (ninS (Nat.ne_of_lt (Nat.lt_of_lt_of_le (f56.wr W58).lt (Nat.le_of_eq g61.symm))) nin0)).other W69 (Or.inr (slot_ne (Or.inl (hw _ (List.mem_of_getElem? (i := 60) rfl))) (Or.inr (hw _ (List.mem_of_getElem? (i := 56) rfl))) (by decide) (t := (.array .int)) (t' := (.object "java/util/List")) (by decide) (by decide)))).ext E72).other W76 (Or.inr (slot_ne (Or.inl (hw _ (List.mem_of_getElem? (i := 60) rfl))) (Or.inl (hw _ (List.mem_of_getElem? (i := 58) rfl))) (by decide) (t := (.array .int)) (t' := (.array .byte)) (by decide) (by decide)))).ext E79)
  obtain ⟨T83, h83, X83, e83, W83, st83⟩ := putF X79 hx hZ hown (host := "") (Or.inl (hw _ (List.mem_of_getElem? (i := 59) rfl))) Via.refl e79 f82 f81 (Or.inl (hw _ (List.mem_of_getElem? (i := 60) rfl))) (hw _ (List.mem_of_getElem? (i := 6) rfl)) (ty := (.array .int)) (by decide) rfl rfl (g := (mkF m 102 #[.val (.ref ra)] [(.ref b79), (.ref ra)])) rfl rfl (hb hby d2_102)
  have K83 : Keep h0 h83 [ra] := K79.wr W83 (Or.inl (by simp))
  have z83 : n0 ≤ h83.size := Nat.le_trans Z0 K83.1
  have N83 := Fr.snoc X83 N76 g_ra
  have Fw83 := f82.same W83
  have pre84 : ∀ t, Steps p.tables e below (T83.setTop (mkF m 105 #[.val (.ref ra)] [])) t → Steps p.tables e below (s₁.setTop (entryFrame m #[(.ref ra)] 1)) t := fun t k => pre80 t (st83 t k)
  have pre85 : ∀ t, Steps p.tables e below (T83.setTop (mkF m 107 #[.val (.ref ra)] [(.int (0 : Int32)), (.ref ra)])) t → Steps p.tables e below (s₁.setTop (entryFrame m #[(.ref ra)] 1)) t := by
    intro t k
    refine pre84 t ?_
    refine XS.aloadN X83.here hx rfl (hb hby d2_105) rfl rfl ?_
    show Steps p.tables e below (T83.setTop (mkF m 106 #[.val (.ref ra)] [(.ref ra)])) _
    refine XS.iconst X83.here hx rfl (hb hby d2_106) ?_
    show Steps p.tables e below (T83.setTop (mkF m 107 #[.val (.ref ra)] [(.int (0 : Int32)), (.ref ra)])) _
    exact k
  obtain ⟨T86, h86, k86, X86, e86, E86, A86, st86⟩ := newP X83 hx hZ (hw _ (List.mem_of_getElem? (i := 0) rfl)) e83 (g := (mkF m 107 #[.val (.ref ra)] [(.int (0 : Int32)), (.ref ra)])) rfl (hb hby d2_107) rfl (by decide) (cap := 0) (by decide) (by decide) (by decide) (by decide)
  obtain ⟨b86, g86⟩ : ∃ z, z = h83.size := ⟨_, rfl⟩
  rw [← g86] at A86 st86
  have g_b86 : n0 ≤ b86 := Nat.le_trans z83 (Nat.le_of_eq g86.symm)
  have sz_b86 : h0.size ≤ b86 := Nat.le_trans K83.1 (Nat.le_of_eq g86.symm)
  have K86 : Keep h0 h86 [ra] := K83.ext E86
  have z86 : n0 ≤ h86.size := Nat.le_trans Z0 K86.1
  have V_b86 : Arv Z h86 b86 k86 .int (0 : Int32) [] (.int (0 : Int32)) := (Arv.new A86 (by decide)).pad (pad_rep [] (.int (0 : Int32)) 0)
  have X86 : Stand p l e _ s m _ below meth c T86 _ 12 10244 := X86
  have pre87 : ∀ t, Steps p.tables e below (T86.setTop (mkF m 109 #[.val (.ref ra)] [(.ref b86), (.ref ra)])) t → Steps p.tables e below (s₁.setTop (entryFrame m #[(.ref ra)] 1)) t := fun t k => pre85 t (st86 t k)
  have f88 := ((f81.wr W83).ext E86)
  have f89 := ((((((((((((((((((((((((F_instructions_ra.ext E5).other W9 (Or.inr (slot_ne (Or.inl (hw _ (List.mem_of_getElem? (i := 62) rfl))) (Or.inl (hw _ (List.mem_of_getElem? (i := 16) rfl))) (by decide) (t := (.array .int)) (t' := (.array .byte)) (by decide) (by decide)))).ext E12).other W16 (Or.inr (slot_ne (Or.inl (hw _ (List.mem_of_getElem? (i := 62) rfl))) (Or.inl (hw _ (List.mem_of_getElem? (i := 18) rfl))) (by decide) (t := (.array .int)) (t' := (.array .int)) (by decide) (by decide)))).ext E19).other W23 (Or.inr (slot_ne (Or.inl (hw _ (List.mem_of_getElem? (i := 62) rfl))) (Or.inl (hw _ (List.mem_of_getElem? (i := 20) rfl))) (by decide) (t := (.array .int)) (t' := (.array .int)) (by decide) (by decide)))).ext E26).other W30 (Or.inr (slot_ne (Or.inl (hw _ (List.mem_of_getElem? (i := 62) rfl))) (Or.inl (hw _ (List.mem_of_getElem? (i := 22) rfl))) (by decide) (t := (.array .int)) (t' := (.array .int)) (by decide) (by decide)))).ext E33).other W37 (Or.inr (slot_ne (Or.inl (hw _ (List.mem_of_getElem? (i := 62) rfl))) (Or.inl (hw _ (List.mem_of_getElem? (i := 24) rfl))) (by decide) (t := (.array .int)) (t' := (.array .int)) (by decide) (by decide)))).ext E40).other W44 (Or.inr (slot_ne (Or.inl (hw _ (List.mem_of_getElem? (i := 62) rfl))) (Or.inl (hw _ (List.mem_of_getElem? (i := 26) rfl))) (by decide) (t := (.array .int)) (t' := (.array .int)) (by decide) (by decide)))).ext E47).other W51 (Or.inr (slot_ne (Or.inl (hw _ (List.mem_of_getElem? (i := 62) rfl))) (Or.inl (hw _ (List.mem_of_getElem? (i := 28) rfl))) (by decide) (t := (.array .int)) (t' := (.array .int)) (by decide) (by decide)))).ext E54).other W58 (Or.inr (slot_ne (Or.inl (hw _ (List.mem_of_getElem? (i := 62) rfl))) (Or.inl (hw _ (List.mem_of_getElem? (i := 30) rfl))) (by decide) (t := (.array .int)) (t' := (.array .byte)) (by decide) (by decide)))).ext E61).keep kp65 (ninS (Nat.ne_of_lt (Nat.lt_of_lt_of_le (f56.wr W58).lt (Nat.le_of_eq g61.symm))) nin0)).other W69 (Or.inr (slot_ne (Or.inl (hw _ (List.mem_of_getElem? (i := 62) rfl))) (Or.inr (hw _ (List.mem_of_getElem? (i := 56) rfl))) (by decide) (t := (.array .int)) (t' := (.object "java/util/List")) (by decide) (by decide)))).ext E72).other W76 (Or.inr (slot_ne (Or.inl (hw _ (List.mem_of_getElem? (i := 62) rfl))) (Or.inl (hw _ (List.mem_of_getElem? (i := 58) rfl))) (by decide) (t := (.array .int)) (t' := (.array .byte)) (by decide) (by decide)))).ext E79).other W83 (Or.inr (slot_ne (Or.inl (hw _ (List.mem_of_getElem? (i := 62) rfl))) (Or.inl (hw _ (List.mem_of_getElem? (i := 60) rfl))) (by decide) (t := (.array .int)) (t' := (.array .int)) (by decide) (by decide)))).ext E86)
  obtain ⟨T90, h90, X90, e90, W90, st90⟩ := putF X86 hx hZ hown (host := "") (Or.inl (hw _ (List.mem_of_getElem? (i := 61) rfl))) Via.refl e86 f89 f88 (Or.inl (hw _ (List.mem_of_getElem? (i := 62) rfl))) (hw _ (List.mem_of_getElem? (i := 6) rfl)) (ty := (.array .int)) (by decide) rfl rfl (g := (mkF m 109 #[.val (.ref ra)] [(.ref b86), (.ref ra)])) rfl rfl (hb hby d2_109)
  have K90 : Keep h0 h90 [ra] := K86.wr W90 (Or.inl (by simp))
  have z90 : n0 ≤ h90.size := Nat.le_trans Z0 K90.1
  have N90 := Fr.snoc X90 N83 g_ra
  have Fw90 := f89.same W90
  have pre91 : ∀ t, Steps p.tables e below (T90.setTop (mkF m 112 #[.val (.ref ra)] [])) t → Steps p.tables e below (s₁.setTop (entryFrame m #[(.ref ra)] 1)) t := fun t k => pre87 t (st90 t k)
  have pre92 : ∀ t, Steps p.tables e below (T90.setTop (mkF m 114 #[.val (.ref ra)] [(.int (0 : Int32)), (.ref ra)])) t → Steps p.tables e below (s₁.setTop (entryFrame m #[(.ref ra)] 1)) t := by
    intro t k
    refine pre91 t ?_
    refine XS.aloadN X90.here hx rfl (hb hby d2_112) rfl rfl ?_
    show Steps p.tables e below (T90.setTop (mkF m 113 #[.val (.ref ra)] [(.ref ra)])) _
    refine XS.iconst X90.here hx rfl (hb hby d2_113) ?_
    show Steps p.tables e below (T90.setTop (mkF m 114 #[.val (.ref ra)] [(.int (0 : Int32)), (.ref ra)])) _
    exact k
  obtain ⟨T93, h93, k93, X93, e93, E93, A93, st93⟩ := newP X90 hx hZ (hw _ (List.mem_of_getElem? (i := 0) rfl)) e90 (g := (mkF m 114 #[.val (.ref ra)] [(.int (0 : Int32)), (.ref ra)])) rfl (hb hby d2_114) rfl (by decide) (cap := 0) (by decide) (by decide) (by decide) (by decide)
  obtain ⟨b93, g93⟩ : ∃ z, z = h90.size := ⟨_, rfl⟩
  rw [← g93] at A93 st93
  have g_b93 : n0 ≤ b93 := Nat.le_trans z90 (Nat.le_of_eq g93.symm)
  have sz_b93 : h0.size ≤ b93 := Nat.le_trans K90.1 (Nat.le_of_eq g93.symm)
  have K93 : Keep h0 h93 [ra] := K90.ext E93
  have z93 : n0 ≤ h93.size := Nat.le_trans Z0 K93.1
  have V_b93 : Arv Z h93 b93 k93 .int (0 : Int32) [] (.int (0 : Int32)) := (Arv.new A93 (by decide)).pad (pad_rep [] (.int (0 : Int32)) 0)
  have X93 : Stand p l e _ s m _ below meth c T93 _ 13 10244 := X93
  have pre94 : ∀ t, Steps p.tables e below (T93.setTop (mkF m 116 #[.val (.ref ra)] [(.ref b93), (.ref ra)])) t → Steps p.tables e below (s₁.setTop (entryFrame m #[(.ref ra)] 1)) t := fun t k => pre92 t (st93 t k)
  have f95 := ((f88.wr W90).ext E93)
  have f96 := ((((((((((((((((((((((((((F_instructionData_ra.ext E5).other W9 (Or.inr (slot_ne (Or.inl (hw _ (List.mem_of_getElem? (i := 64) rfl))) (Or.inl (hw _ (List.mem_of_getElem? (i := 16) rfl))) (by decide) (t := (.array .int)) (t' := (.array .byte)) (by decide) (by decide)))).ext E12).other W16 (Or.inr (slot_ne (Or.inl (hw _ (List.mem_of_getElem? (i := 64) rfl))) (Or.inl (hw _ (List.mem_of_getElem? (i := 18) rfl))) (by decide) (t := (.array .int)) (t' := (.array .int)) (by decide) (by decide)))).ext E19).other W23 (Or.inr (slot_ne (Or.inl (hw _ (List.mem_of_getElem? (i := 64) rfl))) (Or.inl (hw _ (List.mem_of_getElem? (i := 20) rfl))) (by decide) (t := (.array .int)) (t' := (.array .int)) (by decide) (by decide)))).ext E26).other W30 (Or.inr (slot_ne (Or.inl (hw _ (List.mem_of_getElem? (i := 64) rfl))) (Or.inl (hw _ (List.mem_of_getElem? (i := 22) rfl))) (by decide) (t := (.array .int)) (t' := (.array .int)) (by decide) (by decide)))).ext E33).other W37 (Or.inr (slot_ne (Or.inl (hw _ (List.mem_of_getElem? (i := 64) rfl))) (Or.inl (hw _ (List.mem_of_getElem? (i := 24) rfl))) (by decide) (t := (.array .int)) (t' := (.array .int)) (by decide) (by decide)))).ext E40).other W44 (Or.inr (slot_ne (Or.inl (hw _ (List.mem_of_getElem? (i := 64) rfl))) (Or.inl (hw _ (List.mem_of_getElem? (i := 26) rfl))) (by decide) (t := (.array .int)) (t' := (.array .int)) (by decide) (by decide)))).ext E47).other W51 (Or.inr (slot_ne (Or.inl (hw _ (List.mem_of_getElem? (i := 64) rfl))) (Or.inl (hw _ (List.mem_of_getElem? (i := 28) rfl))) (by decide) (t := (.array .int)) (t' := (.array .int)) (by decide) (by decide)))).ext E54).other W58 (Or.inr (slot_ne (Or.inl (hw _ (List.mem_of_getElem? (i := 64) rfl))) (Or.inl (hw _ (List.mem_of_getElem? (i := 30) rfl))) (by decide) (t := (.array .int)) (t' := (.array .byte)) (by decide) (by decide)))).ext E61).keep kp65 (ninS (Nat.ne_of_lt (Nat.lt_of_lt_of_le (f56.wr W58).lt (Nat.le_of_eq g61.symm))) nin0)).other W69 (Or.inr (slot_ne (Or.inl (hw _ (List.mem_of_getElem? (i := 64) rfl))) (Or.inr (hw _ (List.mem_of_getElem? (i := 56) rfl))) (by decide) (t := (.array .int)) (t' := (.object "java/util/List")) (by decide) (by decide)))).ext E72).other W76 (Or.inr (slot_ne (Or.inl (hw _ (List.mem_of_getElem? (i := 64) rfl))) (Or.inl (hw _ (List.mem_of_getElem? (i := 58) rfl))) (by decide) (t := (.array .int)) (t' := (.array .byte)) (by decide) (by decide)))).ext E79).other W83 (Or.inr (slot_ne (Or.inl (hw _ (List.mem_of_getElem? (i := 64) rfl))) (Or.inl (hw _ (List.mem_of_getElem? (i := 60) rfl))) (by decide) (t := (.array .int)) (t' := (.array .int)) (by decide) (by decide)))).ext E86).other W90 (Or.inr (slot_ne (Or.inl (hw _ (List.mem_of_getElem? (i := 64) rfl))) (Or.inl (hw _ (List.mem_of_getElem? (i := 62) rfl))) (by decide) (t := (.array .int)) (t' := (.array .int)) (by decide) (by decide)))).ext E93)
  obtain ⟨T97, h97, X97, e97, W97, st97⟩ := putF X93 hx hZ hown (host := "") (Or.inl (hw _ (List.mem_of_getElem? (i := 63) rfl))) Via.refl e93 f96 f95 (Or.inl (hw _ (List.mem_of_getElem? (i := 64) rfl))) (hw _ (List.mem_of_getElem? (i := 6) rfl)) (ty := (.array .int)) (by decide) rfl rfl (g := (mkF m 116 #[.val (.ref ra)] [(.ref b93), (.ref ra)])) rfl rfl (hb hby d2_116)
  have K97 : Keep h0 h97 [ra] := K93.wr W97 (Or.inl (by simp))
  have z97 : n0 ≤ h97.size := Nat.le_trans Z0 K97.1
  have N97 := Fr.snoc X97 N90 g_ra
  have Fw97 := f96.same W97
  have pre98 : ∀ t, Steps p.tables e below (T97.setTop (mkF m 119 #[.val (.ref ra)] [])) t → Steps p.tables e below (s₁.setTop (entryFrame m #[(.ref ra)] 1)) t := fun t k => pre94 t (st97 t k)
  obtain ⟨fs, hr, hrun, hended, hW, hsame⟩ := X97.leave (v := none) (fun _ => rfl)
  refine ⟨_, _, pre98 _ ?_, hrun, hended, _, _, rfl, ?_, ⟨_, rfl⟩, hW, hsame.mono (by decide) (by decide)⟩
  · exact X97.returnOut hx Bd.returns (hb hby d2_119) hr
  · show Q_rm_parts Z ra wl h0 n0 _ T97.heap _
    rw [e97]
    exact ⟨b5, b12, b19, b26, b33, b40, b47, b54, b61, b72, b79, b86, b93, rfl, N97, K97, (f95.wr W97), (((((((((((((((((((((((((Fw9.ext E12).other W16 (Or.inr (slot_ne (Or.inl (hw _ (List.mem_of_getElem? (i := 16) rfl))) (Or.inl (hw _ (List.mem_of_getElem? (i := 18) rfl))) (by decide) (t := (.array .byte)) (t' := (.array .int)) (by decide) (by decide)))).ext E19).other W23 (Or.inr (slot_ne (Or.inl (hw _ (List.mem_of_getElem? (i := 16) rfl))) (Or.inl (hw _ (List.mem_of_getElem? (i := 20) rfl))) (by decide) (t := (.array .byte)) (t' := (.array .int)) (by decide) (by decide)))).ext E26).other W30 (Or.inr (slot_ne (Or.inl (hw _ (List.mem_of_getElem? (i := 16) rfl))) (Or.inl (hw _ (List.mem_of_getElem? (i := 22) rfl))) (by decide) (t := (.array .byte)) (t' := (.array .int)) (by decide) (by decide)))).ext E33).other W37 (Or.inr (slot_ne (Or.inl (hw _ (List.mem_of_getElem? (i := 16) rfl))) (Or.inl (hw _ (List.mem_of_getElem? (i := 24) rfl))) (by decide) (t := (.array .byte)) (t' := (.array .int)) (by decide) (by decide)))).ext E40).other W44 (Or.inr (slot_ne (Or.inl (hw _ (List.mem_of_getElem? (i := 16) rfl))) (Or.inl (hw _ (List.mem_of_getElem? (i := 26) rfl))) (by decide) (t := (.array .byte)) (t' := (.array .int)) (by decide) (by decide)))).ext E47).other W51 (Or.inr (slot_ne (Or.inl (hw _ (List.mem_of_getElem? (i := 16) rfl))) (Or.inl (hw _ (List.mem_of_getElem? (i := 28) rfl))) (by decide) (t := (.array .byte)) (t' := (.array .int)) (by decide) (by decide)))).ext E54).other W58 (Or.inr (slot_ne (Or.inl (hw _ (List.mem_of_getElem? (i := 16) rfl))) (Or.inl (hw _ (List.mem_of_getElem? (i := 30) rfl))) (by decide) (t := (.array .byte)) (t' := (.array .byte)) (by decide) (by decide)))).ext E61).keep kp65 (ninS (Nat.ne_of_lt (Nat.lt_of_lt_of_le (f56.wr W58).lt (Nat.le_of_eq g61.symm))) nin0)).other W69 (Or.inr (slot_ne (Or.inl (hw _ (List.mem_of_getElem? (i := 16) rfl))) (Or.inr (hw _ (List.mem_of_getElem? (i := 56) rfl))) (by decide) (t := (.array .byte)) (t' := (.object "java/util/List")) (by decide) (by decide)))).ext E72).other W76 (Or.inr (slot_ne (Or.inl (hw _ (List.mem_of_getElem? (i := 16) rfl))) (Or.inl (hw _ (List.mem_of_getElem? (i := 58) rfl))) (by decide) (t := (.array .byte)) (t' := (.array .byte)) (by decide) (by decide)))).ext E79).other W83 (Or.inr (slot_ne (Or.inl (hw _ (List.mem_of_getElem? (i := 16) rfl))) (Or.inl (hw _ (List.mem_of_getElem? (i := 60) rfl))) (by decide) (t := (.array .byte)) (t' := (.array .int)) (by decide) (by decide)))).ext E86).other W90 (Or.inr (slot_ne (Or.inl (hw _ (List.mem_of_getElem? (i := 16) rfl))) (Or.inl (hw _ (List.mem_of_getElem? (i := 62) rfl))) (by decide) (t := (.array .byte)) (t' := (.array .int)) (by decide) (by decide)))).ext E93).other W97 (Or.inr (slot_ne (Or.inl (hw _ (List.mem_of_getElem? (i := 16) rfl))) (Or.inl (hw _ (List.mem_of_getElem? (i := 64) rfl))) (by decide) (t := (.array .byte)) (t' := (.array .int)) (by decide) (by decide)))), (((((((((((((((((((((((Fw16.ext E19).other W23 (Or.inr (slot_ne (Or.inl (hw _ (List.mem_of_getElem? (i := 18) rfl))) (Or.inl (hw _ (List.mem_of_getElem? (i := 20) rfl))) (by decide) (t := (.array .int)) (t' := (.array .int)) (by decide) (by decide)))).ext E26).other W30 (Or.inr (slot_ne (Or.inl (hw _ (List.mem_of_getElem? (i := 18) rfl))) (Or.inl (hw _ (List.mem_of_getElem? (i := 22) rfl))) (by decide) (t := (.array .int)) (t' := (.array .int)) (by decide) (by decide)))).ext E33).other W37 (Or.inr (slot_ne (Or.inl (hw _ (List.mem_of_getElem? (i := 18) rfl))) (Or.inl (hw _ (List.mem_of_getElem? (i := 24) rfl))) (by decide) (t := (.array .int)) (t' := (.array .int)) (by decide) (by decide)))).ext E40).other W44 (Or.inr (slot_ne (Or.inl (hw _ (List.mem_of_getElem? (i := 18) rfl))) (Or.inl (hw _ (List.mem_of_getElem? (i := 26) rfl))) (by decide) (t := (.array .int)) (t' := (.array .int)) (by decide) (by decide)))).ext E47).other W51 (Or.inr (slot_ne (Or.inl (hw _ (List.mem_of_getElem? (i := 18) rfl))) (Or.inl (hw _ (List.mem_of_getElem? (i := 28) rfl))) (by decide) (t := (.array .int)) (t' := (.array .int)) (by decide) (by decide)))).ext E54).other W58 (Or.inr (slot_ne (Or.inl (hw _ (List.mem_of_getElem? (i := 18) rfl))) (Or.inl (hw _ (List.mem_of_getElem? (i := 30) rfl))) (by decide) (t := (.array .int)) (t' := (.array .byte)) (by decide) (by decide)))).ext E61).keep kp65 (ninS (Nat.ne_of_lt (Nat.lt_of_lt_of_le (f56.wr W58).lt (Nat.le_of_eq g61.symm))) nin0)).other W69 (Or.inr (slot_ne (Or.inl (hw _ (List.mem_of_getElem? (i := 18) rfl))) (Or.inr (hw _ (List.mem_of_getElem? (i := 56) rfl))) (by decide) (t := (.array .int)) (t' := (.object "java/util/List")) (by decide) (by decide)))).ext E72).other W76 (Or.inr (slot_ne (Or.inl (hw _ (List.mem_of_getElem? (i := 18) rfl))) (Or.inl (hw _ (List.mem_of_getElem? (i := 58) rfl))) (by decide) (t := (.array .int)) (t' := (.array .byte)) (by decide) (by decide)))).ext E79).other W83 (Or.inr (slot_ne (Or.inl (hw _ (List.mem_of_getElem? (i := 18) rfl))) (Or.inl (hw _ (List.mem_of_getElem? (i := 60) rfl))) (by decide) (t := (.array .int)) (t' := (.array .int)) (by decide) (by decide)))).ext E86).other W90 (Or.inr (slot_ne (Or.inl (hw _ (List.mem_of_getElem? (i := 18) rfl))) (Or.inl (hw _ (List.mem_of_getElem? (i := 62) rfl))) (by decide) (t := (.array .int)) (t' := (.array .int)) (by decide) (by decide)))).ext E93).other W97 (Or.inr (slot_ne (Or.inl (hw _ (List.mem_of_getElem? (i := 18) rfl))) (Or.inl (hw _ (List.mem_of_getElem? (i := 64) rfl))) (by decide) (t := (.array .int)) (t' := (.array .int)) (by decide) (by decide)))), (((((((((((((((((((((Fw23.ext E26).other W30 (Or.inr (slot_ne (Or.inl (hw _ (List.mem_of_getElem? (i := 20) rfl))) (Or.inl (hw _ (List.mem_of_getElem? (i := 22) rfl))) (by decide) (t := (.array .int)) (t' := (.array .int)) (by decide) (by decide)))).ext E33).other W37 (Or.inr (slot_ne (Or.inl (hw _ (List.mem_of_getElem? (i := 20) rfl))) (Or.inl (hw _ (List.mem_of_getElem? (i := 24) rfl))) (by decide) (t := (.array .int)) (t' := (.array .int)) (by decide) (by decide)))).ext E40).other W44 (Or.inr (slot_ne (Or.inl (hw _ (List.mem_of_getElem? (i := 20) rfl))) (Or.inl (hw _ (List.mem_of_getElem? (i := 26) rfl))) (by decide) (t := (.array .int)) (t' := (.array .int)) (by decide) (by decide)))).ext E47).other W51 (Or.inr (slot_ne (Or.inl (hw _ (List.mem_of_getElem? (i := 20) rfl))) (Or.inl (hw _ (List.mem_of_getElem? (i := 28) rfl))) (by decide) (t := (.array .int)) (t' := (.array .int)) (by decide) (by decide)))).ext E54).other W58 (Or.inr (slot_ne (Or.inl (hw _ (List.mem_of_getElem? (i := 20) rfl))) (Or.inl (hw _ (List.mem_of_getElem? (i := 30) rfl))) (by decide) (t := (.array .int)) (t' := (.array .byte)) (by decide) (by decide)))).ext E61).keep kp65 (ninS (Nat.ne_of_lt (Nat.lt_of_lt_of_le (f56.wr W58).lt (Nat.le_of_eq g61.symm))) nin0)).other W69 (Or.inr (slot_ne (Or.inl (hw _ (List.mem_of_getElem? (i := 20) rfl))) (Or.inr (hw _ (List.mem_of_getElem? (i := 56) rfl))) (by decide) (t := (.array .int)) (t' := (.object "java/util/List")) (by decide) (by decide)))).ext E72).other W76 (Or.inr (slot_ne (Or.inl (hw _ (List.mem_of_getElem? (i := 20) rfl))) (Or.inl (hw _ (List.mem_of_getElem? (i := 58) rfl))) (by decide) (t := (.array .int)) (t' := (.array .byte)) (by decide) (by decide)))).ext E79).other W83 (Or.inr (slot_ne (Or.inl (hw _ (List.mem_of_getElem? (i := 20) rfl))) (Or.inl (hw _ (List.mem_of_getElem? (i := 60) rfl))) (by decide) (t := (.array .int)) (t' := (.array .int)) (by decide) (by decide)))).ext E86).other W90 (Or.inr (slot_ne (Or.inl (hw _ (List.mem_of_getElem? (i := 20) rfl))) (Or.inl (hw _ (List.mem_of_getElem? (i := 62) rfl))) (by decide) (t := (.array .int)) (t' := (.array .int)) (by decide) (by decide)))).ext E93).other W97 (Or.inr (slot_ne (Or.inl (hw _ (List.mem_of_getElem? (i := 20) rfl))) (Or.inl (hw _ (List.mem_of_getElem? (i := 64) rfl))) (by decide) (t := (.array .int)) (t' := (.array .int)) (by decide) (by decide)))), (((((((((((((((((((Fw30.ext E33).other W37 (Or.inr (slot_ne (Or.inl (hw _ (List.mem_of_getElem? (i := 22) rfl))) (Or.inl (hw _ (List.mem_of_getElem? (i := 24) rfl))) (by decide) (t := (.array .int)) (t' := (.array .int)) (by decide) (by decide)))).ext E40).other W44 (Or.inr (slot_ne (Or.inl (hw _ (List.mem_of_getElem? (i := 22) rfl))) (Or.inl (hw _ (List.mem_of_getElem? (i := 26) rfl))) (by decide) (t := (.array .int)) (t' := (.array .int)) (by decide) (by decide)))).ext E47).other W51 (Or.inr (slot_ne (Or.inl (hw _ (List.mem_of_getElem? (i := 22) rfl))) (Or.inl (hw _ (List.mem_of_getElem? (i := 28) rfl))) (by decide) (t := (.array .int)) (t' := (.array .int)) (by decide) (by decide)))).ext E54).other W58 (Or.inr (slot_ne (Or.inl (hw _ (List.mem_of_getElem? (i := 22) rfl))) (Or.inl (hw _ (List.mem_of_getElem? (i := 30) rfl))) (by decide) (t := (.array .int)) (t' := (.array .byte)) (by decide) (by decide)))).ext E61).keep kp65 (ninS (Nat.ne_of_lt (Nat.lt_of_lt_of_le (f56.wr W58).lt (Nat.le_of_eq g61.symm))) nin0)).other W69 (Or.inr (slot_ne (Or.inl (hw _ (List.mem_of_getElem? (i := 22) rfl))) (Or.inr (hw _ (List.mem_of_getElem? (i := 56) rfl))) (by decide) (t := (.array .int)) (t' := (.object "java/util/List")) (by decide) (by decide)))).ext E72).other W76 (Or.inr (slot_ne (Or.inl (hw _ (List.mem_of_getElem? (i := 22) rfl))) (Or.inl (hw _ (List.mem_of_getElem? (i := 58) rfl))) (by decide) (t := (.array .int)) (t' := (.array .byte)) (by decide) (by decide)))).ext E79).other W83 (Or.inr (slot_ne (Or.inl (hw _ (List.mem_of_getElem? (i := 22) rfl))) (Or.inl (hw _ (List.mem_of_getElem? (i := 60) rfl))) (by decide) (t := (.array .int)) (t' := (.array .int)) (by decide) (by decide)))).ext E86).other W90 (Or.inr (slot_ne (Or.inl (hw _ (List.mem_of_getElem? (i := 22) rfl))) (Or.inl (hw _ (List.mem_of_getElem? (i := 62) rfl))) (by decide) (t := (.array .int)) (t' := (.array .int)) (by decide) (by decide)))).ext E93).other W97 (Or.inr (slot_ne (Or.inl (hw _ (List.mem_of_getElem? (i := 22) rfl))) (Or.inl (hw _ (List.mem_of_getElem? (i := 64) rfl))) (by decide) (t := (.array .int)) (t' := (.array .int)) (by decide) (by decide)))), (((((((((((((((((Fw37.ext E40).other W44 (Or.inr (slot_ne (Or.inl (hw _ (List.mem_of_getElem? (i := 24) rfl))) (Or.inl (hw _ (List.mem_of_getElem? (i := 26) rfl))) (by decide) (t := (.array .int)) (t' := (.array .int)) (by decide) (by decide)))).ext E47).other W51 (Or.inr (slot_ne (Or.inl (hw _ (List.mem_of_getElem? (i := 24) rfl))) (Or.inl (hw _ (List.mem_of_getElem? (i := 28) rfl))) (by decide) (t := (.array .int)) (t' := (.array .int)) (by decide) (by decide)))).ext E54).other W58 (Or.inr (slot_ne (Or.inl (hw _ (List.mem_of_getElem? (i := 24) rfl))) (Or.inl (hw _ (List.mem_of_getElem? (i := 30) rfl))) (by decide) (t := (.array .int)) (t' := (.array .byte)) (by decide) (by decide)))).ext E61).keep kp65 (ninS (Nat.ne_of_lt (Nat.lt_of_lt_of_le (f56.wr W58).lt (Nat.le_of_eq g61.symm))) nin0)).other W69 (Or.inr (slot_ne (Or.inl (hw _ (List.mem_of_getElem? (i := 24) rfl))) (Or.inr (hw _ (List.mem_of_getElem? (i := 56) rfl))) (by decide) (t := (.array .int)) (t' := (.object "java/util/List")) (by decide) (by decide)))).ext E72).other W76 (Or.inr (slot_ne (Or.inl (hw _ (List.mem_of_getElem? (i := 24) rfl))) (Or.inl (hw _ (List.mem_of_getElem? (i := 58) rfl))) (by decide) (t := (.array .int)) (t' := (.array .byte)) (by decide) (by decide)))).ext E79).other W83 (Or.inr (slot_ne (Or.inl (hw _ (List.mem_of_getElem? (i := 24) rfl))) (Or.inl (hw _ (List.mem_of_getElem? (i := 60) rfl))) (by decide) (t := (.array .int)) (t' := (.array .int)) (by decide) (by decide)))).ext E86).other W90 (Or.inr (slot_ne (Or.inl (hw _ (List.mem_of_getElem? (i := 24) rfl))) (Or.inl (hw _ (List.mem_of_getElem? (i := 62) rfl))) (by decide) (t := (.array .int)) (t' := (.array .int)) (by decide) (by decide)))).ext E93).other W97 (Or.inr (slot_ne (Or.inl (hw _ (List.mem_of_getElem? (i := 24) rfl))) (Or.inl (hw _ (List.mem_of_getElem? (i := 64) rfl))) (by decide) (t := (.array .int)) (t' := (.array .int)) (by decide) (by decide)))), (((((((((((((((Fw44.ext E47).other W51 (Or.inr (slot_ne (Or.inl (hw _ (List.mem_of_getElem? (i := 26) rfl))) (Or.inl (hw _ (List.mem_of_getElem? (i := 28) rfl))) (by decide) (t := (.array .int)) (t' := (.array .int)) (by decide) (by decide)))).ext E54).other W58 (Or.inr (slot_ne (Or.inl (hw _ (List.mem_of_getElem? (i := 26) rfl))) (Or.inl (hw _ (List.mem_of_getElem? (i := 30) rfl))) (by decide) (t := (.array .int)) (t' := (.array .byte)) (by decide) (by decide)))).ext E61).keep kp65 (ninS (Nat.ne_of_lt (Nat.lt_of_lt_of_le (f56.wr W58).lt (Nat.le_of_eq g61.symm))) nin0)).other W69 (Or.inr (slot_ne (Or.inl (hw _ (List.mem_of_getElem? (i := 26) rfl))) (Or.inr (hw _ (List.mem_of_getElem? (i := 56) rfl))) (by decide) (t := (.array .int)) (t' := (.object "java/util/List")) (by decide) (by decide)))).ext E72).other W76 (Or.inr (slot_ne (Or.inl (hw _ (List.mem_of_getElem? (i := 26) rfl))) (Or.inl (hw _ (List.mem_of_getElem? (i := 58) rfl))) (by decide) (t := (.array .int)) (t' := (.array .byte)) (by decide) (by decide)))).ext E79).other W83 (Or.inr (slot_ne (Or.inl (hw _ (List.mem_of_getElem? (i := 26) rfl))) (Or.inl (hw _ (List.mem_of_getElem? (i := 60) rfl))) (by decide) (t := (.array .int)) (t' := (.array .int)) (by decide) (by decide)))).ext E86).other W90 (Or.inr (slot_ne (Or.inl (hw _ (List.mem_of_getElem? (i := 26) rfl))) (Or.inl (hw _ (List.mem_of_getElem? (i := 62) rfl))) (by decide) (t := (.array .int)) (t' := (.array .int)) (by decide) (by decide)))).ext E93).other W97 (Or.inr (slot_ne (Or.inl (hw _ (List.mem_of_getElem? (i := 26) rfl))) (Or.inl (hw _ (List.mem_of_getElem? (i := 64) rfl))) (by decide) (t := (.array .int)) (t' := (.array .int)) (by decide) (by decide)))), (((((((((((((Fw51.ext E54).other W58 (Or.inr (slot_ne (Or.inl (hw _ (List.mem_of_getElem? (i := 28) rfl))) (Or.inl (hw _ (List.mem_of_getElem? (i := 30) rfl))) (by decide) (t := (.array .int)) (t' := (.array .byte)) (by decide) (by decide)))).ext E61).keep kp65 (ninS (Nat.ne_of_lt (Nat.lt_of_lt_of_le (f56.wr W58).lt (Nat.le_of_eq g61.symm))) nin0)).other W69 (Or.inr (slot_ne (Or.inl (hw _ (List.mem_of_getElem? (i := 28) rfl))) (Or.inr (hw _ (List.mem_of_getElem? (i := 56) rfl))) (by decide) (t := (.array .int)) (t' := (.object "java/util/List")) (by decide) (by decide)))).ext E72).other W76 (Or.inr (slot_ne (Or.inl (hw _ (List.mem_of_getElem? (i := 28) rfl))) (Or.inl (hw _ (List.mem_of_getElem? (i := 58) rfl))) (by decide) (t := (.array .int)) (t' := (.array .byte)) (by decide) (by decide)))).ext E79).other W83 (Or.inr (slot_ne (Or.inl (hw _ (List.mem_of_getElem? (i := 28) rfl))) (Or.inl (hw _ (List.mem_of_getElem? (i := 60) rfl))) (by decide) (t := (.array .int)) (t' := (.array .int)) (by decide) (by decide)))).ext E86).other W90 (Or.inr (slot_ne (Or.inl (hw _ (List.mem_of_getElem? (i := 28) rfl))) (Or.inl (hw _ (List.mem_of_getElem? (i := 62) rfl))) (by decide) (t := (.array .int)) (t' := (.array .int)) (by decide) (by decide)))).ext E93).other W97 (Or.inr (slot_ne (Or.inl (hw _ (List.mem_of_getElem? (i := 28) rfl))) (Or.inl (hw _ (List.mem_of_getElem? (i := 64) rfl))) (by decide) (t := (.array .int)) (t' := (.array .int)) (by decide) (by decide)))), (((((((((((Fw58.ext E61).keep kp65 (ninS (Nat.ne_of_lt (Nat.lt_of_lt_of_le (f56.wr W58).lt (Nat.le_of_eq g61.symm))) nin0)).other W69 (Or.inr (slot_ne (Or.inl (hw _ (List.mem_of_getElem? (i := 30) rfl))) (Or.inr (hw _ (List.mem_of_getElem? (i := 56) rfl))) (by decide) (t := (.array .byte)) (t' := (.object "java/util/List")) (by decide) (by decide)))).ext E72).other W76 (Or.inr (slot_ne (Or.inl (hw _ (List.mem_of_getElem? (i := 30) rfl))) (Or.inl (hw _ (List.mem_of_getElem? (i := 58) rfl))) (by decide) (t := (.array .byte)) (t' := (.array .byte)) (by decide) (by decide)))).ext E79).other W83 (Or.inr (slot_ne (Or.inl (hw _ (List.mem_of_getElem? (i := 30) rfl))) (Or.inl (hw _ (List.mem_of_getElem? (i := 60) rfl))) (by decide) (t := (.array .byte)) (t' := (.array .int)) (by decide) (by decide)))).ext E86).other W90 (Or.inr (slot_ne (Or.inl (hw _ (List.mem_of_getElem? (i := 30) rfl))) (Or.inl (hw _ (List.mem_of_getElem? (i := 62) rfl))) (by decide) (t := (.array .byte)) (t' := (.array .int)) (by decide) (by decide)))).ext E93).other W97 (Or.inr (slot_ne (Or.inl (hw _ (List.mem_of_getElem? (i := 30) rfl))) (Or.inl (hw _ (List.mem_of_getElem? (i := 64) rfl))) (by decide) (t := (.array .byte)) (t' := (.array .int)) (by decide) (by decide)))), ((((((((Fw69.ext E72).other W76 (Or.inr (slot_ne (Or.inr (hw _ (List.mem_of_getElem? (i := 56) rfl))) (Or.inl (hw _ (List.mem_of_getElem? (i := 58) rfl))) (by decide) (t := (.object "java/util/List")) (t' := (.array .byte)) (by decide) (by decide)))).ext E79).other W83 (Or.inr (slot_ne (Or.inr (hw _ (List.mem_of_getElem? (i := 56) rfl))) (Or.inl (hw _ (List.mem_of_getElem? (i := 60) rfl))) (by decide) (t := (.object "java/util/List")) (t' := (.array .int)) (by decide) (by decide)))).ext E86).other W90 (Or.inr (slot_ne (Or.inr (hw _ (List.mem_of_getElem? (i := 56) rfl))) (Or.inl (hw _ (List.mem_of_getElem? (i := 62) rfl))) (by decide) (t := (.object "java/util/List")) (t' := (.array .int)) (by decide) (by decide)))).ext E93).other W97 (Or.inr (slot_ne (Or.inr (hw _ (List.mem_of_getElem? (i := 56) rfl))) (Or.inl (hw _ (List.mem_of_getElem? (i := 64) rfl))) (by decide) (t := (.object "java/util/List")) (t' := (.array .int)) (by decide) (by decide)))), ((((((Fw76.ext E79).other W83 (Or.inr (slot_ne (Or.inl (hw _ (List.mem_of_getElem? (i := 58) rfl))) (Or.inl (hw _ (List.mem_of_getElem? (i := 60) rfl))) (by decide) (t := (.array .byte)) (t' := (.array .int)) (by decide) (by decide)))).ext E86).other W90 (Or.inr (slot_ne (Or.inl (hw _ (List.mem_of_getElem? (i := 58) rfl))) (Or.inl (hw _ (List.mem_of_getElem? (i := 62) rfl))) (by decide) (t := (.array .byte)) (t' := (.array .int)) (by decide) (by decide)))).ext E93).other W97 (Or.inr (slot_ne (Or.inl (hw _ (List.mem_of_getElem? (i := 58) rfl))) (Or.inl (hw _ (List.mem_of_getElem? (i := 64) rfl))) (by decide) (t := (.array .byte)) (t' := (.array .int)) (by decide) (by decide)))), ((((Fw83.ext E86).other W90 (Or.inr (slot_ne (Or.inl (hw _ (List.mem_of_getElem? (i := 60) rfl))) (Or.inl (hw _ (List.mem_of_getElem? (i := 62) rfl))) (by decide) (t := (.array .int)) (t' := (.array .int)) (by decide) (by decide)))).ext E93).other W97 (Or.inr (slot_ne (Or.inl (hw _ (List.mem_of_getElem? (i := 60) rfl))) (Or.inl (hw _ (List.mem_of_getElem? (i := 64) rfl))) (by decide) (t := (.array .int)) (t' := (.array .int)) (by decide) (by decide)))), ((Fw90.ext E93).other W97 (Or.inr (slot_ne (Or.inl (hw _ (List.mem_of_getElem? (i := 62) rfl))) (Or.inl (hw _ (List.mem_of_getElem? (i := 64) rfl))) (by decide) (t := (.array .int)) (t' := (.array .int)) (by decide) (by decide)))), Fw97, (((((((((((((((((((((((((((F_nodeCount_ra.ext E5).other W9 (Or.inr (slot_ne (Or.inl (hw _ (List.mem_of_getElem? (i := 67) rfl))) (Or.inl (hw _ (List.mem_of_getElem? (i := 16) rfl))) (by decide) (t := .int) (t' := (.array .byte)) (by decide) (by decide)))).ext E12).other W16 (Or.inr (slot_ne (Or.inl (hw _ (List.mem_of_getElem? (i := 67) rfl))) (Or.inl (hw _ (List.mem_of_getElem? (i := 18) rfl))) (by decide) (t := .int) (t' := (.array .int)) (by decide) (by decide)))).ext E19).other W23 (Or.inr (slot_ne (Or.inl (hw _ (List.mem_of_getElem? (i := 67) rfl))) (Or.inl (hw _ (List.mem_of_getElem? (i := 20) rfl))) (by decide) (t := .int) (t' := (.array .int)) (by decide) (by decide)))).ext E26).other W30 (Or.inr (slot_ne (Or.inl (hw _ (List.mem_of_getElem? (i := 67) rfl))) (Or.inl (hw _ (List.mem_of_getElem? (i := 22) rfl))) (by decide) (t := .int) (t' := (.array .int)) (by decide) (by decide)))).ext E33).other W37 (Or.inr (slot_ne (Or.inl (hw _ (List.mem_of_getElem? (i := 67) rfl))) (Or.inl (hw _ (List.mem_of_getElem? (i := 24) rfl))) (by decide) (t := .int) (t' := (.array .int)) (by decide) (by decide)))).ext E40).other W44 (Or.inr (slot_ne (Or.inl (hw _ (List.mem_of_getElem? (i := 67) rfl))) (Or.inl (hw _ (List.mem_of_getElem? (i := 26) rfl))) (by decide) (t := .int) (t' := (.array .int)) (by decide) (by decide)))).ext E47).other W51 (Or.inr (slot_ne (Or.inl (hw _ (List.mem_of_getElem? (i := 67) rfl))) (Or.inl (hw _ (List.mem_of_getElem? (i := 28) rfl))) (by decide) (t := .int) (t' := (.array .int)) (by decide) (by decide)))).ext E54).other W58 (Or.inr (slot_ne (Or.inl (hw _ (List.mem_of_getElem? (i := 67) rfl))) (Or.inl (hw _ (List.mem_of_getElem? (i := 30) rfl))) (by decide) (t := .int) (t' := (.array .byte)) (by decide) (by decide)))).ext E61).keep kp65 (ninS (Nat.ne_of_lt (Nat.lt_of_lt_of_le (f56.wr W58).lt (Nat.le_of_eq g61.symm))) nin0)).other W69 (Or.inr (slot_ne (Or.inl (hw _ (List.mem_of_getElem? (i := 67) rfl))) (Or.inr (hw _ (List.mem_of_getElem? (i := 56) rfl))) (by decide) (t := .int) (t' := (.object "java/util/List")) (by decide) (by decide)))).ext E72).other W76 (Or.inr (slot_ne (Or.inl (hw _ (List.mem_of_getElem? (i := 67) rfl))) (Or.inl (hw _ (List.mem_of_getElem? (i := 58) rfl))) (by decide) (t := .int) (t' := (.array .byte)) (by decide) (by decide)))).ext E79).other W83 (Or.inr (slot_ne (Or.inl (hw _ (List.mem_of_getElem? (i := 67) rfl))) (Or.inl (hw _ (List.mem_of_getElem? (i := 60) rfl))) (by decide) (t := .int) (t' := (.array .int)) (by decide) (by decide)))).ext E86).other W90 (Or.inr (slot_ne (Or.inl (hw _ (List.mem_of_getElem? (i := 67) rfl))) (Or.inl (hw _ (List.mem_of_getElem? (i := 62) rfl))) (by decide) (t := .int) (t' := (.array .int)) (by decide) (by decide)))).ext E93).other W97 (Or.inr (slot_ne (Or.inl (hw _ (List.mem_of_getElem? (i := 67) rfl))) (Or.inl (hw _ (List.mem_of_getElem? (i := 64) rfl))) (by decide) (t := .int) (t' := (.array .int)) (by decide) (by decide)))), (((((((((((((((((((((((((((F_attributeCount_ra.ext E5).other W9 (Or.inr (slot_ne (Or.inl (hw _ (List.mem_of_getElem? (i := 103) rfl))) (Or.inl (hw _ (List.mem_of_getElem? (i := 16) rfl))) (by decide) (t := .int) (t' := (.array .byte)) (by decide) (by decide)))).ext E12).other W16 (Or.inr (slot_ne (Or.inl (hw _ (List.mem_of_getElem? (i := 103) rfl))) (Or.inl (hw _ (List.mem_of_getElem? (i := 18) rfl))) (by decide) (t := .int) (t' := (.array .int)) (by decide) (by decide)))).ext E19).other W23 (Or.inr (slot_ne (Or.inl (hw _ (List.mem_of_getElem? (i := 103) rfl))) (Or.inl (hw _ (List.mem_of_getElem? (i := 20) rfl))) (by decide) (t := .int) (t' := (.array .int)) (by decide) (by decide)))).ext E26).other W30 (Or.inr (slot_ne (Or.inl (hw _ (List.mem_of_getElem? (i := 103) rfl))) (Or.inl (hw _ (List.mem_of_getElem? (i := 22) rfl))) (by decide) (t := .int) (t' := (.array .int)) (by decide) (by decide)))).ext E33).other W37 (Or.inr (slot_ne (Or.inl (hw _ (List.mem_of_getElem? (i := 103) rfl))) (Or.inl (hw _ (List.mem_of_getElem? (i := 24) rfl))) (by decide) (t := .int) (t' := (.array .int)) (by decide) (by decide)))).ext E40).other W44 (Or.inr (slot_ne (Or.inl (hw _ (List.mem_of_getElem? (i := 103) rfl))) (Or.inl (hw _ (List.mem_of_getElem? (i := 26) rfl))) (by decide) (t := .int) (t' := (.array .int)) (by decide) (by decide)))).ext E47).other W51 (Or.inr (slot_ne (Or.inl (hw _ (List.mem_of_getElem? (i := 103) rfl))) (Or.inl (hw _ (List.mem_of_getElem? (i := 28) rfl))) (by decide) (t := .int) (t' := (.array .int)) (by decide) (by decide)))).ext E54).other W58 (Or.inr (slot_ne (Or.inl (hw _ (List.mem_of_getElem? (i := 103) rfl))) (Or.inl (hw _ (List.mem_of_getElem? (i := 30) rfl))) (by decide) (t := .int) (t' := (.array .byte)) (by decide) (by decide)))).ext E61).keep kp65 (ninS (Nat.ne_of_lt (Nat.lt_of_lt_of_le (f56.wr W58).lt (Nat.le_of_eq g61.symm))) nin0)).other W69 (Or.inr (slot_ne (Or.inl (hw _ (List.mem_of_getElem? (i := 103) rfl))) (Or.inr (hw _ (List.mem_of_getElem? (i := 56) rfl))) (by decide) (t := .int) (t' := (.object "java/util/List")) (by decide) (by decide)))).ext E72).other W76 (Or.inr (slot_ne (Or.inl (hw _ (List.mem_of_getElem? (i := 103) rfl))) (Or.inl (hw _ (List.mem_of_getElem? (i := 58) rfl))) (by decide) (t := .int) (t' := (.array .byte)) (by decide) (by decide)))).ext E79).other W83 (Or.inr (slot_ne (Or.inl (hw _ (List.mem_of_getElem? (i := 103) rfl))) (Or.inl (hw _ (List.mem_of_getElem? (i := 60) rfl))) (by decide) (t := .int) (t' := (.array .int)) (by decide) (by decide)))).ext E86).other W90 (Or.inr (slot_ne (Or.inl (hw _ (List.mem_of_getElem? (i := 103) rfl))) (Or.inl (hw _ (List.mem_of_getElem? (i := 62) rfl))) (by decide) (t := .int) (t' := (.array .int)) (by decide) (by decide)))).ext E93).other W97 (Or.inr (slot_ne (Or.inl (hw _ (List.mem_of_getElem? (i := 103) rfl))) (Or.inl (hw _ (List.mem_of_getElem? (i := 64) rfl))) (by decide) (t := .int) (t' := (.array .int)) (by decide) (by decide)))), (((((((((((((((((((((((((((F_wideText_ra.ext E5).other W9 (Or.inr (slot_ne (Or.inl (hw _ (List.mem_of_getElem? (i := 113) rfl))) (Or.inl (hw _ (List.mem_of_getElem? (i := 16) rfl))) (by decide) (t := (.array .char)) (t' := (.array .byte)) (by decide) (by decide)))).ext E12).other W16 (Or.inr (slot_ne (Or.inl (hw _ (List.mem_of_getElem? (i := 113) rfl))) (Or.inl (hw _ (List.mem_of_getElem? (i := 18) rfl))) (by decide) (t := (.array .char)) (t' := (.array .int)) (by decide) (by decide)))).ext E19).other W23 (Or.inr (slot_ne (Or.inl (hw _ (List.mem_of_getElem? (i := 113) rfl))) (Or.inl (hw _ (List.mem_of_getElem? (i := 20) rfl))) (by decide) (t := (.array .char)) (t' := (.array .int)) (by decide) (by decide)))).ext E26).other W30 (Or.inr (slot_ne (Or.inl (hw _ (List.mem_of_getElem? (i := 113) rfl))) (Or.inl (hw _ (List.mem_of_getElem? (i := 22) rfl))) (by decide) (t := (.array .char)) (t' := (.array .int)) (by decide) (by decide)))).ext E33).other W37 (Or.inr (slot_ne (Or.inl (hw _ (List.mem_of_getElem? (i := 113) rfl))) (Or.inl (hw _ (List.mem_of_getElem? (i := 24) rfl))) (by decide) (t := (.array .char)) (t' := (.array .int)) (by decide) (by decide)))).ext E40).other W44 (Or.inr (slot_ne (Or.inl (hw _ (List.mem_of_getElem? (i := 113) rfl))) (Or.inl (hw _ (List.mem_of_getElem? (i := 26) rfl))) (by decide) (t := (.array .char)) (t' := (.array .int)) (by decide) (by decide)))).ext E47).other W51 (Or.inr (slot_ne (Or.inl (hw _ (List.mem_of_getElem? (i := 113) rfl))) (Or.inl (hw _ (List.mem_of_getElem? (i := 28) rfl))) (by decide) (t := (.array .char)) (t' := (.array .int)) (by decide) (by decide)))).ext E54).other W58 (Or.inr (slot_ne (Or.inl (hw _ (List.mem_of_getElem? (i := 113) rfl))) (Or.inl (hw _ (List.mem_of_getElem? (i := 30) rfl))) (by decide) (t := (.array .char)) (t' := (.array .byte)) (by decide) (by decide)))).ext E61).keep kp65 (ninS (Nat.ne_of_lt (Nat.lt_of_lt_of_le (f56.wr W58).lt (Nat.le_of_eq g61.symm))) nin0)).other W69 (Or.inr (slot_ne (Or.inl (hw _ (List.mem_of_getElem? (i := 113) rfl))) (Or.inr (hw _ (List.mem_of_getElem? (i := 56) rfl))) (by decide) (t := (.array .char)) (t' := (.object "java/util/List")) (by decide) (by decide)))).ext E72).other W76 (Or.inr (slot_ne (Or.inl (hw _ (List.mem_of_getElem? (i := 113) rfl))) (Or.inl (hw _ (List.mem_of_getElem? (i := 58) rfl))) (by decide) (t := (.array .char)) (t' := (.array .byte)) (by decide) (by decide)))).ext E79).other W83 (Or.inr (slot_ne (Or.inl (hw _ (List.mem_of_getElem? (i := 113) rfl))) (Or.inl (hw _ (List.mem_of_getElem? (i := 60) rfl))) (by decide) (t := (.array .char)) (t' := (.array .int)) (by decide) (by decide)))).ext E86).other W90 (Or.inr (slot_ne (Or.inl (hw _ (List.mem_of_getElem? (i := 113) rfl))) (Or.inl (hw _ (List.mem_of_getElem? (i := 62) rfl))) (by decide) (t := (.array .char)) (t' := (.array .int)) (by decide) (by decide)))).ext E93).other W97 (Or.inr (slot_ne (Or.inl (hw _ (List.mem_of_getElem? (i := 113) rfl))) (Or.inl (hw _ (List.mem_of_getElem? (i := 64) rfl))) (by decide) (t := (.array .char)) (t' := (.array .int)) (by decide) (by decide))))⟩
theorem d7_0 : decode prog_30_method_1_code 0 = .ok (.aload_n 0, 1) := by decide +kernel
theorem d7_1 : decode prog_30_method_1_code 1 = .ok (.invokespecial 1, 3) := by decide +kernel
theorem d7_4 : decode prog_30_method_1_code 4 = .ok (.aload_n 0, 1) := by decide +kernel
theorem d7_5 : decode prog_30_method_1_code 5 = .ok (.aload_n 1, 1) := by decide +kernel
theorem d7_6 : decode prog_30_method_1_code 6 = .ok (.getfield 7, 3) := by decide +kernel
theorem d7_9 : decode prog_30_method_1_code 9 = .ok (.putfield 13, 3) := by decide +kernel
theorem d7_12 : decode prog_30_method_1_code 12 = .ok (.aload_n 0, 1) := by decide +kernel
theorem d7_13 : decode prog_30_method_1_code 13 = .ok (.aload_n 1, 1) := by decide +kernel
theorem d7_14 : decode prog_30_method_1_code 14 = .ok (.getfield 16, 3) := by decide +kernel
theorem d7_17 : decode prog_30_method_1_code 17 = .ok (.putfield 20, 3) := by decide +kernel
theorem d7_20 : decode prog_30_method_1_code 20 = .ok (.aload_n 0, 1) := by decide +kernel
theorem d7_21 : decode prog_30_method_1_code 21 = .ok (.aload_n 1, 1) := by decide +kernel
theorem d7_22 : decode prog_30_method_1_code 22 = .ok (.getfield 21, 3) := by decide +kernel
theorem d7_25 : decode prog_30_method_1_code 25 = .ok (.putfield 24, 3) := by decide +kernel
theorem d7_28 : decode prog_30_method_1_code 28 = .ok (.aload_n 0, 1) := by decide +kernel
theorem d7_29 : decode prog_30_method_1_code 29 = .ok (.aload_n 1, 1) := by decide +kernel
theorem d7_30 : decode prog_30_method_1_code 30 = .ok (.getfield 25, 3) := by decide +kernel
theorem d7_33 : decode prog_30_method_1_code 33 = .ok (.putfield 28, 3) := by decide +kernel
theorem d7_36 : decode prog_30_method_1_code 36 = .ok (.aload_n 0, 1) := by decide +kernel
theorem d7_37 : decode prog_30_method_1_code 37 = .ok (.aload_n 1, 1) := by decide +kernel
theorem d7_38 : decode prog_30_method_1_code 38 = .ok (.getfield 29, 3) := by decide +kernel
theorem d7_41 : decode prog_30_method_1_code 41 = .ok (.putfield 33, 3) := by decide +kernel
theorem d7_44 : decode prog_30_method_1_code 44 = .ok (.aload_n 0, 1) := by decide +kernel
theorem d7_45 : decode prog_30_method_1_code 45 = .ok (.aload_n 1, 1) := by decide +kernel
theorem d7_46 : decode prog_30_method_1_code 46 = .ok (.getfield 34, 3) := by decide +kernel
theorem d7_49 : decode prog_30_method_1_code 49 = .ok (.putfield 37, 3) := by decide +kernel
theorem d7_52 : decode prog_30_method_1_code 52 = .ok (.aload_n 0, 1) := by decide +kernel
theorem d7_53 : decode prog_30_method_1_code 53 = .ok (.aload_n 1, 1) := by decide +kernel
theorem d7_54 : decode prog_30_method_1_code 54 = .ok (.getfield 38, 3) := by decide +kernel
theorem d7_57 : decode prog_30_method_1_code 57 = .ok (.putfield 41, 3) := by decide +kernel
theorem d7_60 : decode prog_30_method_1_code 60 = .ok (.aload_n 0, 1) := by decide +kernel
theorem d7_61 : decode prog_30_method_1_code 61 = .ok (.aload_n 1, 1) := by decide +kernel
theorem d7_62 : decode prog_30_method_1_code 62 = .ok (.getfield 42, 3) := by decide +kernel
theorem d7_65 : decode prog_30_method_1_code 65 = .ok (.putfield 45, 3) := by decide +kernel
theorem d7_68 : decode prog_30_method_1_code 68 = .ok (.aload_n 0, 1) := by decide +kernel
theorem d7_69 : decode prog_30_method_1_code 69 = .ok (.aload_n 1, 1) := by decide +kernel
theorem d7_70 : decode prog_30_method_1_code 70 = .ok (.getfield 46, 3) := by decide +kernel
theorem d7_73 : decode prog_30_method_1_code 73 = .ok (.putfield 49, 3) := by decide +kernel
theorem d7_76 : decode prog_30_method_1_code 76 = .ok (.aload_n 0, 1) := by decide +kernel
theorem d7_77 : decode prog_30_method_1_code 77 = .ok (.aload_n 1, 1) := by decide +kernel
theorem d7_78 : decode prog_30_method_1_code 78 = .ok (.getfield 50, 3) := by decide +kernel
theorem d7_81 : decode prog_30_method_1_code 81 = .ok (.putfield 53, 3) := by decide +kernel
theorem d7_84 : decode prog_30_method_1_code 84 = .ok (.aload_n 0, 1) := by decide +kernel
theorem d7_85 : decode prog_30_method_1_code 85 = .ok (.aload_n 1, 1) := by decide +kernel
theorem d7_86 : decode prog_30_method_1_code 86 = .ok (.getfield 54, 3) := by decide +kernel
theorem d7_89 : decode prog_30_method_1_code 89 = .ok (.putfield 58, 3) := by decide +kernel
theorem d7_92 : decode prog_30_method_1_code 92 = .ok (.aload_n 0, 1) := by decide +kernel
theorem d7_93 : decode prog_30_method_1_code 93 = .ok (.aload_n 1, 1) := by decide +kernel
theorem d7_94 : decode prog_30_method_1_code 94 = .ok (.getfield 59, 3) := by decide +kernel
theorem d7_97 : decode prog_30_method_1_code 97 = .ok (.putfield 62, 3) := by decide +kernel
theorem d7_100 : decode prog_30_method_1_code 100 = .ok (.aload_n 0, 1) := by decide +kernel
theorem d7_101 : decode prog_30_method_1_code 101 = .ok (.aload_n 1, 1) := by decide +kernel
theorem d7_102 : decode prog_30_method_1_code 102 = .ok (.getfield 63, 3) := by decide +kernel
theorem d7_105 : decode prog_30_method_1_code 105 = .ok (.putfield 67, 3) := by decide +kernel
theorem d7_108 : decode prog_30_method_1_code 108 = .ok (.aload_n 0, 1) := by decide +kernel
theorem d7_109 : decode prog_30_method_1_code 109 = .ok (.aload_n 1, 1) := by decide +kernel
theorem d7_110 : decode prog_30_method_1_code 110 = .ok (.getfield 68, 3) := by decide +kernel
theorem d7_113 : decode prog_30_method_1_code 113 = .ok (.putfield 71, 3) := by decide +kernel
theorem d7_116 : decode prog_30_method_1_code 116 = .ok (.aload_n 0, 1) := by decide +kernel
theorem d7_117 : decode prog_30_method_1_code 117 = .ok (.aload_n 1, 1) := by decide +kernel
theorem d7_118 : decode prog_30_method_1_code 118 = .ok (.getfield 72, 3) := by decide +kernel
theorem d7_121 : decode prog_30_method_1_code 121 = .ok (.putfield 75, 3) := by decide +kernel
theorem d7_124 : decode prog_30_method_1_code 124 = .ok (.aload_n 0, 1) := by decide +kernel
theorem d7_125 : decode prog_30_method_1_code 125 = .ok (.aload_n 1, 1) := by decide +kernel
theorem d7_126 : decode prog_30_method_1_code 126 = .ok (.getfield 76, 3) := by decide +kernel
theorem d7_129 : decode prog_30_method_1_code 129 = .ok (.putfield 79, 3) := by decide +kernel
theorem d7_132 : decode prog_30_method_1_code 132 = .ok (.return_, 1) := by decide +kernel
theorem pn4 : plainName "com/example/xidr/xidr/xml/tree/Tree" = true := by first | (simp [plainName, overriddenIn]; done) | decide +kernel
theorem ef_rm_tree (m : MethodId) (ra : Addr) (rb : Addr) : entryFrame m #[(.ref ra), (.ref rb)] 2 = mkF m 0 #[.val (.ref ra), .val (.ref rb)] [] := by first | (simp [entryFrame, mkF, argsToLocals, Value.category]; done) | rfl
def Q_rm_tree (Z : State) (ra : Addr) (rb : Addr) (u_kinds : Addr) (u_parents : Addr) (u_nextSiblings : Addr) (u_data : Addr) (u_owners : Addr) (u_attributeNames : Addr) (u_attributeValues : Addr) (u_attributeTypes : Addr) (u_names : Addr) (u_narrowText : Addr) (u_valueStarts : Addr) (u_instructions : Addr) (u_instructionData : Addr) (u_nodeCount : Int32) (u_attributeCount : Int32) (h0 : Heap) (n0 : Nat) (v : Option Value) (h : Heap) (L : List Loc) : Prop := v = none ∧ Fr n0 L ∧ Keep h0 h [ra] ∧ Exa Z h ra "com/example/xidr/xidr/xml/tree/Tree" ∧ Fld Z h ra "com/example/xidr/xidr/xml/tree/Tree" "parents" "[I" (.ref u_parents) ∧ Fld Z h ra "com/example/xidr/xidr/xml/tree/Tree" "nextSiblings" "[I" (.ref u_nextSiblings)
set_option maxRecDepth 65536 in
set_option maxHeartbeats 40000000 in
theorem rm_tree (l : Launch) (Z : State) (a0 : Array Value) (hw : ∀ d ∈ tables_1, d.before a0 Z = true) (ws : List Jvm.Cond) (ra : Addr) (rb : Addr) (u_kinds : Addr) (u_parents : Addr) (u_nextSiblings : Addr) (u_data : Addr) (u_owners : Addr) (u_attributeNames : Addr) (u_attributeValues : Addr) (u_attributeTypes : Addr) (u_names : Addr) (u_narrowText : Addr) (u_valueStarts : Addr) (u_instructions : Addr) (u_instructionData : Addr) (u_nodeCount : Int32) (u_attributeCount : Int32) (h0 : Heap) (n0 : Nat) (Z0 : n0 ≤ h0.size) (E_ra : Exa Z h0 ra "com/example/xidr/xidr/xml/tree/Tree") (g_ra : n0 ≤ ra) (F_kinds_ra : Fld Z h0 ra "com/example/xidr/xidr/xml/tree/Tree" "kinds" "[B" .null) (F_parents_ra : Fld Z h0 ra "com/example/xidr/xidr/xml/tree/Tree" "parents" "[I" .null) (F_nextSiblings_ra : Fld Z h0 ra "com/example/xidr/xidr/xml/tree/Tree" "nextSiblings" "[I" .null) (F_data_ra : Fld Z h0 ra "com/example/xidr/xidr/xml/tree/Tree" "data" "[I" .null) (F_nodeCount_ra : Fld Z h0 ra "com/example/xidr/xidr/xml/tree/Tree" "nodeCount" "I" (.int (0 : Int32))) (F_owners_ra : Fld Z h0 ra "com/example/xidr/xidr/xml/tree/Tree" "owners" "[I" .null) (F_attributeNames_ra : Fld Z h0 ra "com/example/xidr/xidr/xml/tree/Tree" "attributeNames" "[I" .null) (F_attributeValues_ra : Fld Z h0 ra "com/example/xidr/xidr/xml/tree/Tree" "attributeValues" "[I" .null) (F_attributeTypes_ra : Fld Z h0 ra "com/example/xidr/xidr/xml/tree/Tree" "attributeTypes" "[B" .null) (F_attributeCount_ra : Fld Z h0 ra "com/example/xidr/xidr/xml/tree/Tree" "attributeCount" "I" (.int (0 : Int32))) (F_names_ra : Fld Z h0 ra "com/example/xidr/xidr/xml/tree/Tree" "names" "Ljava/util/List;" .null) (F_narrowText_ra : Fld Z h0 ra "com/example/xidr/xidr/xml/tree/Tree" "narrowText" "[B" .null) (F_wideText_ra : Fld Z h0 ra "com/example/xidr/xidr/xml/tree/Tree" "wideText" "[C" .null) (F_valueStarts_ra : Fld Z h0 ra "com/example/xidr/xidr/xml/tree/Tree" "valueStarts" "[I" .null) (F_instructions_ra : Fld Z h0 ra "com/example/xidr/xidr/xml/tree/Tree" "instructions" "[I" .null) (F_instructionData_ra : Fld Z h0 ra "com/example/xidr/xidr/xml/tree/Tree" "instructionData" "[I" .null) (P_kinds : Fld Z h0 rb "com/example/xidr/xidr/xml/tree/TreeBuilder$Parts" "kinds" "[B" (.ref u_kinds)) (P_parents : Fld Z h0 rb "com/example/xidr/xidr/xml/tree/TreeBuilder$Parts" "parents" "[I" (.ref u_parents)) (P_nextSiblings : Fld Z h0 rb "com/example/xidr/xidr/xml/tree/TreeBuilder$Parts" "nextSiblings" "[I" (.ref u_nextSiblings)) (P_data : Fld Z h0 rb "com/example/xidr/xidr/xml/tree/TreeBuilder$Parts" "data" "[I" (.ref u_data)) (P_owners : Fld Z h0 rb "com/example/xidr/xidr/xml/tree/TreeBuilder$Parts" "owners" "[I" (.ref u_owners)) (P_attributeNames : Fld Z h0 rb "com/example/xidr/xidr/xml/tree/TreeBuilder$Parts" "attributeNames" "[I" (.ref u_attributeNames)) (P_attributeValues : Fld Z h0 rb "com/example/xidr/xidr/xml/tree/TreeBuilder$Parts" "attributeValues" "[I" (.ref u_attributeValues)) (P_attributeTypes : Fld Z h0 rb "com/example/xidr/xidr/xml/tree/TreeBuilder$Parts" "attributeTypes" "[B" (.ref u_attributeTypes)) (P_names : Fld Z h0 rb "com/example/xidr/xidr/xml/tree/TreeBuilder$Parts" "names" "Ljava/util/List;" (.ref u_names)) (P_narrowText : Fld Z h0 rb "com/example/xidr/xidr/xml/tree/TreeBuilder$Parts" "narrowText" "[B" (.ref u_narrowText)) (P_valueStarts : Fld Z h0 rb "com/example/xidr/xidr/xml/tree/TreeBuilder$Parts" "valueStarts" "[I" (.ref u_valueStarts)) (P_instructions : Fld Z h0 rb "com/example/xidr/xidr/xml/tree/TreeBuilder$Parts" "instructions" "[I" (.ref u_instructions)) (P_instructionData : Fld Z h0 rb "com/example/xidr/xidr/xml/tree/TreeBuilder$Parts" "instructionData" "[I" (.ref u_instructionData)) (P_nodeCount : Fld Z h0 rb "com/example/xidr/xidr/xml/tree/TreeBuilder$Parts" "nodeCount" "I" (.int u_nodeCount)) (P_attributeCount : Fld Z h0 rb "com/example/xidr/xidr/xml/tree/TreeBuilder$Parts" "attributeCount" "I" (.int u_attributeCount)) (P_wideText : Fld Z h0 rb "com/example/xidr/xidr/xml/tree/TreeBuilder$Parts" "wideText" "[C" .null) (hne : rb ≠ ra) :
    MetFree l (⟨"com/example/xidr/xidr/xml/tree/Tree", "<init>", "(Lcom/example/xidr/xidr/xml/tree/TreeBuilder$Parts;)V"⟩ : MethodName) (head1 (Jvm.Cond.code (⟨"com/example/xidr/xidr/xml/tree/Tree", "<init>", "(Lcom/example/xidr/xidr/xml/tree/TreeBuilder$Parts;)V"⟩ : MethodName) prog_30_method_1_code 2 none :: ws) ({ frames := 1, cells := 0, slots := 0, locals := 12 } : Room)) (fun a U => a = #[(.ref ra), (.ref rb)] ∧ Z.Warmed39 U.vm ∧ U.heap = h0) (fun _ _ _ _ _ => True) (fun _ U o U' => ∃ v L, o = .returned v ∧ Q_rm_tree Z ra rb u_kinds u_parents u_nextSiblings u_data u_owners u_attributeNames u_attributeValues u_attributeTypes u_names u_narrowText u_valueStarts u_instructions u_instructionData u_nodeCount u_attributeCount h0 n0 v U'.heap L ∧ FrameEnd U o U' L ({ frames := 1, cells := 0, slots := 0, locals := 12 } : Room).cells ({ frames := 1, cells := 0, slots := 0, locals := 12 } : Room).slots) := by
  refine MetFree.of_bodySF (plainFor_of_name pn4) hisR ?_
  intro p e s m args below meth c s₁ Bd hml0 hP hK
  obtain ⟨rfl, hZ, hh⟩ := hP
  have hx := Bd.exec
  have hby := Bd.bytes
  have hml : c.maxLocals = 2 := hml0
  have hown : s.vm.findClass "com/example/xidr/xidr/xml/tree/Tree" = some m.cls := findClass_of_methodNamed Bd.named
  have hnm := (name_of_methodNamed Bd.named Bd.method).1
  have X0 : Stand p l e ({ frames := 1, cells := 0, slots := 0, locals := 12 } : Room) s m #[(.ref ra), (.ref rb)] below meth c s₁ [] 0 0 := Stand.of_body Bd
  have e0 : s₁.heap = h0 := by rw [← hh, Bd.state]; rfl
  have N0 := Fr.nil n0
  have pre0 : ∀ t, Steps p.tables e below (s₁.setTop (mkF m 0 #[.val (.ref ra), .val (.ref rb)] [])) t → Steps p.tables e below (s₁.setTop (entryFrame m #[(.ref ra), (.ref rb)] 2)) t := fun t k => castTop (ef_rm_tree m ra rb) k
  have pre1 : ∀ t, Steps p.tables e below (s₁.setTop (mkF m 1 #[.val (.ref ra), .val (.ref rb)] [(.ref ra)])) t → Steps p.tables e below (s₁.setTop (entryFrame m #[(.ref ra), (.ref rb)] 2)) t := by
    intro t k
    refine pre0 t ?_
    refine XS.aloadN X0.here hx rfl (hb hby d7_0) rfl rfl ?_
    show Steps p.tables e below (s₁.setTop (mkF m 1 #[.val (.ref ra), .val (.ref rb)] [(.ref ra)])) _
    exact k
  obtain ⟨T2, X2, e2, st2⟩ := initO X0 hx hZ hown (hw _ (List.mem_of_getElem? (i := 74) rfl)) (hw _ (List.mem_of_getElem? (i := 12) rfl)) (hw _ (List.mem_of_getElem? (i := 13) rfl)) e0 (g := (mkF m 1 #[.val (.ref ra), .val (.ref rb)] [(.ref ra)])) rfl (by rw [hml]; rfl) rfl (hb hby d7_1) (by decide) (W := 0) (by show 2 * 0 + _ ≤ _; exact Nat.le_of_eq rfl) (by decide)
  have pre3 : ∀ t, Steps p.tables e below (T2.setTop (mkF m 4 #[.val (.ref ra), .val (.ref rb)] [])) t → Steps p.tables e below (s₁.setTop (entryFrame m #[(.ref ra), (.ref rb)] 2)) t := fun t k => pre1 t (st2 t k)
  have pre4 : ∀ t, Steps p.tables e below (T2.setTop (mkF m 6 #[.val (.ref ra), .val (.ref rb)] [(.ref rb), (.ref ra)])) t → Steps p.tables e below (s₁.setTop (entryFrame m #[(.ref ra), (.ref rb)] 2)) t := by
    intro t k
    refine pre3 t ?_
    refine XS.aloadN X2.here hx rfl (hb hby d7_4) rfl rfl ?_
    show Steps p.tables e below (T2.setTop (mkF m 5 #[.val (.ref ra), .val (.ref rb)] [(.ref ra)])) _
    refine XS.aloadN X2.here hx rfl (hb hby d7_5) rfl rfl ?_
    show Steps p.tables e below (T2.setTop (mkF m 6 #[.val (.ref ra), .val (.ref rb)] [(.ref rb), (.ref ra)])) _
    exact k
  obtain ⟨T5, X5, e5, st5⟩ := getF X2 hx hZ hown (host := "") (Or.inl (hw _ (List.mem_of_getElem? (i := 75) rfl))) Via.refl e2 P_kinds (g := (mkF m 6 #[.val (.ref ra), .val (.ref rb)] [(.ref rb), (.ref ra)])) rfl rfl (hb hby d7_6)
  have pre6 : ∀ t, Steps p.tables e below (T5.setTop (mkF m 9 #[.val (.ref ra), .val (.ref rb)] [(.ref u_kinds), (.ref ra)])) t → Steps p.tables e below (s₁.setTop (entryFrame m #[(.ref ra), (.ref rb)] 2)) t := fun t k => pre4 t (st5 t k)
  obtain ⟨T7, h7, X7, e7, W7, st7⟩ := putF X5 hx hZ hown (host := "") (Or.inl (hw _ (List.mem_of_getElem? (i := 76) rfl))) Via.refl e5 F_kinds_ra E_ra (Or.inr ⟨(hw _ (List.mem_of_getElem? (i := 77) rfl)), rfl, hnm⟩) (hw _ (List.mem_of_getElem? (i := 69) rfl)) (ty := (.array .byte)) (by decide) rfl rfl (g := (mkF m 9 #[.val (.ref ra), .val (.ref rb)] [(.ref u_kinds), (.ref ra)])) rfl rfl (hb hby d7_9)
  have K7 : Keep h0 h7 [ra] := (Keep.refl h0 [ra]).wr W7 (Or.inl (by simp))
  have z7 : n0 ≤ h7.size := Nat.le_trans Z0 K7.1
  have N7 := Fr.snoc X7 N0 g_ra
  have Fw7 := F_kinds_ra.same W7
  have pre8 : ∀ t, Steps p.tables e below (T7.setTop (mkF m 12 #[.val (.ref ra), .val (.ref rb)] [])) t → Steps p.tables e below (s₁.setTop (entryFrame m #[(.ref ra), (.ref rb)] 2)) t := fun t k => pre6 t (st7 t k)
  have pre9 : ∀ t, Steps p.tables e below (T7.setTop (mkF m 14 #[.val (.ref ra), .val (.ref rb)] [(.ref rb), (.ref ra)])) t → Steps p.tables e below (s₁.setTop (entryFrame m #[(.ref ra), (.ref rb)] 2)) t := by
    intro t k
    refine pre8 t ?_
    refine XS.aloadN X7.here hx rfl (hb hby d7_12) rfl rfl ?_
    show Steps p.tables e below (T7.setTop (mkF m 13 #[.val (.ref ra), .val (.ref rb)] [(.ref ra)])) _
    refine XS.aloadN X7.here hx rfl (hb hby d7_13) rfl rfl ?_
    show Steps p.tables e below (T7.setTop (mkF m 14 #[.val (.ref ra), .val (.ref rb)] [(.ref rb), (.ref ra)])) _
    exact k
  have f10 := (P_parents.other W7 (Or.inl hne))
  obtain ⟨T11, X11, e11, st11⟩ := getF X7 hx hZ hown (host := "") (Or.inl (hw _ (List.mem_of_getElem? (i := 78) rfl))) Via.refl e7 f10 (g := (mkF m 14 #[.val (.ref ra), .val (.ref rb)] [(.ref rb), (.ref ra)])) rfl rfl (hb hby d7_14)
  have pre12 : ∀ t, Steps p.tables e below (T11.setTop (mkF m 17 #[.val (.ref ra), .val (.ref rb)] [(.ref u_parents), (.ref ra)])) t → Steps p.tables e below (s₁.setTop (entryFrame m #[(.ref ra), (.ref rb)] 2)) t := fun t k => pre9 t (st11 t k)
  have f13 := (E_ra.wr W7)
  have f14 := (F_parents_ra.other W7 (Or.inr (slot_ne (Or.inr (hw _ (List.mem_of_getElem? (i := 80) rfl))) (Or.inr (hw _ (List.mem_of_getElem? (i := 77) rfl))) (by decide) (t := (.array .int)) (t' := (.array .byte)) (by decide) (by decide))))
  obtain ⟨T15, h15, X15, e15, W15, st15⟩ := putF X11 hx hZ hown (host := "") (Or.inl (hw _ (List.mem_of_getElem? (i := 79) rfl))) Via.refl e11 f14 f13 (Or.inr ⟨(hw _ (List.mem_of_getElem? (i := 80) rfl)), rfl, hnm⟩) (hw _ (List.mem_of_getElem? (i := 69) rfl)) (ty := (.array .int)) (by decide) rfl rfl (g := (mkF m 17 #[.val (.ref ra), .val (.ref rb)] [(.ref u_parents), (.ref ra)])) rfl rfl (hb hby d7_17)
  have K15 : Keep h0 h15 [ra] := K7.wr W15 (Or.inl (by simp))
  have z15 : n0 ≤ h15.size := Nat.le_trans Z0 K15.1
  have N15 := Fr.snoc X15 N7 g_ra
  have Fw15 := f14.same W15
  have pre16 : ∀ t, Steps p.tables e below (T15.setTop (mkF m 20 #[.val (.ref ra), .val (.ref rb)] [])) t → Steps p.tables e below (s₁.setTop (entryFrame m #[(.ref ra), (.ref rb)] 2)) t := fun t k => pre12 t (st15 t k)
  have pre17 : ∀ t, Steps p.tables e below (T15.setTop (mkF m 22 #[.val (.ref ra), .val (.ref rb)] [(.ref rb), (.ref ra)])) t → Steps p.tables e below (s₁.setTop (entryFrame m #[(.ref ra), (.ref rb)] 2)) t := by
    intro t k
    refine pre16 t ?_
    refine XS.aloadN X15.here hx rfl (hb hby d7_20) rfl rfl ?_
    show Steps p.tables e below (T15.setTop (mkF m 21 #[.val (.ref ra), .val (.ref rb)] [(.ref ra)])) _
    refine XS.aloadN X15.here hx rfl (hb hby d7_21) rfl rfl ?_
    show Steps p.tables e below (T15.setTop (mkF m 22 #[.val (.ref ra), .val (.ref rb)] [(.ref rb), (.ref ra)])) _
    exact k
  have f18 := ((P_nextSiblings.other W7 (Or.inl hne)).other W15 (Or.inl hne))
  obtain ⟨T19, X19, e19, st19⟩ := getF X15 hx hZ hown (host := "") (Or.inl (hw _ (List.mem_of_getElem? (i := 81) rfl))) Via.refl e15 f18 (g := (mkF m 22 #[.val (.ref ra), .val (.ref rb)] [(.ref rb), (.ref ra)])) rfl rfl (hb hby d7_22)
  have pre20 : ∀ t, Steps p.tables e below (T19.setTop (mkF m 25 #[.val (.ref ra), .val (.ref rb)] [(.ref u_nextSiblings), (.ref ra)])) t → Steps p.tables e below (s₁.setTop (entryFrame m #[(.ref ra), (.ref rb)] 2)) t := fun t k => pre17 t (st19 t k)
  have f21 := (f13.wr W15)
  have f22 := ((F_nextSiblings_ra.other W7 (Or.inr (slot_ne (Or.inr (hw _ (List.mem_of_getElem? (i := 83) rfl))) (Or.inr (hw _ (List.mem_of_getElem? (i := 77) rfl))) (by decide) (t := (.array .int)) (t' := (.array .byte)) (by decide) (by decide)))).other W15 (Or.inr (slot_ne (Or.inr (hw _ (List.mem_of_getElem? (i := 83) rfl))) (Or.inr (hw _ (List.mem_of_getElem? (i := 80) rfl))) (by decide) (t := (.array .int)) (t' := (.array .int)) (by decide) (by decide))))
  obtain ⟨T23, h23, X23, e23, W23, st23⟩ := putF X19 hx hZ hown (host := "") (Or.inl (hw _ (List.mem_of_getElem? (i := 82) rfl))) Via.refl e19 f22 f21 (Or.inr ⟨(hw _ (List.mem_of_getElem? (i := 83) rfl)), rfl, hnm⟩) (hw _ (List.mem_of_getElem? (i := 69) rfl)) (ty := (.array .int)) (by decide) rfl rfl (g := (mkF m 25 #[.val (.ref ra), .val (.ref rb)] [(.ref u_nextSiblings), (.ref ra)])) rfl rfl (hb hby d7_25)
  have K23 : Keep h0 h23 [ra] := K15.wr W23 (Or.inl (by simp))
  have z23 : n0 ≤ h23.size := Nat.le_trans Z0 K23.1
  have N23 := Fr.snoc X23 N15 g_ra
  have Fw23 := f22.same W23
  have pre24 : ∀ t, Steps p.tables e below (T23.setTop (mkF m 28 #[.val (.ref ra), .val (.ref rb)] [])) t → Steps p.tables e below (s₁.setTop (entryFrame m #[(.ref ra), (.ref rb)] 2)) t := fun t k => pre20 t (st23 t k)
  have pre25 : ∀ t, Steps p.tables e below (T23.setTop (mkF m 30 #[.val (.ref ra), .val (.ref rb)] [(.ref rb), (.ref ra)])) t → Steps p.tables e below (s₁.setTop (entryFrame m #[(.ref ra), (.ref rb)] 2)) t := by
    intro t k
    refine pre24 t ?_
    refine XS.aloadN X23.here hx rfl (hb hby d7_28) rfl rfl ?_
    show Steps p.tables e below (T23.setTop (mkF m 29 #[.val (.ref ra), .val (.ref rb)] [(.ref ra)])) _
    refine XS.aloadN X23.here hx rfl (hb hby d7_29) rfl rfl ?_
    show Steps p.tables e below (T23.setTop (mkF m 30 #[.val (.ref ra), .val (.ref rb)] [(.ref rb), (.ref ra)])) _
    exact k
  have f26 := (((P_data.other W7 (Or.inl hne)).other W15 (Or.inl hne)).other W23 (Or.inl hne))
  obtain ⟨T27, X27, e27, st27⟩ := getF X23 hx hZ hown (host := "") (Or.inl (hw _ (List.mem_of_getElem? (i := 84) rfl))) Via.refl e23 f26 (g := (mkF m 30 #[.val (.ref ra), .val (.ref rb)] [(.ref rb), (.ref ra)])) rfl rfl (hb hby d7_30)
  have pre28 : ∀ t, Steps p.tables e below (T27.setTop (mkF m 33 #[.val (.ref ra), .val (.ref rb)] [(.ref u_data), (.ref ra)])) t → Steps p.tables e below (s₁.setTop (entryFrame m #[(.ref ra), (.ref rb)] 2)) t := fun t k => pre25 t (st27 t k)
  have f29 := (f21.wr W23)
  have f30 := (((F_data_ra.other W7 (Or.inr (slot_ne (Or.inr (hw _ (List.mem_of_getElem? (i := 86) rfl))) (Or.inr (hw _ (List.mem_of_getElem? (i := 77) rfl))) (by decide) (t := (.array .int)) (t' := (.array .byte)) (by decide) (by decide)))).other W15 (Or.inr (slot_ne (Or.inr (hw _ (List.mem_of_getElem? (i := 86) rfl))) (Or.inr (hw _ (List.mem_of_getElem? (i := 80) rfl))) (by decide) (t := (.array .int)) (t' := (.array .int)) (by decide) (by decide)))).other W23 (Or.inr (slot_ne (Or.inr (hw _ (List.mem_of_getElem? (i := 86) rfl))) (Or.inr (hw _ (List.mem_of_getElem? (i := 83) rfl))) (by decide) (t := (.array .int)) (t' := (.array .int)) (by decide) (by decide))))
  obtain ⟨T31, h31, X31, e31, W31, st31⟩ := putF X27 hx hZ hown (host := "") (Or.inl (hw _ (List.mem_of_getElem? (i := 85) rfl))) Via.refl e27 f30 f29 (Or.inr ⟨(hw _ (List.mem_of_getElem? (i := 86) rfl)), rfl, hnm⟩) (hw _ (List.mem_of_getElem? (i := 69) rfl)) (ty := (.array .int)) (by decide) rfl rfl (g := (mkF m 33 #[.val (.ref ra), .val (.ref rb)] [(.ref u_data), (.ref ra)])) rfl rfl (hb hby d7_33)
  have K31 : Keep h0 h31 [ra] := K23.wr W31 (Or.inl (by simp))
  have z31 : n0 ≤ h31.size := Nat.le_trans Z0 K31.1
  have N31 := Fr.snoc X31 N23 g_ra
  have Fw31 := f30.same W31
  have pre32 : ∀ t, Steps p.tables e below (T31.setTop (mkF m 36 #[.val (.ref ra), .val (.ref rb)] [])) t → Steps p.tables e below (s₁.setTop (entryFrame m #[(.ref ra), (.ref rb)] 2)) t := fun t k => pre28 t (st31 t k)
  have pre33 : ∀ t, Steps p.tables e below (T31.setTop (mkF m 38 #[.val (.ref ra), .val (.ref rb)] [(.ref rb), (.ref ra)])) t → Steps p.tables e below (s₁.setTop (entryFrame m #[(.ref ra), (.ref rb)] 2)) t := by
    intro t k
    refine pre32 t ?_
    refine XS.aloadN X31.here hx rfl (hb hby d7_36) rfl rfl ?_
    show Steps p.tables e below (T31.setTop (mkF m 37 #[.val (.ref ra), .val (.ref rb)] [(.ref ra)])) _
    refine XS.aloadN X31.here hx rfl (hb hby d7_37) rfl rfl ?_
    show Steps p.tables e below (T31.setTop (mkF m 38 #[.val (.ref ra), .val (.ref rb)] [(.ref rb), (.ref ra)])) _
    exact k
  have f34 := ((((P_nodeCount.other W7 (Or.inl hne)).other W15 (Or.inl hne)).other W23 (Or.inl hne)).other W31 (Or.inl hne))
  obtain ⟨T35, X35, e35, st35⟩ := getF X31 hx hZ hown (host := "") (Or.inl (hw _ (List.mem_of_getElem? (i := 87) rfl))) Via.refl e31 f34 (g := (mkF m 38 #[.val (.ref ra), .val (.ref rb)] [(.ref rb), (.ref ra)])) rfl rfl (hb hby d7_38)
  have pre36 : ∀ t, Steps p.tables e below (T35.setTop (mkF m 41 #[.val (.ref ra), .val (.ref rb)] [(.int u_nodeCount), (.ref ra)])) t → Steps p.tables e below (s₁.setTop (entryFrame m #[(.ref ra), (.ref rb)] 2)) t := fun t k => pre33 t (st35 t k)
  have f37 := (f29.wr W31)
  have f38 := ((((F_nodeCount_ra.other W7 (Or.inr (slot_ne (Or.inr (hw _ (List.mem_of_getElem? (i := 89) rfl))) (Or.inr (hw _ (List.mem_of_getElem? (i := 77) rfl))) (by decide) (t := .int) (t' := (.array .byte)) (by decide) (by decide)))).other W15 (Or.inr (slot_ne (Or.inr (hw _ (List.mem_of_getElem? (i := 89) rfl))) (Or.inr (hw _ (List.mem_of_getElem? (i := 80) rfl))) (by decide) (t := .int) (t' := (.array .int)) (by decide) (by decide)))).other W23 (Or.inr (slot_ne (Or.inr (hw _ (List.mem_of_getElem? (i := 89) rfl))) (Or.inr (hw _ (List.mem_of_getElem? (i := 83) rfl))) (by decide) (t := .int) (t' := (.array .int)) (by decide) (by decide)))).other W31 (Or.inr (slot_ne (Or.inr (hw _ (List.mem_of_getElem? (i := 89) rfl))) (Or.inr (hw _ (List.mem_of_getElem? (i := 86) rfl))) (by decide) (t := .int) (t' := (.array .int)) (by decide) (by decide))))
  obtain ⟨T39, h39, X39, e39, W39, st39⟩ := putF X35 hx hZ hown (host := "") (Or.inl (hw _ (List.mem_of_getElem? (i := 88) rfl))) Via.refl e35 f38 f37 (Or.inr ⟨(hw _ (List.mem_of_getElem? (i := 89) rfl)), rfl, hnm⟩) (hw _ (List.mem_of_getElem? (i := 69) rfl)) (ty := .int) (by decide) rfl rfl (g := (mkF m 41 #[.val (.ref ra), .val (.ref rb)] [(.int u_nodeCount), (.ref ra)])) rfl rfl (hb hby d7_41)
  have K39 : Keep h0 h39 [ra] := K31.wr W39 (Or.inl (by simp))
  have z39 : n0 ≤ h39.size := Nat.le_trans Z0 K39.1
  have N39 := Fr.snoc X39 N31 g_ra
  have Fw39 := f38.same W39
  have pre40 : ∀ t, Steps p.tables e below (T39.setTop (mkF m 44 #[.val (.ref ra), .val (.ref rb)] [])) t → Steps p.tables e below (s₁.setTop (entryFrame m #[(.ref ra), (.ref rb)] 2)) t := fun t k => pre36 t (st39 t k)
  have pre41 : ∀ t, Steps p.tables e below (T39.setTop (mkF m 46 #[.val (.ref ra), .val (.ref rb)] [(.ref rb), (.ref ra)])) t → Steps p.tables e below (s₁.setTop (entryFrame m #[(.ref ra), (.ref rb)] 2)) t := by
    intro t k
    refine pre40 t ?_
    refine XS.aloadN X39.here hx rfl (hb hby d7_44) rfl rfl ?_
    show Steps p.tables e below (T39.setTop (mkF m 45 #[.val (.ref ra), .val (.ref rb)] [(.ref ra)])) _
    refine XS.aloadN X39.here hx rfl (hb hby d7_45) rfl rfl ?_
    show Steps p.tables e below (T39.setTop (mkF m 46 #[.val (.ref ra), .val (.ref rb)] [(.ref rb), (.ref ra)])) _
    exact k
  have f42 := (((((P_owners.other W7 (Or.inl hne)).other W15 (Or.inl hne)).other W23 (Or.inl hne)).other W31 (Or.inl hne)).other W39 (Or.inl hne))
  obtain ⟨T43, X43, e43, st43⟩ := getF X39 hx hZ hown (host := "") (Or.inl (hw _ (List.mem_of_getElem? (i := 90) rfl))) Via.refl e39 f42 (g := (mkF m 46 #[.val (.ref ra), .val (.ref rb)] [(.ref rb), (.ref ra)])) rfl rfl (hb hby d7_46)
  have pre44 : ∀ t, Steps p.tables e below (T43.setTop (mkF m 49 #[.val (.ref ra), .val (.ref rb)] [(.ref u_owners), (.ref ra)])) t → Steps p.tables e below (s₁.setTop (entryFrame m #[(.ref ra), (.ref rb)] 2)) t := fun t k => pre41 t (st43 t k)
  have f45 := (f37.wr W39)
  have f46 := (((((F_owners_ra.other W7 (Or.inr (slot_ne (Or.inr (hw _ (List.mem_of_getElem? (i := 92) rfl))) (Or.inr (hw _ (List.mem_of_getElem? (i := 77) rfl))) (by decide) (t := (.array .int)) (t' := (.array .byte)) (by decide) (by decide)))).other W15 (Or.inr (slot_ne (Or.inr (hw _ (List.mem_of_getElem? (i := 92) rfl))) (Or.inr (hw _ (List.mem_of_getElem? (i := 80) rfl))) (by decide) (t := (.array .int)) (t' := (.array .int)) (by decide) (by decide)))).other W23 (Or.inr (slot_ne (Or.inr (hw _ (List.mem_of_getElem? (i := 92) rfl))) (Or.inr (hw _ (List.mem_of_getElem? (i := 83) rfl))) (by decide) (t := (.array .int)) (t' := (.array .int)) (by decide) (by decide)))).other W31 (Or.inr (slot_ne (Or.inr (hw _ (List.mem_of_getElem? (i := 92) rfl))) (Or.inr (hw _ (List.mem_of_getElem? (i := 86) rfl))) (by decide) (t := (.array .int)) (t' := (.array .int)) (by decide) (by decide)))).other W39 (Or.inr (slot_ne (Or.inr (hw _ (List.mem_of_getElem? (i := 92) rfl))) (Or.inr (hw _ (List.mem_of_getElem? (i := 89) rfl))) (by decide) (t := (.array .int)) (t' := .int) (by decide) (by decide))))
  obtain ⟨T47, h47, X47, e47, W47, st47⟩ := putF X43 hx hZ hown (host := "") (Or.inl (hw _ (List.mem_of_getElem? (i := 91) rfl))) Via.refl e43 f46 f45 (Or.inr ⟨(hw _ (List.mem_of_getElem? (i := 92) rfl)), rfl, hnm⟩) (hw _ (List.mem_of_getElem? (i := 69) rfl)) (ty := (.array .int)) (by decide) rfl rfl (g := (mkF m 49 #[.val (.ref ra), .val (.ref rb)] [(.ref u_owners), (.ref ra)])) rfl rfl (hb hby d7_49)
  have K47 : Keep h0 h47 [ra] := K39.wr W47 (Or.inl (by simp))
  have z47 : n0 ≤ h47.size := Nat.le_trans Z0 K47.1
  have N47 := Fr.snoc X47 N39 g_ra
  have Fw47 := f46.same W47
  have pre48 : ∀ t, Steps p.tables e below (T47.setTop (mkF m 52 #[.val (.ref ra), .val (.ref rb)] [])) t → Steps p.tables e below (s₁.setTop (entryFrame m #[(.ref ra), (.ref rb)] 2)) t := fun t k => pre44 t (st47 t k)
  have pre49 : ∀ t, Steps p.tables e below (T47.setTop (mkF m 54 #[.val (.ref ra), .val (.ref rb)] [(.ref rb), (.ref ra)])) t → Steps p.tables e below (s₁.setTop (entryFrame m #[(.ref ra), (.ref rb)] 2)) t := by
    intro t k
    refine pre48 t ?_
    refine XS.aloadN X47.here hx rfl (hb hby d7_52) rfl rfl ?_
    show Steps p.tables e below (T47.setTop (mkF m 53 #[.val (.ref ra), .val (.ref rb)] [(.ref ra)])) _
    refine XS.aloadN X47.here hx rfl (hb hby d7_53) rfl rfl ?_
    show Steps p.tables e below (T47.setTop (mkF m 54 #[.val (.ref ra), .val (.ref rb)] [(.ref rb), (.ref ra)])) _
    exact k
  have f50 := ((((((P_attributeNames.other W7 (Or.inl hne)).other W15 (Or.inl hne)).other W23 (Or.inl hne)).other W31 (Or.inl hne)).other W39 (Or.inl hne)).other W47 (Or.inl hne))
  obtain ⟨T51, X51, e51, st51⟩ := getF X47 hx hZ hown (host := "") (Or.inl (hw _ (List.mem_of_getElem? (i := 93) rfl))) Via.refl e47 f50 (g := (mkF m 54 #[.val (.ref ra), .val (.ref rb)] [(.ref rb), (.ref ra)])) rfl rfl (hb hby d7_54)
  have pre52 : ∀ t, Steps p.tables e below (T51.setTop (mkF m 57 #[.val (.ref ra), .val (.ref rb)] [(.ref u_attributeNames), (.ref ra)])) t → Steps p.tables e below (s₁.setTop (entryFrame m #[(.ref ra), (.ref rb)] 2)) t := fun t k => pre49 t (st51 t k)
  have f53 := (f45.wr W47)
  have f54 := ((((((F_attributeNames_ra.other W7 (Or.inr (slot_ne (Or.inr (hw _ (List.mem_of_getElem? (i := 95) rfl))) (Or.inr (hw _ (List.mem_of_getElem? (i := 77) rfl))) (by decide) (t := (.array .int)) (t' := (.array .byte)) (by decide) (by decide)))).other W15 (Or.inr (slot_ne (Or.inr (hw _ (List.mem_of_getElem? (i := 95) rfl))) (Or.inr (hw _ (List.mem_of_getElem? (i := 80) rfl))) (by decide) (t := (.array .int)) (t' := (.array .int)) (by decide) (by decide)))).other W23 (Or.inr (slot_ne (Or.inr (hw _ (List.mem_of_getElem? (i := 95) rfl))) (Or.inr (hw _ (List.mem_of_getElem? (i := 83) rfl))) (by decide) (t := (.array .int)) (t' := (.array .int)) (by decide) (by decide)))).other W31 (Or.inr (slot_ne (Or.inr (hw _ (List.mem_of_getElem? (i := 95) rfl))) (Or.inr (hw _ (List.mem_of_getElem? (i := 86) rfl))) (by decide) (t := (.array .int)) (t' := (.array .int)) (by decide) (by decide)))).other W39 (Or.inr (slot_ne (Or.inr (hw _ (List.mem_of_getElem? (i := 95) rfl))) (Or.inr (hw _ (List.mem_of_getElem? (i := 89) rfl))) (by decide) (t := (.array .int)) (t' := .int) (by decide) (by decide)))).other W47 (Or.inr (slot_ne (Or.inr (hw _ (List.mem_of_getElem? (i := 95) rfl))) (Or.inr (hw _ (List.mem_of_getElem? (i := 92) rfl))) (by decide) (t := (.array .int)) (t' := (.array .int)) (by decide) (by decide))))
  obtain ⟨T55, h55, X55, e55, W55, st55⟩ := putF X51 hx hZ hown (host := "") (Or.inl (hw _ (List.mem_of_getElem? (i := 94) rfl))) Via.refl e51 f54 f53 (Or.inr ⟨(hw _ (List.mem_of_getElem? (i := 95) rfl)), rfl, hnm⟩) (hw _ (List.mem_of_getElem? (i := 69) rfl)) (ty := (.array .int)) (by decide) rfl rfl (g := (mkF m 57 #[.val (.ref ra), .val (.ref rb)] [(.ref u_attributeNames), (.ref ra)])) rfl rfl (hb hby d7_57)
  have K55 : Keep h0 h55 [ra] := K47.wr W55 (Or.inl (by simp))
  have z55 : n0 ≤ h55.size := Nat.le_trans Z0 K55.1
  have N55 := Fr.snoc X55 N47 g_ra
  have Fw55 := f54.same W55
  have pre56 : ∀ t, Steps p.tables e below (T55.setTop (mkF m 60 #[.val (.ref ra), .val (.ref rb)] [])) t → Steps p.tables e below (s₁.setTop (entryFrame m #[(.ref ra), (.ref rb)] 2)) t := fun t k => pre52 t (st55 t k)
  have pre57 : ∀ t, Steps p.tables e below (T55.setTop (mkF m 62 #[.val (.ref ra), .val (.ref rb)] [(.ref rb), (.ref ra)])) t → Steps p.tables e below (s₁.setTop (entryFrame m #[(.ref ra), (.ref rb)] 2)) t := by
    intro t k
    refine pre56 t ?_
    refine XS.aloadN X55.here hx rfl (hb hby d7_60) rfl rfl ?_
    show Steps p.tables e below (T55.setTop (mkF m 61 #[.val (.ref ra), .val (.ref rb)] [(.ref ra)])) _
    refine XS.aloadN X55.here hx rfl (hb hby d7_61) rfl rfl ?_
    show Steps p.tables e below (T55.setTop (mkF m 62 #[.val (.ref ra), .val (.ref rb)] [(.ref rb), (.ref ra)])) _
    exact k
  have f58 := (((((((P_attributeValues.other W7 (Or.inl hne)).other W15 (Or.inl hne)).other W23 (Or.inl hne)).other W31 (Or.inl hne)).other W39 (Or.inl hne)).other W47 (Or.inl hne)).other W55 (Or.inl hne))
  obtain ⟨T59, X59, e59, st59⟩ := getF X55 hx hZ hown (host := "") (Or.inl (hw _ (List.mem_of_getElem? (i := 96) rfl))) Via.refl e55 f58 (g := (mkF m 62 #[.val (.ref ra), .val (.ref rb)] [(.ref rb), (.ref ra)])) rfl rfl (hb hby d7_62)
  have pre60 : ∀ t, Steps p.tables e below (T59.setTop (mkF m 65 #[.val (.ref ra), .val (.ref rb)] [(.ref u_attributeValues), (.ref ra)])) t → Steps p.tables e below (s₁.setTop (entryFrame m #[(.ref ra), (.ref rb)] 2)) t := fun t k => pre57 t (st59 t k)
  have f61 := (f53.wr W55)
  have f62 := (((((((F_attributeValues_ra.other W7 (Or.inr (slot_ne (Or.inr (hw _ (List.mem_of_getElem? (i := 98) rfl))) (Or.inr (hw _ (List.mem_of_getElem? (i := 77) rfl))) (by decide) (t := (.array .int)) (t' := (.array .byte)) (by decide) (by decide)))).other W15 (Or.inr (slot_ne (Or.inr (hw _ (List.mem_of_getElem? (i := 98) rfl))) (Or.inr (hw _ (List.mem_of_getElem? (i := 80) rfl))) (by decide) (t := (.array .int)) (t' := (.array .int)) (by decide) (by decide)))).other W23 (Or.inr (slot_ne (Or.inr (hw _ (List.mem_of_getElem? (i := 98) rfl))) (Or.inr (hw _ (List.mem_of_getElem? (i := 83) rfl))) (by decide) (t := (.array .int)) (t' := (.array .int)) (by decide) (by decide)))).other W31 (Or.inr (slot_ne (Or.inr (hw _ (List.mem_of_getElem? (i := 98) rfl))) (Or.inr (hw _ (List.mem_of_getElem? (i := 86) rfl))) (by decide) (t := (.array .int)) (t' := (.array .int)) (by decide) (by decide)))).other W39 (Or.inr (slot_ne (Or.inr (hw _ (List.mem_of_getElem? (i := 98) rfl))) (Or.inr (hw _ (List.mem_of_getElem? (i := 89) rfl))) (by decide) (t := (.array .int)) (t' := .int) (by decide) (by decide)))).other W47 (Or.inr (slot_ne (Or.inr (hw _ (List.mem_of_getElem? (i := 98) rfl))) (Or.inr (hw _ (List.mem_of_getElem? (i := 92) rfl))) (by decide) (t := (.array .int)) (t' := (.array .int)) (by decide) (by decide)))).other W55 (Or.inr (slot_ne (Or.inr (hw _ (List.mem_of_getElem? (i := 98) rfl))) (Or.inr (hw _ (List.mem_of_getElem? (i := 95) rfl))) (by decide) (t := (.array .int)) (t' := (.array .int)) (by decide) (by decide))))
  obtain ⟨T63, h63, X63, e63, W63, st63⟩ := putF X59 hx hZ hown (host := "") (Or.inl (hw _ (List.mem_of_getElem? (i := 97) rfl))) Via.refl e59 f62 f61 (Or.inr ⟨(hw _ (List.mem_of_getElem? (i := 98) rfl)), rfl, hnm⟩) (hw _ (List.mem_of_getElem? (i := 69) rfl)) (ty := (.array .int)) (by decide) rfl rfl (g := (mkF m 65 #[.val (.ref ra), .val (.ref rb)] [(.ref u_attributeValues), (.ref ra)])) rfl rfl (hb hby d7_65)
  have K63 : Keep h0 h63 [ra] := K55.wr W63 (Or.inl (by simp))
  have z63 : n0 ≤ h63.size := Nat.le_trans Z0 K63.1
  have N63 := Fr.snoc X63 N55 g_ra
  have Fw63 := f62.same W63
  have pre64 : ∀ t, Steps p.tables e below (T63.setTop (mkF m 68 #[.val (.ref ra), .val (.ref rb)] [])) t → Steps p.tables e below (s₁.setTop (entryFrame m #[(.ref ra), (.ref rb)] 2)) t := fun t k => pre60 t (st63 t k)
  have pre65 : ∀ t, Steps p.tables e below (T63.setTop (mkF m 70 #[.val (.ref ra), .val (.ref rb)] [(.ref rb), (.ref ra)])) t → Steps p.tables e below (s₁.setTop (entryFrame m #[(.ref ra), (.ref rb)] 2)) t := by
    intro t k
    refine pre64 t ?_
    refine XS.aloadN X63.here hx rfl (hb hby d7_68) rfl rfl ?_
    show Steps p.tables e below (T63.setTop (mkF m 69 #[.val (.ref ra), .val (.ref rb)] [(.ref ra)])) _
    refine XS.aloadN X63.here hx rfl (hb hby d7_69) rfl rfl ?_
    show Steps p.tables e below (T63.setTop (mkF m 70 #[.val (.ref ra), .val (.ref rb)] [(.ref rb), (.ref ra)])) _
    exact k
  have f66 := ((((((((P_attributeTypes.other W7 (Or.inl hne)).other W15 (Or.inl hne)).other W23 (Or.inl hne)).other W31 (Or.inl hne)).other W39 (Or.inl hne)).other W47 (Or.inl hne)).other W55 (Or.inl hne)).other W63 (Or.inl hne))
  obtain ⟨T67, X67, e67, st67⟩ := getF X63 hx hZ hown (host := "") (Or.inl (hw _ (List.mem_of_getElem? (i := 99) rfl))) Via.refl e63 f66 (g := (mkF m 70 #[.val (.ref ra), .val (.ref rb)] [(.ref rb), (.ref ra)])) rfl rfl (hb hby d7_70)
  have pre68 : ∀ t, Steps p.tables e below (T67.setTop (mkF m 73 #[.val (.ref ra), .val (.ref rb)] [(.ref u_attributeTypes), (.ref ra)])) t → Steps p.tables e below (s₁.setTop (entryFrame m #[(.ref ra), (.ref rb)] 2)) t := fun t k => pre65 t (st67 t k)
  have f69 := (f61.wr W63)
  have f70 := ((((((((F_attributeTypes_ra.other W7 (Or.inr (slot_ne (Or.inr (hw _ (List.mem_of_getElem? (i := 101) rfl))) (Or.inr (hw _ (List.mem_of_getElem? (i := 77) rfl))) (by decide) (t := (.array .byte)) (t' := (.array .byte)) (by decide) (by decide)))).other W15 (Or.inr (slot_ne (Or.inr (hw _ (List.mem_of_getElem? (i := 101) rfl))) (Or.inr (hw _ (List.mem_of_getElem? (i := 80) rfl))) (by decide) (t := (.array .byte)) (t' := (.array .int)) (by decide) (by decide)))).other W23 (Or.inr (slot_ne (Or.inr (hw _ (List.mem_of_getElem? (i := 101) rfl))) (Or.inr (hw _ (List.mem_of_getElem? (i := 83) rfl))) (by decide) (t := (.array .byte)) (t' := (.array .int)) (by decide) (by decide)))).other W31 (Or.inr (slot_ne (Or.inr (hw _ (List.mem_of_getElem? (i := 101) rfl))) (Or.inr (hw _ (List.mem_of_getElem? (i := 86) rfl))) (by decide) (t := (.array .byte)) (t' := (.array .int)) (by decide) (by decide)))).other W39 (Or.inr (slot_ne (Or.inr (hw _ (List.mem_of_getElem? (i := 101) rfl))) (Or.inr (hw _ (List.mem_of_getElem? (i := 89) rfl))) (by decide) (t := (.array .byte)) (t' := .int) (by decide) (by decide)))).other W47 (Or.inr (slot_ne (Or.inr (hw _ (List.mem_of_getElem? (i := 101) rfl))) (Or.inr (hw _ (List.mem_of_getElem? (i := 92) rfl))) (by decide) (t := (.array .byte)) (t' := (.array .int)) (by decide) (by decide)))).other W55 (Or.inr (slot_ne (Or.inr (hw _ (List.mem_of_getElem? (i := 101) rfl))) (Or.inr (hw _ (List.mem_of_getElem? (i := 95) rfl))) (by decide) (t := (.array .byte)) (t' := (.array .int)) (by decide) (by decide)))).other W63 (Or.inr (slot_ne (Or.inr (hw _ (List.mem_of_getElem? (i := 101) rfl))) (Or.inr (hw _ (List.mem_of_getElem? (i := 98) rfl))) (by decide) (t := (.array .byte)) (t' := (.array .int)) (by decide) (by decide))))
  obtain ⟨T71, h71, X71, e71, W71, st71⟩ := putF X67 hx hZ hown (host := "") (Or.inl (hw _ (List.mem_of_getElem? (i := 100) rfl))) Via.refl e67 f70 f69 (Or.inr ⟨(hw _ (List.mem_of_getElem? (i := 101) rfl)), rfl, hnm⟩) (hw _ (List.mem_of_getElem? (i := 69) rfl)) (ty := (.array .byte)) (by decide) rfl rfl (g := (mkF m 73 #[.val (.ref ra), .val (.ref rb)] [(.ref u_attributeTypes), (.ref ra)])) rfl rfl (hb hby d7_73)
  have K71 : Keep h0 h71 [ra] := K63.wr W71 (Or.inl (by simp))
  have z71 : n0 ≤ h71.size := Nat.le_trans Z0 K71.1
  have N71 := Fr.snoc X71 N63 g_ra
  have Fw71 := f70.same W71
  have pre72 : ∀ t, Steps p.tables e below (T71.setTop (mkF m 76 #[.val (.ref ra), .val (.ref rb)] [])) t → Steps p.tables e below (s₁.setTop (entryFrame m #[(.ref ra), (.ref rb)] 2)) t := fun t k => pre68 t (st71 t k)
  have pre73 : ∀ t, Steps p.tables e below (T71.setTop (mkF m 78 #[.val (.ref ra), .val (.ref rb)] [(.ref rb), (.ref ra)])) t → Steps p.tables e below (s₁.setTop (entryFrame m #[(.ref ra), (.ref rb)] 2)) t := by
    intro t k
    refine pre72 t ?_
    refine XS.aloadN X71.here hx rfl (hb hby d7_76) rfl rfl ?_
    show Steps p.tables e below (T71.setTop (mkF m 77 #[.val (.ref ra), .val (.ref rb)] [(.ref ra)])) _
    refine XS.aloadN X71.here hx rfl (hb hby d7_77) rfl rfl ?_
    show Steps p.tables e below (T71.setTop (mkF m 78 #[.val (.ref ra), .val (.ref rb)] [(.ref rb), (.ref ra)])) _
    exact k
  have f74 := (((((((((P_attributeCount.other W7 (Or.inl hne)).other W15 (Or.inl hne)).other W23 (Or.inl hne)).other W31 (Or.inl hne)).other W39 (Or.inl hne)).other W47 (Or.inl hne)).other W55 (Or.inl hne)).other W63 (Or.inl hne)).other W71 (Or.inl hne))
  obtain ⟨T75, X75, e75, st75⟩ := getF X71 hx hZ hown (host := "") (Or.inl (hw _ (List.mem_of_getElem? (i := 102) rfl))) Via.refl e71 f74 (g := (mkF m 78 #[.val (.ref ra), .val (.ref rb)] [(.ref rb), (.ref ra)])) rfl rfl (hb hby d7_78)
  have pre76 : ∀ t, Steps p.tables e below (T75.setTop (mkF m 81 #[.val (.ref ra), .val (.ref rb)] [(.int u_attributeCount), (.ref ra)])) t → Steps p.tables e below (s₁.setTop (entryFrame m #[(.ref ra), (.ref rb)] 2)) t := fun t k => pre73 t (st75 t k)
  have f77 := (f69.wr W71)
  have f78 := (((((((((F_attributeCount_ra.other W7 (Or.inr (slot_ne (Or.inr (hw _ (List.mem_of_getElem? (i := 105) rfl))) (Or.inr (hw _ (List.mem_of_getElem? (i := 77) rfl))) (by decide) (t := .int) (t' := (.array .byte)) (by decide) (by decide)))).other W15 (Or.inr (slot_ne (Or.inr (hw _ (List.mem_of_getElem? (i := 105) rfl))) (Or.inr (hw _ (List.mem_of_getElem? (i := 80) rfl))) (by decide) (t := .int) (t' := (.array .int)) (by decide) (by decide)))).other W23 (Or.inr (slot_ne (Or.inr (hw _ (List.mem_of_getElem? (i := 105) rfl))) (Or.inr (hw _ (List.mem_of_getElem? (i := 83) rfl))) (by decide) (t := .int) (t' := (.array .int)) (by decide) (by decide)))).other W31 (Or.inr (slot_ne (Or.inr (hw _ (List.mem_of_getElem? (i := 105) rfl))) (Or.inr (hw _ (List.mem_of_getElem? (i := 86) rfl))) (by decide) (t := .int) (t' := (.array .int)) (by decide) (by decide)))).other W39 (Or.inr (slot_ne (Or.inr (hw _ (List.mem_of_getElem? (i := 105) rfl))) (Or.inr (hw _ (List.mem_of_getElem? (i := 89) rfl))) (by decide) (t := .int) (t' := .int) (by decide) (by decide)))).other W47 (Or.inr (slot_ne (Or.inr (hw _ (List.mem_of_getElem? (i := 105) rfl))) (Or.inr (hw _ (List.mem_of_getElem? (i := 92) rfl))) (by decide) (t := .int) (t' := (.array .int)) (by decide) (by decide)))).other W55 (Or.inr (slot_ne (Or.inr (hw _ (List.mem_of_getElem? (i := 105) rfl))) (Or.inr (hw _ (List.mem_of_getElem? (i := 95) rfl))) (by decide) (t := .int) (t' := (.array .int)) (by decide) (by decide)))).other W63 (Or.inr (slot_ne (Or.inr (hw _ (List.mem_of_getElem? (i := 105) rfl))) (Or.inr (hw _ (List.mem_of_getElem? (i := 98) rfl))) (by decide) (t := .int) (t' := (.array .int)) (by decide) (by decide)))).other W71 (Or.inr (slot_ne (Or.inr (hw _ (List.mem_of_getElem? (i := 105) rfl))) (Or.inr (hw _ (List.mem_of_getElem? (i := 101) rfl))) (by decide) (t := .int) (t' := (.array .byte)) (by decide) (by decide))))
  obtain ⟨T79, h79, X79, e79, W79, st79⟩ := putF X75 hx hZ hown (host := "") (Or.inl (hw _ (List.mem_of_getElem? (i := 104) rfl))) Via.refl e75 f78 f77 (Or.inr ⟨(hw _ (List.mem_of_getElem? (i := 105) rfl)), rfl, hnm⟩) (hw _ (List.mem_of_getElem? (i := 69) rfl)) (ty := .int) (by decide) rfl rfl (g := (mkF m 81 #[.val (.ref ra), .val (.ref rb)] [(.int u_attributeCount), (.ref ra)])) rfl rfl (hb hby d7_81)
  have K79 : Keep h0 h79 [ra] := K71.wr W79 (Or.inl (by simp))
  have z79 : n0 ≤ h79.size := Nat.le_trans Z0 K79.1
  have N79 := Fr.snoc X79 N71 g_ra
  have Fw79 := f78.same W79
  have pre80 : ∀ t, Steps p.tables e below (T79.setTop (mkF m 84 #[.val (.ref ra), .val (.ref rb)] [])) t → Steps p.tables e below (s₁.setTop (entryFrame m #[(.ref ra), (.ref rb)] 2)) t := fun t k => pre76 t (st79 t k)
  have pre81 : ∀ t, Steps p.tables e below (T79.setTop (mkF m 86 #[.val (.ref ra), .val (.ref rb)] [(.ref rb), (.ref ra)])) t → Steps p.tables e below (s₁.setTop (entryFrame m #[(.ref ra), (.ref rb)] 2)) t := by
    intro t k
    refine pre80 t ?_
    refine XS.aloadN X79.here hx rfl (hb hby d7_84) rfl rfl ?_
    show Steps p.tables e below (T79.setTop (mkF m 85 #[.val (.ref ra), .val (.ref rb)] [(.ref ra)])) _
    refine XS.aloadN X79.here hx rfl (hb hby d7_85) rfl rfl ?_
    show Steps p.tables e below (T79.setTop (mkF m 86 #[.val (.ref ra), .val (.ref rb)] [(.ref rb), (.ref ra)])) _
    exact k
  have f82 := ((((((((((P_names.other W7 (Or.inl hne)).other W15 (Or.inl hne)).other W23 (Or.inl hne)).other W31 (Or.inl hne)).other W39 (Or.inl hne)).other W47 (Or.inl hne)).other W55 (Or.inl hne)).other W63 (Or.inl hne)).other W71 (Or.inl hne)).other W79 (Or.inl hne))
  obtain ⟨T83, X83, e83, st83⟩ := getF X79 hx hZ hown (host := "") (Or.inl (hw _ (List.mem_of_getElem? (i := 106) rfl))) Via.refl e79 f82 (g := (mkF m 86 #[.val (.ref ra), .val (.ref rb)] [(.ref rb), (.ref ra)])) rfl rfl (hb hby d7_86)
  have pre84 : ∀ t, Steps p.tables e below (T83.setTop (mkF m 89 #[.val (.ref ra), .val (.ref rb)] [(.ref u_names), (.ref ra)])) t → Steps p.tables e below (s₁.setTop (entryFrame m #[(.ref ra), (.ref rb)] 2)) t := fun t k => pre81 t (st83 t k)
  have f85 := (f77.wr W79)
  have f86 := ((((((((((F_names_ra.other W7 (Or.inr (slot_ne (Or.inr (hw _ (List.mem_of_getElem? (i := 108) rfl))) (Or.inr (hw _ (List.mem_of_getElem? (i := 77) rfl))) (by decide) (t := (.object "java/util/List")) (t' := (.array .byte)) (by decide) (by decide)))).other W15 (Or.inr (slot_ne (Or.inr (hw _ (List.mem_of_getElem? (i := 108) rfl))) (Or.inr (hw _ (List.mem_of_getElem? (i := 80) rfl))) (by decide) (t := (.object "java/util/List")) (t' := (.array .int)) (by decide) (by decide)))).other W23 (Or.inr (slot_ne (Or.inr (hw _ (List.mem_of_getElem? (i := 108) rfl))) (Or.inr (hw _ (List.mem_of_getElem? (i := 83) rfl))) (by decide) (t := (.object "java/util/List")) (t' := (.array .int)) (by decide) (by decide)))).other W31 (Or.inr (slot_ne (Or.inr (hw _ (List.mem_of_getElem? (i := 108) rfl))) (Or.inr (hw _ (List.mem_of_getElem? (i := 86) rfl))) (by decide) (t := (.object "java/util/List")) (t' := (.array .int)) (by decide) (by decide)))).other W39 (Or.inr (slot_ne (Or.inr (hw _ (List.mem_of_getElem? (i := 108) rfl))) (Or.inr (hw _ (List.mem_of_getElem? (i := 89) rfl))) (by decide) (t := (.object "java/util/List")) (t' := .int) (by decide) (by decide)))).other W47 (Or.inr (slot_ne (Or.inr (hw _ (List.mem_of_getElem? (i := 108) rfl))) (Or.inr (hw _ (List.mem_of_getElem? (i := 92) rfl))) (by decide) (t := (.object "java/util/List")) (t' := (.array .int)) (by decide) (by decide)))).other W55 (Or.inr (slot_ne (Or.inr (hw _ (List.mem_of_getElem? (i := 108) rfl))) (Or.inr (hw _ (List.mem_of_getElem? (i := 95) rfl))) (by decide) (t := (.object "java/util/List")) (t' := (.array .int)) (by decide) (by decide)))).other W63 (Or.inr (slot_ne (Or.inr (hw _ (List.mem_of_getElem? (i := 108) rfl))) (Or.inr (hw _ (List.mem_of_getElem? (i := 98) rfl))) (by decide) (t := (.object "java/util/List")) (t' := (.array .int)) (by decide) (by decide)))).other W71 (Or.inr (slot_ne (Or.inr (hw _ (List.mem_of_getElem? (i := 108) rfl))) (Or.inr (hw _ (List.mem_of_getElem? (i := 101) rfl))) (by decide) (t := (.object "java/util/List")) (t' := (.array .byte)) (by decide) (by decide)))).other W79 (Or.inr (slot_ne (Or.inr (hw _ (List.mem_of_getElem? (i := 108) rfl))) (Or.inr (hw _ (List.mem_of_getElem? (i := 105) rfl))) (by decide) (t := (.object "java/util/List")) (t' := .int) (by decide) (by decide))))
  obtain ⟨T87, h87, X87, e87, W87, st87⟩ := putF X83 hx hZ hown (host := "") (Or.inl (hw _ (List.mem_of_getElem? (i := 107) rfl))) Via.refl e83 f86 f85 (Or.inr ⟨(hw _ (List.mem_of_getElem? (i := 108) rfl)), rfl, hnm⟩) (hw _ (List.mem_of_getElem? (i := 69) rfl)) (ty := (.object "java/util/List")) (by decide) rfl rfl (g := (mkF m 89 #[.val (.ref ra), .val (.ref rb)] [(.ref u_names), (.ref ra)])) rfl rfl (hb hby d7_89)
  have K87 : Keep h0 h87 [ra] := K79.wr W87 (Or.inl (by simp))
  have z87 : n0 ≤ h87.size := Nat.le_trans Z0 K87.1
  have N87 := Fr.snoc X87 N79 g_ra
  have Fw87 := f86.same W87
  have pre88 : ∀ t, Steps p.tables e below (T87.setTop (mkF m 92 #[.val (.ref ra), .val (.ref rb)] [])) t → Steps p.tables e below (s₁.setTop (entryFrame m #[(.ref ra), (.ref rb)] 2)) t := fun t k => pre84 t (st87 t k)
  have pre89 : ∀ t, Steps p.tables e below (T87.setTop (mkF m 94 #[.val (.ref ra), .val (.ref rb)] [(.ref rb), (.ref ra)])) t → Steps p.tables e below (s₁.setTop (entryFrame m #[(.ref ra), (.ref rb)] 2)) t := by
    intro t k
    refine pre88 t ?_
    refine XS.aloadN X87.here hx rfl (hb hby d7_92) rfl rfl ?_
    show Steps p.tables e below (T87.setTop (mkF m 93 #[.val (.ref ra), .val (.ref rb)] [(.ref ra)])) _
    refine XS.aloadN X87.here hx rfl (hb hby d7_93) rfl rfl ?_
    show Steps p.tables e below (T87.setTop (mkF m 94 #[.val (.ref ra), .val (.ref rb)] [(.ref rb), (.ref ra)])) _
    exact k
  have f90 := (((((((((((P_narrowText.other W7 (Or.inl hne)).other W15 (Or.inl hne)).other W23 (Or.inl hne)).other W31 (Or.inl hne)).other W39 (Or.inl hne)).other W47 (Or.inl hne)).other W55 (Or.inl hne)).other W63 (Or.inl hne)).other W71 (Or.inl hne)).other W79 (Or.inl hne)).other W87 (Or.inl hne))
  obtain ⟨T91, X91, e91, st91⟩ := getF X87 hx hZ hown (host := "") (Or.inl (hw _ (List.mem_of_getElem? (i := 109) rfl))) Via.refl e87 f90 (g := (mkF m 94 #[.val (.ref ra), .val (.ref rb)] [(.ref rb), (.ref ra)])) rfl rfl (hb hby d7_94)
  have pre92 : ∀ t, Steps p.tables e below (T91.setTop (mkF m 97 #[.val (.ref ra), .val (.ref rb)] [(.ref u_narrowText), (.ref ra)])) t → Steps p.tables e below (s₁.setTop (entryFrame m #[(.ref ra), (.ref rb)] 2)) t := fun t k => pre89 t (st91 t k)
  have f93 := (f85.wr W87)
  have f94 := (((((((((((F_narrowText_ra.other W7 (Or.inr (slot_ne (Or.inr (hw _ (List.mem_of_getElem? (i := 111) rfl))) (Or.inr (hw _ (List.mem_of_getElem? (i := 77) rfl))) (by decide) (t := (.array .byte)) (t' := (.array .byte)) (by decide) (by decide)))).other W15 (Or.inr (slot_ne (Or.inr (hw _ (List.mem_of_getElem? (i := 111) rfl))) (Or.inr (hw _ (List.mem_of_getElem? (i := 80) rfl))) (by decide) (t := (.array .byte)) (t' := (.array .int)) (by decide) (by decide)))).other W23 (Or.inr (slot_ne (Or.inr (hw _ (List.mem_of_getElem? (i := 111) rfl))) (Or.inr (hw _ (List.mem_of_getElem? (i := 83) rfl))) (by decide) (t := (.array .byte)) (t' := (.array .int)) (by decide) (by decide)))).other W31 (Or.inr (slot_ne (Or.inr (hw _ (List.mem_of_getElem? (i := 111) rfl))) (Or.inr (hw _ (List.mem_of_getElem? (i := 86) rfl))) (by decide) (t := (.array .byte)) (t' := (.array .int)) (by decide) (by decide)))).other W39 (Or.inr (slot_ne (Or.inr (hw _ (List.mem_of_getElem? (i := 111) rfl))) (Or.inr (hw _ (List.mem_of_getElem? (i := 89) rfl))) (by decide) (t := (.array .byte)) (t' := .int) (by decide) (by decide)))).other W47 (Or.inr (slot_ne (Or.inr (hw _ (List.mem_of_getElem? (i := 111) rfl))) (Or.inr (hw _ (List.mem_of_getElem? (i := 92) rfl))) (by decide) (t := (.array .byte)) (t' := (.array .int)) (by decide) (by decide)))).other W55 (Or.inr (slot_ne (Or.inr (hw _ (List.mem_of_getElem? (i := 111) rfl))) (Or.inr (hw _ (List.mem_of_getElem? (i := 95) rfl))) (by decide) (t := (.array .byte)) (t' := (.array .int)) (by decide) (by decide)))).other W63 (Or.inr (slot_ne (Or.inr (hw _ (List.mem_of_getElem? (i := 111) rfl))) (Or.inr (hw _ (List.mem_of_getElem? (i := 98) rfl))) (by decide) (t := (.array .byte)) (t' := (.array .int)) (by decide) (by decide)))).other W71 (Or.inr (slot_ne (Or.inr (hw _ (List.mem_of_getElem? (i := 111) rfl))) (Or.inr (hw _ (List.mem_of_getElem? (i := 101) rfl))) (by decide) (t := (.array .byte)) (t' := (.array .byte)) (by decide) (by decide)))).other W79 (Or.inr (slot_ne (Or.inr (hw _ (List.mem_of_getElem? (i := 111) rfl))) (Or.inr (hw _ (List.mem_of_getElem? (i := 105) rfl))) (by decide) (t := (.array .byte)) (t' := .int) (by decide) (by decide)))).other W87 (Or.inr (slot_ne (Or.inr (hw _ (List.mem_of_getElem? (i := 111) rfl))) (Or.inr (hw _ (List.mem_of_getElem? (i := 108) rfl))) (by decide) (t := (.array .byte)) (t' := (.object "java/util/List")) (by decide) (by decide))))
  obtain ⟨T95, h95, X95, e95, W95, st95⟩ := putF X91 hx hZ hown (host := "") (Or.inl (hw _ (List.mem_of_getElem? (i := 110) rfl))) Via.refl e91 f94 f93 (Or.inr ⟨(hw _ (List.mem_of_getElem? (i := 111) rfl)), rfl, hnm⟩) (hw _ (List.mem_of_getElem? (i := 69) rfl)) (ty := (.array .byte)) (by decide) rfl rfl (g := (mkF m 97 #[.val (.ref ra), .val (.ref rb)] [(.ref u_narrowText), (.ref ra)])) rfl rfl (hb hby d7_97)
  have K95 : Keep h0 h95 [ra] := K87.wr W95 (Or.inl (by simp))
  have z95 : n0 ≤ h95.size := Nat.le_trans Z0 K95.1
  have N95 := Fr.snoc X95 N87 g_ra
  have Fw95 := f94.same W95
  have pre96 : ∀ t, Steps p.tables e below (T95.setTop (mkF m 100 #[.val (.ref ra), .val (.ref rb)] [])) t → Steps p.tables e below (s₁.setTop (entryFrame m #[(.ref ra), (.ref rb)] 2)) t := fun t k => pre92 t (st95 t k)
  have pre97 : ∀ t, Steps p.tables e below (T95.setTop (mkF m 102 #[.val (.ref ra), .val (.ref rb)] [(.ref rb), (.ref ra)])) t → Steps p.tables e below (s₁.setTop (entryFrame m #[(.ref ra), (.ref rb)] 2)) t := by
    intro t k
    refine pre96 t ?_
    refine XS.aloadN X95.here hx rfl (hb hby d7_100) rfl rfl ?_
    show Steps p.tables e below (T95.setTop (mkF m 101 #[.val (.ref ra), .val (.ref rb)] [(.ref ra)])) _
    refine XS.aloadN X95.here hx rfl (hb hby d7_101) rfl rfl ?_
    show Steps p.tables e below (T95.setTop (mkF m 102 #[.val (.ref ra), .val (.ref rb)] [(.ref rb), (.ref ra)])) _
    exact k
  have f98 := ((((((((((((P_wideText.other W7 (Or.inl hne)).other W15 (Or.inl hne)).other W23 (Or.inl hne)).other W31 (Or.inl hne)).other W39 (Or.inl hne)).other W47 (Or.inl hne)).other W55 (Or.inl hne)).other W63 (Or.inl hne)).other W71 (Or.inl hne)).other W79 (Or.inl hne)).other W87 (Or.inl hne)).other W95 (Or.inl hne))
  obtain ⟨T99, X99, e99, st99⟩ := getF X95 hx hZ hown (host := "") (Or.inl (hw _ (List.mem_of_getElem? (i := 112) rfl))) Via.refl e95 f98 (g := (mkF m 102 #[.val (.ref ra), .val (.ref rb)] [(.ref rb), (.ref ra)])) rfl rfl (hb hby d7_102)
  have pre100 : ∀ t, Steps p.tables e below (T99.setTop (mkF m 105 #[.val (.ref ra), .val (.ref rb)] [.null, (.ref ra)])) t → Steps p.tables e below (s₁.setTop (entryFrame m #[(.ref ra), (.ref rb)] 2)) t := fun t k => pre97 t (st99 t k)
  have f101 := (f93.wr W95)
  have f102 := ((((((((((((F_wideText_ra.other W7 (Or.inr (slot_ne (Or.inr (hw _ (List.mem_of_getElem? (i := 115) rfl))) (Or.inr (hw _ (List.mem_of_getElem? (i := 77) rfl))) (by decide) (t := (.array .char)) (t' := (.array .byte)) (by decide) (by decide)))).other W15 (Or.inr (slot_ne (Or.inr (hw _ (List.mem_of_getElem? (i := 115) rfl))) (Or.inr (hw _ (List.mem_of_getElem? (i := 80) rfl))) (by decide) (t := (.array .char)) (t' := (.array .int)) (by decide) (by decide)))).other W23 (Or.inr (slot_ne (Or.inr (hw _ (List.mem_of_getElem? (i := 115) rfl))) (Or.inr (hw _ (List.mem_of_getElem? (i := 83) rfl))) (by decide) (t := (.array .char)) (t' := (.array .int)) (by decide) (by decide)))).other W31 (Or.inr (slot_ne (Or.inr (hw _ (List.mem_of_getElem? (i := 115) rfl))) (Or.inr (hw _ (List.mem_of_getElem? (i := 86) rfl))) (by decide) (t := (.array .char)) (t' := (.array .int)) (by decide) (by decide)))).other W39 (Or.inr (slot_ne (Or.inr (hw _ (List.mem_of_getElem? (i := 115) rfl))) (Or.inr (hw _ (List.mem_of_getElem? (i := 89) rfl))) (by decide) (t := (.array .char)) (t' := .int) (by decide) (by decide)))).other W47 (Or.inr (slot_ne (Or.inr (hw _ (List.mem_of_getElem? (i := 115) rfl))) (Or.inr (hw _ (List.mem_of_getElem? (i := 92) rfl))) (by decide) (t := (.array .char)) (t' := (.array .int)) (by decide) (by decide)))).other W55 (Or.inr (slot_ne (Or.inr (hw _ (List.mem_of_getElem? (i := 115) rfl))) (Or.inr (hw _ (List.mem_of_getElem? (i := 95) rfl))) (by decide) (t := (.array .char)) (t' := (.array .int)) (by decide) (by decide)))).other W63 (Or.inr (slot_ne (Or.inr (hw _ (List.mem_of_getElem? (i := 115) rfl))) (Or.inr (hw _ (List.mem_of_getElem? (i := 98) rfl))) (by decide) (t := (.array .char)) (t' := (.array .int)) (by decide) (by decide)))).other W71 (Or.inr (slot_ne (Or.inr (hw _ (List.mem_of_getElem? (i := 115) rfl))) (Or.inr (hw _ (List.mem_of_getElem? (i := 101) rfl))) (by decide) (t := (.array .char)) (t' := (.array .byte)) (by decide) (by decide)))).other W79 (Or.inr (slot_ne (Or.inr (hw _ (List.mem_of_getElem? (i := 115) rfl))) (Or.inr (hw _ (List.mem_of_getElem? (i := 105) rfl))) (by decide) (t := (.array .char)) (t' := .int) (by decide) (by decide)))).other W87 (Or.inr (slot_ne (Or.inr (hw _ (List.mem_of_getElem? (i := 115) rfl))) (Or.inr (hw _ (List.mem_of_getElem? (i := 108) rfl))) (by decide) (t := (.array .char)) (t' := (.object "java/util/List")) (by decide) (by decide)))).other W95 (Or.inr (slot_ne (Or.inr (hw _ (List.mem_of_getElem? (i := 115) rfl))) (Or.inr (hw _ (List.mem_of_getElem? (i := 111) rfl))) (by decide) (t := (.array .char)) (t' := (.array .byte)) (by decide) (by decide))))
  obtain ⟨T103, h103, X103, e103, W103, st103⟩ := putF X99 hx hZ hown (host := "") (Or.inl (hw _ (List.mem_of_getElem? (i := 114) rfl))) Via.refl e99 f102 f101 (Or.inr ⟨(hw _ (List.mem_of_getElem? (i := 115) rfl)), rfl, hnm⟩) (hw _ (List.mem_of_getElem? (i := 69) rfl)) (ty := (.array .char)) (by decide) rfl rfl (g := (mkF m 105 #[.val (.ref ra), .val (.ref rb)] [.null, (.ref ra)])) rfl rfl (hb hby d7_105)
  have K103 : Keep h0 h103 [ra] := K95.wr W103 (Or.inl (by simp))
  have z103 : n0 ≤ h103.size := Nat.le_trans Z0 K103.1
  have N103 := Fr.snoc X103 N95 g_ra
  have Fw103 := f102.same W103
  have pre104 : ∀ t, Steps p.tables e below (T103.setTop (mkF m 108 #[.val (.ref ra), .val (.ref rb)] [])) t → Steps p.tables e below (s₁.setTop (entryFrame m #[(.ref ra), (.ref rb)] 2)) t := fun t k => pre100 t (st103 t k)
  have pre105 : ∀ t, Steps p.tables e below (T103.setTop (mkF m 110 #[.val (.ref ra), .val (.ref rb)] [(.ref rb), (.ref ra)])) t → Steps p.tables e below (s₁.setTop (entryFrame m #[(.ref ra), (.ref rb)] 2)) t := by
    intro t k
    refine pre104 t ?_
    refine XS.aloadN X103.here hx rfl (hb hby d7_108) rfl rfl ?_
    show Steps p.tables e below (T103.setTop (mkF m 109 #[.val (.ref ra), .val (.ref rb)] [(.ref ra)])) _
    refine XS.aloadN X103.here hx rfl (hb hby d7_109) rfl rfl ?_
    show Steps p.tables e below (T103.setTop (mkF m 110 #[.val (.ref ra), .val (.ref rb)] [(.ref rb), (.ref ra)])) _
    exact k
  have f106 := (((((((((((((P_valueStarts.other W7 (Or.inl hne)).other W15 (Or.inl hne)).other W23 (Or.inl hne)).other W31 (Or.inl hne)).other W39 (Or.inl hne)).other W47 (Or.inl hne)).other W55 (Or.inl hne)).other W63 (Or.inl hne)).other W71 (Or.inl hne)).other W79 (Or.inl hne)).other W87 (Or.inl hne)).other W95 (Or.inl hne)).other W103 (Or.inl hne))
  obtain ⟨T107, X107, e107, st107⟩ := getF X103 hx hZ hown (host := "") (Or.inl (hw _ (List.mem_of_getElem? (i := 116) rfl))) Via.refl e103 f106 (g := (mkF m 110 #[.val (.ref ra), .val (.ref rb)] [(.ref rb), (.ref ra)])) rfl rfl (hb hby d7_110)
  have pre108 : ∀ t, Steps p.tables e below (T107.setTop (mkF m 113 #[.val (.ref ra), .val (.ref rb)] [(.ref u_valueStarts), (.ref ra)])) t → Steps p.tables e below (s₁.setTop (entryFrame m #[(.ref ra), (.ref rb)] 2)) t := fun t k => pre105 t (st107 t k)
  have f109 := (f101.wr W103)
  have f110 := (((((((((((((F_valueStarts_ra.other W7 (Or.inr (slot_ne (Or.inr (hw _ (List.mem_of_getElem? (i := 118) rfl))) (Or.inr (hw _ (List.mem_of_getElem? (i := 77) rfl))) (by decide) (t := (.array .int)) (t' := (.array .byte)) (by decide) (by decide)))).other W15 (Or.inr (slot_ne (Or.inr (hw _ (List.mem_of_getElem? (i := 118) rfl))) (Or.inr (hw _ (List.mem_of_getElem? (i := 80) rfl))) (by decide) (t := (.array .int)) (t' := (.array .int)) (by decide) (by decide)))).other W23 (Or.inr (slot_ne (Or.inr (hw _ (List.mem_of_getElem? (i := 118) rfl))) (Or.inr (hw _ (List.mem_of_getElem? (i := 83) rfl))) (by decide) (t := (.array .int)) (t' := (.array .int)) (by decide) (by decide)))).other W31 (Or.inr (slot_ne (Or.inr (hw _ (List.mem_of_getElem? (i := 118) rfl))) (Or.inr (hw _ (List.mem_of_getElem? (i := 86) rfl))) (by decide) (t := (.array .int)) (t' := (.array .int)) (by decide) (by decide)))).other W39 (Or.inr (slot_ne (Or.inr (hw _ (List.mem_of_getElem? (i := 118) rfl))) (Or.inr (hw _ (List.mem_of_getElem? (i := 89) rfl))) (by decide) (t := (.array .int)) (t' := .int) (by decide) (by decide)))).other W47 (Or.inr (slot_ne (Or.inr (hw _ (List.mem_of_getElem? (i := 118) rfl))) (Or.inr (hw _ (List.mem_of_getElem? (i := 92) rfl))) (by decide) (t := (.array .int)) (t' := (.array .int)) (by decide) (by decide)))).other W55 (Or.inr (slot_ne (Or.inr (hw _ (List.mem_of_getElem? (i := 118) rfl))) (Or.inr (hw _ (List.mem_of_getElem? (i := 95) rfl))) (by decide) (t := (.array .int)) (t' := (.array .int)) (by decide) (by decide)))).other W63 (Or.inr (slot_ne (Or.inr (hw _ (List.mem_of_getElem? (i := 118) rfl))) (Or.inr (hw _ (List.mem_of_getElem? (i := 98) rfl))) (by decide) (t := (.array .int)) (t' := (.array .int)) (by decide) (by decide)))).other W71 (Or.inr (slot_ne (Or.inr (hw _ (List.mem_of_getElem? (i := 118) rfl))) (Or.inr (hw _ (List.mem_of_getElem? (i := 101) rfl))) (by decide) (t := (.array .int)) (t' := (.array .byte)) (by decide) (by decide)))).other W79 (Or.inr (slot_ne (Or.inr (hw _ (List.mem_of_getElem? (i := 118) rfl))) (Or.inr (hw _ (List.mem_of_getElem? (i := 105) rfl))) (by decide) (t := (.array .int)) (t' := .int) (by decide) (by decide)))).other W87 (Or.inr (slot_ne (Or.inr (hw _ (List.mem_of_getElem? (i := 118) rfl))) (Or.inr (hw _ (List.mem_of_getElem? (i := 108) rfl))) (by decide) (t := (.array .int)) (t' := (.object "java/util/List")) (by decide) (by decide)))).other W95 (Or.inr (slot_ne (Or.inr (hw _ (List.mem_of_getElem? (i := 118) rfl))) (Or.inr (hw _ (List.mem_of_getElem? (i := 111) rfl))) (by decide) (t := (.array .int)) (t' := (.array .byte)) (by decide) (by decide)))).other W103 (Or.inr (slot_ne (Or.inr (hw _ (List.mem_of_getElem? (i := 118) rfl))) (Or.inr (hw _ (List.mem_of_getElem? (i := 115) rfl))) (by decide) (t := (.array .int)) (t' := (.array .char)) (by decide) (by decide))))
  obtain ⟨T111, h111, X111, e111, W111, st111⟩ := putF X107 hx hZ hown (host := "") (Or.inl (hw _ (List.mem_of_getElem? (i := 117) rfl))) Via.refl e107 f110 f109 (Or.inr ⟨(hw _ (List.mem_of_getElem? (i := 118) rfl)), rfl, hnm⟩) (hw _ (List.mem_of_getElem? (i := 69) rfl)) (ty := (.array .int)) (by decide) rfl rfl (g := (mkF m 113 #[.val (.ref ra), .val (.ref rb)] [(.ref u_valueStarts), (.ref ra)])) rfl rfl (hb hby d7_113)
  have K111 : Keep h0 h111 [ra] := K103.wr W111 (Or.inl (by simp))
  have z111 : n0 ≤ h111.size := Nat.le_trans Z0 K111.1
  have N111 := Fr.snoc X111 N103 g_ra
  have Fw111 := f110.same W111
  have pre112 : ∀ t, Steps p.tables e below (T111.setTop (mkF m 116 #[.val (.ref ra), .val (.ref rb)] [])) t → Steps p.tables e below (s₁.setTop (entryFrame m #[(.ref ra), (.ref rb)] 2)) t := fun t k => pre108 t (st111 t k)
  have pre113 : ∀ t, Steps p.tables e below (T111.setTop (mkF m 118 #[.val (.ref ra), .val (.ref rb)] [(.ref rb), (.ref ra)])) t → Steps p.tables e below (s₁.setTop (entryFrame m #[(.ref ra), (.ref rb)] 2)) t := by
    intro t k
    refine pre112 t ?_
    refine XS.aloadN X111.here hx rfl (hb hby d7_116) rfl rfl ?_
    show Steps p.tables e below (T111.setTop (mkF m 117 #[.val (.ref ra), .val (.ref rb)] [(.ref ra)])) _
    refine XS.aloadN X111.here hx rfl (hb hby d7_117) rfl rfl ?_
    show Steps p.tables e below (T111.setTop (mkF m 118 #[.val (.ref ra), .val (.ref rb)] [(.ref rb), (.ref ra)])) _
    exact k
  have f114 := ((((((((((((((P_instructions.other W7 (Or.inl hne)).other W15 (Or.inl hne)).other W23 (Or.inl hne)).other W31 (Or.inl hne)).other W39 (Or.inl hne)).other W47 (Or.inl hne)).other W55 (Or.inl hne)).other W63 (Or.inl hne)).other W71 (Or.inl hne)).other W79 (Or.inl hne)).other W87 (Or.inl hne)).other W95 (Or.inl hne)).other W103 (Or.inl hne)).other W111 (Or.inl hne))
  obtain ⟨T115, X115, e115, st115⟩ := getF X111 hx hZ hown (host := "") (Or.inl (hw _ (List.mem_of_getElem? (i := 119) rfl))) Via.refl e111 f114 (g := (mkF m 118 #[.val (.ref ra), .val (.ref rb)] [(.ref rb), (.ref ra)])) rfl rfl (hb hby d7_118)
  have pre116 : ∀ t, Steps p.tables e below (T115.setTop (mkF m 121 #[.val (.ref ra), .val (.ref rb)] [(.ref u_instructions), (.ref ra)])) t → Steps p.tables e below (s₁.setTop (entryFrame m #[(.ref ra), (.ref rb)] 2)) t := fun t k => pre113 t (st115 t k)
  have f117 := (f109.wr W111)
  have f118 := ((((((((((((((F_instructions_ra.other W7 (Or.inr (slot_ne (Or.inr (hw _ (List.mem_of_getElem? (i := 121) rfl))) (Or.inr (hw _ (List.mem_of_getElem? (i := 77) rfl))) (by decide) (t := (.array .int)) (t' := (.array .byte)) (by decide) (by decide)))).other W15 (Or.inr (slot_ne (Or.inr (hw _ (List.mem_of_getElem? (i := 121) rfl))) (Or.inr (hw _ (List.mem_of_getElem? (i := 80) rfl))) (by decide) (t := (.array .int)) (t' := (.array .int)) (by decide) (by decide)))).other W23 (Or.inr (slot_ne (Or.inr (hw _ (List.mem_of_getElem? (i := 121) rfl))) (Or.inr (hw _ (List.mem_of_getElem? (i := 83) rfl))) (by decide) (t := (.array .int)) (t' := (.array .int)) (by decide) (by decide)))).other W31 (Or.inr (slot_ne (Or.inr (hw _ (List.mem_of_getElem? (i := 121) rfl))) (Or.inr (hw _ (List.mem_of_getElem? (i := 86) rfl))) (by decide) (t := (.array .int)) (t' := (.array .int)) (by decide) (by decide)))).other W39 (Or.inr (slot_ne (Or.inr (hw _ (List.mem_of_getElem? (i := 121) rfl))) (Or.inr (hw _ (List.mem_of_getElem? (i := 89) rfl))) (by decide) (t := (.array .int)) (t' := .int) (by decide) (by decide)))).other W47 (Or.inr (slot_ne (Or.inr (hw _ (List.mem_of_getElem? (i := 121) rfl))) (Or.inr (hw _ (List.mem_of_getElem? (i := 92) rfl))) (by decide) (t := (.array .int)) (t' := (.array .int)) (by decide) (by decide)))).other W55 (Or.inr (slot_ne (Or.inr (hw _ (List.mem_of_getElem? (i := 121) rfl))) (Or.inr (hw _ (List.mem_of_getElem? (i := 95) rfl))) (by decide) (t := (.array .int)) (t' := (.array .int)) (by decide) (by decide)))).other W63 (Or.inr (slot_ne (Or.inr (hw _ (List.mem_of_getElem? (i := 121) rfl))) (Or.inr (hw _ (List.mem_of_getElem? (i := 98) rfl))) (by decide) (t := (.array .int)) (t' := (.array .int)) (by decide) (by decide)))).other W71 (Or.inr (slot_ne (Or.inr (hw _ (List.mem_of_getElem? (i := 121) rfl))) (Or.inr (hw _ (List.mem_of_getElem? (i := 101) rfl))) (by decide) (t := (.array .int)) (t' := (.array .byte)) (by decide) (by decide)))).other W79 (Or.inr (slot_ne (Or.inr (hw _ (List.mem_of_getElem? (i := 121) rfl))) (Or.inr (hw _ (List.mem_of_getElem? (i := 105) rfl))) (by decide) (t := (.array .int)) (t' := .int) (by decide) (by decide)))).other W87 (Or.inr (slot_ne (Or.inr (hw _ (List.mem_of_getElem? (i := 121) rfl))) (Or.inr (hw _ (List.mem_of_getElem? (i := 108) rfl))) (by decide) (t := (.array .int)) (t' := (.object "java/util/List")) (by decide) (by decide)))).other W95 (Or.inr (slot_ne (Or.inr (hw _ (List.mem_of_getElem? (i := 121) rfl))) (Or.inr (hw _ (List.mem_of_getElem? (i := 111) rfl))) (by decide) (t := (.array .int)) (t' := (.array .byte)) (by decide) (by decide)))).other W103 (Or.inr (slot_ne (Or.inr (hw _ (List.mem_of_getElem? (i := 121) rfl))) (Or.inr (hw _ (List.mem_of_getElem? (i := 115) rfl))) (by decide) (t := (.array .int)) (t' := (.array .char)) (by decide) (by decide)))).other W111 (Or.inr (slot_ne (Or.inr (hw _ (List.mem_of_getElem? (i := 121) rfl))) (Or.inr (hw _ (List.mem_of_getElem? (i := 118) rfl))) (by decide) (t := (.array .int)) (t' := (.array .int)) (by decide) (by decide))))
  obtain ⟨T119, h119, X119, e119, W119, st119⟩ := putF X115 hx hZ hown (host := "") (Or.inl (hw _ (List.mem_of_getElem? (i := 120) rfl))) Via.refl e115 f118 f117 (Or.inr ⟨(hw _ (List.mem_of_getElem? (i := 121) rfl)), rfl, hnm⟩) (hw _ (List.mem_of_getElem? (i := 69) rfl)) (ty := (.array .int)) (by decide) rfl rfl (g := (mkF m 121 #[.val (.ref ra), .val (.ref rb)] [(.ref u_instructions), (.ref ra)])) rfl rfl (hb hby d7_121)
  have K119 : Keep h0 h119 [ra] := K111.wr W119 (Or.inl (by simp))
  have z119 : n0 ≤ h119.size := Nat.le_trans Z0 K119.1
  have N119 := Fr.snoc X119 N111 g_ra
  have Fw119 := f118.same W119
  have pre120 : ∀ t, Steps p.tables e below (T119.setTop (mkF m 124 #[.val (.ref ra), .val (.ref rb)] [])) t → Steps p.tables e below (s₁.setTop (entryFrame m #[(.ref ra), (.ref rb)] 2)) t := fun t k => pre116 t (st119 t k)
  have pre121 : ∀ t, Steps p.tables e below (T119.setTop (mkF m 126 #[.val (.ref ra), .val (.ref rb)] [(.ref rb), (.ref ra)])) t → Steps p.tables e below (s₁.setTop (entryFrame m #[(.ref ra), (.ref rb)] 2)) t := by
    intro t k
    refine pre120 t ?_
    refine XS.aloadN X119.here hx rfl (hb hby d7_124) rfl rfl ?_
    show Steps p.tables e below (T119.setTop (mkF m 125 #[.val (.ref ra), .val (.ref rb)] [(.ref ra)])) _
    refine XS.aloadN X119.here hx rfl (hb hby d7_125) rfl rfl ?_
    show Steps p.tables e below (T119.setTop (mkF m 126 #[.val (.ref ra), .val (.ref rb)] [(.ref rb), (.ref ra)])) _
    exact k
  have f122 := (((((((((((((((P_instructionData.other W7 (Or.inl hne)).other W15 (Or.inl hne)).other W23 (Or.inl hne)).other W31 (Or.inl hne)).other W39 (Or.inl hne)).other W47 (Or.inl hne)).other W55 (Or.inl hne)).other W63 (Or.inl hne)).other W71 (Or.inl hne)).other W79 (Or.inl hne)).other W87 (Or.inl hne)).other W95 (Or.inl hne)).other W103 (Or.inl hne)).other W111 (Or.inl hne)).other W119 (Or.inl hne))
  obtain ⟨T123, X123, e123, st123⟩ := getF X119 hx hZ hown (host := "") (Or.inl (hw _ (List.mem_of_getElem? (i := 122) rfl))) Via.refl e119 f122 (g := (mkF m 126 #[.val (.ref ra), .val (.ref rb)] [(.ref rb), (.ref ra)])) rfl rfl (hb hby d7_126)
  have pre124 : ∀ t, Steps p.tables e below (T123.setTop (mkF m 129 #[.val (.ref ra), .val (.ref rb)] [(.ref u_instructionData), (.ref ra)])) t → Steps p.tables e below (s₁.setTop (entryFrame m #[(.ref ra), (.ref rb)] 2)) t := fun t k => pre121 t (st123 t k)
  have f125 := (f117.wr W119)
  have f126 := (((((((((((((((F_instructionData_ra.other W7 (Or.inr (slot_ne (Or.inr (hw _ (List.mem_of_getElem? (i := 124) rfl))) (Or.inr (hw _ (List.mem_of_getElem? (i := 77) rfl))) (by decide) (t := (.array .int)) (t' := (.array .byte)) (by decide) (by decide)))).other W15 (Or.inr (slot_ne (Or.inr (hw _ (List.mem_of_getElem? (i := 124) rfl))) (Or.inr (hw _ (List.mem_of_getElem? (i := 80) rfl))) (by decide) (t := (.array .int)) (t' := (.array .int)) (by decide) (by decide)))).other W23 (Or.inr (slot_ne (Or.inr (hw _ (List.mem_of_getElem? (i := 124) rfl))) (Or.inr (hw _ (List.mem_of_getElem? (i := 83) rfl))) (by decide) (t := (.array .int)) (t' := (.array .int)) (by decide) (by decide)))).other W31 (Or.inr (slot_ne (Or.inr (hw _ (List.mem_of_getElem? (i := 124) rfl))) (Or.inr (hw _ (List.mem_of_getElem? (i := 86) rfl))) (by decide) (t := (.array .int)) (t' := (.array .int)) (by decide) (by decide)))).other W39 (Or.inr (slot_ne (Or.inr (hw _ (List.mem_of_getElem? (i := 124) rfl))) (Or.inr (hw _ (List.mem_of_getElem? (i := 89) rfl))) (by decide) (t := (.array .int)) (t' := .int) (by decide) (by decide)))).other W47 (Or.inr (slot_ne (Or.inr (hw _ (List.mem_of_getElem? (i := 124) rfl))) (Or.inr (hw _ (List.mem_of_getElem? (i := 92) rfl))) (by decide) (t := (.array .int)) (t' := (.array .int)) (by decide) (by decide)))).other W55 (Or.inr (slot_ne (Or.inr (hw _ (List.mem_of_getElem? (i := 124) rfl))) (Or.inr (hw _ (List.mem_of_getElem? (i := 95) rfl))) (by decide) (t := (.array .int)) (t' := (.array .int)) (by decide) (by decide)))).other W63 (Or.inr (slot_ne (Or.inr (hw _ (List.mem_of_getElem? (i := 124) rfl))) (Or.inr (hw _ (List.mem_of_getElem? (i := 98) rfl))) (by decide) (t := (.array .int)) (t' := (.array .int)) (by decide) (by decide)))).other W71 (Or.inr (slot_ne (Or.inr (hw _ (List.mem_of_getElem? (i := 124) rfl))) (Or.inr (hw _ (List.mem_of_getElem? (i := 101) rfl))) (by decide) (t := (.array .int)) (t' := (.array .byte)) (by decide) (by decide)))).other W79 (Or.inr (slot_ne (Or.inr (hw _ (List.mem_of_getElem? (i := 124) rfl))) (Or.inr (hw _ (List.mem_of_getElem? (i := 105) rfl))) (by decide) (t := (.array .int)) (t' := .int) (by decide) (by decide)))).other W87 (Or.inr (slot_ne (Or.inr (hw _ (List.mem_of_getElem? (i := 124) rfl))) (Or.inr (hw _ (List.mem_of_getElem? (i := 108) rfl))) (by decide) (t := (.array .int)) (t' := (.object "java/util/List")) (by decide) (by decide)))).other W95 (Or.inr (slot_ne (Or.inr (hw _ (List.mem_of_getElem? (i := 124) rfl))) (Or.inr (hw _ (List.mem_of_getElem? (i := 111) rfl))) (by decide) (t := (.array .int)) (t' := (.array .byte)) (by decide) (by decide)))).other W103 (Or.inr (slot_ne (Or.inr (hw _ (List.mem_of_getElem? (i := 124) rfl))) (Or.inr (hw _ (List.mem_of_getElem? (i := 115) rfl))) (by decide) (t := (.array .int)) (t' := (.array .char)) (by decide) (by decide)))).other W111 (Or.inr (slot_ne (Or.inr (hw _ (List.mem_of_getElem? (i := 124) rfl))) (Or.inr (hw _ (List.mem_of_getElem? (i := 118) rfl))) (by decide) (t := (.array .int)) (t' := (.array .int)) (by decide) (by decide)))).other W119 (Or.inr (slot_ne (Or.inr (hw _ (List.mem_of_getElem? (i := 124) rfl))) (Or.inr (hw _ (List.mem_of_getElem? (i := 121) rfl))) (by decide) (t := (.array .int)) (t' := (.array .int)) (by decide) (by decide))))
  obtain ⟨T127, h127, X127, e127, W127, st127⟩ := putF X123 hx hZ hown (host := "") (Or.inl (hw _ (List.mem_of_getElem? (i := 123) rfl))) Via.refl e123 f126 f125 (Or.inr ⟨(hw _ (List.mem_of_getElem? (i := 124) rfl)), rfl, hnm⟩) (hw _ (List.mem_of_getElem? (i := 69) rfl)) (ty := (.array .int)) (by decide) rfl rfl (g := (mkF m 129 #[.val (.ref ra), .val (.ref rb)] [(.ref u_instructionData), (.ref ra)])) rfl rfl (hb hby d7_129)
  have K127 : Keep h0 h127 [ra] := K119.wr W127 (Or.inl (by simp))
  have z127 : n0 ≤ h127.size := Nat.le_trans Z0 K127.1
  have N127 := Fr.snoc X127 N119 g_ra
  have Fw127 := f126.same W127
  have pre128 : ∀ t, Steps p.tables e below (T127.setTop (mkF m 132 #[.val (.ref ra), .val (.ref rb)] [])) t → Steps p.tables e below (s₁.setTop (entryFrame m #[(.ref ra), (.ref rb)] 2)) t := fun t k => pre124 t (st127 t k)
  obtain ⟨fs, hr, hrun, hended, hW, hsame⟩ := X127.leave (v := none) (fun _ => rfl)
  refine ⟨_, _, pre128 _ ?_, hrun, hended, _, _, rfl, ?_, ⟨_, rfl⟩, hW, hsame.mono (by decide) (by decide)⟩
  · exact X127.returnOut hx Bd.returns (hb hby d7_132) hr
  · show Q_rm_tree Z ra rb u_kinds u_parents u_nextSiblings u_data u_owners u_attributeNames u_attributeValues u_attributeTypes u_names u_narrowText u_valueStarts u_instructions u_instructionData u_nodeCount u_attributeCount h0 n0 _ T127.heap _
    rw [e127]
    exact ⟨rfl, N127, K127, (f125.wr W127), ((((((((((((((Fw15.other W23 (Or.inr (slot_ne (Or.inr (hw _ (List.mem_of_getElem? (i := 80) rfl))) (Or.inr (hw _ (List.mem_of_getElem? (i := 83) rfl))) (by decide) (t := (.array .int)) (t' := (.array .int)) (by decide) (by decide)))).other W31 (Or.inr (slot_ne (Or.inr (hw _ (List.mem_of_getElem? (i := 80) rfl))) (Or.inr (hw _ (List.mem_of_getElem? (i := 86) rfl))) (by decide) (t := (.array .int)) (t' := (.array .int)) (by decide) (by decide)))).other W39 (Or.inr (slot_ne (Or.inr (hw _ (List.mem_of_getElem? (i := 80) rfl))) (Or.inr (hw _ (List.mem_of_getElem? (i := 89) rfl))) (by decide) (t := (.array .int)) (t' := .int) (by decide) (by decide)))).other W47 (Or.inr (slot_ne (Or.inr (hw _ (List.mem_of_getElem? (i := 80) rfl))) (Or.inr (hw _ (List.mem_of_getElem? (i := 92) rfl))) (by decide) (t := (.array .int)) (t' := (.array .int)) (by decide) (by decide)))).other W55 (Or.inr (slot_ne (Or.inr (hw _ (List.mem_of_getElem? (i := 80) rfl))) (Or.inr (hw _ (List.mem_of_getElem? (i := 95) rfl))) (by decide) (t := (.array .int)) (t' := (.array .int)) (by decide) (by decide)))).other W63 (Or.inr (slot_ne (Or.inr (hw _ (List.mem_of_getElem? (i := 80) rfl))) (Or.inr (hw _ (List.mem_of_getElem? (i := 98) rfl))) (by decide) (t := (.array .int)) (t' := (.array .int)) (by decide) (by decide)))).other W71 (Or.inr (slot_ne (Or.inr (hw _ (List.mem_of_getElem? (i := 80) rfl))) (Or.inr (hw _ (List.mem_of_getElem? (i := 101) rfl))) (by decide) (t := (.array .int)) (t' := (.array .byte)) (by decide) (by decide)))).other W79 (Or.inr (slot_ne (Or.inr (hw _ (List.mem_of_getElem? (i := 80) rfl))) (Or.inr (hw _ (List.mem_of_getElem? (i := 105) rfl))) (by decide) (t := (.array .int)) (t' := .int) (by decide) (by decide)))).other W87 (Or.inr (slot_ne (Or.inr (hw _ (List.mem_of_getElem? (i := 80) rfl))) (Or.inr (hw _ (List.mem_of_getElem? (i := 108) rfl))) (by decide) (t := (.array .int)) (t' := (.object "java/util/List")) (by decide) (by decide)))).other W95 (Or.inr (slot_ne (Or.inr (hw _ (List.mem_of_getElem? (i := 80) rfl))) (Or.inr (hw _ (List.mem_of_getElem? (i := 111) rfl))) (by decide) (t := (.array .int)) (t' := (.array .byte)) (by decide) (by decide)))).other W103 (Or.inr (slot_ne (Or.inr (hw _ (List.mem_of_getElem? (i := 80) rfl))) (Or.inr (hw _ (List.mem_of_getElem? (i := 115) rfl))) (by decide) (t := (.array .int)) (t' := (.array .char)) (by decide) (by decide)))).other W111 (Or.inr (slot_ne (Or.inr (hw _ (List.mem_of_getElem? (i := 80) rfl))) (Or.inr (hw _ (List.mem_of_getElem? (i := 118) rfl))) (by decide) (t := (.array .int)) (t' := (.array .int)) (by decide) (by decide)))).other W119 (Or.inr (slot_ne (Or.inr (hw _ (List.mem_of_getElem? (i := 80) rfl))) (Or.inr (hw _ (List.mem_of_getElem? (i := 121) rfl))) (by decide) (t := (.array .int)) (t' := (.array .int)) (by decide) (by decide)))).other W127 (Or.inr (slot_ne (Or.inr (hw _ (List.mem_of_getElem? (i := 80) rfl))) (Or.inr (hw _ (List.mem_of_getElem? (i := 124) rfl))) (by decide) (t := (.array .int)) (t' := (.array .int)) (by decide) (by decide)))), (((((((((((((Fw23.other W31 (Or.inr (slot_ne (Or.inr (hw _ (List.mem_of_getElem? (i := 83) rfl))) (Or.inr (hw _ (List.mem_of_getElem? (i := 86) rfl))) (by decide) (t := (.array .int)) (t' := (.array .int)) (by decide) (by decide)))).other W39 (Or.inr (slot_ne (Or.inr (hw _ (List.mem_of_getElem? (i := 83) rfl))) (Or.inr (hw _ (List.mem_of_getElem? (i := 89) rfl))) (by decide) (t := (.array .int)) (t' := .int) (by decide) (by decide)))).other W47 (Or.inr (slot_ne (Or.inr (hw _ (List.mem_of_getElem? (i := 83) rfl))) (Or.inr (hw _ (List.mem_of_getElem? (i := 92) rfl))) (by decide) (t := (.array .int)) (t' := (.array .int)) (by decide) (by decide)))).other W55 (Or.inr (slot_ne (Or.inr (hw _ (List.mem_of_getElem? (i := 83) rfl))) (Or.inr (hw _ (List.mem_of_getElem? (i := 95) rfl))) (by decide) (t := (.array .int)) (t' := (.array .int)) (by decide) (by decide)))).other W63 (Or.inr (slot_ne (Or.inr (hw _ (List.mem_of_getElem? (i := 83) rfl))) (Or.inr (hw _ (List.mem_of_getElem? (i := 98) rfl))) (by decide) (t := (.array .int)) (t' := (.array .int)) (by decide) (by decide)))).other W71 (Or.inr (slot_ne (Or.inr (hw _ (List.mem_of_getElem? (i := 83) rfl))) (Or.inr (hw _ (List.mem_of_getElem? (i := 101) rfl))) (by decide) (t := (.array .int)) (t' := (.array .byte)) (by decide) (by decide)))).other W79 (Or.inr (slot_ne (Or.inr (hw _ (List.mem_of_getElem? (i := 83) rfl))) (Or.inr (hw _ (List.mem_of_getElem? (i := 105) rfl))) (by decide) (t := (.array .int)) (t' := .int) (by decide) (by decide)))).other W87 (Or.inr (slot_ne (Or.inr (hw _ (List.mem_of_getElem? (i := 83) rfl))) (Or.inr (hw _ (List.mem_of_getElem? (i := 108) rfl))) (by decide) (t := (.array .int)) (t' := (.object "java/util/List")) (by decide) (by decide)))).other W95 (Or.inr (slot_ne (Or.inr (hw _ (List.mem_of_getElem? (i := 83) rfl))) (Or.inr (hw _ (List.mem_of_getElem? (i := 111) rfl))) (by decide) (t := (.array .int)) (t' := (.array .byte)) (by decide) (by decide)))).other W103 (Or.inr (slot_ne (Or.inr (hw _ (List.mem_of_getElem? (i := 83) rfl))) (Or.inr (hw _ (List.mem_of_getElem? (i := 115) rfl))) (by decide) (t := (.array .int)) (t' := (.array .char)) (by decide) (by decide)))).other W111 (Or.inr (slot_ne (Or.inr (hw _ (List.mem_of_getElem? (i := 83) rfl))) (Or.inr (hw _ (List.mem_of_getElem? (i := 118) rfl))) (by decide) (t := (.array .int)) (t' := (.array .int)) (by decide) (by decide)))).other W119 (Or.inr (slot_ne (Or.inr (hw _ (List.mem_of_getElem? (i := 83) rfl))) (Or.inr (hw _ (List.mem_of_getElem? (i := 121) rfl))) (by decide) (t := (.array .int)) (t' := (.array .int)) (by decide) (by decide)))).other W127 (Or.inr (slot_ne (Or.inr (hw _ (List.mem_of_getElem? (i := 83) rfl))) (Or.inr (hw _ (List.mem_of_getElem? (i := 124) rfl))) (by decide) (t := (.array .int)) (t' := (.array .int)) (by decide) (by decide))))⟩
def own_st (xs : List Int32) (j k a : Int32) : Int32 := if j < k then (if a = (0 : Int32) then a else own_at xs a) else a
def own_up (xs : List Int32) (a k : Int32) : Int32 := (own_st xs 4 k (own_st xs 3 k (own_st xs 2 k (own_st xs 1 k (own_st xs 0 k a)))))
def own_cl (xs : List Int32) : Prop := ∀ a : Int32, own_in a → ¬ (a = (0 : Int32)) → own_in (own_at xs a)
theorem own_stin {xs : List Int32} {j k a v : Int32} (hc : own_cl xs) (ha : own_in a) (hv : v = own_st xs j k a) : own_in v := by
  rw [hv, own_st]
  split
  · split
    · first | exact ha | (rename_i h; exact hc a ha h)
    · first | exact ha | (rename_i h; exact hc a ha h)
  · exact ha
theorem own_same (xs : List Int32) (a k k' : Int32) (h0 : ((0 : Int32) < k) = ((0 : Int32) < k')) (h1 : ((1 : Int32) < k) = ((1 : Int32) < k')) (h2 : ((2 : Int32) < k) = ((2 : Int32) < k')) (h3 : ((3 : Int32) < k) = ((3 : Int32) < k')) (h4 : ((4 : Int32) < k) = ((4 : Int32) < k')) : own_up xs a k = own_up xs a k' := by
  unfold own_up own_st
  simp only [h0, h1, h2, h3, h4]
theorem own_sat (k : Int32) : ∃ c : Fin 6, ∀ (xs : List Int32) (a : Int32), own_up xs a k = own_up xs a (own_n c) := by
  have z : (0 : Int32).toInt = 0 ∧ (1 : Int32).toInt = 1 ∧ (2 : Int32).toInt = 2 ∧ (3 : Int32).toInt = 3 ∧ (4 : Int32).toInt = 4 := ⟨rfl, rfl, rfl, rfl, rfl⟩
  by_cases c0 : ¬ ((0 : Int32) < k)
  · exact ⟨0, fun xs a => own_same xs a _ _ (propext ⟨fun q => absurd (show (0 : Int32) < k from q) (by rw [Int32.lt_iff_toInt_lt] at *; omega), fun q => absurd q (by decide)⟩) (propext ⟨fun q => absurd (show (1 : Int32) < k from q) (by rw [Int32.lt_iff_toInt_lt] at *; omega), fun q => absurd q (by decide)⟩) (propext ⟨fun q => absurd (show (2 : Int32) < k from q) (by rw [Int32.lt_iff_toInt_lt] at *; omega), fun q => absurd q (by decide)⟩) (propext ⟨fun q => absurd (show (3 : Int32) < k from q) (by rw [Int32.lt_iff_toInt_lt] at *; omega), fun q => absurd q (by decide)⟩) (propext ⟨fun q => absurd (show (4 : Int32) < k from q) (by rw [Int32.lt_iff_toInt_lt] at *; omega), fun q => absurd q (by decide)⟩)⟩
  by_cases c1 : ¬ ((1 : Int32) < k)
  · exact ⟨1, fun xs a => own_same xs a _ _ (propext ⟨fun _ => by decide, fun _ => by rw [Int32.lt_iff_toInt_lt] at *; omega⟩) (propext ⟨fun q => absurd (show (1 : Int32) < k from q) (by rw [Int32.lt_iff_toInt_lt] at *; omega), fun q => absurd q (by decide)⟩) (propext ⟨fun q => absurd (show (2 : Int32) < k from q) (by rw [Int32.lt_iff_toInt_lt] at *; omega), fun q => absurd q (by decide)⟩) (propext ⟨fun q => absurd (show (3 : Int32) < k from q) (by rw [Int32.lt_iff_toInt_lt] at *; omega), fun q => absurd q (by decide)⟩) (propext ⟨fun q => absurd (show (4 : Int32) < k from q) (by rw [Int32.lt_iff_toInt_lt] at *; omega), fun q => absurd q (by decide)⟩)⟩
  by_cases c2 : ¬ ((2 : Int32) < k)
  · exact ⟨2, fun xs a => own_same xs a _ _ (propext ⟨fun _ => by decide, fun _ => by rw [Int32.lt_iff_toInt_lt] at *; omega⟩) (propext ⟨fun _ => by decide, fun _ => by rw [Int32.lt_iff_toInt_lt] at *; omega⟩) (propext ⟨fun q => absurd (show (2 : Int32) < k from q) (by rw [Int32.lt_iff_toInt_lt] at *; omega), fun q => absurd q (by decide)⟩) (propext ⟨fun q => absurd (show (3 : Int32) < k from q) (by rw [Int32.lt_iff_toInt_lt] at *; omega), fun q => absurd q (by decide)⟩) (propext ⟨fun q => absurd (show (4 : Int32) < k from q) (by rw [Int32.lt_iff_toInt_lt] at *; omega), fun q => absurd q (by decide)⟩)⟩
  by_cases c3 : ¬ ((3 : Int32) < k)
  · exact ⟨3, fun xs a => own_same xs a _ _ (propext ⟨fun _ => by decide, fun _ => by rw [Int32.lt_iff_toInt_lt] at *; omega⟩) (propext ⟨fun _ => by decide, fun _ => by rw [Int32.lt_iff_toInt_lt] at *; omega⟩) (propext ⟨fun _ => by decide, fun _ => by rw [Int32.lt_iff_toInt_lt] at *; omega⟩) (propext ⟨fun q => absurd (show (3 : Int32) < k from q) (by rw [Int32.lt_iff_toInt_lt] at *; omega), fun q => absurd q (by decide)⟩) (propext ⟨fun q => absurd (show (4 : Int32) < k from q) (by rw [Int32.lt_iff_toInt_lt] at *; omega), fun q => absurd q (by decide)⟩)⟩
  by_cases c4 : ¬ ((4 : Int32) < k)
  · exact ⟨4, fun xs a => own_same xs a _ _ (propext ⟨fun _ => by decide, fun _ => by rw [Int32.lt_iff_toInt_lt] at *; omega⟩) (propext ⟨fun _ => by decide, fun _ => by rw [Int32.lt_iff_toInt_lt] at *; omega⟩) (propext ⟨fun _ => by decide, fun _ => by rw [Int32.lt_iff_toInt_lt] at *; omega⟩) (propext ⟨fun _ => by decide, fun _ => by rw [Int32.lt_iff_toInt_lt] at *; omega⟩) (propext ⟨fun q => absurd (show (4 : Int32) < k from q) (by rw [Int32.lt_iff_toInt_lt] at *; omega), fun q => absurd q (by decide)⟩)⟩
  exact ⟨5, fun xs a => own_same xs a _ _ (propext ⟨fun _ => by decide, fun _ => by rw [Int32.lt_iff_toInt_lt] at *; omega⟩) (propext ⟨fun _ => by decide, fun _ => by rw [Int32.lt_iff_toInt_lt] at *; omega⟩) (propext ⟨fun _ => by decide, fun _ => by rw [Int32.lt_iff_toInt_lt] at *; omega⟩) (propext ⟨fun _ => by decide, fun _ => by rw [Int32.lt_iff_toInt_lt] at *; omega⟩) (propext ⟨fun _ => by decide, fun _ => by rw [Int32.lt_iff_toInt_lt] at *; omega⟩)⟩
def own_P2 (c2 : Fin 2) : Int32 := own_up ([(-1 : Int32), (0 : Int32), (0 : Int32), (0 : Int32), (0 : Int32), (0 : Int32), (0 : Int32)] : List Int32) (1 : Int32) (own_n c2)
def own_G2 (p2 : Int32) : Prop := ∃ (c2 : Fin 2), p2 = (own_P2 c2)
theorem own_cl2 : own_cl ([(-1 : Int32), (0 : Int32), (0 : Int32), (0 : Int32), (0 : Int32), (0 : Int32), (0 : Int32)] : List Int32) := by
  intro a ha hn
  obtain ⟨i, rfl⟩ := own_in_fin a ha
  revert i
  decide +kernel
theorem own_g2 (p2 xk : Int32) (h : p2 = own_up ([(-1 : Int32), (0 : Int32), (0 : Int32), (0 : Int32), (0 : Int32), (0 : Int32), (0 : Int32)] : List Int32) (1 : Int32) xk) : own_G2 p2 := by
  obtain ⟨c, hc⟩ := own_sat xk
  obtain ⟨c2, e⟩ := (by decide +kernel : ∀ c : Fin 6, ∃ c2 : Fin 2, own_up ([(-1 : Int32), (0 : Int32), (0 : Int32), (0 : Int32), (0 : Int32), (0 : Int32), (0 : Int32)] : List Int32) (1 : Int32) (own_n c) = (own_P2 c2))  c
  exact ⟨c2, h.trans ((hc _ _).trans e)⟩
def own_P3 (c2 : Fin 2) (c3 : Fin 3) : Int32 := own_up ([(-1 : Int32), (0 : Int32), (own_P2 c2), (0 : Int32), (0 : Int32), (0 : Int32), (0 : Int32)] : List Int32) (2 : Int32) (own_n c3)
def own_G3 (p2 p3 : Int32) : Prop := ∃ (c2 : Fin 2) (c3 : Fin 3), p2 = (own_P2 c2) ∧ p3 = (own_P3 c2 c3)
theorem own_cl3 (p2 : Int32) (G : own_G2 p2) : own_cl ([(-1 : Int32), (0 : Int32), p2, (0 : Int32), (0 : Int32), (0 : Int32), (0 : Int32)] : List Int32) := by
  obtain ⟨c2, rfl⟩ := G
  intro a ha hn
  obtain ⟨i, rfl⟩ := own_in_fin a ha
  revert c2 i
  decide +kernel
theorem own_g3 (p2 : Int32) (p3 xk : Int32) (G : own_G2 p2) (h : p3 = own_up ([(-1 : Int32), (0 : Int32), p2, (0 : Int32), (0 : Int32), (0 : Int32), (0 : Int32)] : List Int32) (2 : Int32) xk) : own_G3 p2 p3 := by
  obtain ⟨c2, rfl⟩ := G
  obtain ⟨c, hc⟩ := own_sat xk
  obtain ⟨c3, e⟩ := (by decide +kernel : ∀ c2 : Fin 2, ∀ c : Fin 6, ∃ c3 : Fin 3, own_up ([(-1 : Int32), (0 : Int32), (own_P2 c2), (0 : Int32), (0 : Int32), (0 : Int32), (0 : Int32)] : List Int32) (2 : Int32) (own_n c) = (own_P3 c2 c3)) c2 c
  exact ⟨c2, c3, rfl, h.trans ((hc _ _).trans e)⟩
def own_P4 (c2 : Fin 2) (c3 : Fin 3) (c4 : Fin 4) : Int32 := own_up ([(-1 : Int32), (0 : Int32), (own_P2 c2), (own_P3 c2 c3), (0 : Int32), (0 : Int32), (0 : Int32)] : List Int32) (3 : Int32) (own_n c4)
def own_G4 (p2 p3 p4 : Int32) : Prop := ∃ (c2 : Fin 2) (c3 : Fin 3) (c4 : Fin 4), p2 = (own_P2 c2) ∧ p3 = (own_P3 c2 c3) ∧ p4 = (own_P4 c2 c3 c4)
theorem own_cl4 (p2 p3 : Int32) (G : own_G3 p2 p3) : own_cl ([(-1 : Int32), (0 : Int32), p2, p3, (0 : Int32), (0 : Int32), (0 : Int32)] : List Int32) := by
  obtain ⟨c2, c3, rfl, rfl⟩ := G
  intro a ha hn
  obtain ⟨i, rfl⟩ := own_in_fin a ha
  revert c2 c3 i
  decide +kernel
theorem own_g4 (p2 p3 : Int32) (p4 xk : Int32) (G : own_G3 p2 p3) (h : p4 = own_up ([(-1 : Int32), (0 : Int32), p2, p3, (0 : Int32), (0 : Int32), (0 : Int32)] : List Int32) (3 : Int32) xk) : own_G4 p2 p3 p4 := by
  obtain ⟨c2, c3, rfl, rfl⟩ := G
  obtain ⟨c, hc⟩ := own_sat xk
  obtain ⟨c4, e⟩ := (by decide +kernel : ∀ c2 : Fin 2, ∀ c3 : Fin 3, ∀ c : Fin 6, ∃ c4 : Fin 4, own_up ([(-1 : Int32), (0 : Int32), (own_P2 c2), (own_P3 c2 c3), (0 : Int32), (0 : Int32), (0 : Int32)] : List Int32) (3 : Int32) (own_n c) = (own_P4 c2 c3 c4)) c2 c3 c
  exact ⟨c2, c3, c4, rfl, rfl, h.trans ((hc _ _).trans e)⟩
def own_P5 (c2 : Fin 2) (c3 : Fin 3) (c4 : Fin 4) (c5 : Fin 5) : Int32 := own_up ([(-1 : Int32), (0 : Int32), (own_P2 c2), (own_P3 c2 c3), (own_P4 c2 c3 c4), (0 : Int32), (0 : Int32)] : List Int32) (4 : Int32) (own_n c5)
def own_G5 (p2 p3 p4 p5 : Int32) : Prop := ∃ (c2 : Fin 2) (c3 : Fin 3) (c4 : Fin 4) (c5 : Fin 5), p2 = (own_P2 c2) ∧ p3 = (own_P3 c2 c3) ∧ p4 = (own_P4 c2 c3 c4) ∧ p5 = (own_P5 c2 c3 c4 c5)
theorem own_cl5 (p2 p3 p4 : Int32) (G : own_G4 p2 p3 p4) : own_cl ([(-1 : Int32), (0 : Int32), p2, p3, p4, (0 : Int32), (0 : Int32)] : List Int32) := by
  obtain ⟨c2, c3, c4, rfl, rfl, rfl⟩ := G
  intro a ha hn
  obtain ⟨i, rfl⟩ := own_in_fin a ha
  revert c2 c3 c4 i
  decide +kernel
theorem own_g5 (p2 p3 p4 : Int32) (p5 xk : Int32) (G : own_G4 p2 p3 p4) (h : p5 = own_up ([(-1 : Int32), (0 : Int32), p2, p3, p4, (0 : Int32), (0 : Int32)] : List Int32) (4 : Int32) xk) : own_G5 p2 p3 p4 p5 := by
  obtain ⟨c2, c3, c4, rfl, rfl, rfl⟩ := G
  obtain ⟨c, hc⟩ := own_sat xk
  obtain ⟨c5, e⟩ := (by decide +kernel : ∀ c2 : Fin 2, ∀ c3 : Fin 3, ∀ c4 : Fin 4, ∀ c : Fin 6, ∃ c5 : Fin 5, own_up ([(-1 : Int32), (0 : Int32), (own_P2 c2), (own_P3 c2 c3), (own_P4 c2 c3 c4), (0 : Int32), (0 : Int32)] : List Int32) (4 : Int32) (own_n c) = (own_P5 c2 c3 c4 c5)) c2 c3 c4 c
  exact ⟨c2, c3, c4, c5, rfl, rfl, rfl, h.trans ((hc _ _).trans e)⟩
def own_P6 (c2 : Fin 2) (c3 : Fin 3) (c4 : Fin 4) (c5 : Fin 5) (c6 : Fin 6) : Int32 := own_up ([(-1 : Int32), (0 : Int32), (own_P2 c2), (own_P3 c2 c3), (own_P4 c2 c3 c4), (own_P5 c2 c3 c4 c5), (0 : Int32)] : List Int32) (5 : Int32) (own_n c6)
def own_G6 (p2 p3 p4 p5 p6 : Int32) : Prop := ∃ (c2 : Fin 2) (c3 : Fin 3) (c4 : Fin 4) (c5 : Fin 5) (c6 : Fin 6), p2 = (own_P2 c2) ∧ p3 = (own_P3 c2 c3) ∧ p4 = (own_P4 c2 c3 c4) ∧ p5 = (own_P5 c2 c3 c4 c5) ∧ p6 = (own_P6 c2 c3 c4 c5 c6)
theorem own_cl6 (p2 p3 p4 p5 : Int32) (G : own_G5 p2 p3 p4 p5) : own_cl ([(-1 : Int32), (0 : Int32), p2, p3, p4, p5, (0 : Int32)] : List Int32) := by
  obtain ⟨c2, c3, c4, c5, rfl, rfl, rfl, rfl⟩ := G
  intro a ha hn
  obtain ⟨i, rfl⟩ := own_in_fin a ha
  revert c2 c3 c4 c5 i
  decide +kernel
theorem own_g6 (p2 p3 p4 p5 : Int32) (p6 xk : Int32) (G : own_G5 p2 p3 p4 p5) (h : p6 = own_up ([(-1 : Int32), (0 : Int32), p2, p3, p4, p5, (0 : Int32)] : List Int32) (5 : Int32) xk) : own_G6 p2 p3 p4 p5 p6 := by
  obtain ⟨c2, c3, c4, c5, rfl, rfl, rfl, rfl⟩ := G
  obtain ⟨c, hc⟩ := own_sat xk
  obtain ⟨c6, e⟩ := (by decide +kernel : ∀ c2 : Fin 2, ∀ c3 : Fin 3, ∀ c4 : Fin 4, ∀ c5 : Fin 5, ∀ c : Fin 6, ∃ c6 : Fin 6, own_up ([(-1 : Int32), (0 : Int32), (own_P2 c2), (own_P3 c2 c3), (own_P4 c2 c3 c4), (own_P5 c2 c3 c4 c5), (0 : Int32)] : List Int32) (5 : Int32) (own_n c) = (own_P6 c2 c3 c4 c5 c6)) c2 c3 c4 c5 c
  exact ⟨c2, c3, c4, c5, c6, rfl, rfl, rfl, rfl, h.trans ((hc _ _).trans e)⟩
theorem own_un {i : Int32} {E : Prop} [Decidable E] {r : Bool} (h : (decide (own_in i) && (decide E || r)) = true) : own_in i ∧ (¬ E → r = true) := by
  rw [Bool.and_eq_true, Bool.or_eq_true] at h
  exact ⟨of_decide_eq_true h.1, fun hn => h.2.resolve_left fun q => hn (of_decide_eq_true q)⟩
theorem own_un2 {i : Int32} {E F : Prop} [Decidable E] [Decidable F] {r : Bool} (h : (decide (own_in i) && (decide E || (decide F || r))) = true) : own_in i ∧ (¬ E → ¬ F → r = true) := by
  rw [Bool.and_eq_true, Bool.or_eq_true, Bool.or_eq_true] at h
  exact ⟨of_decide_eq_true h.1, fun hn hm => (h.2.resolve_left fun q => hn (of_decide_eq_true q)).resolve_left fun q => hm (of_decide_eq_true q)⟩
theorem d1_0 : decode method_3_code 0 = .ok (.iload_n 1, 1) := by decide +kernel
theorem d1_1 : decode method_3_code 1 = .ok (.istore_n 3, 1) := by decide +kernel
theorem d1_2 : decode method_3_code 2 = .ok (.iload_n 2, 1) := by decide +kernel
theorem d1_3 : decode method_3_code 3 = .ok (.ifCond .le 11, 3) := by decide +kernel
theorem d1_6 : decode method_3_code 6 = .ok (.iload_n 3, 1) := by decide +kernel
theorem d1_7 : decode method_3_code 7 = .ok (.ifCond .eq 7, 3) := by decide +kernel
theorem d1_10 : decode method_3_code 10 = .ok (.aload_n 0, 1) := by decide +kernel
theorem d1_11 : decode method_3_code 11 = .ok (.iload_n 3, 1) := by decide +kernel
theorem d1_12 : decode method_3_code 12 = .ok (.iaload, 1) := by decide +kernel
theorem d1_13 : decode method_3_code 13 = .ok (.istore_n 3, 1) := by decide +kernel
theorem d1_14 : decode method_3_code 14 = .ok (.iload_n 2, 1) := by decide +kernel
theorem d1_15 : decode method_3_code 15 = .ok (.iconst 1, 1) := by decide +kernel
theorem d1_16 : decode method_3_code 16 = .ok (.if_icmp .le 11, 3) := by decide +kernel
theorem d1_19 : decode method_3_code 19 = .ok (.iload_n 3, 1) := by decide +kernel
theorem d1_20 : decode method_3_code 20 = .ok (.ifCond .eq 7, 3) := by decide +kernel
theorem d1_23 : decode method_3_code 23 = .ok (.aload_n 0, 1) := by decide +kernel
theorem d1_24 : decode method_3_code 24 = .ok (.iload_n 3, 1) := by decide +kernel
theorem d1_25 : decode method_3_code 25 = .ok (.iaload, 1) := by decide +kernel
theorem d1_26 : decode method_3_code 26 = .ok (.istore_n 3, 1) := by decide +kernel
theorem d1_27 : decode method_3_code 27 = .ok (.iload_n 2, 1) := by decide +kernel
theorem d1_28 : decode method_3_code 28 = .ok (.iconst 2, 1) := by decide +kernel
theorem d1_29 : decode method_3_code 29 = .ok (.if_icmp .le 11, 3) := by decide +kernel
theorem d1_32 : decode method_3_code 32 = .ok (.iload_n 3, 1) := by decide +kernel
theorem d1_33 : decode method_3_code 33 = .ok (.ifCond .eq 7, 3) := by decide +kernel
theorem d1_36 : decode method_3_code 36 = .ok (.aload_n 0, 1) := by decide +kernel
theorem d1_37 : decode method_3_code 37 = .ok (.iload_n 3, 1) := by decide +kernel
theorem d1_38 : decode method_3_code 38 = .ok (.iaload, 1) := by decide +kernel
theorem d1_39 : decode method_3_code 39 = .ok (.istore_n 3, 1) := by decide +kernel
theorem d1_40 : decode method_3_code 40 = .ok (.iload_n 2, 1) := by decide +kernel
theorem d1_41 : decode method_3_code 41 = .ok (.iconst 3, 1) := by decide +kernel
theorem d1_42 : decode method_3_code 42 = .ok (.if_icmp .le 11, 3) := by decide +kernel
theorem d1_45 : decode method_3_code 45 = .ok (.iload_n 3, 1) := by decide +kernel
theorem d1_46 : decode method_3_code 46 = .ok (.ifCond .eq 7, 3) := by decide +kernel
theorem d1_49 : decode method_3_code 49 = .ok (.aload_n 0, 1) := by decide +kernel
theorem d1_50 : decode method_3_code 50 = .ok (.iload_n 3, 1) := by decide +kernel
theorem d1_51 : decode method_3_code 51 = .ok (.iaload, 1) := by decide +kernel
theorem d1_52 : decode method_3_code 52 = .ok (.istore_n 3, 1) := by decide +kernel
theorem d1_53 : decode method_3_code 53 = .ok (.iload_n 2, 1) := by decide +kernel
theorem d1_54 : decode method_3_code 54 = .ok (.iconst 4, 1) := by decide +kernel
theorem d1_55 : decode method_3_code 55 = .ok (.if_icmp .le 11, 3) := by decide +kernel
theorem d1_58 : decode method_3_code 58 = .ok (.iload_n 3, 1) := by decide +kernel
theorem d1_59 : decode method_3_code 59 = .ok (.ifCond .eq 7, 3) := by decide +kernel
theorem d1_62 : decode method_3_code 62 = .ok (.aload_n 0, 1) := by decide +kernel
theorem d1_63 : decode method_3_code 63 = .ok (.iload_n 3, 1) := by decide +kernel
theorem d1_64 : decode method_3_code 64 = .ok (.iaload, 1) := by decide +kernel
theorem d1_65 : decode method_3_code 65 = .ok (.istore_n 3, 1) := by decide +kernel
theorem d1_66 : decode method_3_code 66 = .ok (.iload_n 3, 1) := by decide +kernel
theorem d1_67 : decode method_3_code 67 = .ok (.ireturn, 1) := by decide +kernel
theorem pn5 : plainName "com/example/xidr/xidr/xml/tree/TreePreviousSiblingPinLaw" = true := by first | (simp [plainName, overriddenIn]; done) | decide +kernel
theorem ef_rm_up (m : MethodId) (ra : Addr) (xn : Int32) (xk : Int32) : entryFrame m #[(.ref ra), (.int xn), (.int xk)] 4 = mkF m 0 #[.val (.ref ra), .val (.int xn), .val (.int xk), .unset] [] := by first | (simp [entryFrame, mkF, argsToLocals, Value.category]; done) | rfl
def Q_rm_up (Z : State) (ra : Addr) (xn : Int32) (xk : Int32) (ki : ClassId) (xs : List Int32) (h0 : Heap) (n0 : Nat) (v : Option Value) (h : Heap) (L : List Loc) : Prop := v = some (.int (own_up xs xn xk)) ∧ Fr n0 L ∧ h = h0
set_option maxRecDepth 65536 in
set_option maxHeartbeats 40000000 in
theorem rm_up (l : Launch) (Z : State) (a0 : Array Value) (hw : ∀ d ∈ tables_1, d.before a0 Z = true) (ws : List Jvm.Cond) (ra : Addr) (xn : Int32) (xk : Int32) (ki : ClassId) (xs : List Int32) (h0 : Heap) (n0 : Nat) (Z0 : n0 ≤ h0.size) (V1 : Arv Z h0 ra ki .int (7 : Int32) (xs.map Value.int) (.int (0 : Int32))) (hxn : own_in xn) (hcl : own_cl xs) :
    MetFree l (⟨"com/example/xidr/xidr/xml/tree/TreePreviousSiblingPinLaw", "up", "([III)I"⟩ : MethodName) (head1 (Jvm.Cond.code (⟨"com/example/xidr/xidr/xml/tree/TreePreviousSiblingPinLaw", "up", "([III)I"⟩ : MethodName) method_3_code 4 (some .int) :: ws) ({ frames := 0, cells := 0, slots := 0, locals := 0 } : Room)) (fun a U => a = #[(.ref ra), (.int xn), (.int xk)] ∧ Z.Warmed39 U.vm ∧ U.heap = h0) (fun _ _ _ _ _ => True) (fun _ U o U' => ∃ v L, o = .returned v ∧ Q_rm_up Z ra xn xk ki xs h0 n0 v U'.heap L ∧ FrameEnd U o U' L ({ frames := 0, cells := 0, slots := 0, locals := 0 } : Room).cells ({ frames := 0, cells := 0, slots := 0, locals := 0 } : Room).slots) := by
  refine MetFree.of_bodySF (plainFor_of_name pn5) hisR ?_
  intro p e s m args below meth c s₁ Bd hml0 hP hK
  obtain ⟨rfl, hZ, hh⟩ := hP
  have hx := Bd.exec
  have hby := Bd.bytes
  have hml : c.maxLocals = 4 := hml0
  have hown : s.vm.findClass "com/example/xidr/xidr/xml/tree/TreePreviousSiblingPinLaw" = some m.cls := findClass_of_methodNamed Bd.named
  have hnm := (name_of_methodNamed Bd.named Bd.method).1
  have X0 : Stand p l e ({ frames := 0, cells := 0, slots := 0, locals := 0 } : Room) s m #[(.ref ra), (.int xn), (.int xk)] below meth c s₁ [] 0 0 := Stand.of_body Bd
  have e0 : s₁.heap = h0 := by rw [← hh, Bd.state]; rfl
  have N0 := Fr.nil n0
  have pre0 : ∀ t, Steps p.tables e below (s₁.setTop (mkF m 0 #[.val (.ref ra), .val (.int xn), .val (.int xk), .unset] [])) t → Steps p.tables e below (s₁.setTop (entryFrame m #[(.ref ra), (.int xn), (.int xk)] 4)) t := fun t k => castTop (ef_rm_up m ra xn xk) k
  have pre1 : ∀ t, Steps p.tables e below (s₁.setTop (mkF m 2 #[.val (.ref ra), .val (.int xn), .val (.int xk), .val (.int xn)] [])) t → Steps p.tables e below (s₁.setTop (entryFrame m #[(.ref ra), (.int xn), (.int xk)] 4)) t := by
    intro t k
    refine pre0 t ?_
    refine XS.iloadN X0.here hx rfl (hb hby d1_0) rfl ?_
    show Steps p.tables e below (s₁.setTop (mkF m 1 #[.val (.ref ra), .val (.int xn), .val (.int xk), .unset] [(.int xn)])) _
    refine XS.istoreN X0.here hx rfl (hb hby d1_1) rfl (l' := #[.val (.ref ra), .val (.int xn), .val (.int xk), .val (.int xn)]) rfl ?_
    show Steps p.tables e below (s₁.setTop (mkF m 2 #[.val (.ref ra), .val (.int xn), .val (.int xk), .val (.int xn)] [])) _
    exact k
  obtain ⟨v2, hv2⟩ : ∃ z : Int32, z = (if (0 : Int32) < xk then (if xn = (0 : Int32) then xn else (own_at xs xn)) else xn) := ⟨_, rfl⟩
  have pre3 : ∀ t, Steps p.tables e below (s₁.setTop (mkF m 14 #[.val (.ref ra), .val (.int xn), .val (.int xk), .val (.int v2)] [])) t → Steps p.tables e below (s₁.setTop (entryFrame m #[(.ref ra), (.int xn), (.int xk)] 4)) t := by
    intro t k
    refine pre1 t ?_
    refine XS.iloadN X0.here hx rfl (hb hby d1_2) rfl ?_
    show Steps p.tables e below (s₁.setTop (mkF m 3 #[.val (.ref ra), .val (.int xn), .val (.int xk), .val (.int xn)] [(.int xk)])) _
    by_cases hc3 : (0 : Int32) < xk
    · refine XS.ifNo X0.here hx rfl (hb hby d1_3) rfl ((if0 _ _).trans (tlt hc3).2.2.2) ?_
      show Steps p.tables e below (s₁.setTop (mkF m 6 #[.val (.ref ra), .val (.int xn), .val (.int xk), .val (.int xn)] [])) _
      refine XS.iloadN X0.here hx rfl (hb hby d1_6) rfl ?_
      show Steps p.tables e below (s₁.setTop (mkF m 7 #[.val (.ref ra), .val (.int xn), .val (.int xk), .val (.int xn)] [(.int xn)])) _
      by_cases hc7 : xn = (0 : Int32)
      · refine XS.ifYes X0.here hx rfl (pc0 := 7) (pc' := 14) rfl (hb hby d1_7) rfl ((if0 _ _).trans (teq hc7).1) (by decide) (by decide) ?_
        show Steps p.tables e below (s₁.setTop (mkF m 14 #[.val (.ref ra), .val (.int xn), .val (.int xk), .val (.int xn)] [])) _
        rw [show v2 = xn from by rw [hv2, if_pos hc3, if_pos hc7]] at k
        exact k
      · refine XS.ifNo X0.here hx rfl (hb hby d1_7) rfl ((if0 _ _).trans (feq hc7).1) ?_
        show Steps p.tables e below (s₁.setTop (mkF m 10 #[.val (.ref ra), .val (.int xn), .val (.int xk), .val (.int xn)] [])) _
        refine XS.aloadN X0.here hx rfl (hb hby d1_10) rfl rfl ?_
        show Steps p.tables e below (s₁.setTop (mkF m 11 #[.val (.ref ra), .val (.int xn), .val (.int xk), .val (.int xn)] [(.ref ra)])) _
        refine XS.iloadN X0.here hx rfl (hb hby d1_11) rfl ?_
        show Steps p.tables e below (s₁.setTop (mkF m 12 #[.val (.ref ra), .val (.int xn), .val (.int xk), .val (.int xn)] [(.int xn), (.ref ra)])) _
        obtain ⟨c2, a2, q2, s2, m2, i2, u2⟩ := id V1
        have hin2 := inb_of (j := xn) s2 hxn
        refine X0.iaload hx (j := xn) (v := (.int (own_at xs xn))) (by rw [e0]; exact a2.1) (State.isArrayOf_alike hZ.alike a2.2.1) a2.2.2 hin2 (i2.at hin2 (own_getD xs _)) (g := (mkF m 12 #[.val (.ref ra), .val (.int xn), .val (.int xk), .val (.int xn)] [(.int xn), (.ref ra)])) rfl rfl (hb hby d1_12) _ ?_
        show Steps p.tables e below (s₁.setTop (mkF m 13 #[.val (.ref ra), .val (.int xn), .val (.int xk), .val (.int xn)] [(.int (own_at xs xn))])) _
        refine XS.istoreN X0.here hx rfl (hb hby d1_13) rfl (l' := #[.val (.ref ra), .val (.int xn), .val (.int xk), .val (.int (own_at xs xn))]) rfl ?_
        show Steps p.tables e below (s₁.setTop (mkF m 14 #[.val (.ref ra), .val (.int xn), .val (.int xk), .val (.int (own_at xs xn))] [])) _
        rw [show v2 = (own_at xs xn) from by rw [hv2, if_pos hc3, if_neg hc7]] at k
        exact k
    · refine XS.ifYes X0.here hx rfl (pc0 := 3) (pc' := 14) rfl (hb hby d1_3) rfl ((if0 _ _).trans (flt hc3).2.2.2) (by decide) (by decide) ?_
      show Steps p.tables e below (s₁.setTop (mkF m 14 #[.val (.ref ra), .val (.int xn), .val (.int xk), .val (.int xn)] [])) _
      rw [show v2 = xn from by rw [hv2, if_neg hc3]] at k
      exact k
  obtain ⟨v14, hv14⟩ : ∃ z : Int32, z = (if (1 : Int32) < xk then (if v2 = (0 : Int32) then v2 else (own_at xs v2)) else v2) := ⟨_, rfl⟩
  have pre5 : ∀ t, Steps p.tables e below (s₁.setTop (mkF m 27 #[.val (.ref ra), .val (.int xn), .val (.int xk), .val (.int v14)] [])) t → Steps p.tables e below (s₁.setTop (entryFrame m #[(.ref ra), (.int xn), (.int xk)] 4)) t := by
    intro t k
    refine pre3 t ?_
    refine XS.iloadN X0.here hx rfl (hb hby d1_14) rfl ?_
    show Steps p.tables e below (s₁.setTop (mkF m 15 #[.val (.ref ra), .val (.int xn), .val (.int xk), .val (.int v2)] [(.int xk)])) _
    refine XS.iconst X0.here hx rfl (hb hby d1_15) ?_
    show Steps p.tables e below (s₁.setTop (mkF m 16 #[.val (.ref ra), .val (.int xn), .val (.int xk), .val (.int v2)] [(.int (1 : Int32)), (.int xk)])) _
    by_cases hc16 : (1 : Int32) < xk
    · refine XS.icmpNo X0.here hx rfl (hb hby d1_16) rfl (tlt hc16).2.2.2 ?_
      show Steps p.tables e below (s₁.setTop (mkF m 19 #[.val (.ref ra), .val (.int xn), .val (.int xk), .val (.int v2)] [])) _
      refine XS.iloadN X0.here hx rfl (hb hby d1_19) rfl ?_
      show Steps p.tables e below (s₁.setTop (mkF m 20 #[.val (.ref ra), .val (.int xn), .val (.int xk), .val (.int v2)] [(.int v2)])) _
      by_cases hc20 : v2 = (0 : Int32)
      · refine XS.ifYes X0.here hx rfl (pc0 := 20) (pc' := 27) rfl (hb hby d1_20) rfl ((if0 _ _).trans (teq hc20).1) (by decide) (by decide) ?_
        show Steps p.tables e below (s₁.setTop (mkF m 27 #[.val (.ref ra), .val (.int xn), .val (.int xk), .val (.int v2)] [])) _
        rw [show v14 = v2 from by rw [hv14, if_pos hc16, if_pos hc20]] at k
        exact k
      · refine XS.ifNo X0.here hx rfl (hb hby d1_20) rfl ((if0 _ _).trans (feq hc20).1) ?_
        show Steps p.tables e below (s₁.setTop (mkF m 23 #[.val (.ref ra), .val (.int xn), .val (.int xk), .val (.int v2)] [])) _
        refine XS.aloadN X0.here hx rfl (hb hby d1_23) rfl rfl ?_
        show Steps p.tables e below (s₁.setTop (mkF m 24 #[.val (.ref ra), .val (.int xn), .val (.int xk), .val (.int v2)] [(.ref ra)])) _
        refine XS.iloadN X0.here hx rfl (hb hby d1_24) rfl ?_
        show Steps p.tables e below (s₁.setTop (mkF m 25 #[.val (.ref ra), .val (.int xn), .val (.int xk), .val (.int v2)] [(.int v2), (.ref ra)])) _
        obtain ⟨c4, a4, q4, s4, m4, i4, u4⟩ := id V1
        have hin4 := inb_of (j := v2) s4 (own_stin (j := 0) (k := xk) hcl hxn hv2)
        refine X0.iaload hx (j := v2) (v := (.int (own_at xs v2))) (by rw [e0]; exact a4.1) (State.isArrayOf_alike hZ.alike a4.2.1) a4.2.2 hin4 (i4.at hin4 (own_getD xs _)) (g := (mkF m 25 #[.val (.ref ra), .val (.int xn), .val (.int xk), .val (.int v2)] [(.int v2), (.ref ra)])) rfl rfl (hb hby d1_25) _ ?_
        show Steps p.tables e below (s₁.setTop (mkF m 26 #[.val (.ref ra), .val (.int xn), .val (.int xk), .val (.int v2)] [(.int (own_at xs v2))])) _
        refine XS.istoreN X0.here hx rfl (hb hby d1_26) rfl (l' := #[.val (.ref ra), .val (.int xn), .val (.int xk), .val (.int (own_at xs v2))]) rfl ?_
        show Steps p.tables e below (s₁.setTop (mkF m 27 #[.val (.ref ra), .val (.int xn), .val (.int xk), .val (.int (own_at xs v2))] [])) _
        rw [show v14 = (own_at xs v2) from by rw [hv14, if_pos hc16, if_neg hc20]] at k
        exact k
    · refine XS.icmpYes X0.here hx rfl (pc0 := 16) (pc' := 27) rfl (hb hby d1_16) rfl (flt hc16).2.2.2 (by decide) (by decide) ?_
      show Steps p.tables e below (s₁.setTop (mkF m 27 #[.val (.ref ra), .val (.int xn), .val (.int xk), .val (.int v2)] [])) _
      rw [show v14 = v2 from by rw [hv14, if_neg hc16]] at k
      exact k
  obtain ⟨v27, hv27⟩ : ∃ z : Int32, z = (if (2 : Int32) < xk then (if v14 = (0 : Int32) then v14 else (own_at xs v14)) else v14) := ⟨_, rfl⟩
  have pre7 : ∀ t, Steps p.tables e below (s₁.setTop (mkF m 40 #[.val (.ref ra), .val (.int xn), .val (.int xk), .val (.int v27)] [])) t → Steps p.tables e below (s₁.setTop (entryFrame m #[(.ref ra), (.int xn), (.int xk)] 4)) t := by
    intro t k
    refine pre5 t ?_
    refine XS.iloadN X0.here hx rfl (hb hby d1_27) rfl ?_
    show Steps p.tables e below (s₁.setTop (mkF m 28 #[.val (.ref ra), .val (.int xn), .val (.int xk), .val (.int v14)] [(.int xk)])) _
    refine XS.iconst X0.here hx rfl (hb hby d1_28) ?_
    show Steps p.tables e below (s₁.setTop (mkF m 29 #[.val (.ref ra), .val (.int xn), .val (.int xk), .val (.int v14)] [(.int (2 : Int32)), (.int xk)])) _
    by_cases hc29 : (2 : Int32) < xk
    · refine XS.icmpNo X0.here hx rfl (hb hby d1_29) rfl (tlt hc29).2.2.2 ?_
      show Steps p.tables e below (s₁.setTop (mkF m 32 #[.val (.ref ra), .val (.int xn), .val (.int xk), .val (.int v14)] [])) _
      refine XS.iloadN X0.here hx rfl (hb hby d1_32) rfl ?_
      show Steps p.tables e below (s₁.setTop (mkF m 33 #[.val (.ref ra), .val (.int xn), .val (.int xk), .val (.int v14)] [(.int v14)])) _
      by_cases hc33 : v14 = (0 : Int32)
      · refine XS.ifYes X0.here hx rfl (pc0 := 33) (pc' := 40) rfl (hb hby d1_33) rfl ((if0 _ _).trans (teq hc33).1) (by decide) (by decide) ?_
        show Steps p.tables e below (s₁.setTop (mkF m 40 #[.val (.ref ra), .val (.int xn), .val (.int xk), .val (.int v14)] [])) _
        rw [show v27 = v14 from by rw [hv27, if_pos hc29, if_pos hc33]] at k
        exact k
      · refine XS.ifNo X0.here hx rfl (hb hby d1_33) rfl ((if0 _ _).trans (feq hc33).1) ?_
        show Steps p.tables e below (s₁.setTop (mkF m 36 #[.val (.ref ra), .val (.int xn), .val (.int xk), .val (.int v14)] [])) _
        refine XS.aloadN X0.here hx rfl (hb hby d1_36) rfl rfl ?_
        show Steps p.tables e below (s₁.setTop (mkF m 37 #[.val (.ref ra), .val (.int xn), .val (.int xk), .val (.int v14)] [(.ref ra)])) _
        refine XS.iloadN X0.here hx rfl (hb hby d1_37) rfl ?_
        show Steps p.tables e below (s₁.setTop (mkF m 38 #[.val (.ref ra), .val (.int xn), .val (.int xk), .val (.int v14)] [(.int v14), (.ref ra)])) _
        obtain ⟨c6, a6, q6, s6, m6, i6, u6⟩ := id V1
        have hin6 := inb_of (j := v14) s6 (own_stin (j := 1) (k := xk) hcl (own_stin (j := 0) (k := xk) hcl hxn hv2) hv14)
        refine X0.iaload hx (j := v14) (v := (.int (own_at xs v14))) (by rw [e0]; exact a6.1) (State.isArrayOf_alike hZ.alike a6.2.1) a6.2.2 hin6 (i6.at hin6 (own_getD xs _)) (g := (mkF m 38 #[.val (.ref ra), .val (.int xn), .val (.int xk), .val (.int v14)] [(.int v14), (.ref ra)])) rfl rfl (hb hby d1_38) _ ?_
        show Steps p.tables e below (s₁.setTop (mkF m 39 #[.val (.ref ra), .val (.int xn), .val (.int xk), .val (.int v14)] [(.int (own_at xs v14))])) _
        refine XS.istoreN X0.here hx rfl (hb hby d1_39) rfl (l' := #[.val (.ref ra), .val (.int xn), .val (.int xk), .val (.int (own_at xs v14))]) rfl ?_
        show Steps p.tables e below (s₁.setTop (mkF m 40 #[.val (.ref ra), .val (.int xn), .val (.int xk), .val (.int (own_at xs v14))] [])) _
        rw [show v27 = (own_at xs v14) from by rw [hv27, if_pos hc29, if_neg hc33]] at k
        exact k
    · refine XS.icmpYes X0.here hx rfl (pc0 := 29) (pc' := 40) rfl (hb hby d1_29) rfl (flt hc29).2.2.2 (by decide) (by decide) ?_
      show Steps p.tables e below (s₁.setTop (mkF m 40 #[.val (.ref ra), .val (.int xn), .val (.int xk), .val (.int v14)] [])) _
      rw [show v27 = v14 from by rw [hv27, if_neg hc29]] at k
      exact k
  obtain ⟨v40, hv40⟩ : ∃ z : Int32, z = (if (3 : Int32) < xk then (if v27 = (0 : Int32) then v27 else (own_at xs v27)) else v27) := ⟨_, rfl⟩
  have pre9 : ∀ t, Steps p.tables e below (s₁.setTop (mkF m 53 #[.val (.ref ra), .val (.int xn), .val (.int xk), .val (.int v40)] [])) t → Steps p.tables e below (s₁.setTop (entryFrame m #[(.ref ra), (.int xn), (.int xk)] 4)) t := by
    intro t k
    refine pre7 t ?_
    refine XS.iloadN X0.here hx rfl (hb hby d1_40) rfl ?_
    show Steps p.tables e below (s₁.setTop (mkF m 41 #[.val (.ref ra), .val (.int xn), .val (.int xk), .val (.int v27)] [(.int xk)])) _
    refine XS.iconst X0.here hx rfl (hb hby d1_41) ?_
    show Steps p.tables e below (s₁.setTop (mkF m 42 #[.val (.ref ra), .val (.int xn), .val (.int xk), .val (.int v27)] [(.int (3 : Int32)), (.int xk)])) _
    by_cases hc42 : (3 : Int32) < xk
    · refine XS.icmpNo X0.here hx rfl (hb hby d1_42) rfl (tlt hc42).2.2.2 ?_
      show Steps p.tables e below (s₁.setTop (mkF m 45 #[.val (.ref ra), .val (.int xn), .val (.int xk), .val (.int v27)] [])) _
      refine XS.iloadN X0.here hx rfl (hb hby d1_45) rfl ?_
      show Steps p.tables e below (s₁.setTop (mkF m 46 #[.val (.ref ra), .val (.int xn), .val (.int xk), .val (.int v27)] [(.int v27)])) _
      by_cases hc46 : v27 = (0 : Int32)
      · refine XS.ifYes X0.here hx rfl (pc0 := 46) (pc' := 53) rfl (hb hby d1_46) rfl ((if0 _ _).trans (teq hc46).1) (by decide) (by decide) ?_
        show Steps p.tables e below (s₁.setTop (mkF m 53 #[.val (.ref ra), .val (.int xn), .val (.int xk), .val (.int v27)] [])) _
        rw [show v40 = v27 from by rw [hv40, if_pos hc42, if_pos hc46]] at k
        exact k
      · refine XS.ifNo X0.here hx rfl (hb hby d1_46) rfl ((if0 _ _).trans (feq hc46).1) ?_
        show Steps p.tables e below (s₁.setTop (mkF m 49 #[.val (.ref ra), .val (.int xn), .val (.int xk), .val (.int v27)] [])) _
        refine XS.aloadN X0.here hx rfl (hb hby d1_49) rfl rfl ?_
        show Steps p.tables e below (s₁.setTop (mkF m 50 #[.val (.ref ra), .val (.int xn), .val (.int xk), .val (.int v27)] [(.ref ra)])) _
        refine XS.iloadN X0.here hx rfl (hb hby d1_50) rfl ?_
        show Steps p.tables e below (s₁.setTop (mkF m 51 #[.val (.ref ra), .val (.int xn), .val (.int xk), .val (.int v27)] [(.int v27), (.ref ra)])) _
        obtain ⟨c8, a8, q8, s8, m8, i8, u8⟩ := id V1
        have hin8 := inb_of (j := v27) s8 (own_stin (j := 2) (k := xk) hcl (own_stin (j := 1) (k := xk) hcl (own_stin (j := 0) (k := xk) hcl hxn hv2) hv14) hv27)
        refine X0.iaload hx (j := v27) (v := (.int (own_at xs v27))) (by rw [e0]; exact a8.1) (State.isArrayOf_alike hZ.alike a8.2.1) a8.2.2 hin8 (i8.at hin8 (own_getD xs _)) (g := (mkF m 51 #[.val (.ref ra), .val (.int xn), .val (.int xk), .val (.int v27)] [(.int v27), (.ref ra)])) rfl rfl (hb hby d1_51) _ ?_
        show Steps p.tables e below (s₁.setTop (mkF m 52 #[.val (.ref ra), .val (.int xn), .val (.int xk), .val (.int v27)] [(.int (own_at xs v27))])) _
        refine XS.istoreN X0.here hx rfl (hb hby d1_52) rfl (l' := #[.val (.ref ra), .val (.int xn), .val (.int xk), .val (.int (own_at xs v27))]) rfl ?_
        show Steps p.tables e below (s₁.setTop (mkF m 53 #[.val (.ref ra), .val (.int xn), .val (.int xk), .val (.int (own_at xs v27))] [])) _
        rw [show v40 = (own_at xs v27) from by rw [hv40, if_pos hc42, if_neg hc46]] at k
        exact k
    · refine XS.icmpYes X0.here hx rfl (pc0 := 42) (pc' := 53) rfl (hb hby d1_42) rfl (flt hc42).2.2.2 (by decide) (by decide) ?_
      show Steps p.tables e below (s₁.setTop (mkF m 53 #[.val (.ref ra), .val (.int xn), .val (.int xk), .val (.int v27)] [])) _
      rw [show v40 = v27 from by rw [hv40, if_neg hc42]] at k
      exact k
  obtain ⟨v53, hv53⟩ : ∃ z : Int32, z = (if (4 : Int32) < xk then (if v40 = (0 : Int32) then v40 else (own_at xs v40)) else v40) := ⟨_, rfl⟩
  have pre11 : ∀ t, Steps p.tables e below (s₁.setTop (mkF m 66 #[.val (.ref ra), .val (.int xn), .val (.int xk), .val (.int v53)] [])) t → Steps p.tables e below (s₁.setTop (entryFrame m #[(.ref ra), (.int xn), (.int xk)] 4)) t := by
    intro t k
    refine pre9 t ?_
    refine XS.iloadN X0.here hx rfl (hb hby d1_53) rfl ?_
    show Steps p.tables e below (s₁.setTop (mkF m 54 #[.val (.ref ra), .val (.int xn), .val (.int xk), .val (.int v40)] [(.int xk)])) _
    refine XS.iconst X0.here hx rfl (hb hby d1_54) ?_
    show Steps p.tables e below (s₁.setTop (mkF m 55 #[.val (.ref ra), .val (.int xn), .val (.int xk), .val (.int v40)] [(.int (4 : Int32)), (.int xk)])) _
    by_cases hc55 : (4 : Int32) < xk
    · refine XS.icmpNo X0.here hx rfl (hb hby d1_55) rfl (tlt hc55).2.2.2 ?_
      show Steps p.tables e below (s₁.setTop (mkF m 58 #[.val (.ref ra), .val (.int xn), .val (.int xk), .val (.int v40)] [])) _
      refine XS.iloadN X0.here hx rfl (hb hby d1_58) rfl ?_
      show Steps p.tables e below (s₁.setTop (mkF m 59 #[.val (.ref ra), .val (.int xn), .val (.int xk), .val (.int v40)] [(.int v40)])) _
      by_cases hc59 : v40 = (0 : Int32)
      · refine XS.ifYes X0.here hx rfl (pc0 := 59) (pc' := 66) rfl (hb hby d1_59) rfl ((if0 _ _).trans (teq hc59).1) (by decide) (by decide) ?_
        show Steps p.tables e below (s₁.setTop (mkF m 66 #[.val (.ref ra), .val (.int xn), .val (.int xk), .val (.int v40)] [])) _
        rw [show v53 = v40 from by rw [hv53, if_pos hc55, if_pos hc59]] at k
        exact k
      · refine XS.ifNo X0.here hx rfl (hb hby d1_59) rfl ((if0 _ _).trans (feq hc59).1) ?_
        show Steps p.tables e below (s₁.setTop (mkF m 62 #[.val (.ref ra), .val (.int xn), .val (.int xk), .val (.int v40)] [])) _
        refine XS.aloadN X0.here hx rfl (hb hby d1_62) rfl rfl ?_
        show Steps p.tables e below (s₁.setTop (mkF m 63 #[.val (.ref ra), .val (.int xn), .val (.int xk), .val (.int v40)] [(.ref ra)])) _
        refine XS.iloadN X0.here hx rfl (hb hby d1_63) rfl ?_
        show Steps p.tables e below (s₁.setTop (mkF m 64 #[.val (.ref ra), .val (.int xn), .val (.int xk), .val (.int v40)] [(.int v40), (.ref ra)])) _
        obtain ⟨c10, a10, q10, s10, m10, i10, u10⟩ := id V1
        have hin10 := inb_of (j := v40) s10 (own_stin (j := 3) (k := xk) hcl (own_stin (j := 2) (k := xk) hcl (own_stin (j := 1) (k := xk) hcl (own_stin (j := 0) (k := xk) hcl hxn hv2) hv14) hv27) hv40)
        refine X0.iaload hx (j := v40) (v := (.int (own_at xs v40))) (by rw [e0]; exact a10.1) (State.isArrayOf_alike hZ.alike a10.2.1) a10.2.2 hin10 (i10.at hin10 (own_getD xs _)) (g := (mkF m 64 #[.val (.ref ra), .val (.int xn), .val (.int xk), .val (.int v40)] [(.int v40), (.ref ra)])) rfl rfl (hb hby d1_64) _ ?_
        show Steps p.tables e below (s₁.setTop (mkF m 65 #[.val (.ref ra), .val (.int xn), .val (.int xk), .val (.int v40)] [(.int (own_at xs v40))])) _
        refine XS.istoreN X0.here hx rfl (hb hby d1_65) rfl (l' := #[.val (.ref ra), .val (.int xn), .val (.int xk), .val (.int (own_at xs v40))]) rfl ?_
        show Steps p.tables e below (s₁.setTop (mkF m 66 #[.val (.ref ra), .val (.int xn), .val (.int xk), .val (.int (own_at xs v40))] [])) _
        rw [show v53 = (own_at xs v40) from by rw [hv53, if_pos hc55, if_neg hc59]] at k
        exact k
    · refine XS.icmpYes X0.here hx rfl (pc0 := 55) (pc' := 66) rfl (hb hby d1_55) rfl (flt hc55).2.2.2 (by decide) (by decide) ?_
      show Steps p.tables e below (s₁.setTop (mkF m 66 #[.val (.ref ra), .val (.int xn), .val (.int xk), .val (.int v40)] [])) _
      rw [show v53 = v40 from by rw [hv53, if_neg hc55]] at k
      exact k
  have pre12 : ∀ t, Steps p.tables e below (s₁.setTop (mkF m 67 #[.val (.ref ra), .val (.int xn), .val (.int xk), .val (.int v53)] [(.int v53)])) t → Steps p.tables e below (s₁.setTop (entryFrame m #[(.ref ra), (.int xn), (.int xk)] 4)) t := by
    intro t k
    refine pre11 t ?_
    refine XS.iloadN X0.here hx rfl (hb hby d1_66) rfl ?_
    show Steps p.tables e below (s₁.setTop (mkF m 67 #[.val (.ref ra), .val (.int xn), .val (.int xk), .val (.int v53)] [(.int v53)])) _
    exact k
  obtain ⟨fs, hr, hrun, hended, hW, hsame⟩ := X0.leave (v := some (.int v53)) (fun h => by rw [Bd.returns] at h; cases h)
  refine ⟨_, _, pre12 _ ?_, hrun, hended, _, _, rfl, ?_, ⟨_, rfl⟩, hW, hsame.mono (by decide) (by decide)⟩
  · exact retI X0 hx Bd.returns (hb hby d1_67) hr
  · show Q_rm_up Z ra xn xk ki xs h0 n0 _ s₁.heap _
    rw [e0]
    exact ⟨congrArg (fun z => some (Value.int z)) (show v53 = own_up xs xn xk from by rw [show v53 = own_st xs 4 xk v40 from hv53, show v40 = own_st xs 3 xk v27 from hv40, show v27 = own_st xs 2 xk v14 from hv27, show v14 = own_st xs 1 xk v2 from hv14, show v2 = own_st xs 0 xk xn from hv2]; rfl), N0, rfl⟩
theorem d8_0 : decode method_4_code 0 = .ok (.iload_n 1, 1) := by decide +kernel
theorem d8_1 : decode method_4_code 1 = .ok (.iload_n 2, 1) := by decide +kernel
theorem d8_2 : decode method_4_code 2 = .ok (.if_icmp .ge 16, 3) := by decide +kernel
theorem d8_5 : decode method_4_code 5 = .ok (.aload_n 0, 1) := by decide +kernel
theorem d8_6 : decode method_4_code 6 = .ok (.iload_n 1, 1) := by decide +kernel
theorem d8_7 : decode method_4_code 7 = .ok (.iaload, 1) := by decide +kernel
theorem d8_8 : decode method_4_code 8 = .ok (.aload_n 0, 1) := by decide +kernel
theorem d8_9 : decode method_4_code 9 = .ok (.iload_n 2, 1) := by decide +kernel
theorem d8_10 : decode method_4_code 10 = .ok (.iaload, 1) := by decide +kernel
theorem d8_11 : decode method_4_code 11 = .ok (.if_icmp .ne 7, 3) := by decide +kernel
theorem d8_14 : decode method_4_code 14 = .ok (.iload_n 1, 1) := by decide +kernel
theorem d8_15 : decode method_4_code 15 = .ok (.goto 4, 3) := by decide +kernel
theorem d8_19 : decode method_4_code 19 = .ok (.ireturn, 1) := by decide +kernel
theorem d8_18 : decode method_4_code 18 = .ok (.iload_n 3, 1) := by decide +kernel
def F_rm_later (xj : Int32) (xq : Int32) (xacc : Int32) (xs : List Int32) : Int32 := (if xj < xq then (if (own_at xs xj) = (own_at xs xq) then xj else xacc) else xacc)
theorem ef_rm_later (m : MethodId) (ra : Addr) (xj : Int32) (xq : Int32) (xacc : Int32) : entryFrame m #[(.ref ra), (.int xj), (.int xq), (.int xacc)] 4 = mkF m 0 #[.val (.ref ra), .val (.int xj), .val (.int xq), .val (.int xacc)] [] := by first | (simp [entryFrame, mkF, argsToLocals, Value.category]; done) | rfl
def Q_rm_later (Z : State) (ra : Addr) (xj : Int32) (xq : Int32) (xacc : Int32) (ki : ClassId) (xs : List Int32) (h0 : Heap) (n0 : Nat) (v : Option Value) (h : Heap) (L : List Loc) : Prop := v = some (.int (F_rm_later xj xq xacc xs)) ∧ Fr n0 L ∧ h = h0
set_option maxRecDepth 65536 in
set_option maxHeartbeats 40000000 in
theorem rm_later (l : Launch) (Z : State) (a0 : Array Value) (hw : ∀ d ∈ tables_1, d.before a0 Z = true) (ws : List Jvm.Cond) (ra : Addr) (xj : Int32) (xq : Int32) (xacc : Int32) (ki : ClassId) (xs : List Int32) (h0 : Heap) (n0 : Nat) (Z0 : n0 ≤ h0.size) (V1 : Arv Z h0 ra ki .int (7 : Int32) (xs.map Value.int) (.int (0 : Int32))) (hj : own_in xj) (hq : own_in xq) :
    MetFree l (⟨"com/example/xidr/xidr/xml/tree/TreePreviousSiblingPinLaw", "later", "([IIII)I"⟩ : MethodName) (head1 (Jvm.Cond.code (⟨"com/example/xidr/xidr/xml/tree/TreePreviousSiblingPinLaw", "later", "([IIII)I"⟩ : MethodName) method_4_code 4 (some .int) :: ws) ({ frames := 0, cells := 0, slots := 0, locals := 0 } : Room)) (fun a U => a = #[(.ref ra), (.int xj), (.int xq), (.int xacc)] ∧ Z.Warmed39 U.vm ∧ U.heap = h0) (fun _ _ _ _ _ => True) (fun _ U o U' => ∃ v L, o = .returned v ∧ Q_rm_later Z ra xj xq xacc ki xs h0 n0 v U'.heap L ∧ FrameEnd U o U' L ({ frames := 0, cells := 0, slots := 0, locals := 0 } : Room).cells ({ frames := 0, cells := 0, slots := 0, locals := 0 } : Room).slots) := by
  refine MetFree.of_bodySF (plainFor_of_name pn5) hisR ?_
  intro p e s m args below meth c s₁ Bd hml0 hP hK
  obtain ⟨rfl, hZ, hh⟩ := hP
  have hx := Bd.exec
  have hby := Bd.bytes
  have hml : c.maxLocals = 4 := hml0
  have hown : s.vm.findClass "com/example/xidr/xidr/xml/tree/TreePreviousSiblingPinLaw" = some m.cls := findClass_of_methodNamed Bd.named
  have hnm := (name_of_methodNamed Bd.named Bd.method).1
  have X0 : Stand p l e ({ frames := 0, cells := 0, slots := 0, locals := 0 } : Room) s m #[(.ref ra), (.int xj), (.int xq), (.int xacc)] below meth c s₁ [] 0 0 := Stand.of_body Bd
  have e0 : s₁.heap = h0 := by rw [← hh, Bd.state]; rfl
  have N0 := Fr.nil n0
  have pre0 : ∀ t, Steps p.tables e below (s₁.setTop (mkF m 0 #[.val (.ref ra), .val (.int xj), .val (.int xq), .val (.int xacc)] [])) t → Steps p.tables e below (s₁.setTop (entryFrame m #[(.ref ra), (.int xj), (.int xq), (.int xacc)] 4)) t := fun t k => castTop (ef_rm_later m ra xj xq xacc) k
  have pre1 : ∀ t, Steps p.tables e below (s₁.setTop (mkF m 2 #[.val (.ref ra), .val (.int xj), .val (.int xq), .val (.int xacc)] [(.int xq), (.int xj)])) t → Steps p.tables e below (s₁.setTop (entryFrame m #[(.ref ra), (.int xj), (.int xq), (.int xacc)] 4)) t := by
    intro t k
    refine pre0 t ?_
    refine XS.iloadN X0.here hx rfl (hb hby d8_0) rfl ?_
    show Steps p.tables e below (s₁.setTop (mkF m 1 #[.val (.ref ra), .val (.int xj), .val (.int xq), .val (.int xacc)] [(.int xj)])) _
    refine XS.iloadN X0.here hx rfl (hb hby d8_1) rfl ?_
    show Steps p.tables e below (s₁.setTop (mkF m 2 #[.val (.ref ra), .val (.int xj), .val (.int xq), .val (.int xacc)] [(.int xq), (.int xj)])) _
    exact k
  by_cases hc2 : xj < xq
  · have pre4 : ∀ t, Steps p.tables e below (s₁.setTop (mkF m 11 #[.val (.ref ra), .val (.int xj), .val (.int xq), .val (.int xacc)] [(.int (own_at xs xq)), (.int (own_at xs xj))])) t → Steps p.tables e below (s₁.setTop (entryFrame m #[(.ref ra), (.int xj), (.int xq), (.int xacc)] 4)) t := by
      intro t k
      refine pre1 t ?_
      refine XS.icmpNo X0.here hx rfl (hb hby d8_2) rfl (tlt hc2).2.1 ?_
      show Steps p.tables e below (s₁.setTop (mkF m 5 #[.val (.ref ra), .val (.int xj), .val (.int xq), .val (.int xacc)] [])) _
      refine XS.aloadN X0.here hx rfl (hb hby d8_5) rfl rfl ?_
      show Steps p.tables e below (s₁.setTop (mkF m 6 #[.val (.ref ra), .val (.int xj), .val (.int xq), .val (.int xacc)] [(.ref ra)])) _
      refine XS.iloadN X0.here hx rfl (hb hby d8_6) rfl ?_
      show Steps p.tables e below (s₁.setTop (mkF m 7 #[.val (.ref ra), .val (.int xj), .val (.int xq), .val (.int xacc)] [(.int xj), (.ref ra)])) _
      obtain ⟨c2, a2, q2, s2, m2, i2, u2⟩ := id V1
      have hin2 := inb_of (j := xj) s2 hj
      refine X0.iaload hx (j := xj) (v := (.int (own_at xs xj))) (by rw [e0]; exact a2.1) (State.isArrayOf_alike hZ.alike a2.2.1) a2.2.2 hin2 (i2.at hin2 (own_getD xs _)) (g := (mkF m 7 #[.val (.ref ra), .val (.int xj), .val (.int xq), .val (.int xacc)] [(.int xj), (.ref ra)])) rfl rfl (hb hby d8_7) _ ?_
      show Steps p.tables e below (s₁.setTop (mkF m 8 #[.val (.ref ra), .val (.int xj), .val (.int xq), .val (.int xacc)] [(.int (own_at xs xj))])) _
      refine XS.aloadN X0.here hx rfl (hb hby d8_8) rfl rfl ?_
      show Steps p.tables e below (s₁.setTop (mkF m 9 #[.val (.ref ra), .val (.int xj), .val (.int xq), .val (.int xacc)] [(.ref ra), (.int (own_at xs xj))])) _
      refine XS.iloadN X0.here hx rfl (hb hby d8_9) rfl ?_
      show Steps p.tables e below (s₁.setTop (mkF m 10 #[.val (.ref ra), .val (.int xj), .val (.int xq), .val (.int xacc)] [(.int xq), (.ref ra), (.int (own_at xs xj))])) _
      obtain ⟨c3, a3, q3, s3, m3, i3, u3⟩ := id V1
      have hin3 := inb_of (j := xq) s3 hq
      refine X0.iaload hx (j := xq) (v := (.int (own_at xs xq))) (by rw [e0]; exact a3.1) (State.isArrayOf_alike hZ.alike a3.2.1) a3.2.2 hin3 (i3.at hin3 (own_getD xs _)) (g := (mkF m 10 #[.val (.ref ra), .val (.int xj), .val (.int xq), .val (.int xacc)] [(.int xq), (.ref ra), (.int (own_at xs xj))])) rfl rfl (hb hby d8_10) _ ?_
      show Steps p.tables e below (s₁.setTop (mkF m 11 #[.val (.ref ra), .val (.int xj), .val (.int xq), .val (.int xacc)] [(.int (own_at xs xq)), (.int (own_at xs xj))])) _
      exact k
    by_cases hc11 : (own_at xs xj) = (own_at xs xq)
    · have pre5 : ∀ t, Steps p.tables e below (s₁.setTop (mkF m 19 #[.val (.ref ra), .val (.int xj), .val (.int xq), .val (.int xacc)] [(.int xj)])) t → Steps p.tables e below (s₁.setTop (entryFrame m #[(.ref ra), (.int xj), (.int xq), (.int xacc)] 4)) t := by
        intro t k
        refine pre4 t ?_
        refine XS.icmpNo X0.here hx rfl (hb hby d8_11) rfl (teq hc11).2 ?_
        show Steps p.tables e below (s₁.setTop (mkF m 14 #[.val (.ref ra), .val (.int xj), .val (.int xq), .val (.int xacc)] [])) _
        refine XS.iloadN X0.here hx rfl (hb hby d8_14) rfl ?_
        show Steps p.tables e below (s₁.setTop (mkF m 15 #[.val (.ref ra), .val (.int xj), .val (.int xq), .val (.int xacc)] [(.int xj)])) _
        refine XS.goto X0.here hx rfl (pc0 := 15) (pc' := 19) rfl (hb hby d8_15) (by decide) (by decide) ?_
        show Steps p.tables e below (s₁.setTop (mkF m 19 #[.val (.ref ra), .val (.int xj), .val (.int xq), .val (.int xacc)] [(.int xj)])) _
        exact k
      obtain ⟨fs, hr, hrun, hended, hW, hsame⟩ := X0.leave (v := some (.int xj)) (fun h => by rw [Bd.returns] at h; cases h)
      refine ⟨_, _, pre5 _ ?_, hrun, hended, _, _, rfl, ?_, ⟨_, rfl⟩, hW, hsame.mono (by decide) (by decide)⟩
      · exact retI X0 hx Bd.returns (hb hby d8_19) hr
      · show Q_rm_later Z ra xj xq xacc ki xs h0 n0 _ s₁.heap _
        rw [e0]
        exact ⟨congrArg (fun z => some (Value.int z)) (show xj = (F_rm_later xj xq xacc xs) from by rw [F_rm_later, if_pos hc2, if_pos hc11]), N0, rfl⟩
    · have pre6 : ∀ t, Steps p.tables e below (s₁.setTop (mkF m 19 #[.val (.ref ra), .val (.int xj), .val (.int xq), .val (.int xacc)] [(.int xacc)])) t → Steps p.tables e below (s₁.setTop (entryFrame m #[(.ref ra), (.int xj), (.int xq), (.int xacc)] 4)) t := by
        intro t k
        refine pre4 t ?_
        refine XS.icmpYes X0.here hx rfl (pc0 := 11) (pc' := 18) rfl (hb hby d8_11) rfl (feq hc11).2 (by decide) (by decide) ?_
        show Steps p.tables e below (s₁.setTop (mkF m 18 #[.val (.ref ra), .val (.int xj), .val (.int xq), .val (.int xacc)] [])) _
        refine XS.iloadN X0.here hx rfl (hb hby d8_18) rfl ?_
        show Steps p.tables e below (s₁.setTop (mkF m 19 #[.val (.ref ra), .val (.int xj), .val (.int xq), .val (.int xacc)] [(.int xacc)])) _
        exact k
      obtain ⟨fs, hr, hrun, hended, hW, hsame⟩ := X0.leave (v := some (.int xacc)) (fun h => by rw [Bd.returns] at h; cases h)
      refine ⟨_, _, pre6 _ ?_, hrun, hended, _, _, rfl, ?_, ⟨_, rfl⟩, hW, hsame.mono (by decide) (by decide)⟩
      · exact retI X0 hx Bd.returns (hb hby d8_19) hr
      · show Q_rm_later Z ra xj xq xacc ki xs h0 n0 _ s₁.heap _
        rw [e0]
        exact ⟨congrArg (fun z => some (Value.int z)) (show xacc = (F_rm_later xj xq xacc xs) from by rw [F_rm_later, if_pos hc2, if_neg hc11]), N0, rfl⟩
  · have pre7 : ∀ t, Steps p.tables e below (s₁.setTop (mkF m 19 #[.val (.ref ra), .val (.int xj), .val (.int xq), .val (.int xacc)] [(.int xacc)])) t → Steps p.tables e below (s₁.setTop (entryFrame m #[(.ref ra), (.int xj), (.int xq), (.int xacc)] 4)) t := by
      intro t k
      refine pre1 t ?_
      refine XS.icmpYes X0.here hx rfl (pc0 := 2) (pc' := 18) rfl (hb hby d8_2) rfl (flt hc2).2.1 (by decide) (by decide) ?_
      show Steps p.tables e below (s₁.setTop (mkF m 18 #[.val (.ref ra), .val (.int xj), .val (.int xq), .val (.int xacc)] [])) _
      refine XS.iloadN X0.here hx rfl (hb hby d8_18) rfl ?_
      show Steps p.tables e below (s₁.setTop (mkF m 19 #[.val (.ref ra), .val (.int xj), .val (.int xq), .val (.int xacc)] [(.int xacc)])) _
      exact k
    obtain ⟨fs, hr, hrun, hended, hW, hsame⟩ := X0.leave (v := some (.int xacc)) (fun h => by rw [Bd.returns] at h; cases h)
    refine ⟨_, _, pre7 _ ?_, hrun, hended, _, _, rfl, ?_, ⟨_, rfl⟩, hW, hsame.mono (by decide) (by decide)⟩
    · exact retI X0 hx Bd.returns (hb hby d8_19) hr
    · show Q_rm_later Z ra xj xq xacc ki xs h0 n0 _ s₁.heap _
      rw [e0]
      exact ⟨congrArg (fun z => some (Value.int z)) (show xacc = (F_rm_later xj xq xacc xs) from by rw [F_rm_later, if_neg hc2]), N0, rfl⟩
def own_P (xs : List Int32) (xq : Int32) : Bool := (decide (own_in xq) && (decide (own_at xs xq = (-1 : Int32)) || (decide (xq = (own_at xs xq + (1 : Int32))) || (decide (own_in (xq - (1 : Int32))) && (decide (own_at xs (xq - (1 : Int32)) = own_at xs xq) || (decide (own_in (own_at xs (xq - (1 : Int32)))) && (decide (own_at xs (own_at xs (xq - (1 : Int32))) = own_at xs xq) || (decide (own_in (own_at xs (own_at xs (xq - (1 : Int32))))) && (decide (own_at xs (own_at xs (own_at xs (xq - (1 : Int32)))) = own_at xs xq) || (decide (own_in (own_at xs (own_at xs (own_at xs (xq - (1 : Int32)))))) && (decide (own_at xs (own_at xs (own_at xs (own_at xs (xq - (1 : Int32))))) = own_at xs xq) || (decide (own_in (own_at xs (own_at xs (own_at xs (own_at xs (xq - (1 : Int32))))))) && (decide (own_at xs (own_at xs (own_at xs (own_at xs (own_at xs (xq - (1 : Int32)))))) = own_at xs xq) || false)))))))))))))
theorem d9_0 : decode prog_30_method_9_code 0 = .ok (.aload_n 0, 1) := by decide +kernel
theorem d9_1 : decode prog_30_method_9_code 1 = .ok (.getfield 20, 3) := by decide +kernel
theorem d9_4 : decode prog_30_method_9_code 4 = .ok (.iload_n 1, 1) := by decide +kernel
theorem d9_5 : decode prog_30_method_9_code 5 = .ok (.iaload, 1) := by decide +kernel
theorem d9_6 : decode prog_30_method_9_code 6 = .ok (.istore_n 2, 1) := by decide +kernel
theorem d9_7 : decode prog_30_method_9_code 7 = .ok (.iload_n 2, 1) := by decide +kernel
theorem d9_8 : decode prog_30_method_9_code 8 = .ok (.iconst (-1), 1) := by decide +kernel
theorem d9_9 : decode prog_30_method_9_code 9 = .ok (.if_icmp .eq 10, 3) := by decide +kernel
theorem d9_19 : decode prog_30_method_9_code 19 = .ok (.iconst (-1), 1) := by decide +kernel
theorem d9_20 : decode prog_30_method_9_code 20 = .ok (.ireturn, 1) := by decide +kernel
theorem d9_12 : decode prog_30_method_9_code 12 = .ok (.iload_n 1, 1) := by decide +kernel
theorem d9_13 : decode prog_30_method_9_code 13 = .ok (.iload_n 2, 1) := by decide +kernel
theorem d9_14 : decode prog_30_method_9_code 14 = .ok (.iconst 1, 1) := by decide +kernel
theorem d9_15 : decode prog_30_method_9_code 15 = .ok (.iadd, 1) := by decide +kernel
theorem d9_16 : decode prog_30_method_9_code 16 = .ok (.if_icmp .ne 5, 3) := by decide +kernel
theorem d9_21 : decode prog_30_method_9_code 21 = .ok (.iload_n 1, 1) := by decide +kernel
theorem d9_22 : decode prog_30_method_9_code 22 = .ok (.iconst 1, 1) := by decide +kernel
theorem d9_23 : decode prog_30_method_9_code 23 = .ok (.isub, 1) := by decide +kernel
theorem d9_24 : decode prog_30_method_9_code 24 = .ok (.istore_n 3, 1) := by decide +kernel
theorem d9_25 : decode prog_30_method_9_code 25 = .ok (.aload_n 0, 1) := by decide +kernel
theorem d9_26 : decode prog_30_method_9_code 26 = .ok (.getfield 20, 3) := by decide +kernel
theorem d9_29 : decode prog_30_method_9_code 29 = .ok (.iload_n 3, 1) := by decide +kernel
theorem d9_30 : decode prog_30_method_9_code 30 = .ok (.iaload, 1) := by decide +kernel
theorem d9_31 : decode prog_30_method_9_code 31 = .ok (.iload_n 2, 1) := by decide +kernel
theorem d9_32 : decode prog_30_method_9_code 32 = .ok (.if_icmp .eq 13, 3) := by decide +kernel
theorem d9_45 : decode prog_30_method_9_code 45 = .ok (.iload_n 3, 1) := by decide +kernel
theorem d9_46 : decode prog_30_method_9_code 46 = .ok (.ireturn, 1) := by decide +kernel
theorem d9_35 : decode prog_30_method_9_code 35 = .ok (.aload_n 0, 1) := by decide +kernel
theorem d9_36 : decode prog_30_method_9_code 36 = .ok (.getfield 20, 3) := by decide +kernel
theorem d9_39 : decode prog_30_method_9_code 39 = .ok (.iload_n 3, 1) := by decide +kernel
theorem d9_40 : decode prog_30_method_9_code 40 = .ok (.iaload, 1) := by decide +kernel
theorem d9_41 : decode prog_30_method_9_code 41 = .ok (.istore_n 3, 1) := by decide +kernel
theorem d9_42 : decode prog_30_method_9_code 42 = .ok (.goto (-17), 3) := by decide +kernel
def F_rm_prev (xq : Int32) (xs : List Int32) : Int32 := (if (own_at xs xq) = (-1 : Int32) then (-1 : Int32) else (if xq = ((own_at xs xq) + (1 : Int32)) then (-1 : Int32) else (if (own_at xs (xq - (1 : Int32))) = (own_at xs xq) then (xq - (1 : Int32)) else (if (own_at xs (own_at xs (xq - (1 : Int32)))) = (own_at xs xq) then (own_at xs (xq - (1 : Int32))) else (if (own_at xs (own_at xs (own_at xs (xq - (1 : Int32))))) = (own_at xs xq) then (own_at xs (own_at xs (xq - (1 : Int32)))) else (if (own_at xs (own_at xs (own_at xs (own_at xs (xq - (1 : Int32)))))) = (own_at xs xq) then (own_at xs (own_at xs (own_at xs (xq - (1 : Int32))))) else (own_at xs (own_at xs (own_at xs (own_at xs (xq - (1 : Int32))))))))))))
theorem ef_rm_prev (m : MethodId) (ra : Addr) (xq : Int32) : entryFrame m #[(.ref ra), (.int xq)] 4 = mkF m 0 #[.val (.ref ra), .val (.int xq), .unset, .unset] [] := by first | (simp [entryFrame, mkF, argsToLocals, Value.category]; done) | rfl
def Q_rm_prev (Z : State) (ra : Addr) (xq : Int32) (ki : ClassId) (xs : List Int32) (rp : Addr) (h0 : Heap) (n0 : Nat) (v : Option Value) (h : Heap) (L : List Loc) : Prop := v = some (.int (F_rm_prev xq xs)) ∧ Fr n0 L ∧ h = h0
set_option maxRecDepth 65536 in
set_option maxHeartbeats 40000000 in
theorem rm_prev (l : Launch) (Z : State) (a0 : Array Value) (hw : ∀ d ∈ tables_1, d.before a0 Z = true) (ws : List Jvm.Cond) (ra : Addr) (xq : Int32) (ki : ClassId) (xs : List Int32) (rp : Addr) (h0 : Heap) (n0 : Nat) (Z0 : n0 ≤ h0.size) (F1 : Fld Z h0 ra "com/example/xidr/xidr/xml/tree/Tree" "parents" "[I" (.ref rp)) (V1 : Arv Z h0 rp ki .int (7 : Int32) (xs.map Value.int) (.int (0 : Int32))) (hP : own_P xs xq = true) :
    MetFree l (⟨"com/example/xidr/xidr/xml/tree/Tree", "previousSibling", "(I)I"⟩ : MethodName) (head1 (Jvm.Cond.code (⟨"com/example/xidr/xidr/xml/tree/Tree", "previousSibling", "(I)I"⟩ : MethodName) prog_30_method_9_code 4 (some .int) :: ws) ({ frames := 0, cells := 0, slots := 0, locals := 0 } : Room)) (fun a U => a = #[(.ref ra), (.int xq)] ∧ Z.Warmed39 U.vm ∧ U.heap = h0) (fun _ _ _ _ _ => True) (fun _ U o U' => ∃ v L, o = .returned v ∧ Q_rm_prev Z ra xq ki xs rp h0 n0 v U'.heap L ∧ FrameEnd U o U' L ({ frames := 0, cells := 0, slots := 0, locals := 0 } : Room).cells ({ frames := 0, cells := 0, slots := 0, locals := 0 } : Room).slots) := by
  refine MetFree.of_bodySF (plainFor_of_name pn4) hisR ?_
  intro p e s m args below meth c s₁ Bd hml0 hP hK
  obtain ⟨rfl, hZ, hh⟩ := hP
  have hx := Bd.exec
  have hby := Bd.bytes
  have hml : c.maxLocals = 4 := hml0
  have hown : s.vm.findClass "com/example/xidr/xidr/xml/tree/Tree" = some m.cls := findClass_of_methodNamed Bd.named
  have hnm := (name_of_methodNamed Bd.named Bd.method).1
  have X0 : Stand p l e ({ frames := 0, cells := 0, slots := 0, locals := 0 } : Room) s m #[(.ref ra), (.int xq)] below meth c s₁ [] 0 0 := Stand.of_body Bd
  have e0 : s₁.heap = h0 := by rw [← hh, Bd.state]; rfl
  have N0 := Fr.nil n0
  have pre0 : ∀ t, Steps p.tables e below (s₁.setTop (mkF m 0 #[.val (.ref ra), .val (.int xq), .unset, .unset] [])) t → Steps p.tables e below (s₁.setTop (entryFrame m #[(.ref ra), (.int xq)] 4)) t := fun t k => castTop (ef_rm_prev m ra xq) k
  have pre1 : ∀ t, Steps p.tables e below (s₁.setTop (mkF m 1 #[.val (.ref ra), .val (.int xq), .unset, .unset] [(.ref ra)])) t → Steps p.tables e below (s₁.setTop (entryFrame m #[(.ref ra), (.int xq)] 4)) t := by
    intro t k
    refine pre0 t ?_
    refine XS.aloadN X0.here hx rfl (hb hby d9_0) rfl rfl ?_
    show Steps p.tables e below (s₁.setTop (mkF m 1 #[.val (.ref ra), .val (.int xq), .unset, .unset] [(.ref ra)])) _
    exact k
  obtain ⟨T2, X2, e2, st2⟩ := getF X0 hx hZ hown (host := "") (Or.inl (hw _ (List.mem_of_getElem? (i := 79) rfl))) Via.refl e0 F1 (g := (mkF m 1 #[.val (.ref ra), .val (.int xq), .unset, .unset] [(.ref ra)])) rfl rfl (hb hby d9_1)
  have pre3 : ∀ t, Steps p.tables e below (T2.setTop (mkF m 4 #[.val (.ref ra), .val (.int xq), .unset, .unset] [(.ref rp)])) t → Steps p.tables e below (s₁.setTop (entryFrame m #[(.ref ra), (.int xq)] 4)) t := fun t k => pre1 t (st2 t k)
  have pre5 : ∀ t, Steps p.tables e below (T2.setTop (mkF m 9 #[.val (.ref ra), .val (.int xq), .val (.int (own_at xs xq)), .unset] [(.int (-1 : Int32)), (.int (own_at xs xq))])) t → Steps p.tables e below (s₁.setTop (entryFrame m #[(.ref ra), (.int xq)] 4)) t := by
    intro t k
    refine pre3 t ?_
    refine XS.iloadN X2.here hx rfl (hb hby d9_4) rfl ?_
    show Steps p.tables e below (T2.setTop (mkF m 5 #[.val (.ref ra), .val (.int xq), .unset, .unset] [(.int xq), (.ref rp)])) _
    obtain ⟨c4, a4, q4, s4, m4, i4, u4⟩ := id V1
    have hin4 := inb_of (j := xq) s4 (own_un2 hP).1
    refine X2.iaload hx (j := xq) (v := (.int (own_at xs xq))) (by rw [e2]; exact a4.1) (State.isArrayOf_alike hZ.alike a4.2.1) a4.2.2 hin4 (i4.at hin4 (own_getD xs _)) (g := (mkF m 5 #[.val (.ref ra), .val (.int xq), .unset, .unset] [(.int xq), (.ref rp)])) rfl rfl (hb hby d9_5) _ ?_
    show Steps p.tables e below (T2.setTop (mkF m 6 #[.val (.ref ra), .val (.int xq), .unset, .unset] [(.int (own_at xs xq))])) _
    refine XS.istoreN X2.here hx rfl (hb hby d9_6) rfl (l' := #[.val (.ref ra), .val (.int xq), .val (.int (own_at xs xq)), .unset]) rfl ?_
    show Steps p.tables e below (T2.setTop (mkF m 7 #[.val (.ref ra), .val (.int xq), .val (.int (own_at xs xq)), .unset] [])) _
    refine XS.iloadN X2.here hx rfl (hb hby d9_7) rfl ?_
    show Steps p.tables e below (T2.setTop (mkF m 8 #[.val (.ref ra), .val (.int xq), .val (.int (own_at xs xq)), .unset] [(.int (own_at xs xq))])) _
    refine XS.iconst X2.here hx rfl (hb hby d9_8) ?_
    show Steps p.tables e below (T2.setTop (mkF m 9 #[.val (.ref ra), .val (.int xq), .val (.int (own_at xs xq)), .unset] [(.int (-1 : Int32)), (.int (own_at xs xq))])) _
    exact k
  by_cases hc9 : (own_at xs xq) = (-1 : Int32)
  · have pre6 : ∀ t, Steps p.tables e below (T2.setTop (mkF m 20 #[.val (.ref ra), .val (.int xq), .val (.int (own_at xs xq)), .unset] [(.int (-1 : Int32))])) t → Steps p.tables e below (s₁.setTop (entryFrame m #[(.ref ra), (.int xq)] 4)) t := by
      intro t k
      refine pre5 t ?_
      refine XS.icmpYes X2.here hx rfl (pc0 := 9) (pc' := 19) rfl (hb hby d9_9) rfl (teq hc9).1 (by decide) (by decide) ?_
      show Steps p.tables e below (T2.setTop (mkF m 19 #[.val (.ref ra), .val (.int xq), .val (.int (own_at xs xq)), .unset] [])) _
      refine XS.iconst X2.here hx rfl (hb hby d9_19) ?_
      show Steps p.tables e below (T2.setTop (mkF m 20 #[.val (.ref ra), .val (.int xq), .val (.int (own_at xs xq)), .unset] [(.int (-1 : Int32))])) _
      exact k
    obtain ⟨fs, hr, hrun, hended, hW, hsame⟩ := X2.leave (v := some (.int (-1 : Int32))) (fun h => by rw [Bd.returns] at h; cases h)
    refine ⟨_, _, pre6 _ ?_, hrun, hended, _, _, rfl, ?_, ⟨_, rfl⟩, hW, hsame.mono (by decide) (by decide)⟩
    · exact retI X2 hx Bd.returns (hb hby d9_20) hr
    · show Q_rm_prev Z ra xq ki xs rp h0 n0 _ T2.heap _
      rw [e2]
      exact ⟨congrArg (fun z => some (Value.int z)) (show (-1 : Int32) = (F_rm_prev xq xs) from by rw [F_rm_prev, if_pos hc9]), N0, rfl⟩
  · have pre7 : ∀ t, Steps p.tables e below (T2.setTop (mkF m 16 #[.val (.ref ra), .val (.int xq), .val (.int (own_at xs xq)), .unset] [(.int ((own_at xs xq) + (1 : Int32))), (.int xq)])) t → Steps p.tables e below (s₁.setTop (entryFrame m #[(.ref ra), (.int xq)] 4)) t := by
      intro t k
      refine pre5 t ?_
      refine XS.icmpNo X2.here hx rfl (hb hby d9_9) rfl (feq hc9).1 ?_
      show Steps p.tables e below (T2.setTop (mkF m 12 #[.val (.ref ra), .val (.int xq), .val (.int (own_at xs xq)), .unset] [])) _
      refine XS.iloadN X2.here hx rfl (hb hby d9_12) rfl ?_
      show Steps p.tables e below (T2.setTop (mkF m 13 #[.val (.ref ra), .val (.int xq), .val (.int (own_at xs xq)), .unset] [(.int xq)])) _
      refine XS.iloadN X2.here hx rfl (hb hby d9_13) rfl ?_
      show Steps p.tables e below (T2.setTop (mkF m 14 #[.val (.ref ra), .val (.int xq), .val (.int (own_at xs xq)), .unset] [(.int (own_at xs xq)), (.int xq)])) _
      refine XS.iconst X2.here hx rfl (hb hby d9_14) ?_
      show Steps p.tables e below (T2.setTop (mkF m 15 #[.val (.ref ra), .val (.int xq), .val (.int (own_at xs xq)), .unset] [(.int (1 : Int32)), (.int (own_at xs xq)), (.int xq)])) _
      refine XS.iadd X2.here hx rfl (hb hby d9_15) rfl ?_
      show Steps p.tables e below (T2.setTop (mkF m 16 #[.val (.ref ra), .val (.int xq), .val (.int (own_at xs xq)), .unset] [(.int ((own_at xs xq) + (1 : Int32))), (.int xq)])) _
      exact k
    by_cases hc16 : xq = ((own_at xs xq) + (1 : Int32))
    · have pre8 : ∀ t, Steps p.tables e below (T2.setTop (mkF m 20 #[.val (.ref ra), .val (.int xq), .val (.int (own_at xs xq)), .unset] [(.int (-1 : Int32))])) t → Steps p.tables e below (s₁.setTop (entryFrame m #[(.ref ra), (.int xq)] 4)) t := by
        intro t k
        refine pre7 t ?_
        refine XS.icmpNo X2.here hx rfl (hb hby d9_16) rfl (teq hc16).2 ?_
        show Steps p.tables e below (T2.setTop (mkF m 19 #[.val (.ref ra), .val (.int xq), .val (.int (own_at xs xq)), .unset] [])) _
        refine XS.iconst X2.here hx rfl (hb hby d9_19) ?_
        show Steps p.tables e below (T2.setTop (mkF m 20 #[.val (.ref ra), .val (.int xq), .val (.int (own_at xs xq)), .unset] [(.int (-1 : Int32))])) _
        exact k
      obtain ⟨fs, hr, hrun, hended, hW, hsame⟩ := X2.leave (v := some (.int (-1 : Int32))) (fun h => by rw [Bd.returns] at h; cases h)
      refine ⟨_, _, pre8 _ ?_, hrun, hended, _, _, rfl, ?_, ⟨_, rfl⟩, hW, hsame.mono (by decide) (by decide)⟩
      · exact retI X2 hx Bd.returns (hb hby d9_20) hr
      · show Q_rm_prev Z ra xq ki xs rp h0 n0 _ T2.heap _
        rw [e2]
        exact ⟨congrArg (fun z => some (Value.int z)) (show (-1 : Int32) = (F_rm_prev xq xs) from by rw [F_rm_prev, if_neg hc9, if_pos hc16]), N0, rfl⟩
    · have pre9 : ∀ t, Steps p.tables e below (T2.setTop (mkF m 26 #[.val (.ref ra), .val (.int xq), .val (.int (own_at xs xq)), .val (.int (xq - (1 : Int32)))] [(.ref ra)])) t → Steps p.tables e below (s₁.setTop (entryFrame m #[(.ref ra), (.int xq)] 4)) t := by
        intro t k
        refine pre7 t ?_
        refine XS.icmpYes X2.here hx rfl (pc0 := 16) (pc' := 21) rfl (hb hby d9_16) rfl (feq hc16).2 (by decide) (by decide) ?_
        show Steps p.tables e below (T2.setTop (mkF m 21 #[.val (.ref ra), .val (.int xq), .val (.int (own_at xs xq)), .unset] [])) _
        refine XS.iloadN X2.here hx rfl (hb hby d9_21) rfl ?_
        show Steps p.tables e below (T2.setTop (mkF m 22 #[.val (.ref ra), .val (.int xq), .val (.int (own_at xs xq)), .unset] [(.int xq)])) _
        refine XS.iconst X2.here hx rfl (hb hby d9_22) ?_
        show Steps p.tables e below (T2.setTop (mkF m 23 #[.val (.ref ra), .val (.int xq), .val (.int (own_at xs xq)), .unset] [(.int (1 : Int32)), (.int xq)])) _
        refine XS.isub X2.here hx rfl (hb hby d9_23) rfl ?_
        show Steps p.tables e below (T2.setTop (mkF m 24 #[.val (.ref ra), .val (.int xq), .val (.int (own_at xs xq)), .unset] [(.int (xq - (1 : Int32)))])) _
        refine XS.istoreN X2.here hx rfl (hb hby d9_24) rfl (l' := #[.val (.ref ra), .val (.int xq), .val (.int (own_at xs xq)), .val (.int (xq - (1 : Int32)))]) rfl ?_
        show Steps p.tables e below (T2.setTop (mkF m 25 #[.val (.ref ra), .val (.int xq), .val (.int (own_at xs xq)), .val (.int (xq - (1 : Int32)))] [])) _
        refine XS.aloadN X2.here hx rfl (hb hby d9_25) rfl rfl ?_
        show Steps p.tables e below (T2.setTop (mkF m 26 #[.val (.ref ra), .val (.int xq), .val (.int (own_at xs xq)), .val (.int (xq - (1 : Int32)))] [(.ref ra)])) _
        exact k
      obtain ⟨T10, X10, e10, st10⟩ := getF X2 hx hZ hown (host := "") (Or.inl (hw _ (List.mem_of_getElem? (i := 79) rfl))) Via.refl e2 F1 (g := (mkF m 26 #[.val (.ref ra), .val (.int xq), .val (.int (own_at xs xq)), .val (.int (xq - (1 : Int32)))] [(.ref ra)])) rfl rfl (hb hby d9_26)
      have pre11 : ∀ t, Steps p.tables e below (T10.setTop (mkF m 29 #[.val (.ref ra), .val (.int xq), .val (.int (own_at xs xq)), .val (.int (xq - (1 : Int32)))] [(.ref rp)])) t → Steps p.tables e below (s₁.setTop (entryFrame m #[(.ref ra), (.int xq)] 4)) t := fun t k => pre9 t (st10 t k)
      have pre13 : ∀ t, Steps p.tables e below (T10.setTop (mkF m 32 #[.val (.ref ra), .val (.int xq), .val (.int (own_at xs xq)), .val (.int (xq - (1 : Int32)))] [(.int (own_at xs xq)), (.int (own_at xs (xq - (1 : Int32))))])) t → Steps p.tables e below (s₁.setTop (entryFrame m #[(.ref ra), (.int xq)] 4)) t := by
        intro t k
        refine pre11 t ?_
        refine XS.iloadN X10.here hx rfl (hb hby d9_29) rfl ?_
        show Steps p.tables e below (T10.setTop (mkF m 30 #[.val (.ref ra), .val (.int xq), .val (.int (own_at xs xq)), .val (.int (xq - (1 : Int32)))] [(.int (xq - (1 : Int32))), (.ref rp)])) _
        obtain ⟨c12, a12, q12, s12, m12, i12, u12⟩ := id V1
        have hin12 := inb_of (j := (xq - (1 : Int32))) s12 (own_un ((own_un2 hP).2 hc9 hc16)).1
        refine X10.iaload hx (j := (xq - (1 : Int32))) (v := (.int (own_at xs (xq - (1 : Int32))))) (by rw [e10]; exact a12.1) (State.isArrayOf_alike hZ.alike a12.2.1) a12.2.2 hin12 (i12.at hin12 (own_getD xs _)) (g := (mkF m 30 #[.val (.ref ra), .val (.int xq), .val (.int (own_at xs xq)), .val (.int (xq - (1 : Int32)))] [(.int (xq - (1 : Int32))), (.ref rp)])) rfl rfl (hb hby d9_30) _ ?_
        show Steps p.tables e below (T10.setTop (mkF m 31 #[.val (.ref ra), .val (.int xq), .val (.int (own_at xs xq)), .val (.int (xq - (1 : Int32)))] [(.int (own_at xs (xq - (1 : Int32))))])) _
        refine XS.iloadN X10.here hx rfl (hb hby d9_31) rfl ?_
        show Steps p.tables e below (T10.setTop (mkF m 32 #[.val (.ref ra), .val (.int xq), .val (.int (own_at xs xq)), .val (.int (xq - (1 : Int32)))] [(.int (own_at xs xq)), (.int (own_at xs (xq - (1 : Int32))))])) _
        exact k
      by_cases hc32 : (own_at xs (xq - (1 : Int32))) = (own_at xs xq)
      · have pre14 : ∀ t, Steps p.tables e below (T10.setTop (mkF m 46 #[.val (.ref ra), .val (.int xq), .val (.int (own_at xs xq)), .val (.int (xq - (1 : Int32)))] [(.int (xq - (1 : Int32)))])) t → Steps p.tables e below (s₁.setTop (entryFrame m #[(.ref ra), (.int xq)] 4)) t := by
          intro t k
          refine pre13 t ?_
          refine XS.icmpYes X10.here hx rfl (pc0 := 32) (pc' := 45) rfl (hb hby d9_32) rfl (teq hc32).1 (by decide) (by decide) ?_
          show Steps p.tables e below (T10.setTop (mkF m 45 #[.val (.ref ra), .val (.int xq), .val (.int (own_at xs xq)), .val (.int (xq - (1 : Int32)))] [])) _
          refine XS.iloadN X10.here hx rfl (hb hby d9_45) rfl ?_
          show Steps p.tables e below (T10.setTop (mkF m 46 #[.val (.ref ra), .val (.int xq), .val (.int (own_at xs xq)), .val (.int (xq - (1 : Int32)))] [(.int (xq - (1 : Int32)))])) _
          exact k
        obtain ⟨fs, hr, hrun, hended, hW, hsame⟩ := X10.leave (v := some (.int (xq - (1 : Int32)))) (fun h => by rw [Bd.returns] at h; cases h)
        refine ⟨_, _, pre14 _ ?_, hrun, hended, _, _, rfl, ?_, ⟨_, rfl⟩, hW, hsame.mono (by decide) (by decide)⟩
        · exact retI X10 hx Bd.returns (hb hby d9_46) hr
        · show Q_rm_prev Z ra xq ki xs rp h0 n0 _ T10.heap _
          rw [e10]
          exact ⟨congrArg (fun z => some (Value.int z)) (show (xq - (1 : Int32)) = (F_rm_prev xq xs) from by rw [F_rm_prev, if_neg hc9, if_neg hc16, if_pos hc32]), N0, rfl⟩
      · have pre15 : ∀ t, Steps p.tables e below (T10.setTop (mkF m 36 #[.val (.ref ra), .val (.int xq), .val (.int (own_at xs xq)), .val (.int (xq - (1 : Int32)))] [(.ref ra)])) t → Steps p.tables e below (s₁.setTop (entryFrame m #[(.ref ra), (.int xq)] 4)) t := by
          intro t k
          refine pre13 t ?_
          refine XS.icmpNo X10.here hx rfl (hb hby d9_32) rfl (feq hc32).1 ?_
          show Steps p.tables e below (T10.setTop (mkF m 35 #[.val (.ref ra), .val (.int xq), .val (.int (own_at xs xq)), .val (.int (xq - (1 : Int32)))] [])) _
          refine XS.aloadN X10.here hx rfl (hb hby d9_35) rfl rfl ?_
          show Steps p.tables e below (T10.setTop (mkF m 36 #[.val (.ref ra), .val (.int xq), .val (.int (own_at xs xq)), .val (.int (xq - (1 : Int32)))] [(.ref ra)])) _
          exact k
        obtain ⟨T16, X16, e16, st16⟩ := getF X10 hx hZ hown (host := "") (Or.inl (hw _ (List.mem_of_getElem? (i := 79) rfl))) Via.refl e10 F1 (g := (mkF m 36 #[.val (.ref ra), .val (.int xq), .val (.int (own_at xs xq)), .val (.int (xq - (1 : Int32)))] [(.ref ra)])) rfl rfl (hb hby d9_36)
        have pre17 : ∀ t, Steps p.tables e below (T16.setTop (mkF m 39 #[.val (.ref ra), .val (.int xq), .val (.int (own_at xs xq)), .val (.int (xq - (1 : Int32)))] [(.ref rp)])) t → Steps p.tables e below (s₁.setTop (entryFrame m #[(.ref ra), (.int xq)] 4)) t := fun t k => pre15 t (st16 t k)
        have pre19 : ∀ t, Steps p.tables e below (T16.setTop (mkF m 26 #[.val (.ref ra), .val (.int xq), .val (.int (own_at xs xq)), .val (.int (own_at xs (xq - (1 : Int32))))] [(.ref ra)])) t → Steps p.tables e below (s₁.setTop (entryFrame m #[(.ref ra), (.int xq)] 4)) t := by
          intro t k
          refine pre17 t ?_
          refine XS.iloadN X16.here hx rfl (hb hby d9_39) rfl ?_
          show Steps p.tables e below (T16.setTop (mkF m 40 #[.val (.ref ra), .val (.int xq), .val (.int (own_at xs xq)), .val (.int (xq - (1 : Int32)))] [(.int (xq - (1 : Int32))), (.ref rp)])) _
          obtain ⟨c18, a18, q18, s18, m18, i18, u18⟩ := id V1
          have hin18 := inb_of (j := (xq - (1 : Int32))) s18 (own_un ((own_un2 hP).2 hc9 hc16)).1
          refine X16.iaload hx (j := (xq - (1 : Int32))) (v := (.int (own_at xs (xq - (1 : Int32))))) (by rw [e16]; exact a18.1) (State.isArrayOf_alike hZ.alike a18.2.1) a18.2.2 hin18 (i18.at hin18 (own_getD xs _)) (g := (mkF m 40 #[.val (.ref ra), .val (.int xq), .val (.int (own_at xs xq)), .val (.int (xq - (1 : Int32)))] [(.int (xq - (1 : Int32))), (.ref rp)])) rfl rfl (hb hby d9_40) _ ?_
          show Steps p.tables e below (T16.setTop (mkF m 41 #[.val (.ref ra), .val (.int xq), .val (.int (own_at xs xq)), .val (.int (xq - (1 : Int32)))] [(.int (own_at xs (xq - (1 : Int32))))])) _
          refine XS.istoreN X16.here hx rfl (hb hby d9_41) rfl (l' := #[.val (.ref ra), .val (.int xq), .val (.int (own_at xs xq)), .val (.int (own_at xs (xq - (1 : Int32))))]) rfl ?_
          show Steps p.tables e below (T16.setTop (mkF m 42 #[.val (.ref ra), .val (.int xq), .val (.int (own_at xs xq)), .val (.int (own_at xs (xq - (1 : Int32))))] [])) _
          refine XS.goto X16.here hx rfl (pc0 := 42) (pc' := 25) rfl (hb hby d9_42) (by decide) (by decide) ?_
          show Steps p.tables e below (T16.setTop (mkF m 25 #[.val (.ref ra), .val (.int xq), .val (.int (own_at xs xq)), .val (.int (own_at xs (xq - (1 : Int32))))] [])) _
          refine XS.aloadN X16.here hx rfl (hb hby d9_25) rfl rfl ?_
          show Steps p.tables e below (T16.setTop (mkF m 26 #[.val (.ref ra), .val (.int xq), .val (.int (own_at xs xq)), .val (.int (own_at xs (xq - (1 : Int32))))] [(.ref ra)])) _
          exact k
        obtain ⟨T20, X20, e20, st20⟩ := getF X16 hx hZ hown (host := "") (Or.inl (hw _ (List.mem_of_getElem? (i := 79) rfl))) Via.refl e16 F1 (g := (mkF m 26 #[.val (.ref ra), .val (.int xq), .val (.int (own_at xs xq)), .val (.int (own_at xs (xq - (1 : Int32))))] [(.ref ra)])) rfl rfl (hb hby d9_26)
        have pre21 : ∀ t, Steps p.tables e below (T20.setTop (mkF m 29 #[.val (.ref ra), .val (.int xq), .val (.int (own_at xs xq)), .val (.int (own_at xs (xq - (1 : Int32))))] [(.ref rp)])) t → Steps p.tables e below (s₁.setTop (entryFrame m #[(.ref ra), (.int xq)] 4)) t := fun t k => pre19 t (st20 t k)
        have pre23 : ∀ t, Steps p.tables e below (T20.setTop (mkF m 32 #[.val (.ref ra), .val (.int xq), .val (.int (own_at xs xq)), .val (.int (own_at xs (xq - (1 : Int32))))] [(.int (own_at xs xq)), (.int (own_at xs (own_at xs (xq - (1 : Int32)))))])) t → Steps p.tables e below (s₁.setTop (entryFrame m #[(.ref ra), (.int xq)] 4)) t := by
          intro t k
          refine pre21 t ?_
          refine XS.iloadN X20.here hx rfl (hb hby d9_29) rfl ?_
          show Steps p.tables e below (T20.setTop (mkF m 30 #[.val (.ref ra), .val (.int xq), .val (.int (own_at xs xq)), .val (.int (own_at xs (xq - (1 : Int32))))] [(.int (own_at xs (xq - (1 : Int32)))), (.ref rp)])) _
          obtain ⟨c22, a22, q22, s22, m22, i22, u22⟩ := id V1
          have hin22 := inb_of (j := (own_at xs (xq - (1 : Int32)))) s22 (own_un ((own_un ((own_un2 hP).2 hc9 hc16)).2 hc32)).1
          refine X20.iaload hx (j := (own_at xs (xq - (1 : Int32)))) (v := (.int (own_at xs (own_at xs (xq - (1 : Int32)))))) (by rw [e20]; exact a22.1) (State.isArrayOf_alike hZ.alike a22.2.1) a22.2.2 hin22 (i22.at hin22 (own_getD xs _)) (g := (mkF m 30 #[.val (.ref ra), .val (.int xq), .val (.int (own_at xs xq)), .val (.int (own_at xs (xq - (1 : Int32))))] [(.int (own_at xs (xq - (1 : Int32)))), (.ref rp)])) rfl rfl (hb hby d9_30) _ ?_
          show Steps p.tables e below (T20.setTop (mkF m 31 #[.val (.ref ra), .val (.int xq), .val (.int (own_at xs xq)), .val (.int (own_at xs (xq - (1 : Int32))))] [(.int (own_at xs (own_at xs (xq - (1 : Int32)))))])) _
          refine XS.iloadN X20.here hx rfl (hb hby d9_31) rfl ?_
          show Steps p.tables e below (T20.setTop (mkF m 32 #[.val (.ref ra), .val (.int xq), .val (.int (own_at xs xq)), .val (.int (own_at xs (xq - (1 : Int32))))] [(.int (own_at xs xq)), (.int (own_at xs (own_at xs (xq - (1 : Int32)))))])) _
          exact k
        by_cases hc32_2 : (own_at xs (own_at xs (xq - (1 : Int32)))) = (own_at xs xq)
        · have pre24 : ∀ t, Steps p.tables e below (T20.setTop (mkF m 46 #[.val (.ref ra), .val (.int xq), .val (.int (own_at xs xq)), .val (.int (own_at xs (xq - (1 : Int32))))] [(.int (own_at xs (xq - (1 : Int32))))])) t → Steps p.tables e below (s₁.setTop (entryFrame m #[(.ref ra), (.int xq)] 4)) t := by
            intro t k
            refine pre23 t ?_
            refine XS.icmpYes X20.here hx rfl (pc0 := 32) (pc' := 45) rfl (hb hby d9_32) rfl (teq hc32_2).1 (by decide) (by decide) ?_
            show Steps p.tables e below (T20.setTop (mkF m 45 #[.val (.ref ra), .val (.int xq), .val (.int (own_at xs xq)), .val (.int (own_at xs (xq - (1 : Int32))))] [])) _
            refine XS.iloadN X20.here hx rfl (hb hby d9_45) rfl ?_
            show Steps p.tables e below (T20.setTop (mkF m 46 #[.val (.ref ra), .val (.int xq), .val (.int (own_at xs xq)), .val (.int (own_at xs (xq - (1 : Int32))))] [(.int (own_at xs (xq - (1 : Int32))))])) _
            exact k
          obtain ⟨fs, hr, hrun, hended, hW, hsame⟩ := X20.leave (v := some (.int (own_at xs (xq - (1 : Int32))))) (fun h => by rw [Bd.returns] at h; cases h)
          refine ⟨_, _, pre24 _ ?_, hrun, hended, _, _, rfl, ?_, ⟨_, rfl⟩, hW, hsame.mono (by decide) (by decide)⟩
          · exact retI X20 hx Bd.returns (hb hby d9_46) hr
          · show Q_rm_prev Z ra xq ki xs rp h0 n0 _ T20.heap _
            rw [e20]
            exact ⟨congrArg (fun z => some (Value.int z)) (show (own_at xs (xq - (1 : Int32))) = (F_rm_prev xq xs) from by rw [F_rm_prev, if_neg hc9, if_neg hc16, if_neg hc32, if_pos hc32_2]), N0, rfl⟩
        · have pre25 : ∀ t, Steps p.tables e below (T20.setTop (mkF m 36 #[.val (.ref ra), .val (.int xq), .val (.int (own_at xs xq)), .val (.int (own_at xs (xq - (1 : Int32))))] [(.ref ra)])) t → Steps p.tables e below (s₁.setTop (entryFrame m #[(.ref ra), (.int xq)] 4)) t := by
            intro t k
            refine pre23 t ?_
            refine XS.icmpNo X20.here hx rfl (hb hby d9_32) rfl (feq hc32_2).1 ?_
            show Steps p.tables e below (T20.setTop (mkF m 35 #[.val (.ref ra), .val (.int xq), .val (.int (own_at xs xq)), .val (.int (own_at xs (xq - (1 : Int32))))] [])) _
            refine XS.aloadN X20.here hx rfl (hb hby d9_35) rfl rfl ?_
            show Steps p.tables e below (T20.setTop (mkF m 36 #[.val (.ref ra), .val (.int xq), .val (.int (own_at xs xq)), .val (.int (own_at xs (xq - (1 : Int32))))] [(.ref ra)])) _
            exact k
          obtain ⟨T26, X26, e26, st26⟩ := getF X20 hx hZ hown (host := "") (Or.inl (hw _ (List.mem_of_getElem? (i := 79) rfl))) Via.refl e20 F1 (g := (mkF m 36 #[.val (.ref ra), .val (.int xq), .val (.int (own_at xs xq)), .val (.int (own_at xs (xq - (1 : Int32))))] [(.ref ra)])) rfl rfl (hb hby d9_36)
          have pre27 : ∀ t, Steps p.tables e below (T26.setTop (mkF m 39 #[.val (.ref ra), .val (.int xq), .val (.int (own_at xs xq)), .val (.int (own_at xs (xq - (1 : Int32))))] [(.ref rp)])) t → Steps p.tables e below (s₁.setTop (entryFrame m #[(.ref ra), (.int xq)] 4)) t := fun t k => pre25 t (st26 t k)
          have pre29 : ∀ t, Steps p.tables e below (T26.setTop (mkF m 26 #[.val (.ref ra), .val (.int xq), .val (.int (own_at xs xq)), .val (.int (own_at xs (own_at xs (xq - (1 : Int32)))))] [(.ref ra)])) t → Steps p.tables e below (s₁.setTop (entryFrame m #[(.ref ra), (.int xq)] 4)) t := by
            intro t k
            refine pre27 t ?_
            refine XS.iloadN X26.here hx rfl (hb hby d9_39) rfl ?_
            show Steps p.tables e below (T26.setTop (mkF m 40 #[.val (.ref ra), .val (.int xq), .val (.int (own_at xs xq)), .val (.int (own_at xs (xq - (1 : Int32))))] [(.int (own_at xs (xq - (1 : Int32)))), (.ref rp)])) _
            obtain ⟨c28, a28, q28, s28, m28, i28, u28⟩ := id V1
            have hin28 := inb_of (j := (own_at xs (xq - (1 : Int32)))) s28 (own_un ((own_un ((own_un2 hP).2 hc9 hc16)).2 hc32)).1
            refine X26.iaload hx (j := (own_at xs (xq - (1 : Int32)))) (v := (.int (own_at xs (own_at xs (xq - (1 : Int32)))))) (by rw [e26]; exact a28.1) (State.isArrayOf_alike hZ.alike a28.2.1) a28.2.2 hin28 (i28.at hin28 (own_getD xs _)) (g := (mkF m 40 #[.val (.ref ra), .val (.int xq), .val (.int (own_at xs xq)), .val (.int (own_at xs (xq - (1 : Int32))))] [(.int (own_at xs (xq - (1 : Int32)))), (.ref rp)])) rfl rfl (hb hby d9_40) _ ?_
            show Steps p.tables e below (T26.setTop (mkF m 41 #[.val (.ref ra), .val (.int xq), .val (.int (own_at xs xq)), .val (.int (own_at xs (xq - (1 : Int32))))] [(.int (own_at xs (own_at xs (xq - (1 : Int32)))))])) _
            refine XS.istoreN X26.here hx rfl (hb hby d9_41) rfl (l' := #[.val (.ref ra), .val (.int xq), .val (.int (own_at xs xq)), .val (.int (own_at xs (own_at xs (xq - (1 : Int32)))))]) rfl ?_
            show Steps p.tables e below (T26.setTop (mkF m 42 #[.val (.ref ra), .val (.int xq), .val (.int (own_at xs xq)), .val (.int (own_at xs (own_at xs (xq - (1 : Int32)))))] [])) _
            refine XS.goto X26.here hx rfl (pc0 := 42) (pc' := 25) rfl (hb hby d9_42) (by decide) (by decide) ?_
            show Steps p.tables e below (T26.setTop (mkF m 25 #[.val (.ref ra), .val (.int xq), .val (.int (own_at xs xq)), .val (.int (own_at xs (own_at xs (xq - (1 : Int32)))))] [])) _
            refine XS.aloadN X26.here hx rfl (hb hby d9_25) rfl rfl ?_
            show Steps p.tables e below (T26.setTop (mkF m 26 #[.val (.ref ra), .val (.int xq), .val (.int (own_at xs xq)), .val (.int (own_at xs (own_at xs (xq - (1 : Int32)))))] [(.ref ra)])) _
            exact k
          obtain ⟨T30, X30, e30, st30⟩ := getF X26 hx hZ hown (host := "") (Or.inl (hw _ (List.mem_of_getElem? (i := 79) rfl))) Via.refl e26 F1 (g := (mkF m 26 #[.val (.ref ra), .val (.int xq), .val (.int (own_at xs xq)), .val (.int (own_at xs (own_at xs (xq - (1 : Int32)))))] [(.ref ra)])) rfl rfl (hb hby d9_26)
          have pre31 : ∀ t, Steps p.tables e below (T30.setTop (mkF m 29 #[.val (.ref ra), .val (.int xq), .val (.int (own_at xs xq)), .val (.int (own_at xs (own_at xs (xq - (1 : Int32)))))] [(.ref rp)])) t → Steps p.tables e below (s₁.setTop (entryFrame m #[(.ref ra), (.int xq)] 4)) t := fun t k => pre29 t (st30 t k)
          have pre33 : ∀ t, Steps p.tables e below (T30.setTop (mkF m 32 #[.val (.ref ra), .val (.int xq), .val (.int (own_at xs xq)), .val (.int (own_at xs (own_at xs (xq - (1 : Int32)))))] [(.int (own_at xs xq)), (.int (own_at xs (own_at xs (own_at xs (xq - (1 : Int32))))))])) t → Steps p.tables e below (s₁.setTop (entryFrame m #[(.ref ra), (.int xq)] 4)) t := by
            intro t k
            refine pre31 t ?_
            refine XS.iloadN X30.here hx rfl (hb hby d9_29) rfl ?_
            show Steps p.tables e below (T30.setTop (mkF m 30 #[.val (.ref ra), .val (.int xq), .val (.int (own_at xs xq)), .val (.int (own_at xs (own_at xs (xq - (1 : Int32)))))] [(.int (own_at xs (own_at xs (xq - (1 : Int32))))), (.ref rp)])) _
            obtain ⟨c32, a32, q32, s32, m32, i32, u32⟩ := id V1
            have hin32 := inb_of (j := (own_at xs (own_at xs (xq - (1 : Int32))))) s32 (own_un ((own_un ((own_un ((own_un2 hP).2 hc9 hc16)).2 hc32)).2 hc32_2)).1
            refine X30.iaload hx (j := (own_at xs (own_at xs (xq - (1 : Int32))))) (v := (.int (own_at xs (own_at xs (own_at xs (xq - (1 : Int32))))))) (by rw [e30]; exact a32.1) (State.isArrayOf_alike hZ.alike a32.2.1) a32.2.2 hin32 (i32.at hin32 (own_getD xs _)) (g := (mkF m 30 #[.val (.ref ra), .val (.int xq), .val (.int (own_at xs xq)), .val (.int (own_at xs (own_at xs (xq - (1 : Int32)))))] [(.int (own_at xs (own_at xs (xq - (1 : Int32))))), (.ref rp)])) rfl rfl (hb hby d9_30) _ ?_
            show Steps p.tables e below (T30.setTop (mkF m 31 #[.val (.ref ra), .val (.int xq), .val (.int (own_at xs xq)), .val (.int (own_at xs (own_at xs (xq - (1 : Int32)))))] [(.int (own_at xs (own_at xs (own_at xs (xq - (1 : Int32))))))])) _
            refine XS.iloadN X30.here hx rfl (hb hby d9_31) rfl ?_
            show Steps p.tables e below (T30.setTop (mkF m 32 #[.val (.ref ra), .val (.int xq), .val (.int (own_at xs xq)), .val (.int (own_at xs (own_at xs (xq - (1 : Int32)))))] [(.int (own_at xs xq)), (.int (own_at xs (own_at xs (own_at xs (xq - (1 : Int32))))))])) _
            exact k
          by_cases hc32_3 : (own_at xs (own_at xs (own_at xs (xq - (1 : Int32))))) = (own_at xs xq)
          · have pre34 : ∀ t, Steps p.tables e below (T30.setTop (mkF m 46 #[.val (.ref ra), .val (.int xq), .val (.int (own_at xs xq)), .val (.int (own_at xs (own_at xs (xq - (1 : Int32)))))] [(.int (own_at xs (own_at xs (xq - (1 : Int32)))))])) t → Steps p.tables e below (s₁.setTop (entryFrame m #[(.ref ra), (.int xq)] 4)) t := by
              intro t k
              refine pre33 t ?_
              refine XS.icmpYes X30.here hx rfl (pc0 := 32) (pc' := 45) rfl (hb hby d9_32) rfl (teq hc32_3).1 (by decide) (by decide) ?_
              show Steps p.tables e below (T30.setTop (mkF m 45 #[.val (.ref ra), .val (.int xq), .val (.int (own_at xs xq)), .val (.int (own_at xs (own_at xs (xq - (1 : Int32)))))] [])) _
              refine XS.iloadN X30.here hx rfl (hb hby d9_45) rfl ?_
              show Steps p.tables e below (T30.setTop (mkF m 46 #[.val (.ref ra), .val (.int xq), .val (.int (own_at xs xq)), .val (.int (own_at xs (own_at xs (xq - (1 : Int32)))))] [(.int (own_at xs (own_at xs (xq - (1 : Int32)))))])) _
              exact k
            obtain ⟨fs, hr, hrun, hended, hW, hsame⟩ := X30.leave (v := some (.int (own_at xs (own_at xs (xq - (1 : Int32)))))) (fun h => by rw [Bd.returns] at h; cases h)
            refine ⟨_, _, pre34 _ ?_, hrun, hended, _, _, rfl, ?_, ⟨_, rfl⟩, hW, hsame.mono (by decide) (by decide)⟩
            · exact retI X30 hx Bd.returns (hb hby d9_46) hr
            · show Q_rm_prev Z ra xq ki xs rp h0 n0 _ T30.heap _
              rw [e30]
              exact ⟨congrArg (fun z => some (Value.int z)) (show (own_at xs (own_at xs (xq - (1 : Int32)))) = (F_rm_prev xq xs) from by rw [F_rm_prev, if_neg hc9, if_neg hc16, if_neg hc32, if_neg hc32_2, if_pos hc32_3]), N0, rfl⟩
          · have pre35 : ∀ t, Steps p.tables e below (T30.setTop (mkF m 36 #[.val (.ref ra), .val (.int xq), .val (.int (own_at xs xq)), .val (.int (own_at xs (own_at xs (xq - (1 : Int32)))))] [(.ref ra)])) t → Steps p.tables e below (s₁.setTop (entryFrame m #[(.ref ra), (.int xq)] 4)) t := by
              intro t k
              refine pre33 t ?_
              refine XS.icmpNo X30.here hx rfl (hb hby d9_32) rfl (feq hc32_3).1 ?_
              show Steps p.tables e below (T30.setTop (mkF m 35 #[.val (.ref ra), .val (.int xq), .val (.int (own_at xs xq)), .val (.int (own_at xs (own_at xs (xq - (1 : Int32)))))] [])) _
              refine XS.aloadN X30.here hx rfl (hb hby d9_35) rfl rfl ?_
              show Steps p.tables e below (T30.setTop (mkF m 36 #[.val (.ref ra), .val (.int xq), .val (.int (own_at xs xq)), .val (.int (own_at xs (own_at xs (xq - (1 : Int32)))))] [(.ref ra)])) _
              exact k
            obtain ⟨T36, X36, e36, st36⟩ := getF X30 hx hZ hown (host := "") (Or.inl (hw _ (List.mem_of_getElem? (i := 79) rfl))) Via.refl e30 F1 (g := (mkF m 36 #[.val (.ref ra), .val (.int xq), .val (.int (own_at xs xq)), .val (.int (own_at xs (own_at xs (xq - (1 : Int32)))))] [(.ref ra)])) rfl rfl (hb hby d9_36)
            have pre37 : ∀ t, Steps p.tables e below (T36.setTop (mkF m 39 #[.val (.ref ra), .val (.int xq), .val (.int (own_at xs xq)), .val (.int (own_at xs (own_at xs (xq - (1 : Int32)))))] [(.ref rp)])) t → Steps p.tables e below (s₁.setTop (entryFrame m #[(.ref ra), (.int xq)] 4)) t := fun t k => pre35 t (st36 t k)
            have pre39 : ∀ t, Steps p.tables e below (T36.setTop (mkF m 26 #[.val (.ref ra), .val (.int xq), .val (.int (own_at xs xq)), .val (.int (own_at xs (own_at xs (own_at xs (xq - (1 : Int32))))))] [(.ref ra)])) t → Steps p.tables e below (s₁.setTop (entryFrame m #[(.ref ra), (.int xq)] 4)) t := by
              intro t k
              refine pre37 t ?_
              refine XS.iloadN X36.here hx rfl (hb hby d9_39) rfl ?_
              show Steps p.tables e below (T36.setTop (mkF m 40 #[.val (.ref ra), .val (.int xq), .val (.int (own_at xs xq)), .val (.int (own_at xs (own_at xs (xq - (1 : Int32)))))] [(.int (own_at xs (own_at xs (xq - (1 : Int32))))), (.ref rp)])) _
              obtain ⟨c38, a38, q38, s38, m38, i38, u38⟩ := id V1
              have hin38 := inb_of (j := (own_at xs (own_at xs (xq - (1 : Int32))))) s38 (own_un ((own_un ((own_un ((own_un2 hP).2 hc9 hc16)).2 hc32)).2 hc32_2)).1
              refine X36.iaload hx (j := (own_at xs (own_at xs (xq - (1 : Int32))))) (v := (.int (own_at xs (own_at xs (own_at xs (xq - (1 : Int32))))))) (by rw [e36]; exact a38.1) (State.isArrayOf_alike hZ.alike a38.2.1) a38.2.2 hin38 (i38.at hin38 (own_getD xs _)) (g := (mkF m 40 #[.val (.ref ra), .val (.int xq), .val (.int (own_at xs xq)), .val (.int (own_at xs (own_at xs (xq - (1 : Int32)))))] [(.int (own_at xs (own_at xs (xq - (1 : Int32))))), (.ref rp)])) rfl rfl (hb hby d9_40) _ ?_
              show Steps p.tables e below (T36.setTop (mkF m 41 #[.val (.ref ra), .val (.int xq), .val (.int (own_at xs xq)), .val (.int (own_at xs (own_at xs (xq - (1 : Int32)))))] [(.int (own_at xs (own_at xs (own_at xs (xq - (1 : Int32))))))])) _
              refine XS.istoreN X36.here hx rfl (hb hby d9_41) rfl (l' := #[.val (.ref ra), .val (.int xq), .val (.int (own_at xs xq)), .val (.int (own_at xs (own_at xs (own_at xs (xq - (1 : Int32))))))]) rfl ?_
              show Steps p.tables e below (T36.setTop (mkF m 42 #[.val (.ref ra), .val (.int xq), .val (.int (own_at xs xq)), .val (.int (own_at xs (own_at xs (own_at xs (xq - (1 : Int32))))))] [])) _
              refine XS.goto X36.here hx rfl (pc0 := 42) (pc' := 25) rfl (hb hby d9_42) (by decide) (by decide) ?_
              show Steps p.tables e below (T36.setTop (mkF m 25 #[.val (.ref ra), .val (.int xq), .val (.int (own_at xs xq)), .val (.int (own_at xs (own_at xs (own_at xs (xq - (1 : Int32))))))] [])) _
              refine XS.aloadN X36.here hx rfl (hb hby d9_25) rfl rfl ?_
              show Steps p.tables e below (T36.setTop (mkF m 26 #[.val (.ref ra), .val (.int xq), .val (.int (own_at xs xq)), .val (.int (own_at xs (own_at xs (own_at xs (xq - (1 : Int32))))))] [(.ref ra)])) _
              exact k
            obtain ⟨T40, X40, e40, st40⟩ := getF X36 hx hZ hown (host := "") (Or.inl (hw _ (List.mem_of_getElem? (i := 79) rfl))) Via.refl e36 F1 (g := (mkF m 26 #[.val (.ref ra), .val (.int xq), .val (.int (own_at xs xq)), .val (.int (own_at xs (own_at xs (own_at xs (xq - (1 : Int32))))))] [(.ref ra)])) rfl rfl (hb hby d9_26)
            have pre41 : ∀ t, Steps p.tables e below (T40.setTop (mkF m 29 #[.val (.ref ra), .val (.int xq), .val (.int (own_at xs xq)), .val (.int (own_at xs (own_at xs (own_at xs (xq - (1 : Int32))))))] [(.ref rp)])) t → Steps p.tables e below (s₁.setTop (entryFrame m #[(.ref ra), (.int xq)] 4)) t := fun t k => pre39 t (st40 t k)
            have pre43 : ∀ t, Steps p.tables e below (T40.setTop (mkF m 32 #[.val (.ref ra), .val (.int xq), .val (.int (own_at xs xq)), .val (.int (own_at xs (own_at xs (own_at xs (xq - (1 : Int32))))))] [(.int (own_at xs xq)), (.int (own_at xs (own_at xs (own_at xs (own_at xs (xq - (1 : Int32)))))))])) t → Steps p.tables e below (s₁.setTop (entryFrame m #[(.ref ra), (.int xq)] 4)) t := by
              intro t k
              refine pre41 t ?_
              refine XS.iloadN X40.here hx rfl (hb hby d9_29) rfl ?_
              show Steps p.tables e below (T40.setTop (mkF m 30 #[.val (.ref ra), .val (.int xq), .val (.int (own_at xs xq)), .val (.int (own_at xs (own_at xs (own_at xs (xq - (1 : Int32))))))] [(.int (own_at xs (own_at xs (own_at xs (xq - (1 : Int32)))))), (.ref rp)])) _
              obtain ⟨c42, a42, q42, s42, m42, i42, u42⟩ := id V1
              have hin42 := inb_of (j := (own_at xs (own_at xs (own_at xs (xq - (1 : Int32)))))) s42 (own_un ((own_un ((own_un ((own_un ((own_un2 hP).2 hc9 hc16)).2 hc32)).2 hc32_2)).2 hc32_3)).1
              refine X40.iaload hx (j := (own_at xs (own_at xs (own_at xs (xq - (1 : Int32)))))) (v := (.int (own_at xs (own_at xs (own_at xs (own_at xs (xq - (1 : Int32)))))))) (by rw [e40]; exact a42.1) (State.isArrayOf_alike hZ.alike a42.2.1) a42.2.2 hin42 (i42.at hin42 (own_getD xs _)) (g := (mkF m 30 #[.val (.ref ra), .val (.int xq), .val (.int (own_at xs xq)), .val (.int (own_at xs (own_at xs (own_at xs (xq - (1 : Int32))))))] [(.int (own_at xs (own_at xs (own_at xs (xq - (1 : Int32)))))), (.ref rp)])) rfl rfl (hb hby d9_30) _ ?_
              show Steps p.tables e below (T40.setTop (mkF m 31 #[.val (.ref ra), .val (.int xq), .val (.int (own_at xs xq)), .val (.int (own_at xs (own_at xs (own_at xs (xq - (1 : Int32))))))] [(.int (own_at xs (own_at xs (own_at xs (own_at xs (xq - (1 : Int32)))))))])) _
              refine XS.iloadN X40.here hx rfl (hb hby d9_31) rfl ?_
              show Steps p.tables e below (T40.setTop (mkF m 32 #[.val (.ref ra), .val (.int xq), .val (.int (own_at xs xq)), .val (.int (own_at xs (own_at xs (own_at xs (xq - (1 : Int32))))))] [(.int (own_at xs xq)), (.int (own_at xs (own_at xs (own_at xs (own_at xs (xq - (1 : Int32)))))))])) _
              exact k
            by_cases hc32_4 : (own_at xs (own_at xs (own_at xs (own_at xs (xq - (1 : Int32)))))) = (own_at xs xq)
            · have pre44 : ∀ t, Steps p.tables e below (T40.setTop (mkF m 46 #[.val (.ref ra), .val (.int xq), .val (.int (own_at xs xq)), .val (.int (own_at xs (own_at xs (own_at xs (xq - (1 : Int32))))))] [(.int (own_at xs (own_at xs (own_at xs (xq - (1 : Int32))))))])) t → Steps p.tables e below (s₁.setTop (entryFrame m #[(.ref ra), (.int xq)] 4)) t := by
                intro t k
                refine pre43 t ?_
                refine XS.icmpYes X40.here hx rfl (pc0 := 32) (pc' := 45) rfl (hb hby d9_32) rfl (teq hc32_4).1 (by decide) (by decide) ?_
                show Steps p.tables e below (T40.setTop (mkF m 45 #[.val (.ref ra), .val (.int xq), .val (.int (own_at xs xq)), .val (.int (own_at xs (own_at xs (own_at xs (xq - (1 : Int32))))))] [])) _
                refine XS.iloadN X40.here hx rfl (hb hby d9_45) rfl ?_
                show Steps p.tables e below (T40.setTop (mkF m 46 #[.val (.ref ra), .val (.int xq), .val (.int (own_at xs xq)), .val (.int (own_at xs (own_at xs (own_at xs (xq - (1 : Int32))))))] [(.int (own_at xs (own_at xs (own_at xs (xq - (1 : Int32))))))])) _
                exact k
              obtain ⟨fs, hr, hrun, hended, hW, hsame⟩ := X40.leave (v := some (.int (own_at xs (own_at xs (own_at xs (xq - (1 : Int32))))))) (fun h => by rw [Bd.returns] at h; cases h)
              refine ⟨_, _, pre44 _ ?_, hrun, hended, _, _, rfl, ?_, ⟨_, rfl⟩, hW, hsame.mono (by decide) (by decide)⟩
              · exact retI X40 hx Bd.returns (hb hby d9_46) hr
              · show Q_rm_prev Z ra xq ki xs rp h0 n0 _ T40.heap _
                rw [e40]
                exact ⟨congrArg (fun z => some (Value.int z)) (show (own_at xs (own_at xs (own_at xs (xq - (1 : Int32))))) = (F_rm_prev xq xs) from by rw [F_rm_prev, if_neg hc9, if_neg hc16, if_neg hc32, if_neg hc32_2, if_neg hc32_3, if_pos hc32_4]), N0, rfl⟩
            · have pre45 : ∀ t, Steps p.tables e below (T40.setTop (mkF m 36 #[.val (.ref ra), .val (.int xq), .val (.int (own_at xs xq)), .val (.int (own_at xs (own_at xs (own_at xs (xq - (1 : Int32))))))] [(.ref ra)])) t → Steps p.tables e below (s₁.setTop (entryFrame m #[(.ref ra), (.int xq)] 4)) t := by
                intro t k
                refine pre43 t ?_
                refine XS.icmpNo X40.here hx rfl (hb hby d9_32) rfl (feq hc32_4).1 ?_
                show Steps p.tables e below (T40.setTop (mkF m 35 #[.val (.ref ra), .val (.int xq), .val (.int (own_at xs xq)), .val (.int (own_at xs (own_at xs (own_at xs (xq - (1 : Int32))))))] [])) _
                refine XS.aloadN X40.here hx rfl (hb hby d9_35) rfl rfl ?_
                show Steps p.tables e below (T40.setTop (mkF m 36 #[.val (.ref ra), .val (.int xq), .val (.int (own_at xs xq)), .val (.int (own_at xs (own_at xs (own_at xs (xq - (1 : Int32))))))] [(.ref ra)])) _
                exact k
              obtain ⟨T46, X46, e46, st46⟩ := getF X40 hx hZ hown (host := "") (Or.inl (hw _ (List.mem_of_getElem? (i := 79) rfl))) Via.refl e40 F1 (g := (mkF m 36 #[.val (.ref ra), .val (.int xq), .val (.int (own_at xs xq)), .val (.int (own_at xs (own_at xs (own_at xs (xq - (1 : Int32))))))] [(.ref ra)])) rfl rfl (hb hby d9_36)
              have pre47 : ∀ t, Steps p.tables e below (T46.setTop (mkF m 39 #[.val (.ref ra), .val (.int xq), .val (.int (own_at xs xq)), .val (.int (own_at xs (own_at xs (own_at xs (xq - (1 : Int32))))))] [(.ref rp)])) t → Steps p.tables e below (s₁.setTop (entryFrame m #[(.ref ra), (.int xq)] 4)) t := fun t k => pre45 t (st46 t k)
              have pre49 : ∀ t, Steps p.tables e below (T46.setTop (mkF m 26 #[.val (.ref ra), .val (.int xq), .val (.int (own_at xs xq)), .val (.int (own_at xs (own_at xs (own_at xs (own_at xs (xq - (1 : Int32)))))))] [(.ref ra)])) t → Steps p.tables e below (s₁.setTop (entryFrame m #[(.ref ra), (.int xq)] 4)) t := by
                intro t k
                refine pre47 t ?_
                refine XS.iloadN X46.here hx rfl (hb hby d9_39) rfl ?_
                show Steps p.tables e below (T46.setTop (mkF m 40 #[.val (.ref ra), .val (.int xq), .val (.int (own_at xs xq)), .val (.int (own_at xs (own_at xs (own_at xs (xq - (1 : Int32))))))] [(.int (own_at xs (own_at xs (own_at xs (xq - (1 : Int32)))))), (.ref rp)])) _
                obtain ⟨c48, a48, q48, s48, m48, i48, u48⟩ := id V1
                have hin48 := inb_of (j := (own_at xs (own_at xs (own_at xs (xq - (1 : Int32)))))) s48 (own_un ((own_un ((own_un ((own_un ((own_un2 hP).2 hc9 hc16)).2 hc32)).2 hc32_2)).2 hc32_3)).1
                refine X46.iaload hx (j := (own_at xs (own_at xs (own_at xs (xq - (1 : Int32)))))) (v := (.int (own_at xs (own_at xs (own_at xs (own_at xs (xq - (1 : Int32)))))))) (by rw [e46]; exact a48.1) (State.isArrayOf_alike hZ.alike a48.2.1) a48.2.2 hin48 (i48.at hin48 (own_getD xs _)) (g := (mkF m 40 #[.val (.ref ra), .val (.int xq), .val (.int (own_at xs xq)), .val (.int (own_at xs (own_at xs (own_at xs (xq - (1 : Int32))))))] [(.int (own_at xs (own_at xs (own_at xs (xq - (1 : Int32)))))), (.ref rp)])) rfl rfl (hb hby d9_40) _ ?_
                show Steps p.tables e below (T46.setTop (mkF m 41 #[.val (.ref ra), .val (.int xq), .val (.int (own_at xs xq)), .val (.int (own_at xs (own_at xs (own_at xs (xq - (1 : Int32))))))] [(.int (own_at xs (own_at xs (own_at xs (own_at xs (xq - (1 : Int32)))))))])) _
                refine XS.istoreN X46.here hx rfl (hb hby d9_41) rfl (l' := #[.val (.ref ra), .val (.int xq), .val (.int (own_at xs xq)), .val (.int (own_at xs (own_at xs (own_at xs (own_at xs (xq - (1 : Int32)))))))]) rfl ?_
                show Steps p.tables e below (T46.setTop (mkF m 42 #[.val (.ref ra), .val (.int xq), .val (.int (own_at xs xq)), .val (.int (own_at xs (own_at xs (own_at xs (own_at xs (xq - (1 : Int32)))))))] [])) _
                refine XS.goto X46.here hx rfl (pc0 := 42) (pc' := 25) rfl (hb hby d9_42) (by decide) (by decide) ?_
                show Steps p.tables e below (T46.setTop (mkF m 25 #[.val (.ref ra), .val (.int xq), .val (.int (own_at xs xq)), .val (.int (own_at xs (own_at xs (own_at xs (own_at xs (xq - (1 : Int32)))))))] [])) _
                refine XS.aloadN X46.here hx rfl (hb hby d9_25) rfl rfl ?_
                show Steps p.tables e below (T46.setTop (mkF m 26 #[.val (.ref ra), .val (.int xq), .val (.int (own_at xs xq)), .val (.int (own_at xs (own_at xs (own_at xs (own_at xs (xq - (1 : Int32)))))))] [(.ref ra)])) _
                exact k
              obtain ⟨T50, X50, e50, st50⟩ := getF X46 hx hZ hown (host := "") (Or.inl (hw _ (List.mem_of_getElem? (i := 79) rfl))) Via.refl e46 F1 (g := (mkF m 26 #[.val (.ref ra), .val (.int xq), .val (.int (own_at xs xq)), .val (.int (own_at xs (own_at xs (own_at xs (own_at xs (xq - (1 : Int32)))))))] [(.ref ra)])) rfl rfl (hb hby d9_26)
              have pre51 : ∀ t, Steps p.tables e below (T50.setTop (mkF m 29 #[.val (.ref ra), .val (.int xq), .val (.int (own_at xs xq)), .val (.int (own_at xs (own_at xs (own_at xs (own_at xs (xq - (1 : Int32)))))))] [(.ref rp)])) t → Steps p.tables e below (s₁.setTop (entryFrame m #[(.ref ra), (.int xq)] 4)) t := fun t k => pre49 t (st50 t k)
              have pre53 : ∀ t, Steps p.tables e below (T50.setTop (mkF m 46 #[.val (.ref ra), .val (.int xq), .val (.int (own_at xs xq)), .val (.int (own_at xs (own_at xs (own_at xs (own_at xs (xq - (1 : Int32)))))))] [(.int (own_at xs (own_at xs (own_at xs (own_at xs (xq - (1 : Int32)))))))])) t → Steps p.tables e below (s₁.setTop (entryFrame m #[(.ref ra), (.int xq)] 4)) t := by
                intro t k
                refine pre51 t ?_
                refine XS.iloadN X50.here hx rfl (hb hby d9_29) rfl ?_
                show Steps p.tables e below (T50.setTop (mkF m 30 #[.val (.ref ra), .val (.int xq), .val (.int (own_at xs xq)), .val (.int (own_at xs (own_at xs (own_at xs (own_at xs (xq - (1 : Int32)))))))] [(.int (own_at xs (own_at xs (own_at xs (own_at xs (xq - (1 : Int32))))))), (.ref rp)])) _
                obtain ⟨c52, a52, q52, s52, m52, i52, u52⟩ := id V1
                have hin52 := inb_of (j := (own_at xs (own_at xs (own_at xs (own_at xs (xq - (1 : Int32))))))) s52 (own_un ((own_un ((own_un ((own_un ((own_un ((own_un2 hP).2 hc9 hc16)).2 hc32)).2 hc32_2)).2 hc32_3)).2 hc32_4)).1
                refine X50.iaload hx (j := (own_at xs (own_at xs (own_at xs (own_at xs (xq - (1 : Int32))))))) (v := (.int (own_at xs (own_at xs (own_at xs (own_at xs (own_at xs (xq - (1 : Int32))))))))) (by rw [e50]; exact a52.1) (State.isArrayOf_alike hZ.alike a52.2.1) a52.2.2 hin52 (i52.at hin52 (own_getD xs _)) (g := (mkF m 30 #[.val (.ref ra), .val (.int xq), .val (.int (own_at xs xq)), .val (.int (own_at xs (own_at xs (own_at xs (own_at xs (xq - (1 : Int32)))))))] [(.int (own_at xs (own_at xs (own_at xs (own_at xs (xq - (1 : Int32))))))), (.ref rp)])) rfl rfl (hb hby d9_30) _ ?_
                show Steps p.tables e below (T50.setTop (mkF m 31 #[.val (.ref ra), .val (.int xq), .val (.int (own_at xs xq)), .val (.int (own_at xs (own_at xs (own_at xs (own_at xs (xq - (1 : Int32)))))))] [(.int (own_at xs (own_at xs (own_at xs (own_at xs (own_at xs (xq - (1 : Int32))))))))])) _
                refine XS.iloadN X50.here hx rfl (hb hby d9_31) rfl ?_
                show Steps p.tables e below (T50.setTop (mkF m 32 #[.val (.ref ra), .val (.int xq), .val (.int (own_at xs xq)), .val (.int (own_at xs (own_at xs (own_at xs (own_at xs (xq - (1 : Int32)))))))] [(.int (own_at xs xq)), (.int (own_at xs (own_at xs (own_at xs (own_at xs (own_at xs (xq - (1 : Int32))))))))])) _
                refine XS.icmpYes X50.here hx rfl (pc0 := 32) (pc' := 45) rfl (hb hby d9_32) rfl (teq (show (own_at xs (own_at xs (own_at xs (own_at xs (own_at xs (xq - (1 : Int32))))))) = (own_at xs xq) from (Decidable.byContradiction fun q => by cases (own_un ((own_un ((own_un ((own_un ((own_un ((own_un2 hP).2 hc9 hc16)).2 hc32)).2 hc32_2)).2 hc32_3)).2 hc32_4)).2 q))).1 (by decide) (by decide) ?_
                show Steps p.tables e below (T50.setTop (mkF m 45 #[.val (.ref ra), .val (.int xq), .val (.int (own_at xs xq)), .val (.int (own_at xs (own_at xs (own_at xs (own_at xs (xq - (1 : Int32)))))))] [])) _
                refine XS.iloadN X50.here hx rfl (hb hby d9_45) rfl ?_
                show Steps p.tables e below (T50.setTop (mkF m 46 #[.val (.ref ra), .val (.int xq), .val (.int (own_at xs xq)), .val (.int (own_at xs (own_at xs (own_at xs (own_at xs (xq - (1 : Int32)))))))] [(.int (own_at xs (own_at xs (own_at xs (own_at xs (xq - (1 : Int32)))))))])) _
                exact k
              obtain ⟨fs, hr, hrun, hended, hW, hsame⟩ := X50.leave (v := some (.int (own_at xs (own_at xs (own_at xs (own_at xs (xq - (1 : Int32)))))))) (fun h => by rw [Bd.returns] at h; cases h)
              refine ⟨_, _, pre53 _ ?_, hrun, hended, _, _, rfl, ?_, ⟨_, rfl⟩, hW, hsame.mono (by decide) (by decide)⟩
              · exact retI X50 hx Bd.returns (hb hby d9_46) hr
              · show Q_rm_prev Z ra xq ki xs rp h0 n0 _ T50.heap _
                rw [e50]
                exact ⟨congrArg (fun z => some (Value.int z)) (show (own_at xs (own_at xs (own_at xs (own_at xs (xq - (1 : Int32)))))) = (F_rm_prev xq xs) from by rw [F_rm_prev, if_neg hc9, if_neg hc16, if_neg hc32, if_neg hc32_2, if_neg hc32_3, if_neg hc32_4]), N0, rfl⟩
theorem own_okP (p2 p3 p4 p5 p6 qq : Int32) (G : own_G6 p2 p3 p4 p5 p6) (hq : own_in qq) : own_P ([(-1 : Int32), (0 : Int32), p2, p3, p4, p5, p6] : List Int32) qq = true := by
  obtain ⟨c2, c3, c4, c5, c6, rfl, rfl, rfl, rfl, rfl⟩ := G
  obtain ⟨i, rfl⟩ := own_in_fin qq hq
  exact (by decide +kernel : ∀ c2 : Fin 2, ∀ c3 : Fin 3, ∀ c4 : Fin 4, ∀ c5 : Fin 5, ∀ c6 : Fin 6, ∀ i : Fin 7, own_P ([(-1 : Int32), (0 : Int32), (own_P2 c2), (own_P3 c2 c3), (own_P4 c2 c3 c4), (own_P5 c2 c3 c4 c5), (own_P6 c2 c3 c4 c5 c6)] : List Int32) (own_n i) = true) c2 c3 c4 c5 c6 i
theorem own_fin (p2 p3 p4 p5 p6 qq a1 a2 a3 a4 a5 a6 : Int32) (G : own_G6 p2 p3 p4 p5 p6) (hq : own_in qq) (k1 : a1 = (F_rm_later (1 : Int32) qq (-1 : Int32) ([(-1 : Int32), (0 : Int32), p2, p3, p4, p5, p6] : List Int32))) (k2 : a2 = (F_rm_later (2 : Int32) qq a1 ([(-1 : Int32), (0 : Int32), p2, p3, p4, p5, p6] : List Int32))) (k3 : a3 = (F_rm_later (3 : Int32) qq a2 ([(-1 : Int32), (0 : Int32), p2, p3, p4, p5, p6] : List Int32))) (k4 : a4 = (F_rm_later (4 : Int32) qq a3 ([(-1 : Int32), (0 : Int32), p2, p3, p4, p5, p6] : List Int32))) (k5 : a5 = (F_rm_later (5 : Int32) qq a4 ([(-1 : Int32), (0 : Int32), p2, p3, p4, p5, p6] : List Int32))) (k6 : a6 = (F_rm_later (6 : Int32) qq a5 ([(-1 : Int32), (0 : Int32), p2, p3, p4, p5, p6] : List Int32))) : (F_rm_prev qq ([(-1 : Int32), (0 : Int32), p2, p3, p4, p5, p6] : List Int32)) = a6 := by
  obtain ⟨c2, c3, c4, c5, c6, rfl, rfl, rfl, rfl, rfl⟩ := G
  obtain ⟨i, rfl⟩ := own_in_fin qq hq
  subst k1 k2 k3 k4 k5 k6
  exact (by decide +kernel : ∀ c2 : Fin 2, ∀ c3 : Fin 3, ∀ c4 : Fin 4, ∀ c5 : Fin 5, ∀ c6 : Fin 6, ∀ i : Fin 7, (F_rm_prev (own_n i) ([(-1 : Int32), (0 : Int32), (own_P2 c2), (own_P3 c2 c3), (own_P4 c2 c3 c4), (own_P5 c2 c3 c4 c5), (own_P6 c2 c3 c4 c5 c6)] : List Int32)) = (F_rm_later (6 : Int32) (own_n i) (F_rm_later (5 : Int32) (own_n i) (F_rm_later (4 : Int32) (own_n i) (F_rm_later (3 : Int32) (own_n i) (F_rm_later (2 : Int32) (own_n i) (F_rm_later (1 : Int32) (own_n i) (-1 : Int32) ([(-1 : Int32), (0 : Int32), (own_P2 c2), (own_P3 c2 c3), (own_P4 c2 c3 c4), (own_P5 c2 c3 c4 c5), (own_P6 c2 c3 c4 c5 c6)] : List Int32)) ([(-1 : Int32), (0 : Int32), (own_P2 c2), (own_P3 c2 c3), (own_P4 c2 c3 c4), (own_P5 c2 c3 c4 c5), (own_P6 c2 c3 c4 c5 c6)] : List Int32)) ([(-1 : Int32), (0 : Int32), (own_P2 c2), (own_P3 c2 c3), (own_P4 c2 c3 c4), (own_P5 c2 c3 c4 c5), (own_P6 c2 c3 c4 c5 c6)] : List Int32)) ([(-1 : Int32), (0 : Int32), (own_P2 c2), (own_P3 c2 c3), (own_P4 c2 c3 c4), (own_P5 c2 c3 c4 c5), (own_P6 c2 c3 c4 c5 c6)] : List Int32)) ([(-1 : Int32), (0 : Int32), (own_P2 c2), (own_P3 c2 c3), (own_P4 c2 c3 c4), (own_P5 c2 c3 c4 c5), (own_P6 c2 c3 c4 c5 c6)] : List Int32)) ([(-1 : Int32), (0 : Int32), (own_P2 c2), (own_P3 c2 c3), (own_P4 c2 c3 c4), (own_P5 c2 c3 c4 c5), (own_P6 c2 c3 c4 c5 c6)] : List Int32))) c2 c3 c4 c5 c6 i
theorem own_q (xb qq : Int32) (h : qq = ((xb &&& (2147483647 : Int32)) % (7 : Int32))) : own_in qq := by
  subst h
  have := rng32 xb
  have := c_mask xb (2147483647 : Int32) 31 (by decide) (by decide +kernel)
  have := rng32 (xb &&& (2147483647 : Int32))
  have : (7 : Int32).toInt = 7 := rfl
  have := c_irem (xb &&& (2147483647 : Int32)) (7 : Int32) 7 rfl
  have := rng32 ((xb &&& (2147483647 : Int32)) % (7 : Int32))
  have : (0 : Int32).toInt = 0 := rfl
  simp only [own_in, Int32.lt_iff_toInt_lt]
  omega
theorem pd1 : parseMethodDescriptor "([III)I" = some ⟨[(.array .int), .int, .int], some .int⟩ := by decide +kernel
theorem pd2 : parseMethodDescriptor "(Lcom/example/xidr/xidr/xml/tree/TreeBuilder$Parts;)V" = some ⟨[(.object "com/example/xidr/xidr/xml/tree/TreeBuilder$Parts")], none⟩ := by decide +kernel
theorem pd3 : parseMethodDescriptor "([IIII)I" = some ⟨[(.array .int), .int, .int, .int], some .int⟩ := by decide +kernel
theorem pd4 : parseMethodDescriptor "(I)I" = some ⟨[.int], some .int⟩ := by decide +kernel
theorem ef_rm0 (m : MethodId) (xa : Int32) (xb : Int32) : entryFrame m #[(.int xa), (.int xb)] maxLocals = mkF m 0 #[.val (.int xa), .val (.int xb), .unset, .unset, .unset, .unset, .unset] [] := by first | (simp [entryFrame, mkF, argsToLocals, Value.category, maxLocals]; done) | rfl
def Q_rm0 (Z : State) (xa : Int32) (xb : Int32) (wl : Addr) (h0 : Heap) (n0 : Nat) (v : Option Value) (h : Heap) (L : List Loc) : Prop := v = some (.int (1 : Int32)) ∧ Fr n0 L
set_option maxRecDepth 65536 in
set_option maxHeartbeats 40000000 in
theorem rm0 (l : Launch) (Z : State) (a0 : Array Value) (hw : ∀ d ∈ tables_1, d.before a0 Z = true) (ws : List Jvm.Cond) (xa : Int32) (xb : Int32) (wl : Addr) (h0 : Heap) (n0 : Nat) (Z0 : n0 ≤ h0.size) (SD : Sta Z h0 "java/util/ArrayList" "DEFAULTCAPACITY_EMPTY_ELEMENTDATA" "[Ljava/lang/Object;" (.ref wl)) :
    MetFree l x (head1 (Jvm.Cond.code x code maxLocals ret :: ws) room_1) (fun a U => a = #[(.int xa), (.int xb)] ∧ Z.Warmed39 U.vm ∧ U.heap = h0) (fun _ _ _ _ _ => True) (fun _ U o U' => ∃ v L, o = .returned v ∧ Q_rm0 Z xa xb wl h0 n0 v U'.heap L ∧ FrameEnd U o U' L room_1.cells room_1.slots) := by
  refine MetFree.of_bodySF (plainFor_of_name pn5) hisR ?_
  intro p e s m args below meth c s₁ Bd hml0 hP hK
  obtain ⟨rfl, hZ, hh⟩ := hP
  have hx := Bd.exec
  have hby := Bd.bytes
  have hml : c.maxLocals = 7 := hml0
  have hown : s.vm.findClass "com/example/xidr/xidr/xml/tree/TreePreviousSiblingPinLaw" = some m.cls := findClass_of_methodNamed Bd.named
  have hnm := (name_of_methodNamed Bd.named Bd.method).1
  have X0 : Stand p l e room_1 s m #[(.int xa), (.int xb)] below meth c s₁ [] 0 0 := Stand.of_body Bd
  have e0 : s₁.heap = h0 := by rw [← hh, Bd.state]; rfl
  have N0 := Fr.nil n0
  have pre0 : ∀ t, Steps p.tables e below (s₁.setTop (mkF m 0 #[.val (.int xa), .val (.int xb), .unset, .unset, .unset, .unset, .unset] [])) t → Steps p.tables e below (s₁.setTop (entryFrame m #[(.int xa), (.int xb)] maxLocals)) t := fun t k => castTop (ef_rm0 m xa xb) k
  have pre1 : ∀ t, Steps p.tables e below (s₁.setTop (mkF m 2 #[.val (.int xa), .val (.int xb), .unset, .unset, .unset, .unset, .unset] [(.int (7 : Int32))])) t → Steps p.tables e below (s₁.setTop (entryFrame m #[(.int xa), (.int xb)] maxLocals)) t := by
    intro t k
    refine pre0 t ?_
    refine XS.bipush X0.here hx rfl (hb hby at_0) ?_
    show Steps p.tables e below (s₁.setTop (mkF m 2 #[.val (.int xa), .val (.int xb), .unset, .unset, .unset, .unset, .unset] [(.int (7 : Int32))])) _
    exact k
  obtain ⟨T2, h2, k2, X2, e2, E2, A2, st2⟩ := newP X0 hx hZ (hw _ (List.mem_of_getElem? (i := 0) rfl)) e0 (g := (mkF m 2 #[.val (.int xa), .val (.int xb), .unset, .unset, .unset, .unset, .unset] [(.int (7 : Int32))])) rfl (hb hby at_2) rfl (by decide) (cap := 7) (by decide) (by decide) (by decide) (by decide)
  obtain ⟨b2, g2⟩ : ∃ z, z = h0.size := ⟨_, rfl⟩
  rw [← g2] at A2 st2
  have g_b2 : n0 ≤ b2 := Nat.le_trans Z0 (Nat.le_of_eq g2.symm)
  have sz_b2 : h0.size ≤ b2 := Nat.le_trans (Keep.refl h0 ([] : List Addr)).1 (Nat.le_of_eq g2.symm)
  have K2 : Keep h0 h2 ([] : List Addr) := (Keep.refl h0 ([] : List Addr)).ext E2
  have z2 : n0 ≤ h2.size := Nat.le_trans Z0 K2.1
  have V_b2 : Arv Z h2 b2 k2 .int (7 : Int32) [(.int (0 : Int32)), (.int (0 : Int32)), (.int (0 : Int32)), (.int (0 : Int32)), (.int (0 : Int32)), (.int (0 : Int32)), (.int (0 : Int32))] (.int (0 : Int32)) := (Arv.new A2 (by decide)).pad (pad_rep [] (.int (0 : Int32)) 7)
  have X2 : Stand p l e _ s m _ below meth c T2 _ 1 7 := X2
  have pre3 : ∀ t, Steps p.tables e below (T2.setTop (mkF m 4 #[.val (.int xa), .val (.int xb), .unset, .unset, .unset, .unset, .unset] [(.ref b2)])) t → Steps p.tables e below (s₁.setTop (entryFrame m #[(.int xa), (.int xb)] maxLocals)) t := fun t k => pre1 t (st2 t k)
  have pre4 : ∀ t, Steps p.tables e below (T2.setTop (mkF m 8 #[.val (.int xa), .val (.int xb), .val (.ref b2), .unset, .unset, .unset, .unset] [(.int (-1 : Int32)), (.int (0 : Int32)), (.ref b2)])) t → Steps p.tables e below (s₁.setTop (entryFrame m #[(.int xa), (.int xb)] maxLocals)) t := by
    intro t k
    refine pre3 t ?_
    refine XS.astoreN X2.here hx rfl (hb hby at_4) rfl rfl (l' := #[.val (.int xa), .val (.int xb), .val (.ref b2), .unset, .unset, .unset, .unset]) rfl ?_
    show Steps p.tables e below (T2.setTop (mkF m 5 #[.val (.int xa), .val (.int xb), .val (.ref b2), .unset, .unset, .unset, .unset] [])) _
    refine XS.aloadN X2.here hx rfl (hb hby at_5) rfl rfl ?_
    show Steps p.tables e below (T2.setTop (mkF m 6 #[.val (.int xa), .val (.int xb), .val (.ref b2), .unset, .unset, .unset, .unset] [(.ref b2)])) _
    refine XS.iconst X2.here hx rfl (hb hby at_6) ?_
    show Steps p.tables e below (T2.setTop (mkF m 7 #[.val (.int xa), .val (.int xb), .val (.ref b2), .unset, .unset, .unset, .unset] [(.int (0 : Int32)), (.ref b2)])) _
    refine XS.iconst X2.here hx rfl (hb hby at_7) ?_
    show Steps p.tables e below (T2.setTop (mkF m 8 #[.val (.int xa), .val (.int xb), .val (.ref b2), .unset, .unset, .unset, .unset] [(.int (-1 : Int32)), (.int (0 : Int32)), (.ref b2)])) _
    exact k
  obtain ⟨c5, a5, q5, s5, m5, i5, u5⟩ := id V_b2
  obtain ⟨T6, h6, X6, e6, W6, st6⟩ := stI X2 hx hZ e2 a5 (j := (0 : Int32)) (inb_of s5 ⟨by decide, by decide⟩) (g := (mkF m 8 #[.val (.int xa), .val (.int xb), .val (.ref b2), .unset, .unset, .unset, .unset] [(.int (-1 : Int32)), (.int (0 : Int32)), (.ref b2)])) rfl rfl (hb hby at_8)
  have K6 : Keep h0 h6 ([] : List Addr) := K2.wr W6 (Or.inr sz_b2)
  have z6 : n0 ≤ h6.size := Nat.le_trans Z0 K6.1
  have N6 := Fr.snoc X6 N0 g_b2
  have V6 : Arv Z h6 b2 k2 .int (7 : Int32) [(.int (-1 : Int32)), (.int (0 : Int32)), (.int (0 : Int32)), (.int (0 : Int32)), (.int (0 : Int32)), (.int (0 : Int32)), (.int (0 : Int32))] (.int (0 : Int32)) := Arv.set a5 q5 s5 m5 i5 u5 rfl W6 0 rfl (Nat.le_of_ble_eq_true rfl)
  have pre7 : ∀ t, Steps p.tables e below (T6.setTop (mkF m 9 #[.val (.int xa), .val (.int xb), .val (.ref b2), .unset, .unset, .unset, .unset] [])) t → Steps p.tables e below (s₁.setTop (entryFrame m #[(.int xa), (.int xb)] maxLocals)) t := fun t k => pre4 t (st6 t k)
  have pre8 : ∀ t, Steps p.tables e below (T6.setTop (mkF m 12 #[.val (.int xa), .val (.int xb), .val (.ref b2), .unset, .unset, .unset, .unset] [(.int (0 : Int32)), (.int (1 : Int32)), (.ref b2)])) t → Steps p.tables e below (s₁.setTop (entryFrame m #[(.int xa), (.int xb)] maxLocals)) t := by
    intro t k
    refine pre7 t ?_
    refine XS.aloadN X6.here hx rfl (hb hby at_9) rfl rfl ?_
    show Steps p.tables e below (T6.setTop (mkF m 10 #[.val (.int xa), .val (.int xb), .val (.ref b2), .unset, .unset, .unset, .unset] [(.ref b2)])) _
    refine XS.iconst X6.here hx rfl (hb hby at_10) ?_
    show Steps p.tables e below (T6.setTop (mkF m 11 #[.val (.int xa), .val (.int xb), .val (.ref b2), .unset, .unset, .unset, .unset] [(.int (1 : Int32)), (.ref b2)])) _
    refine XS.iconst X6.here hx rfl (hb hby at_11) ?_
    show Steps p.tables e below (T6.setTop (mkF m 12 #[.val (.int xa), .val (.int xb), .val (.ref b2), .unset, .unset, .unset, .unset] [(.int (0 : Int32)), (.int (1 : Int32)), (.ref b2)])) _
    exact k
  obtain ⟨c9, a9, q9, s9, m9, i9, u9⟩ := id V6
  obtain ⟨T10, h10, X10, e10, W10, st10⟩ := stI X6 hx hZ e6 a9 (j := (1 : Int32)) (inb_of s9 ⟨by decide, by decide⟩) (g := (mkF m 12 #[.val (.int xa), .val (.int xb), .val (.ref b2), .unset, .unset, .unset, .unset] [(.int (0 : Int32)), (.int (1 : Int32)), (.ref b2)])) rfl rfl (hb hby at_12)
  have K10 : Keep h0 h10 ([] : List Addr) := K6.wr W10 (Or.inr sz_b2)
  have z10 : n0 ≤ h10.size := Nat.le_trans Z0 K10.1
  have N10 := Fr.snoc X10 N6 g_b2
  have V10 : Arv Z h10 b2 k2 .int (7 : Int32) [(.int (-1 : Int32)), (.int (0 : Int32)), (.int (0 : Int32)), (.int (0 : Int32)), (.int (0 : Int32)), (.int (0 : Int32)), (.int (0 : Int32))] (.int (0 : Int32)) := Arv.set a9 q9 s9 m9 i9 u9 rfl W10 1 rfl (Nat.le_of_ble_eq_true rfl)
  have pre11 : ∀ t, Steps p.tables e below (T10.setTop (mkF m 13 #[.val (.int xa), .val (.int xb), .val (.ref b2), .unset, .unset, .unset, .unset] [])) t → Steps p.tables e below (s₁.setTop (entryFrame m #[(.int xa), (.int xb)] maxLocals)) t := fun t k => pre8 t (st10 t k)
  have pre12 : ∀ t, Steps p.tables e below (T10.setTop (mkF m 21 #[.val (.int xa), .val (.int xb), .val (.ref b2), .unset, .unset, .unset, .unset] [(.int (xa &&& (7 : Int32))), (.int (1 : Int32)), (.ref b2), (.int (2 : Int32)), (.ref b2)])) t → Steps p.tables e below (s₁.setTop (entryFrame m #[(.int xa), (.int xb)] maxLocals)) t := by
    intro t k
    refine pre11 t ?_
    refine XS.aloadN X10.here hx rfl (hb hby at_13) rfl rfl ?_
    show Steps p.tables e below (T10.setTop (mkF m 14 #[.val (.int xa), .val (.int xb), .val (.ref b2), .unset, .unset, .unset, .unset] [(.ref b2)])) _
    refine XS.iconst X10.here hx rfl (hb hby at_14) ?_
    show Steps p.tables e below (T10.setTop (mkF m 15 #[.val (.int xa), .val (.int xb), .val (.ref b2), .unset, .unset, .unset, .unset] [(.int (2 : Int32)), (.ref b2)])) _
    refine XS.aloadN X10.here hx rfl (hb hby at_15) rfl rfl ?_
    show Steps p.tables e below (T10.setTop (mkF m 16 #[.val (.int xa), .val (.int xb), .val (.ref b2), .unset, .unset, .unset, .unset] [(.ref b2), (.int (2 : Int32)), (.ref b2)])) _
    refine XS.iconst X10.here hx rfl (hb hby at_16) ?_
    show Steps p.tables e below (T10.setTop (mkF m 17 #[.val (.int xa), .val (.int xb), .val (.ref b2), .unset, .unset, .unset, .unset] [(.int (1 : Int32)), (.ref b2), (.int (2 : Int32)), (.ref b2)])) _
    refine XS.iloadN X10.here hx rfl (hb hby at_17) rfl ?_
    show Steps p.tables e below (T10.setTop (mkF m 18 #[.val (.int xa), .val (.int xb), .val (.ref b2), .unset, .unset, .unset, .unset] [(.int xa), (.int (1 : Int32)), (.ref b2), (.int (2 : Int32)), (.ref b2)])) _
    refine XS.bipush X10.here hx rfl (hb hby at_18) ?_
    show Steps p.tables e below (T10.setTop (mkF m 20 #[.val (.int xa), .val (.int xb), .val (.ref b2), .unset, .unset, .unset, .unset] [(.int (7 : Int32)), (.int xa), (.int (1 : Int32)), (.ref b2), (.int (2 : Int32)), (.ref b2)])) _
    refine XS.iand X10.here hx rfl (hb hby at_20) rfl ?_
    show Steps p.tables e below (T10.setTop (mkF m 21 #[.val (.int xa), .val (.int xb), .val (.ref b2), .unset, .unset, .unset, .unset] [(.int (xa &&& (7 : Int32))), (.int (1 : Int32)), (.ref b2), (.int (2 : Int32)), (.ref b2)])) _
    exact k
  obtain ⟨_, _, ⟨T13, L13, k13, n13⟩, -, X13, ⟨Lc13, hQ13, l13, y13, z13⟩, st13⟩ := Jvm.LawKit.callS X10 hx (y := (⟨"com/example/xidr/xidr/xml/tree/TreePreviousSiblingPinLaw", "up", "([III)I"⟩ : MethodName)) hown (mvT hZ (hw _ (List.mem_of_getElem? (i := 1) rfl))) (mvT hZ (hw _ (List.mem_of_getElem? (i := 2) rfl))) (mvT hZ (hw _ (List.mem_of_getElem? (i := 3) rfl))) (mvT hZ (hw _ (List.mem_of_getElem? (i := 4) rfl))) (by decide) (backOf (W := 2) (rm_up l Z a0 hw [] b2 (1 : Int32) (xa &&& (7 : Int32)) k2 ([(-1 : Int32), (0 : Int32), (0 : Int32), (0 : Int32), (0 : Int32), (0 : Int32), (0 : Int32)] : List Int32) h10 n0 z10 V10 (by decide) (own_cl2 )) hZ (hw _ (List.mem_of_getElem? (i := 4) rfl)) (hw _ (List.mem_of_getElem? (i := 3) rfl)) (by decide) (by decide)) (g := (mkF m 21 #[.val (.int xa), .val (.int xb), .val (.ref b2), .unset, .unset, .unset, .unset] [(.int (xa &&& (7 : Int32))), (.int (1 : Int32)), (.ref b2), (.int (2 : Int32)), (.ref b2)])) rfl (by rw [hml]; rfl) (argsL := [(.ref b2), (.int (1 : Int32)), (.int (xa &&& (7 : Int32)))]) (rest := [(.int (2 : Int32)), (.ref b2)]) (lenOf pd1 rfl) rfl (by show 2 * 0 + _ ≤ _; exact Nat.le_of_eq rfl) (hb hby at_21) (fun _ _ => ⟨rfl, e10, (by decide : 1 + 0 ≤ _), (by decide : 7 + 0 ≤ _)⟩)
  dsimp only [Pt.U, Pt.locs, Pt.cells, Pt.slots] at X13 l13 y13 z13 st13 hQ13
  subst y13 z13
  obtain ⟨rfl, M13, e13⟩ := hQ13
  have N13 : Fr n0 L13 := by rw [l13]; exact Fr.app N10 M13
  clear l13
  have X13 : Stand p l e _ s m _ below meth c T13 _ 1 7 := X13
  have pre14 : ∀ t, Steps p.tables e below (T13.setTop (mkF m 24 #[.val (.int xa), .val (.int xb), .val (.ref b2), .unset, .unset, .unset, .unset] [(.int (own_up ([(-1 : Int32), (0 : Int32), (0 : Int32), (0 : Int32), (0 : Int32), (0 : Int32), (0 : Int32)] : List Int32) (1 : Int32) (xa &&& (7 : Int32)))), (.int (2 : Int32)), (.ref b2)])) t → Steps p.tables e below (s₁.setTop (entryFrame m #[(.int xa), (.int xb)] maxLocals)) t := fun t k => pre12 t (st13 t k)
  obtain ⟨p2, hp2⟩ : ∃ z : Int32, z = (own_up ([(-1 : Int32), (0 : Int32), (0 : Int32), (0 : Int32), (0 : Int32), (0 : Int32), (0 : Int32)] : List Int32) (1 : Int32) (xa &&& (7 : Int32))) := ⟨_, rfl⟩
  rw [← hp2] at pre14
  have G2 := own_g2 _ _ hp2
  obtain ⟨c15, a15, q15, s15, m15, i15, u15⟩ := id V10
  obtain ⟨T16, h16, X16, e16, W16, st16⟩ := stI X13 hx hZ e13 a15 (j := (2 : Int32)) (inb_of s15 ⟨by decide, by decide⟩) (g := (mkF m 24 #[.val (.int xa), .val (.int xb), .val (.ref b2), .unset, .unset, .unset, .unset] [(.int p2), (.int (2 : Int32)), (.ref b2)])) rfl rfl (hb hby at_24)
  have K16 : Keep h0 h16 ([] : List Addr) := K10.wr W16 (Or.inr sz_b2)
  have z16 : n0 ≤ h16.size := Nat.le_trans Z0 K16.1
  have N16 := Fr.snoc X16 N13 g_b2
  have V16 : Arv Z h16 b2 k2 .int (7 : Int32) [(.int (-1 : Int32)), (.int (0 : Int32)), (.int p2), (.int (0 : Int32)), (.int (0 : Int32)), (.int (0 : Int32)), (.int (0 : Int32))] (.int (0 : Int32)) := Arv.set a15 q15 s15 m15 i15 u15 rfl W16 2 rfl (Nat.le_of_ble_eq_true rfl)
  have pre17 : ∀ t, Steps p.tables e below (T16.setTop (mkF m 25 #[.val (.int xa), .val (.int xb), .val (.ref b2), .unset, .unset, .unset, .unset] [])) t → Steps p.tables e below (s₁.setTop (entryFrame m #[(.int xa), (.int xb)] maxLocals)) t := fun t k => pre14 t (st16 t k)
  have pre18 : ∀ t, Steps p.tables e below (T16.setTop (mkF m 35 #[.val (.int xa), .val (.int xb), .val (.ref b2), .unset, .unset, .unset, .unset] [(.int (((xa.toUInt32 >>> ((3 : Int32) &&& 31).toUInt32).toInt32) &&& (7 : Int32))), (.int (2 : Int32)), (.ref b2), (.int (3 : Int32)), (.ref b2)])) t → Steps p.tables e below (s₁.setTop (entryFrame m #[(.int xa), (.int xb)] maxLocals)) t := by
    intro t k
    refine pre17 t ?_
    refine XS.aloadN X16.here hx rfl (hb hby at_25) rfl rfl ?_
    show Steps p.tables e below (T16.setTop (mkF m 26 #[.val (.int xa), .val (.int xb), .val (.ref b2), .unset, .unset, .unset, .unset] [(.ref b2)])) _
    refine XS.iconst X16.here hx rfl (hb hby at_26) ?_
    show Steps p.tables e below (T16.setTop (mkF m 27 #[.val (.int xa), .val (.int xb), .val (.ref b2), .unset, .unset, .unset, .unset] [(.int (3 : Int32)), (.ref b2)])) _
    refine XS.aloadN X16.here hx rfl (hb hby at_27) rfl rfl ?_
    show Steps p.tables e below (T16.setTop (mkF m 28 #[.val (.int xa), .val (.int xb), .val (.ref b2), .unset, .unset, .unset, .unset] [(.ref b2), (.int (3 : Int32)), (.ref b2)])) _
    refine XS.iconst X16.here hx rfl (hb hby at_28) ?_
    show Steps p.tables e below (T16.setTop (mkF m 29 #[.val (.int xa), .val (.int xb), .val (.ref b2), .unset, .unset, .unset, .unset] [(.int (2 : Int32)), (.ref b2), (.int (3 : Int32)), (.ref b2)])) _
    refine XS.iloadN X16.here hx rfl (hb hby at_29) rfl ?_
    show Steps p.tables e below (T16.setTop (mkF m 30 #[.val (.int xa), .val (.int xb), .val (.ref b2), .unset, .unset, .unset, .unset] [(.int xa), (.int (2 : Int32)), (.ref b2), (.int (3 : Int32)), (.ref b2)])) _
    refine XS.iconst X16.here hx rfl (hb hby at_30) ?_
    show Steps p.tables e below (T16.setTop (mkF m 31 #[.val (.int xa), .val (.int xb), .val (.ref b2), .unset, .unset, .unset, .unset] [(.int (3 : Int32)), (.int xa), (.int (2 : Int32)), (.ref b2), (.int (3 : Int32)), (.ref b2)])) _
    refine XS.iushr X16.here hx rfl (hb hby at_31) rfl ?_
    show Steps p.tables e below (T16.setTop (mkF m 32 #[.val (.int xa), .val (.int xb), .val (.ref b2), .unset, .unset, .unset, .unset] [(.int ((xa.toUInt32 >>> ((3 : Int32) &&& 31).toUInt32).toInt32)), (.int (2 : Int32)), (.ref b2), (.int (3 : Int32)), (.ref b2)])) _
    refine XS.bipush X16.here hx rfl (hb hby at_32) ?_
    show Steps p.tables e below (T16.setTop (mkF m 34 #[.val (.int xa), .val (.int xb), .val (.ref b2), .unset, .unset, .unset, .unset] [(.int (7 : Int32)), (.int ((xa.toUInt32 >>> ((3 : Int32) &&& 31).toUInt32).toInt32)), (.int (2 : Int32)), (.ref b2), (.int (3 : Int32)), (.ref b2)])) _
    refine XS.iand X16.here hx rfl (hb hby at_34) rfl ?_
    show Steps p.tables e below (T16.setTop (mkF m 35 #[.val (.int xa), .val (.int xb), .val (.ref b2), .unset, .unset, .unset, .unset] [(.int (((xa.toUInt32 >>> ((3 : Int32) &&& 31).toUInt32).toInt32) &&& (7 : Int32))), (.int (2 : Int32)), (.ref b2), (.int (3 : Int32)), (.ref b2)])) _
    exact k
  obtain ⟨_, _, ⟨T19, L19, k19, n19⟩, -, X19, ⟨Lc19, hQ19, l19, y19, z19⟩, st19⟩ := Jvm.LawKit.callS X16 hx (y := (⟨"com/example/xidr/xidr/xml/tree/TreePreviousSiblingPinLaw", "up", "([III)I"⟩ : MethodName)) hown (mvT hZ (hw _ (List.mem_of_getElem? (i := 1) rfl))) (mvT hZ (hw _ (List.mem_of_getElem? (i := 2) rfl))) (mvT hZ (hw _ (List.mem_of_getElem? (i := 3) rfl))) (mvT hZ (hw _ (List.mem_of_getElem? (i := 4) rfl))) (by decide) (backOf (W := 2) (rm_up l Z a0 hw [] b2 (2 : Int32) (((xa.toUInt32 >>> ((3 : Int32) &&& 31).toUInt32).toInt32) &&& (7 : Int32)) k2 ([(-1 : Int32), (0 : Int32), p2, (0 : Int32), (0 : Int32), (0 : Int32), (0 : Int32)] : List Int32) h16 n0 z16 V16 (by decide) (own_cl3 _ G2)) hZ (hw _ (List.mem_of_getElem? (i := 4) rfl)) (hw _ (List.mem_of_getElem? (i := 3) rfl)) (by decide) (by decide)) (g := (mkF m 35 #[.val (.int xa), .val (.int xb), .val (.ref b2), .unset, .unset, .unset, .unset] [(.int (((xa.toUInt32 >>> ((3 : Int32) &&& 31).toUInt32).toInt32) &&& (7 : Int32))), (.int (2 : Int32)), (.ref b2), (.int (3 : Int32)), (.ref b2)])) rfl (by rw [hml]; rfl) (argsL := [(.ref b2), (.int (2 : Int32)), (.int (((xa.toUInt32 >>> ((3 : Int32) &&& 31).toUInt32).toInt32) &&& (7 : Int32)))]) (rest := [(.int (3 : Int32)), (.ref b2)]) (lenOf pd1 rfl) rfl (by show 2 * 0 + _ ≤ _; exact Nat.le_of_eq rfl) (hb hby at_35) (fun _ _ => ⟨rfl, e16, (by decide : 1 + 0 ≤ _), (by decide : 7 + 0 ≤ _)⟩)
  dsimp only [Pt.U, Pt.locs, Pt.cells, Pt.slots] at X19 l19 y19 z19 st19 hQ19
  subst y19 z19
  obtain ⟨rfl, M19, e19⟩ := hQ19
  have N19 : Fr n0 L19 := by rw [l19]; exact Fr.app N16 M19
  clear l19
  have X19 : Stand p l e _ s m _ below meth c T19 _ 1 7 := X19
  have pre20 : ∀ t, Steps p.tables e below (T19.setTop (mkF m 38 #[.val (.int xa), .val (.int xb), .val (.ref b2), .unset, .unset, .unset, .unset] [(.int (own_up ([(-1 : Int32), (0 : Int32), p2, (0 : Int32), (0 : Int32), (0 : Int32), (0 : Int32)] : List Int32) (2 : Int32) (((xa.toUInt32 >>> ((3 : Int32) &&& 31).toUInt32).toInt32) &&& (7 : Int32)))), (.int (3 : Int32)), (.ref b2)])) t → Steps p.tables e below (s₁.setTop (entryFrame m #[(.int xa), (.int xb)] maxLocals)) t := fun t k => pre18 t (st19 t k)
  obtain ⟨p3, hp3⟩ : ∃ z : Int32, z = (own_up ([(-1 : Int32), (0 : Int32), p2, (0 : Int32), (0 : Int32), (0 : Int32), (0 : Int32)] : List Int32) (2 : Int32) (((xa.toUInt32 >>> ((3 : Int32) &&& 31).toUInt32).toInt32) &&& (7 : Int32))) := ⟨_, rfl⟩
  rw [← hp3] at pre20
  have G3 := own_g3 _ _ _ G2 hp3
  obtain ⟨c21, a21, q21, s21, m21, i21, u21⟩ := id V16
  obtain ⟨T22, h22, X22, e22, W22, st22⟩ := stI X19 hx hZ e19 a21 (j := (3 : Int32)) (inb_of s21 ⟨by decide, by decide⟩) (g := (mkF m 38 #[.val (.int xa), .val (.int xb), .val (.ref b2), .unset, .unset, .unset, .unset] [(.int p3), (.int (3 : Int32)), (.ref b2)])) rfl rfl (hb hby at_38)
  have K22 : Keep h0 h22 ([] : List Addr) := K16.wr W22 (Or.inr sz_b2)
  have z22 : n0 ≤ h22.size := Nat.le_trans Z0 K22.1
  have N22 := Fr.snoc X22 N19 g_b2
  have V22 : Arv Z h22 b2 k2 .int (7 : Int32) [(.int (-1 : Int32)), (.int (0 : Int32)), (.int p2), (.int p3), (.int (0 : Int32)), (.int (0 : Int32)), (.int (0 : Int32))] (.int (0 : Int32)) := Arv.set a21 q21 s21 m21 i21 u21 rfl W22 3 rfl (Nat.le_of_ble_eq_true rfl)
  have pre23 : ∀ t, Steps p.tables e below (T22.setTop (mkF m 39 #[.val (.int xa), .val (.int xb), .val (.ref b2), .unset, .unset, .unset, .unset] [])) t → Steps p.tables e below (s₁.setTop (entryFrame m #[(.int xa), (.int xb)] maxLocals)) t := fun t k => pre20 t (st22 t k)
  have pre24 : ∀ t, Steps p.tables e below (T22.setTop (mkF m 50 #[.val (.int xa), .val (.int xb), .val (.ref b2), .unset, .unset, .unset, .unset] [(.int (((xa.toUInt32 >>> ((6 : Int32) &&& 31).toUInt32).toInt32) &&& (7 : Int32))), (.int (3 : Int32)), (.ref b2), (.int (4 : Int32)), (.ref b2)])) t → Steps p.tables e below (s₁.setTop (entryFrame m #[(.int xa), (.int xb)] maxLocals)) t := by
    intro t k
    refine pre23 t ?_
    refine XS.aloadN X22.here hx rfl (hb hby at_39) rfl rfl ?_
    show Steps p.tables e below (T22.setTop (mkF m 40 #[.val (.int xa), .val (.int xb), .val (.ref b2), .unset, .unset, .unset, .unset] [(.ref b2)])) _
    refine XS.iconst X22.here hx rfl (hb hby at_40) ?_
    show Steps p.tables e below (T22.setTop (mkF m 41 #[.val (.int xa), .val (.int xb), .val (.ref b2), .unset, .unset, .unset, .unset] [(.int (4 : Int32)), (.ref b2)])) _
    refine XS.aloadN X22.here hx rfl (hb hby at_41) rfl rfl ?_
    show Steps p.tables e below (T22.setTop (mkF m 42 #[.val (.int xa), .val (.int xb), .val (.ref b2), .unset, .unset, .unset, .unset] [(.ref b2), (.int (4 : Int32)), (.ref b2)])) _
    refine XS.iconst X22.here hx rfl (hb hby at_42) ?_
    show Steps p.tables e below (T22.setTop (mkF m 43 #[.val (.int xa), .val (.int xb), .val (.ref b2), .unset, .unset, .unset, .unset] [(.int (3 : Int32)), (.ref b2), (.int (4 : Int32)), (.ref b2)])) _
    refine XS.iloadN X22.here hx rfl (hb hby at_43) rfl ?_
    show Steps p.tables e below (T22.setTop (mkF m 44 #[.val (.int xa), .val (.int xb), .val (.ref b2), .unset, .unset, .unset, .unset] [(.int xa), (.int (3 : Int32)), (.ref b2), (.int (4 : Int32)), (.ref b2)])) _
    refine XS.bipush X22.here hx rfl (hb hby at_44) ?_
    show Steps p.tables e below (T22.setTop (mkF m 46 #[.val (.int xa), .val (.int xb), .val (.ref b2), .unset, .unset, .unset, .unset] [(.int (6 : Int32)), (.int xa), (.int (3 : Int32)), (.ref b2), (.int (4 : Int32)), (.ref b2)])) _
    refine XS.iushr X22.here hx rfl (hb hby at_46) rfl ?_
    show Steps p.tables e below (T22.setTop (mkF m 47 #[.val (.int xa), .val (.int xb), .val (.ref b2), .unset, .unset, .unset, .unset] [(.int ((xa.toUInt32 >>> ((6 : Int32) &&& 31).toUInt32).toInt32)), (.int (3 : Int32)), (.ref b2), (.int (4 : Int32)), (.ref b2)])) _
    refine XS.bipush X22.here hx rfl (hb hby at_47) ?_
    show Steps p.tables e below (T22.setTop (mkF m 49 #[.val (.int xa), .val (.int xb), .val (.ref b2), .unset, .unset, .unset, .unset] [(.int (7 : Int32)), (.int ((xa.toUInt32 >>> ((6 : Int32) &&& 31).toUInt32).toInt32)), (.int (3 : Int32)), (.ref b2), (.int (4 : Int32)), (.ref b2)])) _
    refine XS.iand X22.here hx rfl (hb hby at_49) rfl ?_
    show Steps p.tables e below (T22.setTop (mkF m 50 #[.val (.int xa), .val (.int xb), .val (.ref b2), .unset, .unset, .unset, .unset] [(.int (((xa.toUInt32 >>> ((6 : Int32) &&& 31).toUInt32).toInt32) &&& (7 : Int32))), (.int (3 : Int32)), (.ref b2), (.int (4 : Int32)), (.ref b2)])) _
    exact k
  obtain ⟨_, _, ⟨T25, L25, k25, n25⟩, -, X25, ⟨Lc25, hQ25, l25, y25, z25⟩, st25⟩ := Jvm.LawKit.callS X22 hx (y := (⟨"com/example/xidr/xidr/xml/tree/TreePreviousSiblingPinLaw", "up", "([III)I"⟩ : MethodName)) hown (mvT hZ (hw _ (List.mem_of_getElem? (i := 1) rfl))) (mvT hZ (hw _ (List.mem_of_getElem? (i := 2) rfl))) (mvT hZ (hw _ (List.mem_of_getElem? (i := 3) rfl))) (mvT hZ (hw _ (List.mem_of_getElem? (i := 4) rfl))) (by decide) (backOf (W := 2) (rm_up l Z a0 hw [] b2 (3 : Int32) (((xa.toUInt32 >>> ((6 : Int32) &&& 31).toUInt32).toInt32) &&& (7 : Int32)) k2 ([(-1 : Int32), (0 : Int32), p2, p3, (0 : Int32), (0 : Int32), (0 : Int32)] : List Int32) h22 n0 z22 V22 (by decide) (own_cl4 _ _ G3)) hZ (hw _ (List.mem_of_getElem? (i := 4) rfl)) (hw _ (List.mem_of_getElem? (i := 3) rfl)) (by decide) (by decide)) (g := (mkF m 50 #[.val (.int xa), .val (.int xb), .val (.ref b2), .unset, .unset, .unset, .unset] [(.int (((xa.toUInt32 >>> ((6 : Int32) &&& 31).toUInt32).toInt32) &&& (7 : Int32))), (.int (3 : Int32)), (.ref b2), (.int (4 : Int32)), (.ref b2)])) rfl (by rw [hml]; rfl) (argsL := [(.ref b2), (.int (3 : Int32)), (.int (((xa.toUInt32 >>> ((6 : Int32) &&& 31).toUInt32).toInt32) &&& (7 : Int32)))]) (rest := [(.int (4 : Int32)), (.ref b2)]) (lenOf pd1 rfl) rfl (by show 2 * 0 + _ ≤ _; exact Nat.le_of_eq rfl) (hb hby at_50) (fun _ _ => ⟨rfl, e22, (by decide : 1 + 0 ≤ _), (by decide : 7 + 0 ≤ _)⟩)
  dsimp only [Pt.U, Pt.locs, Pt.cells, Pt.slots] at X25 l25 y25 z25 st25 hQ25
  subst y25 z25
  obtain ⟨rfl, M25, e25⟩ := hQ25
  have N25 : Fr n0 L25 := by rw [l25]; exact Fr.app N22 M25
  clear l25
  have X25 : Stand p l e _ s m _ below meth c T25 _ 1 7 := X25
  have pre26 : ∀ t, Steps p.tables e below (T25.setTop (mkF m 53 #[.val (.int xa), .val (.int xb), .val (.ref b2), .unset, .unset, .unset, .unset] [(.int (own_up ([(-1 : Int32), (0 : Int32), p2, p3, (0 : Int32), (0 : Int32), (0 : Int32)] : List Int32) (3 : Int32) (((xa.toUInt32 >>> ((6 : Int32) &&& 31).toUInt32).toInt32) &&& (7 : Int32)))), (.int (4 : Int32)), (.ref b2)])) t → Steps p.tables e below (s₁.setTop (entryFrame m #[(.int xa), (.int xb)] maxLocals)) t := fun t k => pre24 t (st25 t k)
  obtain ⟨p4, hp4⟩ : ∃ z : Int32, z = (own_up ([(-1 : Int32), (0 : Int32), p2, p3, (0 : Int32), (0 : Int32), (0 : Int32)] : List Int32) (3 : Int32) (((xa.toUInt32 >>> ((6 : Int32) &&& 31).toUInt32).toInt32) &&& (7 : Int32))) := ⟨_, rfl⟩
  rw [← hp4] at pre26
  have G4 := own_g4 _ _ _ _ G3 hp4
  obtain ⟨c27, a27, q27, s27, m27, i27, u27⟩ := id V22
  obtain ⟨T28, h28, X28, e28, W28, st28⟩ := stI X25 hx hZ e25 a27 (j := (4 : Int32)) (inb_of s27 ⟨by decide, by decide⟩) (g := (mkF m 53 #[.val (.int xa), .val (.int xb), .val (.ref b2), .unset, .unset, .unset, .unset] [(.int p4), (.int (4 : Int32)), (.ref b2)])) rfl rfl (hb hby at_53)
  have K28 : Keep h0 h28 ([] : List Addr) := K22.wr W28 (Or.inr sz_b2)
  have z28 : n0 ≤ h28.size := Nat.le_trans Z0 K28.1
  have N28 := Fr.snoc X28 N25 g_b2
  have V28 : Arv Z h28 b2 k2 .int (7 : Int32) [(.int (-1 : Int32)), (.int (0 : Int32)), (.int p2), (.int p3), (.int p4), (.int (0 : Int32)), (.int (0 : Int32))] (.int (0 : Int32)) := Arv.set a27 q27 s27 m27 i27 u27 rfl W28 4 rfl (Nat.le_of_ble_eq_true rfl)
  have pre29 : ∀ t, Steps p.tables e below (T28.setTop (mkF m 54 #[.val (.int xa), .val (.int xb), .val (.ref b2), .unset, .unset, .unset, .unset] [])) t → Steps p.tables e below (s₁.setTop (entryFrame m #[(.int xa), (.int xb)] maxLocals)) t := fun t k => pre26 t (st28 t k)
  have pre30 : ∀ t, Steps p.tables e below (T28.setTop (mkF m 65 #[.val (.int xa), .val (.int xb), .val (.ref b2), .unset, .unset, .unset, .unset] [(.int (((xa.toUInt32 >>> ((9 : Int32) &&& 31).toUInt32).toInt32) &&& (7 : Int32))), (.int (4 : Int32)), (.ref b2), (.int (5 : Int32)), (.ref b2)])) t → Steps p.tables e below (s₁.setTop (entryFrame m #[(.int xa), (.int xb)] maxLocals)) t := by
    intro t k
    refine pre29 t ?_
    refine XS.aloadN X28.here hx rfl (hb hby at_54) rfl rfl ?_
    show Steps p.tables e below (T28.setTop (mkF m 55 #[.val (.int xa), .val (.int xb), .val (.ref b2), .unset, .unset, .unset, .unset] [(.ref b2)])) _
    refine XS.iconst X28.here hx rfl (hb hby at_55) ?_
    show Steps p.tables e below (T28.setTop (mkF m 56 #[.val (.int xa), .val (.int xb), .val (.ref b2), .unset, .unset, .unset, .unset] [(.int (5 : Int32)), (.ref b2)])) _
    refine XS.aloadN X28.here hx rfl (hb hby at_56) rfl rfl ?_
    show Steps p.tables e below (T28.setTop (mkF m 57 #[.val (.int xa), .val (.int xb), .val (.ref b2), .unset, .unset, .unset, .unset] [(.ref b2), (.int (5 : Int32)), (.ref b2)])) _
    refine XS.iconst X28.here hx rfl (hb hby at_57) ?_
    show Steps p.tables e below (T28.setTop (mkF m 58 #[.val (.int xa), .val (.int xb), .val (.ref b2), .unset, .unset, .unset, .unset] [(.int (4 : Int32)), (.ref b2), (.int (5 : Int32)), (.ref b2)])) _
    refine XS.iloadN X28.here hx rfl (hb hby at_58) rfl ?_
    show Steps p.tables e below (T28.setTop (mkF m 59 #[.val (.int xa), .val (.int xb), .val (.ref b2), .unset, .unset, .unset, .unset] [(.int xa), (.int (4 : Int32)), (.ref b2), (.int (5 : Int32)), (.ref b2)])) _
    refine XS.bipush X28.here hx rfl (hb hby at_59) ?_
    show Steps p.tables e below (T28.setTop (mkF m 61 #[.val (.int xa), .val (.int xb), .val (.ref b2), .unset, .unset, .unset, .unset] [(.int (9 : Int32)), (.int xa), (.int (4 : Int32)), (.ref b2), (.int (5 : Int32)), (.ref b2)])) _
    refine XS.iushr X28.here hx rfl (hb hby at_61) rfl ?_
    show Steps p.tables e below (T28.setTop (mkF m 62 #[.val (.int xa), .val (.int xb), .val (.ref b2), .unset, .unset, .unset, .unset] [(.int ((xa.toUInt32 >>> ((9 : Int32) &&& 31).toUInt32).toInt32)), (.int (4 : Int32)), (.ref b2), (.int (5 : Int32)), (.ref b2)])) _
    refine XS.bipush X28.here hx rfl (hb hby at_62) ?_
    show Steps p.tables e below (T28.setTop (mkF m 64 #[.val (.int xa), .val (.int xb), .val (.ref b2), .unset, .unset, .unset, .unset] [(.int (7 : Int32)), (.int ((xa.toUInt32 >>> ((9 : Int32) &&& 31).toUInt32).toInt32)), (.int (4 : Int32)), (.ref b2), (.int (5 : Int32)), (.ref b2)])) _
    refine XS.iand X28.here hx rfl (hb hby at_64) rfl ?_
    show Steps p.tables e below (T28.setTop (mkF m 65 #[.val (.int xa), .val (.int xb), .val (.ref b2), .unset, .unset, .unset, .unset] [(.int (((xa.toUInt32 >>> ((9 : Int32) &&& 31).toUInt32).toInt32) &&& (7 : Int32))), (.int (4 : Int32)), (.ref b2), (.int (5 : Int32)), (.ref b2)])) _
    exact k
  obtain ⟨_, _, ⟨T31, L31, k31, n31⟩, -, X31, ⟨Lc31, hQ31, l31, y31, z31⟩, st31⟩ := Jvm.LawKit.callS X28 hx (y := (⟨"com/example/xidr/xidr/xml/tree/TreePreviousSiblingPinLaw", "up", "([III)I"⟩ : MethodName)) hown (mvT hZ (hw _ (List.mem_of_getElem? (i := 1) rfl))) (mvT hZ (hw _ (List.mem_of_getElem? (i := 2) rfl))) (mvT hZ (hw _ (List.mem_of_getElem? (i := 3) rfl))) (mvT hZ (hw _ (List.mem_of_getElem? (i := 4) rfl))) (by decide) (backOf (W := 2) (rm_up l Z a0 hw [] b2 (4 : Int32) (((xa.toUInt32 >>> ((9 : Int32) &&& 31).toUInt32).toInt32) &&& (7 : Int32)) k2 ([(-1 : Int32), (0 : Int32), p2, p3, p4, (0 : Int32), (0 : Int32)] : List Int32) h28 n0 z28 V28 (by decide) (own_cl5 _ _ _ G4)) hZ (hw _ (List.mem_of_getElem? (i := 4) rfl)) (hw _ (List.mem_of_getElem? (i := 3) rfl)) (by decide) (by decide)) (g := (mkF m 65 #[.val (.int xa), .val (.int xb), .val (.ref b2), .unset, .unset, .unset, .unset] [(.int (((xa.toUInt32 >>> ((9 : Int32) &&& 31).toUInt32).toInt32) &&& (7 : Int32))), (.int (4 : Int32)), (.ref b2), (.int (5 : Int32)), (.ref b2)])) rfl (by rw [hml]; rfl) (argsL := [(.ref b2), (.int (4 : Int32)), (.int (((xa.toUInt32 >>> ((9 : Int32) &&& 31).toUInt32).toInt32) &&& (7 : Int32)))]) (rest := [(.int (5 : Int32)), (.ref b2)]) (lenOf pd1 rfl) rfl (by show 2 * 0 + _ ≤ _; exact Nat.le_of_eq rfl) (hb hby at_65) (fun _ _ => ⟨rfl, e28, (by decide : 1 + 0 ≤ _), (by decide : 7 + 0 ≤ _)⟩)
  dsimp only [Pt.U, Pt.locs, Pt.cells, Pt.slots] at X31 l31 y31 z31 st31 hQ31
  subst y31 z31
  obtain ⟨rfl, M31, e31⟩ := hQ31
  have N31 : Fr n0 L31 := by rw [l31]; exact Fr.app N28 M31
  clear l31
  have X31 : Stand p l e _ s m _ below meth c T31 _ 1 7 := X31
  have pre32 : ∀ t, Steps p.tables e below (T31.setTop (mkF m 68 #[.val (.int xa), .val (.int xb), .val (.ref b2), .unset, .unset, .unset, .unset] [(.int (own_up ([(-1 : Int32), (0 : Int32), p2, p3, p4, (0 : Int32), (0 : Int32)] : List Int32) (4 : Int32) (((xa.toUInt32 >>> ((9 : Int32) &&& 31).toUInt32).toInt32) &&& (7 : Int32)))), (.int (5 : Int32)), (.ref b2)])) t → Steps p.tables e below (s₁.setTop (entryFrame m #[(.int xa), (.int xb)] maxLocals)) t := fun t k => pre30 t (st31 t k)
  obtain ⟨p5, hp5⟩ : ∃ z : Int32, z = (own_up ([(-1 : Int32), (0 : Int32), p2, p3, p4, (0 : Int32), (0 : Int32)] : List Int32) (4 : Int32) (((xa.toUInt32 >>> ((9 : Int32) &&& 31).toUInt32).toInt32) &&& (7 : Int32))) := ⟨_, rfl⟩
  rw [← hp5] at pre32
  have G5 := own_g5 _ _ _ _ _ G4 hp5
  obtain ⟨c33, a33, q33, s33, m33, i33, u33⟩ := id V28
  obtain ⟨T34, h34, X34, e34, W34, st34⟩ := stI X31 hx hZ e31 a33 (j := (5 : Int32)) (inb_of s33 ⟨by decide, by decide⟩) (g := (mkF m 68 #[.val (.int xa), .val (.int xb), .val (.ref b2), .unset, .unset, .unset, .unset] [(.int p5), (.int (5 : Int32)), (.ref b2)])) rfl rfl (hb hby at_68)
  have K34 : Keep h0 h34 ([] : List Addr) := K28.wr W34 (Or.inr sz_b2)
  have z34 : n0 ≤ h34.size := Nat.le_trans Z0 K34.1
  have N34 := Fr.snoc X34 N31 g_b2
  have V34 : Arv Z h34 b2 k2 .int (7 : Int32) [(.int (-1 : Int32)), (.int (0 : Int32)), (.int p2), (.int p3), (.int p4), (.int p5), (.int (0 : Int32))] (.int (0 : Int32)) := Arv.set a33 q33 s33 m33 i33 u33 rfl W34 5 rfl (Nat.le_of_ble_eq_true rfl)
  have pre35 : ∀ t, Steps p.tables e below (T34.setTop (mkF m 69 #[.val (.int xa), .val (.int xb), .val (.ref b2), .unset, .unset, .unset, .unset] [])) t → Steps p.tables e below (s₁.setTop (entryFrame m #[(.int xa), (.int xb)] maxLocals)) t := fun t k => pre32 t (st34 t k)
  have pre36 : ∀ t, Steps p.tables e below (T34.setTop (mkF m 81 #[.val (.int xa), .val (.int xb), .val (.ref b2), .unset, .unset, .unset, .unset] [(.int (((xa.toUInt32 >>> ((12 : Int32) &&& 31).toUInt32).toInt32) &&& (7 : Int32))), (.int (5 : Int32)), (.ref b2), (.int (6 : Int32)), (.ref b2)])) t → Steps p.tables e below (s₁.setTop (entryFrame m #[(.int xa), (.int xb)] maxLocals)) t := by
    intro t k
    refine pre35 t ?_
    refine XS.aloadN X34.here hx rfl (hb hby at_69) rfl rfl ?_
    show Steps p.tables e below (T34.setTop (mkF m 70 #[.val (.int xa), .val (.int xb), .val (.ref b2), .unset, .unset, .unset, .unset] [(.ref b2)])) _
    refine XS.bipush X34.here hx rfl (hb hby at_70) ?_
    show Steps p.tables e below (T34.setTop (mkF m 72 #[.val (.int xa), .val (.int xb), .val (.ref b2), .unset, .unset, .unset, .unset] [(.int (6 : Int32)), (.ref b2)])) _
    refine XS.aloadN X34.here hx rfl (hb hby at_72) rfl rfl ?_
    show Steps p.tables e below (T34.setTop (mkF m 73 #[.val (.int xa), .val (.int xb), .val (.ref b2), .unset, .unset, .unset, .unset] [(.ref b2), (.int (6 : Int32)), (.ref b2)])) _
    refine XS.iconst X34.here hx rfl (hb hby at_73) ?_
    show Steps p.tables e below (T34.setTop (mkF m 74 #[.val (.int xa), .val (.int xb), .val (.ref b2), .unset, .unset, .unset, .unset] [(.int (5 : Int32)), (.ref b2), (.int (6 : Int32)), (.ref b2)])) _
    refine XS.iloadN X34.here hx rfl (hb hby at_74) rfl ?_
    show Steps p.tables e below (T34.setTop (mkF m 75 #[.val (.int xa), .val (.int xb), .val (.ref b2), .unset, .unset, .unset, .unset] [(.int xa), (.int (5 : Int32)), (.ref b2), (.int (6 : Int32)), (.ref b2)])) _
    refine XS.bipush X34.here hx rfl (hb hby at_75) ?_
    show Steps p.tables e below (T34.setTop (mkF m 77 #[.val (.int xa), .val (.int xb), .val (.ref b2), .unset, .unset, .unset, .unset] [(.int (12 : Int32)), (.int xa), (.int (5 : Int32)), (.ref b2), (.int (6 : Int32)), (.ref b2)])) _
    refine XS.iushr X34.here hx rfl (hb hby at_77) rfl ?_
    show Steps p.tables e below (T34.setTop (mkF m 78 #[.val (.int xa), .val (.int xb), .val (.ref b2), .unset, .unset, .unset, .unset] [(.int ((xa.toUInt32 >>> ((12 : Int32) &&& 31).toUInt32).toInt32)), (.int (5 : Int32)), (.ref b2), (.int (6 : Int32)), (.ref b2)])) _
    refine XS.bipush X34.here hx rfl (hb hby at_78) ?_
    show Steps p.tables e below (T34.setTop (mkF m 80 #[.val (.int xa), .val (.int xb), .val (.ref b2), .unset, .unset, .unset, .unset] [(.int (7 : Int32)), (.int ((xa.toUInt32 >>> ((12 : Int32) &&& 31).toUInt32).toInt32)), (.int (5 : Int32)), (.ref b2), (.int (6 : Int32)), (.ref b2)])) _
    refine XS.iand X34.here hx rfl (hb hby at_80) rfl ?_
    show Steps p.tables e below (T34.setTop (mkF m 81 #[.val (.int xa), .val (.int xb), .val (.ref b2), .unset, .unset, .unset, .unset] [(.int (((xa.toUInt32 >>> ((12 : Int32) &&& 31).toUInt32).toInt32) &&& (7 : Int32))), (.int (5 : Int32)), (.ref b2), (.int (6 : Int32)), (.ref b2)])) _
    exact k
  obtain ⟨_, _, ⟨T37, L37, k37, n37⟩, -, X37, ⟨Lc37, hQ37, l37, y37, z37⟩, st37⟩ := Jvm.LawKit.callS X34 hx (y := (⟨"com/example/xidr/xidr/xml/tree/TreePreviousSiblingPinLaw", "up", "([III)I"⟩ : MethodName)) hown (mvT hZ (hw _ (List.mem_of_getElem? (i := 1) rfl))) (mvT hZ (hw _ (List.mem_of_getElem? (i := 2) rfl))) (mvT hZ (hw _ (List.mem_of_getElem? (i := 3) rfl))) (mvT hZ (hw _ (List.mem_of_getElem? (i := 4) rfl))) (by decide) (backOf (W := 2) (rm_up l Z a0 hw [] b2 (5 : Int32) (((xa.toUInt32 >>> ((12 : Int32) &&& 31).toUInt32).toInt32) &&& (7 : Int32)) k2 ([(-1 : Int32), (0 : Int32), p2, p3, p4, p5, (0 : Int32)] : List Int32) h34 n0 z34 V34 (by decide) (own_cl6 _ _ _ _ G5)) hZ (hw _ (List.mem_of_getElem? (i := 4) rfl)) (hw _ (List.mem_of_getElem? (i := 3) rfl)) (by decide) (by decide)) (g := (mkF m 81 #[.val (.int xa), .val (.int xb), .val (.ref b2), .unset, .unset, .unset, .unset] [(.int (((xa.toUInt32 >>> ((12 : Int32) &&& 31).toUInt32).toInt32) &&& (7 : Int32))), (.int (5 : Int32)), (.ref b2), (.int (6 : Int32)), (.ref b2)])) rfl (by rw [hml]; rfl) (argsL := [(.ref b2), (.int (5 : Int32)), (.int (((xa.toUInt32 >>> ((12 : Int32) &&& 31).toUInt32).toInt32) &&& (7 : Int32)))]) (rest := [(.int (6 : Int32)), (.ref b2)]) (lenOf pd1 rfl) rfl (by show 2 * 0 + _ ≤ _; exact Nat.le_of_eq rfl) (hb hby at_81) (fun _ _ => ⟨rfl, e34, (by decide : 1 + 0 ≤ _), (by decide : 7 + 0 ≤ _)⟩)
  dsimp only [Pt.U, Pt.locs, Pt.cells, Pt.slots] at X37 l37 y37 z37 st37 hQ37
  subst y37 z37
  obtain ⟨rfl, M37, e37⟩ := hQ37
  have N37 : Fr n0 L37 := by rw [l37]; exact Fr.app N34 M37
  clear l37
  have X37 : Stand p l e _ s m _ below meth c T37 _ 1 7 := X37
  have pre38 : ∀ t, Steps p.tables e below (T37.setTop (mkF m 84 #[.val (.int xa), .val (.int xb), .val (.ref b2), .unset, .unset, .unset, .unset] [(.int (own_up ([(-1 : Int32), (0 : Int32), p2, p3, p4, p5, (0 : Int32)] : List Int32) (5 : Int32) (((xa.toUInt32 >>> ((12 : Int32) &&& 31).toUInt32).toInt32) &&& (7 : Int32)))), (.int (6 : Int32)), (.ref b2)])) t → Steps p.tables e below (s₁.setTop (entryFrame m #[(.int xa), (.int xb)] maxLocals)) t := fun t k => pre36 t (st37 t k)
  obtain ⟨p6, hp6⟩ : ∃ z : Int32, z = (own_up ([(-1 : Int32), (0 : Int32), p2, p3, p4, p5, (0 : Int32)] : List Int32) (5 : Int32) (((xa.toUInt32 >>> ((12 : Int32) &&& 31).toUInt32).toInt32) &&& (7 : Int32))) := ⟨_, rfl⟩
  rw [← hp6] at pre38
  have G6 := own_g6 _ _ _ _ _ _ G5 hp6
  obtain ⟨c39, a39, q39, s39, m39, i39, u39⟩ := id V34
  obtain ⟨T40, h40, X40, e40, W40, st40⟩ := stI X37 hx hZ e37 a39 (j := (6 : Int32)) (inb_of s39 ⟨by decide, by decide⟩) (g := (mkF m 84 #[.val (.int xa), .val (.int xb), .val (.ref b2), .unset, .unset, .unset, .unset] [(.int p6), (.int (6 : Int32)), (.ref b2)])) rfl rfl (hb hby at_84)
  have K40 : Keep h0 h40 ([] : List Addr) := K34.wr W40 (Or.inr sz_b2)
  have z40 : n0 ≤ h40.size := Nat.le_trans Z0 K40.1
  have N40 := Fr.snoc X40 N37 g_b2
  have V40 : Arv Z h40 b2 k2 .int (7 : Int32) [(.int (-1 : Int32)), (.int (0 : Int32)), (.int p2), (.int p3), (.int p4), (.int p5), (.int p6)] (.int (0 : Int32)) := Arv.set a39 q39 s39 m39 i39 u39 rfl W40 6 rfl (Nat.le_of_ble_eq_true rfl)
  have pre41 : ∀ t, Steps p.tables e below (T40.setTop (mkF m 85 #[.val (.int xa), .val (.int xb), .val (.ref b2), .unset, .unset, .unset, .unset] [])) t → Steps p.tables e below (s₁.setTop (entryFrame m #[(.int xa), (.int xb)] maxLocals)) t := fun t k => pre38 t (st40 t k)
  obtain ⟨T42, h42, X42, e42, E42, A42, D42, -, st42⟩ := newO X40 hx hZ hown (hw _ (List.mem_of_getElem? (i := 5) rfl)) (hw _ (List.mem_of_getElem? (i := 6) rfl)) (hw _ (List.mem_of_getElem? (i := 7) rfl)) e40 (g := (mkF m 85 #[.val (.int xa), .val (.int xb), .val (.ref b2), .unset, .unset, .unset, .unset] [])) rfl (hb hby at_85) (by decide) (by decide)
  obtain ⟨b42, g42⟩ : ∃ z, z = h40.size := ⟨_, rfl⟩
  rw [← g42] at A42 D42 st42
  have g_b42 : n0 ≤ b42 := Nat.le_trans z40 (Nat.le_of_eq g42.symm)
  have sz_b42 : h0.size ≤ b42 := Nat.le_trans K40.1 (Nat.le_of_eq g42.symm)
  have K42 : Keep h0 h42 ([] : List Addr) := K40.ext E42
  have z42 : n0 ≤ h42.size := Nat.le_trans Z0 K42.1
  have F_kinds_b42 : Fld Z h42 b42 "com/example/xidr/xidr/xml/tree/TreeBuilder$Parts" "kinds" "[B" .null := D42 (Or.inl (hw _ (List.mem_of_getElem? (i := 16) rfl))) (ty := (.array .byte)) (by decide)
  have F_parents_b42 : Fld Z h42 b42 "com/example/xidr/xidr/xml/tree/TreeBuilder$Parts" "parents" "[I" .null := D42 (Or.inl (hw _ (List.mem_of_getElem? (i := 18) rfl))) (ty := (.array .int)) (by decide)
  have F_nextSiblings_b42 : Fld Z h42 b42 "com/example/xidr/xidr/xml/tree/TreeBuilder$Parts" "nextSiblings" "[I" .null := D42 (Or.inl (hw _ (List.mem_of_getElem? (i := 20) rfl))) (ty := (.array .int)) (by decide)
  have F_data_b42 : Fld Z h42 b42 "com/example/xidr/xidr/xml/tree/TreeBuilder$Parts" "data" "[I" .null := D42 (Or.inl (hw _ (List.mem_of_getElem? (i := 22) rfl))) (ty := (.array .int)) (by decide)
  have F_owners_b42 : Fld Z h42 b42 "com/example/xidr/xidr/xml/tree/TreeBuilder$Parts" "owners" "[I" .null := D42 (Or.inl (hw _ (List.mem_of_getElem? (i := 24) rfl))) (ty := (.array .int)) (by decide)
  have F_attributeNames_b42 : Fld Z h42 b42 "com/example/xidr/xidr/xml/tree/TreeBuilder$Parts" "attributeNames" "[I" .null := D42 (Or.inl (hw _ (List.mem_of_getElem? (i := 26) rfl))) (ty := (.array .int)) (by decide)
  have F_attributeValues_b42 : Fld Z h42 b42 "com/example/xidr/xidr/xml/tree/TreeBuilder$Parts" "attributeValues" "[I" .null := D42 (Or.inl (hw _ (List.mem_of_getElem? (i := 28) rfl))) (ty := (.array .int)) (by decide)
  have F_attributeTypes_b42 : Fld Z h42 b42 "com/example/xidr/xidr/xml/tree/TreeBuilder$Parts" "attributeTypes" "[B" .null := D42 (Or.inl (hw _ (List.mem_of_getElem? (i := 30) rfl))) (ty := (.array .byte)) (by decide)
  have F_names_b42 : Fld Z h42 b42 "com/example/xidr/xidr/xml/tree/TreeBuilder$Parts" "names" "Ljava/util/List;" .null := D42 (Or.inr (hw _ (List.mem_of_getElem? (i := 56) rfl))) (ty := (.object "java/util/List")) (by decide)
  have F_narrowText_b42 : Fld Z h42 b42 "com/example/xidr/xidr/xml/tree/TreeBuilder$Parts" "narrowText" "[B" .null := D42 (Or.inl (hw _ (List.mem_of_getElem? (i := 58) rfl))) (ty := (.array .byte)) (by decide)
  have F_valueStarts_b42 : Fld Z h42 b42 "com/example/xidr/xidr/xml/tree/TreeBuilder$Parts" "valueStarts" "[I" .null := D42 (Or.inl (hw _ (List.mem_of_getElem? (i := 60) rfl))) (ty := (.array .int)) (by decide)
  have F_instructions_b42 : Fld Z h42 b42 "com/example/xidr/xidr/xml/tree/TreeBuilder$Parts" "instructions" "[I" .null := D42 (Or.inl (hw _ (List.mem_of_getElem? (i := 62) rfl))) (ty := (.array .int)) (by decide)
  have F_instructionData_b42 : Fld Z h42 b42 "com/example/xidr/xidr/xml/tree/TreeBuilder$Parts" "instructionData" "[I" .null := D42 (Or.inl (hw _ (List.mem_of_getElem? (i := 64) rfl))) (ty := (.array .int)) (by decide)
  have F_nodeCount_b42 : Fld Z h42 b42 "com/example/xidr/xidr/xml/tree/TreeBuilder$Parts" "nodeCount" "I" (.int (0 : Int32)) := D42 (Or.inl (hw _ (List.mem_of_getElem? (i := 67) rfl))) (ty := .int) (by decide)
  have F_attributeCount_b42 : Fld Z h42 b42 "com/example/xidr/xidr/xml/tree/TreeBuilder$Parts" "attributeCount" "I" (.int (0 : Int32)) := D42 (Or.inl (hw _ (List.mem_of_getElem? (i := 103) rfl))) (ty := .int) (by decide)
  have F_wideText_b42 : Fld Z h42 b42 "com/example/xidr/xidr/xml/tree/TreeBuilder$Parts" "wideText" "[C" .null := D42 (Or.inl (hw _ (List.mem_of_getElem? (i := 113) rfl))) (ty := (.array .char)) (by decide)
  have X42 : Stand p l e _ s m _ below meth c T42 _ 2 24 := X42
  have pre43 : ∀ t, Steps p.tables e below (T42.setTop (mkF m 88 #[.val (.int xa), .val (.int xb), .val (.ref b2), .unset, .unset, .unset, .unset] [(.ref b42)])) t → Steps p.tables e below (s₁.setTop (entryFrame m #[(.int xa), (.int xb)] maxLocals)) t := fun t k => pre41 t (st42 t k)
  have pre44 : ∀ t, Steps p.tables e below (T42.setTop (mkF m 89 #[.val (.int xa), .val (.int xb), .val (.ref b2), .unset, .unset, .unset, .unset] [(.ref b42), (.ref b42)])) t → Steps p.tables e below (s₁.setTop (entryFrame m #[(.int xa), (.int xb)] maxLocals)) t := by
    intro t k
    refine pre43 t ?_
    refine XS.dup X42.here hx rfl (hb hby at_88) rfl rfl ?_
    show Steps p.tables e below (T42.setTop (mkF m 89 #[.val (.int xa), .val (.int xb), .val (.ref b2), .unset, .unset, .unset, .unset] [(.ref b42), (.ref b42)])) _
    exact k
  have f45 := (SD.ext (own_keep_ext K42))
  obtain ⟨_, _, ⟨T46, L46, k46, n46⟩, -, X46, ⟨Lc46, hQ46, l46, y46, z46⟩, st46⟩ := X42.specialBack hx (y := (⟨"com/example/xidr/xidr/xml/tree/TreeBuilder$Parts", "<init>", "()V"⟩ : MethodName)) rfl hown (mvT hZ (hw _ (List.mem_of_getElem? (i := 8) rfl))) (mvT hZ (hw _ (List.mem_of_getElem? (i := 9) rfl))) (mvT hZ (hw _ (List.mem_of_getElem? (i := 10) rfl))) (by decide) (backOf (W := 1) (rm_parts l Z a0 hw [] b42 wl h42 n0 z42 A42 (g_b42) F_kinds_b42 F_parents_b42 F_nextSiblings_b42 F_data_b42 F_owners_b42 F_attributeNames_b42 F_attributeValues_b42 F_attributeTypes_b42 F_names_b42 F_narrowText_b42 F_valueStarts_b42 F_instructions_b42 F_instructionData_b42 F_nodeCount_b42 F_attributeCount_b42 F_wideText_b42 f45) hZ (hw _ (List.mem_of_getElem? (i := 10) rfl)) (hw _ (List.mem_of_getElem? (i := 7) rfl)) (by decide) (by decide)) (g := (mkF m 89 #[.val (.int xa), .val (.int xb), .val (.ref b2), .unset, .unset, .unset, .unset] [(.ref b42), (.ref b42)])) rfl (by rw [hml]; rfl) (Steps.refl _) (a := b42) (argsL := []) (rest := [(.ref b42)]) (lenOf pd0 rfl) rfl (by show 2 * 0 + _ ≤ _; exact Nat.le_of_eq rfl) (hb hby at_89) (fun _ _ => ⟨rfl, e42, (by decide : 2 + 13 ≤ _), (by decide : 24 + 10244 ≤ _)⟩)
  dsimp only [Pt.U, Pt.locs, Pt.cells, Pt.slots] at X46 l46 y46 z46 st46 hQ46
  subst y46 z46
  obtain ⟨y_kinds_46, y_parents_46, y_nextSiblings_46, y_data_46, y_owners_46, y_attributeNames_46, y_attributeValues_46, y_attributeTypes_46, y_names_46, y_narrowText_46, y_valueStarts_46, y_instructions_46, y_instructionData_46, rfl, M46, kp46, f46_0, f46_1, f46_2, f46_3, f46_4, f46_5, f46_6, f46_7, f46_8, f46_9, f46_10, f46_11, f46_12, f46_13, f46_14, f46_15, f46_16⟩ := hQ46
  have K46 : Keep h0 T46.heap ([] : List Addr) := K42.trans kp46 (allS (P := fun x => x ∈ ([] : List Addr) ∨ h0.size ≤ x) (Or.inr sz_b42) all0)
  have zz46 : n0 ≤ T46.heap.size := Nat.le_trans Z0 K46.1
  have N46 : Fr n0 L46 := by rw [l46]; exact Fr.app N40 M46
  clear l46
  have X46 : Stand p l e _ s m _ below meth c T46 _ 15 10268 := X46
  have pre47 : ∀ t, Steps p.tables e below (T46.setTop (mkF m 92 #[.val (.int xa), .val (.int xb), .val (.ref b2), .unset, .unset, .unset, .unset] [(.ref b42)])) t → Steps p.tables e below (s₁.setTop (entryFrame m #[(.int xa), (.int xb)] maxLocals)) t := fun t k => pre44 t (st46.trans k)
  have pre48 : ∀ t, Steps p.tables e below (T46.setTop (mkF m 95 #[.val (.int xa), .val (.int xb), .val (.ref b2), .val (.ref b42), .unset, .unset, .unset] [(.ref b2), (.ref b42)])) t → Steps p.tables e below (s₁.setTop (entryFrame m #[(.int xa), (.int xb)] maxLocals)) t := by
    intro t k
    refine pre47 t ?_
    refine XS.astoreN X46.here hx rfl (hb hby at_92) rfl rfl (l' := #[.val (.int xa), .val (.int xb), .val (.ref b2), .val (.ref b42), .unset, .unset, .unset]) rfl ?_
    show Steps p.tables e below (T46.setTop (mkF m 93 #[.val (.int xa), .val (.int xb), .val (.ref b2), .val (.ref b42), .unset, .unset, .unset] [])) _
    refine XS.aloadN X46.here hx rfl (hb hby at_93) rfl rfl ?_
    show Steps p.tables e below (T46.setTop (mkF m 94 #[.val (.int xa), .val (.int xb), .val (.ref b2), .val (.ref b42), .unset, .unset, .unset] [(.ref b42)])) _
    refine XS.aloadN X46.here hx rfl (hb hby at_94) rfl rfl ?_
    show Steps p.tables e below (T46.setTop (mkF m 95 #[.val (.int xa), .val (.int xb), .val (.ref b2), .val (.ref b42), .unset, .unset, .unset] [(.ref b2), (.ref b42)])) _
    exact k
  obtain ⟨T49, h49, X49, e49, W49, st49⟩ := putF X46 hx hZ hown (host := "") (Or.inl (hw _ (List.mem_of_getElem? (i := 65) rfl))) Via.refl rfl f46_2 f46_0 (Or.inl (hw _ (List.mem_of_getElem? (i := 18) rfl))) (hw _ (List.mem_of_getElem? (i := 6) rfl)) (ty := (.array .int)) (by decide) rfl rfl (g := (mkF m 95 #[.val (.int xa), .val (.int xb), .val (.ref b2), .val (.ref b42), .unset, .unset, .unset] [(.ref b2), (.ref b42)])) rfl rfl (hb hby at_95)
  have K49 : Keep h0 h49 ([] : List Addr) := K46.wr W49 (Or.inr sz_b42)
  have z49 : n0 ≤ h49.size := Nat.le_trans Z0 K49.1
  have N49 := Fr.snoc X49 N46 g_b42
  have Fw49 := f46_2.same W49
  have pre50 : ∀ t, Steps p.tables e below (T49.setTop (mkF m 98 #[.val (.int xa), .val (.int xb), .val (.ref b2), .val (.ref b42), .unset, .unset, .unset] [])) t → Steps p.tables e below (s₁.setTop (entryFrame m #[(.int xa), (.int xb)] maxLocals)) t := fun t k => pre48 t (st49 t k)
  have pre51 : ∀ t, Steps p.tables e below (T49.setTop (mkF m 101 #[.val (.int xa), .val (.int xb), .val (.ref b2), .val (.ref b42), .unset, .unset, .unset] [(.int (7 : Int32)), (.ref b42)])) t → Steps p.tables e below (s₁.setTop (entryFrame m #[(.int xa), (.int xb)] maxLocals)) t := by
    intro t k
    refine pre50 t ?_
    refine XS.aloadN X49.here hx rfl (hb hby at_98) rfl rfl ?_
    show Steps p.tables e below (T49.setTop (mkF m 99 #[.val (.int xa), .val (.int xb), .val (.ref b2), .val (.ref b42), .unset, .unset, .unset] [(.ref b42)])) _
    refine XS.bipush X49.here hx rfl (hb hby at_99) ?_
    show Steps p.tables e below (T49.setTop (mkF m 101 #[.val (.int xa), .val (.int xb), .val (.ref b2), .val (.ref b42), .unset, .unset, .unset] [(.int (7 : Int32)), (.ref b42)])) _
    exact k
  have f52 := (f46_0.wr W49)
  have f53 := (f46_14.other W49 (Or.inr (slot_ne (Or.inl (hw _ (List.mem_of_getElem? (i := 67) rfl))) (Or.inl (hw _ (List.mem_of_getElem? (i := 18) rfl))) (by decide) (t := .int) (t' := (.array .int)) (by decide) (by decide))))
  obtain ⟨T54, h54, X54, e54, W54, st54⟩ := putF X49 hx hZ hown (host := "") (Or.inl (hw _ (List.mem_of_getElem? (i := 66) rfl))) Via.refl e49 f53 f52 (Or.inl (hw _ (List.mem_of_getElem? (i := 67) rfl))) (hw _ (List.mem_of_getElem? (i := 6) rfl)) (ty := .int) (by decide) rfl rfl (g := (mkF m 101 #[.val (.int xa), .val (.int xb), .val (.ref b2), .val (.ref b42), .unset, .unset, .unset] [(.int (7 : Int32)), (.ref b42)])) rfl rfl (hb hby at_101)
  have K54 : Keep h0 h54 ([] : List Addr) := K49.wr W54 (Or.inr sz_b42)
  have z54 : n0 ≤ h54.size := Nat.le_trans Z0 K54.1
  have N54 := Fr.snoc X54 N49 g_b42
  have Fw54 := f53.same W54
  have pre55 : ∀ t, Steps p.tables e below (T54.setTop (mkF m 104 #[.val (.int xa), .val (.int xb), .val (.ref b2), .val (.ref b42), .unset, .unset, .unset] [])) t → Steps p.tables e below (s₁.setTop (entryFrame m #[(.int xa), (.int xb)] maxLocals)) t := fun t k => pre51 t (st54 t k)
  obtain ⟨T56, h56, X56, e56, E56, A56, D56, -, st56⟩ := newO X54 hx hZ hown (hw _ (List.mem_of_getElem? (i := 68) rfl)) (hw _ (List.mem_of_getElem? (i := 69) rfl)) (hw _ (List.mem_of_getElem? (i := 70) rfl)) e54 (g := (mkF m 104 #[.val (.int xa), .val (.int xb), .val (.ref b2), .val (.ref b42), .unset, .unset, .unset] [])) rfl (hb hby at_104) (by decide) (by decide)
  obtain ⟨b56, g56⟩ : ∃ z, z = h54.size := ⟨_, rfl⟩
  rw [← g56] at A56 D56 st56
  have g_b56 : n0 ≤ b56 := Nat.le_trans z54 (Nat.le_of_eq g56.symm)
  have sz_b56 : h0.size ≤ b56 := Nat.le_trans K54.1 (Nat.le_of_eq g56.symm)
  have K56 : Keep h0 h56 ([] : List Addr) := K54.ext E56
  have z56 : n0 ≤ h56.size := Nat.le_trans Z0 K56.1
  have F_kinds_b56 : Fld Z h56 b56 "com/example/xidr/xidr/xml/tree/Tree" "kinds" "[B" .null := D56 (Or.inr (hw _ (List.mem_of_getElem? (i := 77) rfl))) (ty := (.array .byte)) (by decide)
  have F_parents_b56 : Fld Z h56 b56 "com/example/xidr/xidr/xml/tree/Tree" "parents" "[I" .null := D56 (Or.inr (hw _ (List.mem_of_getElem? (i := 80) rfl))) (ty := (.array .int)) (by decide)
  have F_nextSiblings_b56 : Fld Z h56 b56 "com/example/xidr/xidr/xml/tree/Tree" "nextSiblings" "[I" .null := D56 (Or.inr (hw _ (List.mem_of_getElem? (i := 83) rfl))) (ty := (.array .int)) (by decide)
  have F_data_b56 : Fld Z h56 b56 "com/example/xidr/xidr/xml/tree/Tree" "data" "[I" .null := D56 (Or.inr (hw _ (List.mem_of_getElem? (i := 86) rfl))) (ty := (.array .int)) (by decide)
  have F_nodeCount_b56 : Fld Z h56 b56 "com/example/xidr/xidr/xml/tree/Tree" "nodeCount" "I" (.int (0 : Int32)) := D56 (Or.inr (hw _ (List.mem_of_getElem? (i := 89) rfl))) (ty := .int) (by decide)
  have F_owners_b56 : Fld Z h56 b56 "com/example/xidr/xidr/xml/tree/Tree" "owners" "[I" .null := D56 (Or.inr (hw _ (List.mem_of_getElem? (i := 92) rfl))) (ty := (.array .int)) (by decide)
  have F_attributeNames_b56 : Fld Z h56 b56 "com/example/xidr/xidr/xml/tree/Tree" "attributeNames" "[I" .null := D56 (Or.inr (hw _ (List.mem_of_getElem? (i := 95) rfl))) (ty := (.array .int)) (by decide)
  have F_attributeValues_b56 : Fld Z h56 b56 "com/example/xidr/xidr/xml/tree/Tree" "attributeValues" "[I" .null := D56 (Or.inr (hw _ (List.mem_of_getElem? (i := 98) rfl))) (ty := (.array .int)) (by decide)
  have F_attributeTypes_b56 : Fld Z h56 b56 "com/example/xidr/xidr/xml/tree/Tree" "attributeTypes" "[B" .null := D56 (Or.inr (hw _ (List.mem_of_getElem? (i := 101) rfl))) (ty := (.array .byte)) (by decide)
  have F_attributeCount_b56 : Fld Z h56 b56 "com/example/xidr/xidr/xml/tree/Tree" "attributeCount" "I" (.int (0 : Int32)) := D56 (Or.inr (hw _ (List.mem_of_getElem? (i := 105) rfl))) (ty := .int) (by decide)
  have F_names_b56 : Fld Z h56 b56 "com/example/xidr/xidr/xml/tree/Tree" "names" "Ljava/util/List;" .null := D56 (Or.inr (hw _ (List.mem_of_getElem? (i := 108) rfl))) (ty := (.object "java/util/List")) (by decide)
  have F_narrowText_b56 : Fld Z h56 b56 "com/example/xidr/xidr/xml/tree/Tree" "narrowText" "[B" .null := D56 (Or.inr (hw _ (List.mem_of_getElem? (i := 111) rfl))) (ty := (.array .byte)) (by decide)
  have F_wideText_b56 : Fld Z h56 b56 "com/example/xidr/xidr/xml/tree/Tree" "wideText" "[C" .null := D56 (Or.inr (hw _ (List.mem_of_getElem? (i := 115) rfl))) (ty := (.array .char)) (by decide)
  have F_valueStarts_b56 : Fld Z h56 b56 "com/example/xidr/xidr/xml/tree/Tree" "valueStarts" "[I" .null := D56 (Or.inr (hw _ (List.mem_of_getElem? (i := 118) rfl))) (ty := (.array .int)) (by decide)
  have F_instructions_b56 : Fld Z h56 b56 "com/example/xidr/xidr/xml/tree/Tree" "instructions" "[I" .null := D56 (Or.inr (hw _ (List.mem_of_getElem? (i := 121) rfl))) (ty := (.array .int)) (by decide)
  have F_instructionData_b56 : Fld Z h56 b56 "com/example/xidr/xidr/xml/tree/Tree" "instructionData" "[I" .null := D56 (Or.inr (hw _ (List.mem_of_getElem? (i := 124) rfl))) (ty := (.array .int)) (by decide)
  have X56 : Stand p l e _ s m _ below meth c T56 _ 16 10285 := X56
  have pre57 : ∀ t, Steps p.tables e below (T56.setTop (mkF m 107 #[.val (.int xa), .val (.int xb), .val (.ref b2), .val (.ref b42), .unset, .unset, .unset] [(.ref b56)])) t → Steps p.tables e below (s₁.setTop (entryFrame m #[(.int xa), (.int xb)] maxLocals)) t := fun t k => pre55 t (st56 t k)
  have pre58 : ∀ t, Steps p.tables e below (T56.setTop (mkF m 109 #[.val (.int xa), .val (.int xb), .val (.ref b2), .val (.ref b42), .unset, .unset, .unset] [(.ref b42), (.ref b56), (.ref b56)])) t → Steps p.tables e below (s₁.setTop (entryFrame m #[(.int xa), (.int xb)] maxLocals)) t := by
    intro t k
    refine pre57 t ?_
    refine XS.dup X56.here hx rfl (hb hby at_107) rfl rfl ?_
    show Steps p.tables e below (T56.setTop (mkF m 108 #[.val (.int xa), .val (.int xb), .val (.ref b2), .val (.ref b42), .unset, .unset, .unset] [(.ref b56), (.ref b56)])) _
    refine XS.aloadN X56.here hx rfl (hb hby at_108) rfl rfl ?_
    show Steps p.tables e below (T56.setTop (mkF m 109 #[.val (.int xa), .val (.int xb), .val (.ref b2), .val (.ref b42), .unset, .unset, .unset] [(.ref b42), (.ref b56), (.ref b56)])) _
    exact k
  have f59 := (((f46_1.other W49 (Or.inr (slot_ne (Or.inl (hw _ (List.mem_of_getElem? (i := 16) rfl))) (Or.inl (hw _ (List.mem_of_getElem? (i := 18) rfl))) (by decide) (t := (.array .byte)) (t' := (.array .int)) (by decide) (by decide)))).other W54 (Or.inr (slot_ne (Or.inl (hw _ (List.mem_of_getElem? (i := 16) rfl))) (Or.inl (hw _ (List.mem_of_getElem? (i := 67) rfl))) (by decide) (t := (.array .byte)) (t' := .int) (by decide) (by decide)))).ext E56)
  have f60 := ((Fw49.other W54 (Or.inr (slot_ne (Or.inl (hw _ (List.mem_of_getElem? (i := 18) rfl))) (Or.inl (hw _ (List.mem_of_getElem? (i := 67) rfl))) (by decide) (t := (.array .int)) (t' := .int) (by decide) (by decide)))).ext E56)
  have f61 := (((f46_3.other W49 (Or.inr (slot_ne (Or.inl (hw _ (List.mem_of_getElem? (i := 20) rfl))) (Or.inl (hw _ (List.mem_of_getElem? (i := 18) rfl))) (by decide) (t := (.array .int)) (t' := (.array .int)) (by decide) (by decide)))).other W54 (Or.inr (slot_ne (Or.inl (hw _ (List.mem_of_getElem? (i := 20) rfl))) (Or.inl (hw _ (List.mem_of_getElem? (i := 67) rfl))) (by decide) (t := (.array .int)) (t' := .int) (by decide) (by decide)))).ext E56)
  have f62 := (((f46_4.other W49 (Or.inr (slot_ne (Or.inl (hw _ (List.mem_of_getElem? (i := 22) rfl))) (Or.inl (hw _ (List.mem_of_getElem? (i := 18) rfl))) (by decide) (t := (.array .int)) (t' := (.array .int)) (by decide) (by decide)))).other W54 (Or.inr (slot_ne (Or.inl (hw _ (List.mem_of_getElem? (i := 22) rfl))) (Or.inl (hw _ (List.mem_of_getElem? (i := 67) rfl))) (by decide) (t := (.array .int)) (t' := .int) (by decide) (by decide)))).ext E56)
  have f63 := (((f46_5.other W49 (Or.inr (slot_ne (Or.inl (hw _ (List.mem_of_getElem? (i := 24) rfl))) (Or.inl (hw _ (List.mem_of_getElem? (i := 18) rfl))) (by decide) (t := (.array .int)) (t' := (.array .int)) (by decide) (by decide)))).other W54 (Or.inr (slot_ne (Or.inl (hw _ (List.mem_of_getElem? (i := 24) rfl))) (Or.inl (hw _ (List.mem_of_getElem? (i := 67) rfl))) (by decide) (t := (.array .int)) (t' := .int) (by decide) (by decide)))).ext E56)
  have f64 := (((f46_6.other W49 (Or.inr (slot_ne (Or.inl (hw _ (List.mem_of_getElem? (i := 26) rfl))) (Or.inl (hw _ (List.mem_of_getElem? (i := 18) rfl))) (by decide) (t := (.array .int)) (t' := (.array .int)) (by decide) (by decide)))).other W54 (Or.inr (slot_ne (Or.inl (hw _ (List.mem_of_getElem? (i := 26) rfl))) (Or.inl (hw _ (List.mem_of_getElem? (i := 67) rfl))) (by decide) (t := (.array .int)) (t' := .int) (by decide) (by decide)))).ext E56)
  have f65 := (((f46_7.other W49 (Or.inr (slot_ne (Or.inl (hw _ (List.mem_of_getElem? (i := 28) rfl))) (Or.inl (hw _ (List.mem_of_getElem? (i := 18) rfl))) (by decide) (t := (.array .int)) (t' := (.array .int)) (by decide) (by decide)))).other W54 (Or.inr (slot_ne (Or.inl (hw _ (List.mem_of_getElem? (i := 28) rfl))) (Or.inl (hw _ (List.mem_of_getElem? (i := 67) rfl))) (by decide) (t := (.array .int)) (t' := .int) (by decide) (by decide)))).ext E56)
  have f66 := (((f46_8.other W49 (Or.inr (slot_ne (Or.inl (hw _ (List.mem_of_getElem? (i := 30) rfl))) (Or.inl (hw _ (List.mem_of_getElem? (i := 18) rfl))) (by decide) (t := (.array .byte)) (t' := (.array .int)) (by decide) (by decide)))).other W54 (Or.inr (slot_ne (Or.inl (hw _ (List.mem_of_getElem? (i := 30) rfl))) (Or.inl (hw _ (List.mem_of_getElem? (i := 67) rfl))) (by decide) (t := (.array .byte)) (t' := .int) (by decide) (by decide)))).ext E56)
  have f67 := (((f46_9.other W49 (Or.inr (slot_ne (Or.inr (hw _ (List.mem_of_getElem? (i := 56) rfl))) (Or.inl (hw _ (List.mem_of_getElem? (i := 18) rfl))) (by decide) (t := (.object "java/util/List")) (t' := (.array .int)) (by decide) (by decide)))).other W54 (Or.inr (slot_ne (Or.inr (hw _ (List.mem_of_getElem? (i := 56) rfl))) (Or.inl (hw _ (List.mem_of_getElem? (i := 67) rfl))) (by decide) (t := (.object "java/util/List")) (t' := .int) (by decide) (by decide)))).ext E56)
  have f68 := (((f46_10.other W49 (Or.inr (slot_ne (Or.inl (hw _ (List.mem_of_getElem? (i := 58) rfl))) (Or.inl (hw _ (List.mem_of_getElem? (i := 18) rfl))) (by decide) (t := (.array .byte)) (t' := (.array .int)) (by decide) (by decide)))).other W54 (Or.inr (slot_ne (Or.inl (hw _ (List.mem_of_getElem? (i := 58) rfl))) (Or.inl (hw _ (List.mem_of_getElem? (i := 67) rfl))) (by decide) (t := (.array .byte)) (t' := .int) (by decide) (by decide)))).ext E56)
  have f69 := (((f46_11.other W49 (Or.inr (slot_ne (Or.inl (hw _ (List.mem_of_getElem? (i := 60) rfl))) (Or.inl (hw _ (List.mem_of_getElem? (i := 18) rfl))) (by decide) (t := (.array .int)) (t' := (.array .int)) (by decide) (by decide)))).other W54 (Or.inr (slot_ne (Or.inl (hw _ (List.mem_of_getElem? (i := 60) rfl))) (Or.inl (hw _ (List.mem_of_getElem? (i := 67) rfl))) (by decide) (t := (.array .int)) (t' := .int) (by decide) (by decide)))).ext E56)
  have f70 := (((f46_12.other W49 (Or.inr (slot_ne (Or.inl (hw _ (List.mem_of_getElem? (i := 62) rfl))) (Or.inl (hw _ (List.mem_of_getElem? (i := 18) rfl))) (by decide) (t := (.array .int)) (t' := (.array .int)) (by decide) (by decide)))).other W54 (Or.inr (slot_ne (Or.inl (hw _ (List.mem_of_getElem? (i := 62) rfl))) (Or.inl (hw _ (List.mem_of_getElem? (i := 67) rfl))) (by decide) (t := (.array .int)) (t' := .int) (by decide) (by decide)))).ext E56)
  have f71 := (((f46_13.other W49 (Or.inr (slot_ne (Or.inl (hw _ (List.mem_of_getElem? (i := 64) rfl))) (Or.inl (hw _ (List.mem_of_getElem? (i := 18) rfl))) (by decide) (t := (.array .int)) (t' := (.array .int)) (by decide) (by decide)))).other W54 (Or.inr (slot_ne (Or.inl (hw _ (List.mem_of_getElem? (i := 64) rfl))) (Or.inl (hw _ (List.mem_of_getElem? (i := 67) rfl))) (by decide) (t := (.array .int)) (t' := .int) (by decide) (by decide)))).ext E56)
  have f72 := (Fw54.ext E56)
  have f73 := (((f46_15.other W49 (Or.inr (slot_ne (Or.inl (hw _ (List.mem_of_getElem? (i := 103) rfl))) (Or.inl (hw _ (List.mem_of_getElem? (i := 18) rfl))) (by decide) (t := .int) (t' := (.array .int)) (by decide) (by decide)))).other W54 (Or.inr (slot_ne (Or.inl (hw _ (List.mem_of_getElem? (i := 103) rfl))) (Or.inl (hw _ (List.mem_of_getElem? (i := 67) rfl))) (by decide) (t := .int) (t' := .int) (by decide) (by decide)))).ext E56)
  have f74 := (((f46_16.other W49 (Or.inr (slot_ne (Or.inl (hw _ (List.mem_of_getElem? (i := 113) rfl))) (Or.inl (hw _ (List.mem_of_getElem? (i := 18) rfl))) (by decide) (t := (.array .char)) (t' := (.array .int)) (by decide) (by decide)))).other W54 (Or.inr (slot_ne (Or.inl (hw _ (List.mem_of_getElem? (i := 113) rfl))) (Or.inl (hw _ (List.mem_of_getElem? (i := 67) rfl))) (by decide) (t := (.array .char)) (t' := .int) (by decide) (by decide)))).ext E56)
  obtain ⟨_, _, ⟨T75, L75, k75, n75⟩, -, X75, ⟨Lc75, hQ75, l75, y75, z75⟩, st75⟩ := X56.specialBack hx (y := (⟨"com/example/xidr/xidr/xml/tree/Tree", "<init>", "(Lcom/example/xidr/xidr/xml/tree/TreeBuilder$Parts;)V"⟩ : MethodName)) rfl hown (mvT hZ (hw _ (List.mem_of_getElem? (i := 71) rfl))) (mvT hZ (hw _ (List.mem_of_getElem? (i := 72) rfl))) (mvT hZ (hw _ (List.mem_of_getElem? (i := 73) rfl))) (by decide) (backOf (W := 1) (rm_tree l Z a0 hw [] b56 b42 y_kinds_46 b2 y_nextSiblings_46 y_data_46 y_owners_46 y_attributeNames_46 y_attributeValues_46 y_attributeTypes_46 y_names_46 y_narrowText_46 y_valueStarts_46 y_instructions_46 y_instructionData_46 (7 : Int32) (0 : Int32) h56 n0 z56 A56 (g_b56) F_kinds_b56 F_parents_b56 F_nextSiblings_b56 F_data_b56 F_nodeCount_b56 F_owners_b56 F_attributeNames_b56 F_attributeValues_b56 F_attributeTypes_b56 F_attributeCount_b56 F_names_b56 F_narrowText_b56 F_wideText_b56 F_valueStarts_b56 F_instructions_b56 F_instructionData_b56 f59 f60 f61 f62 f63 f64 f65 f66 f67 f68 f69 f70 f71 f72 f73 f74 ((Nat.ne_of_lt (Nat.lt_of_lt_of_le (f52.wr W54).lt (Nat.le_of_eq g56.symm))))) hZ (hw _ (List.mem_of_getElem? (i := 73) rfl)) (hw _ (List.mem_of_getElem? (i := 70) rfl)) (by decide) (by decide)) (g := (mkF m 109 #[.val (.int xa), .val (.int xb), .val (.ref b2), .val (.ref b42), .unset, .unset, .unset] [(.ref b42), (.ref b56), (.ref b56)])) rfl (by rw [hml]; rfl) (Steps.refl _) (a := b56) (argsL := [(.ref b42)]) (rest := [(.ref b56)]) (lenOf pd2 rfl) rfl (by show 2 * 0 + _ ≤ _; exact Nat.le_of_eq rfl) (hb hby at_109) (fun _ _ => ⟨rfl, e56, (by decide : 16 + 0 ≤ _), (by decide : 10285 + 0 ≤ _)⟩)
  dsimp only [Pt.U, Pt.locs, Pt.cells, Pt.slots] at X75 l75 y75 z75 st75 hQ75
  subst y75 z75
  obtain ⟨rfl, M75, kp75, f75_0, f75_1, f75_2⟩ := hQ75
  have K75 : Keep h0 T75.heap ([] : List Addr) := K56.trans kp75 (allS (P := fun x => x ∈ ([] : List Addr) ∨ h0.size ≤ x) (Or.inr sz_b56) all0)
  have zz75 : n0 ≤ T75.heap.size := Nat.le_trans Z0 K75.1
  have N75 : Fr n0 L75 := by rw [l75]; exact Fr.app N54 M75
  clear l75
  have X75 : Stand p l e _ s m _ below meth c T75 _ 16 10285 := X75
  have pre76 : ∀ t, Steps p.tables e below (T75.setTop (mkF m 112 #[.val (.int xa), .val (.int xb), .val (.ref b2), .val (.ref b42), .unset, .unset, .unset] [(.ref b56)])) t → Steps p.tables e below (s₁.setTop (entryFrame m #[(.int xa), (.int xb)] maxLocals)) t := fun t k => pre58 t (st75.trans k)
  have pre77 : ∀ t, Steps p.tables e below (T75.setTop (mkF m 123 #[.val (.int xa), .val (.int xb), .val (.ref b2), .val (.ref b42), .val (.ref b56), .val (.int ((xb &&& (2147483647 : Int32)) % (7 : Int32))), .unset] [])) t → Steps p.tables e below (s₁.setTop (entryFrame m #[(.int xa), (.int xb)] maxLocals)) t := by
    intro t k
    refine pre76 t ?_
    refine XS.astore X75.here hx rfl (hb hby at_112) rfl rfl (l' := #[.val (.int xa), .val (.int xb), .val (.ref b2), .val (.ref b42), .val (.ref b56), .unset, .unset]) rfl ?_
    show Steps p.tables e below (T75.setTop (mkF m 114 #[.val (.int xa), .val (.int xb), .val (.ref b2), .val (.ref b42), .val (.ref b56), .unset, .unset] [])) _
    refine XS.iloadN X75.here hx rfl (hb hby at_114) rfl ?_
    show Steps p.tables e below (T75.setTop (mkF m 115 #[.val (.int xa), .val (.int xb), .val (.ref b2), .val (.ref b42), .val (.ref b56), .unset, .unset] [(.int xb)])) _
    refine X75.ldcInt hx hown (mvT hZ (hw _ (List.mem_of_getElem? (i := 125) rfl))) (g := (mkF m 115 #[.val (.int xa), .val (.int xb), .val (.ref b2), .val (.ref b42), .val (.ref b56), .unset, .unset] [(.int xb)])) rfl (hb hby at_115) _ ?_
    show Steps p.tables e below (T75.setTop (mkF m 117 #[.val (.int xa), .val (.int xb), .val (.ref b2), .val (.ref b42), .val (.ref b56), .unset, .unset] [(.int (2147483647 : Int32)), (.int xb)])) _
    refine XS.iand X75.here hx rfl (hb hby at_117) rfl ?_
    show Steps p.tables e below (T75.setTop (mkF m 118 #[.val (.int xa), .val (.int xb), .val (.ref b2), .val (.ref b42), .val (.ref b56), .unset, .unset] [(.int (xb &&& (2147483647 : Int32)))])) _
    refine XS.bipush X75.here hx rfl (hb hby at_118) ?_
    show Steps p.tables e below (T75.setTop (mkF m 120 #[.val (.int xa), .val (.int xb), .val (.ref b2), .val (.ref b42), .val (.ref b56), .unset, .unset] [(.int (7 : Int32)), (.int (xb &&& (2147483647 : Int32)))])) _
    refine iremM X75 hx rfl (hb hby at_120) rfl (by decide) ?_
    show Steps p.tables e below (T75.setTop (mkF m 121 #[.val (.int xa), .val (.int xb), .val (.ref b2), .val (.ref b42), .val (.ref b56), .unset, .unset] [(.int ((xb &&& (2147483647 : Int32)) % (7 : Int32)))])) _
    refine XS.istore X75.here hx rfl (hb hby at_121) rfl (l' := #[.val (.int xa), .val (.int xb), .val (.ref b2), .val (.ref b42), .val (.ref b56), .val (.int ((xb &&& (2147483647 : Int32)) % (7 : Int32))), .unset]) rfl ?_
    show Steps p.tables e below (T75.setTop (mkF m 123 #[.val (.int xa), .val (.int xb), .val (.ref b2), .val (.ref b42), .val (.ref b56), .val (.int ((xb &&& (2147483647 : Int32)) % (7 : Int32))), .unset] [])) _
    exact k
  obtain ⟨qq, hqq⟩ : ∃ z : Int32, z = ((xb &&& (2147483647 : Int32)) % (7 : Int32)) := ⟨_, rfl⟩
  rw [← hqq] at pre77
  have pre78 : ∀ t, Steps p.tables e below (T75.setTop (mkF m 132 #[.val (.int xa), .val (.int xb), .val (.ref b2), .val (.ref b42), .val (.ref b56), .val (.int qq), .val (.int (-1 : Int32))] [(.int (-1 : Int32)), (.int qq), (.int (1 : Int32)), (.ref b2)])) t → Steps p.tables e below (s₁.setTop (entryFrame m #[(.int xa), (.int xb)] maxLocals)) t := by
    intro t k
    refine pre77 t ?_
    refine XS.iconst X75.here hx rfl (hb hby at_123) ?_
    show Steps p.tables e below (T75.setTop (mkF m 124 #[.val (.int xa), .val (.int xb), .val (.ref b2), .val (.ref b42), .val (.ref b56), .val (.int qq), .unset] [(.int (-1 : Int32))])) _
    refine XS.istore X75.here hx rfl (hb hby at_124) rfl (l' := #[.val (.int xa), .val (.int xb), .val (.ref b2), .val (.ref b42), .val (.ref b56), .val (.int qq), .val (.int (-1 : Int32))]) rfl ?_
    show Steps p.tables e below (T75.setTop (mkF m 126 #[.val (.int xa), .val (.int xb), .val (.ref b2), .val (.ref b42), .val (.ref b56), .val (.int qq), .val (.int (-1 : Int32))] [])) _
    refine XS.aloadN X75.here hx rfl (hb hby at_126) rfl rfl ?_
    show Steps p.tables e below (T75.setTop (mkF m 127 #[.val (.int xa), .val (.int xb), .val (.ref b2), .val (.ref b42), .val (.ref b56), .val (.int qq), .val (.int (-1 : Int32))] [(.ref b2)])) _
    refine XS.iconst X75.here hx rfl (hb hby at_127) ?_
    show Steps p.tables e below (T75.setTop (mkF m 128 #[.val (.int xa), .val (.int xb), .val (.ref b2), .val (.ref b42), .val (.ref b56), .val (.int qq), .val (.int (-1 : Int32))] [(.int (1 : Int32)), (.ref b2)])) _
    refine XS.iload X75.here hx rfl (hb hby at_128) rfl ?_
    show Steps p.tables e below (T75.setTop (mkF m 130 #[.val (.int xa), .val (.int xb), .val (.ref b2), .val (.ref b42), .val (.ref b56), .val (.int qq), .val (.int (-1 : Int32))] [(.int qq), (.int (1 : Int32)), (.ref b2)])) _
    refine XS.iload X75.here hx rfl (hb hby at_130) rfl ?_
    show Steps p.tables e below (T75.setTop (mkF m 132 #[.val (.int xa), .val (.int xb), .val (.ref b2), .val (.ref b42), .val (.ref b56), .val (.int qq), .val (.int (-1 : Int32))] [(.int (-1 : Int32)), (.int qq), (.int (1 : Int32)), (.ref b2)])) _
    exact k
  have f79 := ((((((V40.ext E42).keep kp46 (ninS (Nat.ne_of_lt (Nat.lt_of_lt_of_le V40.lt (Nat.le_of_eq g42.symm))) nin0)).other W49 (Nat.ne_of_lt (Nat.lt_of_lt_of_le V40.lt (Nat.le_of_eq g42.symm)))).other W54 (Nat.ne_of_lt (Nat.lt_of_lt_of_le V40.lt (Nat.le_of_eq g42.symm)))).ext E56).keep kp75 (ninS (Nat.ne_of_lt (Nat.lt_of_lt_of_le ((((V40.ext E42).keep kp46 (ninS (Nat.ne_of_lt (Nat.lt_of_lt_of_le V40.lt (Nat.le_of_eq g42.symm))) nin0)).other W49 (Nat.ne_of_lt (Nat.lt_of_lt_of_le V40.lt (Nat.le_of_eq g42.symm)))).other W54 (Nat.ne_of_lt (Nat.lt_of_lt_of_le V40.lt (Nat.le_of_eq g42.symm)))).lt (Nat.le_of_eq g56.symm))) nin0))
  obtain ⟨_, _, ⟨T80, L80, k80, n80⟩, -, X80, ⟨Lc80, hQ80, l80, y80, z80⟩, st80⟩ := Jvm.LawKit.callS X75 hx (y := (⟨"com/example/xidr/xidr/xml/tree/TreePreviousSiblingPinLaw", "later", "([IIII)I"⟩ : MethodName)) hown (mvT hZ (hw _ (List.mem_of_getElem? (i := 126) rfl))) (mvT hZ (hw _ (List.mem_of_getElem? (i := 127) rfl))) (mvT hZ (hw _ (List.mem_of_getElem? (i := 3) rfl))) (mvT hZ (hw _ (List.mem_of_getElem? (i := 128) rfl))) (by decide) (backOf (W := 0) (rm_later l Z a0 hw [] b2 (1 : Int32) qq (-1 : Int32) k2 ([(-1 : Int32), (0 : Int32), p2, p3, p4, p5, p6] : List Int32) T75.heap n0 zz75 f79 (by decide) (own_q _ _ hqq)) hZ (hw _ (List.mem_of_getElem? (i := 128) rfl)) (hw _ (List.mem_of_getElem? (i := 3) rfl)) (by decide) (by decide)) (g := (mkF m 132 #[.val (.int xa), .val (.int xb), .val (.ref b2), .val (.ref b42), .val (.ref b56), .val (.int qq), .val (.int (-1 : Int32))] [(.int (-1 : Int32)), (.int qq), (.int (1 : Int32)), (.ref b2)])) rfl (by rw [hml]; rfl) (argsL := [(.ref b2), (.int (1 : Int32)), (.int qq), (.int (-1 : Int32))]) (rest := []) (lenOf pd3 rfl) rfl (by show 2 * 0 + _ ≤ _; exact Nat.le_of_eq rfl) (hb hby at_132) (fun _ _ => ⟨rfl, rfl, (by decide : 16 + 0 ≤ _), (by decide : 10285 + 0 ≤ _)⟩)
  dsimp only [Pt.U, Pt.locs, Pt.cells, Pt.slots] at X80 l80 y80 z80 st80 hQ80
  subst y80 z80
  obtain ⟨rfl, M80, e80⟩ := hQ80
  have N80 : Fr n0 L80 := by rw [l80]; exact Fr.app N75 M80
  clear l80
  have X80 : Stand p l e _ s m _ below meth c T80 _ 16 10285 := X80
  have pre81 : ∀ t, Steps p.tables e below (T80.setTop (mkF m 135 #[.val (.int xa), .val (.int xb), .val (.ref b2), .val (.ref b42), .val (.ref b56), .val (.int qq), .val (.int (-1 : Int32))] [(.int (F_rm_later (1 : Int32) qq (-1 : Int32) ([(-1 : Int32), (0 : Int32), p2, p3, p4, p5, p6] : List Int32)))])) t → Steps p.tables e below (s₁.setTop (entryFrame m #[(.int xa), (.int xb)] maxLocals)) t := fun t k => pre78 t (st80 t k)
  have pre82 : ∀ t, Steps p.tables e below (T80.setTop (mkF m 137 #[.val (.int xa), .val (.int xb), .val (.ref b2), .val (.ref b42), .val (.ref b56), .val (.int qq), .val (.int (F_rm_later (1 : Int32) qq (-1 : Int32) ([(-1 : Int32), (0 : Int32), p2, p3, p4, p5, p6] : List Int32)))] [])) t → Steps p.tables e below (s₁.setTop (entryFrame m #[(.int xa), (.int xb)] maxLocals)) t := by
    intro t k
    refine pre81 t ?_
    refine XS.istore X80.here hx rfl (hb hby at_135) rfl (l' := #[.val (.int xa), .val (.int xb), .val (.ref b2), .val (.ref b42), .val (.ref b56), .val (.int qq), .val (.int (F_rm_later (1 : Int32) qq (-1 : Int32) ([(-1 : Int32), (0 : Int32), p2, p3, p4, p5, p6] : List Int32)))]) rfl ?_
    show Steps p.tables e below (T80.setTop (mkF m 137 #[.val (.int xa), .val (.int xb), .val (.ref b2), .val (.ref b42), .val (.ref b56), .val (.int qq), .val (.int (F_rm_later (1 : Int32) qq (-1 : Int32) ([(-1 : Int32), (0 : Int32), p2, p3, p4, p5, p6] : List Int32)))] [])) _
    exact k
  obtain ⟨a1, ha1⟩ : ∃ z : Int32, z = (F_rm_later (1 : Int32) qq (-1 : Int32) ([(-1 : Int32), (0 : Int32), p2, p3, p4, p5, p6] : List Int32)) := ⟨_, rfl⟩
  rw [← ha1] at pre82
  have pre83 : ∀ t, Steps p.tables e below (T80.setTop (mkF m 143 #[.val (.int xa), .val (.int xb), .val (.ref b2), .val (.ref b42), .val (.ref b56), .val (.int qq), .val (.int a1)] [(.int a1), (.int qq), (.int (2 : Int32)), (.ref b2)])) t → Steps p.tables e below (s₁.setTop (entryFrame m #[(.int xa), (.int xb)] maxLocals)) t := by
    intro t k
    refine pre82 t ?_
    refine XS.aloadN X80.here hx rfl (hb hby at_137) rfl rfl ?_
    show Steps p.tables e below (T80.setTop (mkF m 138 #[.val (.int xa), .val (.int xb), .val (.ref b2), .val (.ref b42), .val (.ref b56), .val (.int qq), .val (.int a1)] [(.ref b2)])) _
    refine XS.iconst X80.here hx rfl (hb hby at_138) ?_
    show Steps p.tables e below (T80.setTop (mkF m 139 #[.val (.int xa), .val (.int xb), .val (.ref b2), .val (.ref b42), .val (.ref b56), .val (.int qq), .val (.int a1)] [(.int (2 : Int32)), (.ref b2)])) _
    refine XS.iload X80.here hx rfl (hb hby at_139) rfl ?_
    show Steps p.tables e below (T80.setTop (mkF m 141 #[.val (.int xa), .val (.int xb), .val (.ref b2), .val (.ref b42), .val (.ref b56), .val (.int qq), .val (.int a1)] [(.int qq), (.int (2 : Int32)), (.ref b2)])) _
    refine XS.iload X80.here hx rfl (hb hby at_141) rfl ?_
    show Steps p.tables e below (T80.setTop (mkF m 143 #[.val (.int xa), .val (.int xb), .val (.ref b2), .val (.ref b42), .val (.ref b56), .val (.int qq), .val (.int a1)] [(.int a1), (.int qq), (.int (2 : Int32)), (.ref b2)])) _
    exact k
  obtain ⟨_, _, ⟨T84, L84, k84, n84⟩, -, X84, ⟨Lc84, hQ84, l84, y84, z84⟩, st84⟩ := Jvm.LawKit.callS X80 hx (y := (⟨"com/example/xidr/xidr/xml/tree/TreePreviousSiblingPinLaw", "later", "([IIII)I"⟩ : MethodName)) hown (mvT hZ (hw _ (List.mem_of_getElem? (i := 126) rfl))) (mvT hZ (hw _ (List.mem_of_getElem? (i := 127) rfl))) (mvT hZ (hw _ (List.mem_of_getElem? (i := 3) rfl))) (mvT hZ (hw _ (List.mem_of_getElem? (i := 128) rfl))) (by decide) (backOf (W := 0) (rm_later l Z a0 hw [] b2 (2 : Int32) qq a1 k2 ([(-1 : Int32), (0 : Int32), p2, p3, p4, p5, p6] : List Int32) T75.heap n0 zz75 f79 (by decide) (own_q _ _ hqq)) hZ (hw _ (List.mem_of_getElem? (i := 128) rfl)) (hw _ (List.mem_of_getElem? (i := 3) rfl)) (by decide) (by decide)) (g := (mkF m 143 #[.val (.int xa), .val (.int xb), .val (.ref b2), .val (.ref b42), .val (.ref b56), .val (.int qq), .val (.int a1)] [(.int a1), (.int qq), (.int (2 : Int32)), (.ref b2)])) rfl (by rw [hml]; rfl) (argsL := [(.ref b2), (.int (2 : Int32)), (.int qq), (.int a1)]) (rest := []) (lenOf pd3 rfl) rfl (by show 2 * 0 + _ ≤ _; exact Nat.le_of_eq rfl) (hb hby at_143) (fun _ _ => ⟨rfl, e80, (by decide : 16 + 0 ≤ _), (by decide : 10285 + 0 ≤ _)⟩)
  dsimp only [Pt.U, Pt.locs, Pt.cells, Pt.slots] at X84 l84 y84 z84 st84 hQ84
  subst y84 z84
  obtain ⟨rfl, M84, e84⟩ := hQ84
  have N84 : Fr n0 L84 := by rw [l84]; exact Fr.app N80 M84
  clear l84
  have X84 : Stand p l e _ s m _ below meth c T84 _ 16 10285 := X84
  have pre85 : ∀ t, Steps p.tables e below (T84.setTop (mkF m 146 #[.val (.int xa), .val (.int xb), .val (.ref b2), .val (.ref b42), .val (.ref b56), .val (.int qq), .val (.int a1)] [(.int (F_rm_later (2 : Int32) qq a1 ([(-1 : Int32), (0 : Int32), p2, p3, p4, p5, p6] : List Int32)))])) t → Steps p.tables e below (s₁.setTop (entryFrame m #[(.int xa), (.int xb)] maxLocals)) t := fun t k => pre83 t (st84 t k)
  have pre86 : ∀ t, Steps p.tables e below (T84.setTop (mkF m 148 #[.val (.int xa), .val (.int xb), .val (.ref b2), .val (.ref b42), .val (.ref b56), .val (.int qq), .val (.int (F_rm_later (2 : Int32) qq a1 ([(-1 : Int32), (0 : Int32), p2, p3, p4, p5, p6] : List Int32)))] [])) t → Steps p.tables e below (s₁.setTop (entryFrame m #[(.int xa), (.int xb)] maxLocals)) t := by
    intro t k
    refine pre85 t ?_
    refine XS.istore X84.here hx rfl (hb hby at_146) rfl (l' := #[.val (.int xa), .val (.int xb), .val (.ref b2), .val (.ref b42), .val (.ref b56), .val (.int qq), .val (.int (F_rm_later (2 : Int32) qq a1 ([(-1 : Int32), (0 : Int32), p2, p3, p4, p5, p6] : List Int32)))]) rfl ?_
    show Steps p.tables e below (T84.setTop (mkF m 148 #[.val (.int xa), .val (.int xb), .val (.ref b2), .val (.ref b42), .val (.ref b56), .val (.int qq), .val (.int (F_rm_later (2 : Int32) qq a1 ([(-1 : Int32), (0 : Int32), p2, p3, p4, p5, p6] : List Int32)))] [])) _
    exact k
  obtain ⟨a2, ha2⟩ : ∃ z : Int32, z = (F_rm_later (2 : Int32) qq a1 ([(-1 : Int32), (0 : Int32), p2, p3, p4, p5, p6] : List Int32)) := ⟨_, rfl⟩
  rw [← ha2] at pre86
  have pre87 : ∀ t, Steps p.tables e below (T84.setTop (mkF m 154 #[.val (.int xa), .val (.int xb), .val (.ref b2), .val (.ref b42), .val (.ref b56), .val (.int qq), .val (.int a2)] [(.int a2), (.int qq), (.int (3 : Int32)), (.ref b2)])) t → Steps p.tables e below (s₁.setTop (entryFrame m #[(.int xa), (.int xb)] maxLocals)) t := by
    intro t k
    refine pre86 t ?_
    refine XS.aloadN X84.here hx rfl (hb hby at_148) rfl rfl ?_
    show Steps p.tables e below (T84.setTop (mkF m 149 #[.val (.int xa), .val (.int xb), .val (.ref b2), .val (.ref b42), .val (.ref b56), .val (.int qq), .val (.int a2)] [(.ref b2)])) _
    refine XS.iconst X84.here hx rfl (hb hby at_149) ?_
    show Steps p.tables e below (T84.setTop (mkF m 150 #[.val (.int xa), .val (.int xb), .val (.ref b2), .val (.ref b42), .val (.ref b56), .val (.int qq), .val (.int a2)] [(.int (3 : Int32)), (.ref b2)])) _
    refine XS.iload X84.here hx rfl (hb hby at_150) rfl ?_
    show Steps p.tables e below (T84.setTop (mkF m 152 #[.val (.int xa), .val (.int xb), .val (.ref b2), .val (.ref b42), .val (.ref b56), .val (.int qq), .val (.int a2)] [(.int qq), (.int (3 : Int32)), (.ref b2)])) _
    refine XS.iload X84.here hx rfl (hb hby at_152) rfl ?_
    show Steps p.tables e below (T84.setTop (mkF m 154 #[.val (.int xa), .val (.int xb), .val (.ref b2), .val (.ref b42), .val (.ref b56), .val (.int qq), .val (.int a2)] [(.int a2), (.int qq), (.int (3 : Int32)), (.ref b2)])) _
    exact k
  obtain ⟨_, _, ⟨T88, L88, k88, n88⟩, -, X88, ⟨Lc88, hQ88, l88, y88, z88⟩, st88⟩ := Jvm.LawKit.callS X84 hx (y := (⟨"com/example/xidr/xidr/xml/tree/TreePreviousSiblingPinLaw", "later", "([IIII)I"⟩ : MethodName)) hown (mvT hZ (hw _ (List.mem_of_getElem? (i := 126) rfl))) (mvT hZ (hw _ (List.mem_of_getElem? (i := 127) rfl))) (mvT hZ (hw _ (List.mem_of_getElem? (i := 3) rfl))) (mvT hZ (hw _ (List.mem_of_getElem? (i := 128) rfl))) (by decide) (backOf (W := 0) (rm_later l Z a0 hw [] b2 (3 : Int32) qq a2 k2 ([(-1 : Int32), (0 : Int32), p2, p3, p4, p5, p6] : List Int32) T75.heap n0 zz75 f79 (by decide) (own_q _ _ hqq)) hZ (hw _ (List.mem_of_getElem? (i := 128) rfl)) (hw _ (List.mem_of_getElem? (i := 3) rfl)) (by decide) (by decide)) (g := (mkF m 154 #[.val (.int xa), .val (.int xb), .val (.ref b2), .val (.ref b42), .val (.ref b56), .val (.int qq), .val (.int a2)] [(.int a2), (.int qq), (.int (3 : Int32)), (.ref b2)])) rfl (by rw [hml]; rfl) (argsL := [(.ref b2), (.int (3 : Int32)), (.int qq), (.int a2)]) (rest := []) (lenOf pd3 rfl) rfl (by show 2 * 0 + _ ≤ _; exact Nat.le_of_eq rfl) (hb hby at_154) (fun _ _ => ⟨rfl, e84, (by decide : 16 + 0 ≤ _), (by decide : 10285 + 0 ≤ _)⟩)
  dsimp only [Pt.U, Pt.locs, Pt.cells, Pt.slots] at X88 l88 y88 z88 st88 hQ88
  subst y88 z88
  obtain ⟨rfl, M88, e88⟩ := hQ88
  have N88 : Fr n0 L88 := by rw [l88]; exact Fr.app N84 M88
  clear l88
  have X88 : Stand p l e _ s m _ below meth c T88 _ 16 10285 := X88
  have pre89 : ∀ t, Steps p.tables e below (T88.setTop (mkF m 157 #[.val (.int xa), .val (.int xb), .val (.ref b2), .val (.ref b42), .val (.ref b56), .val (.int qq), .val (.int a2)] [(.int (F_rm_later (3 : Int32) qq a2 ([(-1 : Int32), (0 : Int32), p2, p3, p4, p5, p6] : List Int32)))])) t → Steps p.tables e below (s₁.setTop (entryFrame m #[(.int xa), (.int xb)] maxLocals)) t := fun t k => pre87 t (st88 t k)
  have pre90 : ∀ t, Steps p.tables e below (T88.setTop (mkF m 159 #[.val (.int xa), .val (.int xb), .val (.ref b2), .val (.ref b42), .val (.ref b56), .val (.int qq), .val (.int (F_rm_later (3 : Int32) qq a2 ([(-1 : Int32), (0 : Int32), p2, p3, p4, p5, p6] : List Int32)))] [])) t → Steps p.tables e below (s₁.setTop (entryFrame m #[(.int xa), (.int xb)] maxLocals)) t := by
    intro t k
    refine pre89 t ?_
    refine XS.istore X88.here hx rfl (hb hby at_157) rfl (l' := #[.val (.int xa), .val (.int xb), .val (.ref b2), .val (.ref b42), .val (.ref b56), .val (.int qq), .val (.int (F_rm_later (3 : Int32) qq a2 ([(-1 : Int32), (0 : Int32), p2, p3, p4, p5, p6] : List Int32)))]) rfl ?_
    show Steps p.tables e below (T88.setTop (mkF m 159 #[.val (.int xa), .val (.int xb), .val (.ref b2), .val (.ref b42), .val (.ref b56), .val (.int qq), .val (.int (F_rm_later (3 : Int32) qq a2 ([(-1 : Int32), (0 : Int32), p2, p3, p4, p5, p6] : List Int32)))] [])) _
    exact k
  obtain ⟨a3, ha3⟩ : ∃ z : Int32, z = (F_rm_later (3 : Int32) qq a2 ([(-1 : Int32), (0 : Int32), p2, p3, p4, p5, p6] : List Int32)) := ⟨_, rfl⟩
  rw [← ha3] at pre90
  have pre91 : ∀ t, Steps p.tables e below (T88.setTop (mkF m 165 #[.val (.int xa), .val (.int xb), .val (.ref b2), .val (.ref b42), .val (.ref b56), .val (.int qq), .val (.int a3)] [(.int a3), (.int qq), (.int (4 : Int32)), (.ref b2)])) t → Steps p.tables e below (s₁.setTop (entryFrame m #[(.int xa), (.int xb)] maxLocals)) t := by
    intro t k
    refine pre90 t ?_
    refine XS.aloadN X88.here hx rfl (hb hby at_159) rfl rfl ?_
    show Steps p.tables e below (T88.setTop (mkF m 160 #[.val (.int xa), .val (.int xb), .val (.ref b2), .val (.ref b42), .val (.ref b56), .val (.int qq), .val (.int a3)] [(.ref b2)])) _
    refine XS.iconst X88.here hx rfl (hb hby at_160) ?_
    show Steps p.tables e below (T88.setTop (mkF m 161 #[.val (.int xa), .val (.int xb), .val (.ref b2), .val (.ref b42), .val (.ref b56), .val (.int qq), .val (.int a3)] [(.int (4 : Int32)), (.ref b2)])) _
    refine XS.iload X88.here hx rfl (hb hby at_161) rfl ?_
    show Steps p.tables e below (T88.setTop (mkF m 163 #[.val (.int xa), .val (.int xb), .val (.ref b2), .val (.ref b42), .val (.ref b56), .val (.int qq), .val (.int a3)] [(.int qq), (.int (4 : Int32)), (.ref b2)])) _
    refine XS.iload X88.here hx rfl (hb hby at_163) rfl ?_
    show Steps p.tables e below (T88.setTop (mkF m 165 #[.val (.int xa), .val (.int xb), .val (.ref b2), .val (.ref b42), .val (.ref b56), .val (.int qq), .val (.int a3)] [(.int a3), (.int qq), (.int (4 : Int32)), (.ref b2)])) _
    exact k
  obtain ⟨_, _, ⟨T92, L92, k92, n92⟩, -, X92, ⟨Lc92, hQ92, l92, y92, z92⟩, st92⟩ := Jvm.LawKit.callS X88 hx (y := (⟨"com/example/xidr/xidr/xml/tree/TreePreviousSiblingPinLaw", "later", "([IIII)I"⟩ : MethodName)) hown (mvT hZ (hw _ (List.mem_of_getElem? (i := 126) rfl))) (mvT hZ (hw _ (List.mem_of_getElem? (i := 127) rfl))) (mvT hZ (hw _ (List.mem_of_getElem? (i := 3) rfl))) (mvT hZ (hw _ (List.mem_of_getElem? (i := 128) rfl))) (by decide) (backOf (W := 0) (rm_later l Z a0 hw [] b2 (4 : Int32) qq a3 k2 ([(-1 : Int32), (0 : Int32), p2, p3, p4, p5, p6] : List Int32) T75.heap n0 zz75 f79 (by decide) (own_q _ _ hqq)) hZ (hw _ (List.mem_of_getElem? (i := 128) rfl)) (hw _ (List.mem_of_getElem? (i := 3) rfl)) (by decide) (by decide)) (g := (mkF m 165 #[.val (.int xa), .val (.int xb), .val (.ref b2), .val (.ref b42), .val (.ref b56), .val (.int qq), .val (.int a3)] [(.int a3), (.int qq), (.int (4 : Int32)), (.ref b2)])) rfl (by rw [hml]; rfl) (argsL := [(.ref b2), (.int (4 : Int32)), (.int qq), (.int a3)]) (rest := []) (lenOf pd3 rfl) rfl (by show 2 * 0 + _ ≤ _; exact Nat.le_of_eq rfl) (hb hby at_165) (fun _ _ => ⟨rfl, e88, (by decide : 16 + 0 ≤ _), (by decide : 10285 + 0 ≤ _)⟩)
  dsimp only [Pt.U, Pt.locs, Pt.cells, Pt.slots] at X92 l92 y92 z92 st92 hQ92
  subst y92 z92
  obtain ⟨rfl, M92, e92⟩ := hQ92
  have N92 : Fr n0 L92 := by rw [l92]; exact Fr.app N88 M92
  clear l92
  have X92 : Stand p l e _ s m _ below meth c T92 _ 16 10285 := X92
  have pre93 : ∀ t, Steps p.tables e below (T92.setTop (mkF m 168 #[.val (.int xa), .val (.int xb), .val (.ref b2), .val (.ref b42), .val (.ref b56), .val (.int qq), .val (.int a3)] [(.int (F_rm_later (4 : Int32) qq a3 ([(-1 : Int32), (0 : Int32), p2, p3, p4, p5, p6] : List Int32)))])) t → Steps p.tables e below (s₁.setTop (entryFrame m #[(.int xa), (.int xb)] maxLocals)) t := fun t k => pre91 t (st92 t k)
  have pre94 : ∀ t, Steps p.tables e below (T92.setTop (mkF m 170 #[.val (.int xa), .val (.int xb), .val (.ref b2), .val (.ref b42), .val (.ref b56), .val (.int qq), .val (.int (F_rm_later (4 : Int32) qq a3 ([(-1 : Int32), (0 : Int32), p2, p3, p4, p5, p6] : List Int32)))] [])) t → Steps p.tables e below (s₁.setTop (entryFrame m #[(.int xa), (.int xb)] maxLocals)) t := by
    intro t k
    refine pre93 t ?_
    refine XS.istore X92.here hx rfl (hb hby at_168) rfl (l' := #[.val (.int xa), .val (.int xb), .val (.ref b2), .val (.ref b42), .val (.ref b56), .val (.int qq), .val (.int (F_rm_later (4 : Int32) qq a3 ([(-1 : Int32), (0 : Int32), p2, p3, p4, p5, p6] : List Int32)))]) rfl ?_
    show Steps p.tables e below (T92.setTop (mkF m 170 #[.val (.int xa), .val (.int xb), .val (.ref b2), .val (.ref b42), .val (.ref b56), .val (.int qq), .val (.int (F_rm_later (4 : Int32) qq a3 ([(-1 : Int32), (0 : Int32), p2, p3, p4, p5, p6] : List Int32)))] [])) _
    exact k
  obtain ⟨a4, ha4⟩ : ∃ z : Int32, z = (F_rm_later (4 : Int32) qq a3 ([(-1 : Int32), (0 : Int32), p2, p3, p4, p5, p6] : List Int32)) := ⟨_, rfl⟩
  rw [← ha4] at pre94
  have pre95 : ∀ t, Steps p.tables e below (T92.setTop (mkF m 176 #[.val (.int xa), .val (.int xb), .val (.ref b2), .val (.ref b42), .val (.ref b56), .val (.int qq), .val (.int a4)] [(.int a4), (.int qq), (.int (5 : Int32)), (.ref b2)])) t → Steps p.tables e below (s₁.setTop (entryFrame m #[(.int xa), (.int xb)] maxLocals)) t := by
    intro t k
    refine pre94 t ?_
    refine XS.aloadN X92.here hx rfl (hb hby at_170) rfl rfl ?_
    show Steps p.tables e below (T92.setTop (mkF m 171 #[.val (.int xa), .val (.int xb), .val (.ref b2), .val (.ref b42), .val (.ref b56), .val (.int qq), .val (.int a4)] [(.ref b2)])) _
    refine XS.iconst X92.here hx rfl (hb hby at_171) ?_
    show Steps p.tables e below (T92.setTop (mkF m 172 #[.val (.int xa), .val (.int xb), .val (.ref b2), .val (.ref b42), .val (.ref b56), .val (.int qq), .val (.int a4)] [(.int (5 : Int32)), (.ref b2)])) _
    refine XS.iload X92.here hx rfl (hb hby at_172) rfl ?_
    show Steps p.tables e below (T92.setTop (mkF m 174 #[.val (.int xa), .val (.int xb), .val (.ref b2), .val (.ref b42), .val (.ref b56), .val (.int qq), .val (.int a4)] [(.int qq), (.int (5 : Int32)), (.ref b2)])) _
    refine XS.iload X92.here hx rfl (hb hby at_174) rfl ?_
    show Steps p.tables e below (T92.setTop (mkF m 176 #[.val (.int xa), .val (.int xb), .val (.ref b2), .val (.ref b42), .val (.ref b56), .val (.int qq), .val (.int a4)] [(.int a4), (.int qq), (.int (5 : Int32)), (.ref b2)])) _
    exact k
  obtain ⟨_, _, ⟨T96, L96, k96, n96⟩, -, X96, ⟨Lc96, hQ96, l96, y96, z96⟩, st96⟩ := Jvm.LawKit.callS X92 hx (y := (⟨"com/example/xidr/xidr/xml/tree/TreePreviousSiblingPinLaw", "later", "([IIII)I"⟩ : MethodName)) hown (mvT hZ (hw _ (List.mem_of_getElem? (i := 126) rfl))) (mvT hZ (hw _ (List.mem_of_getElem? (i := 127) rfl))) (mvT hZ (hw _ (List.mem_of_getElem? (i := 3) rfl))) (mvT hZ (hw _ (List.mem_of_getElem? (i := 128) rfl))) (by decide) (backOf (W := 0) (rm_later l Z a0 hw [] b2 (5 : Int32) qq a4 k2 ([(-1 : Int32), (0 : Int32), p2, p3, p4, p5, p6] : List Int32) T75.heap n0 zz75 f79 (by decide) (own_q _ _ hqq)) hZ (hw _ (List.mem_of_getElem? (i := 128) rfl)) (hw _ (List.mem_of_getElem? (i := 3) rfl)) (by decide) (by decide)) (g := (mkF m 176 #[.val (.int xa), .val (.int xb), .val (.ref b2), .val (.ref b42), .val (.ref b56), .val (.int qq), .val (.int a4)] [(.int a4), (.int qq), (.int (5 : Int32)), (.ref b2)])) rfl (by rw [hml]; rfl) (argsL := [(.ref b2), (.int (5 : Int32)), (.int qq), (.int a4)]) (rest := []) (lenOf pd3 rfl) rfl (by show 2 * 0 + _ ≤ _; exact Nat.le_of_eq rfl) (hb hby at_176) (fun _ _ => ⟨rfl, e92, (by decide : 16 + 0 ≤ _), (by decide : 10285 + 0 ≤ _)⟩)
  dsimp only [Pt.U, Pt.locs, Pt.cells, Pt.slots] at X96 l96 y96 z96 st96 hQ96
  subst y96 z96
  obtain ⟨rfl, M96, e96⟩ := hQ96
  have N96 : Fr n0 L96 := by rw [l96]; exact Fr.app N92 M96
  clear l96
  have X96 : Stand p l e _ s m _ below meth c T96 _ 16 10285 := X96
  have pre97 : ∀ t, Steps p.tables e below (T96.setTop (mkF m 179 #[.val (.int xa), .val (.int xb), .val (.ref b2), .val (.ref b42), .val (.ref b56), .val (.int qq), .val (.int a4)] [(.int (F_rm_later (5 : Int32) qq a4 ([(-1 : Int32), (0 : Int32), p2, p3, p4, p5, p6] : List Int32)))])) t → Steps p.tables e below (s₁.setTop (entryFrame m #[(.int xa), (.int xb)] maxLocals)) t := fun t k => pre95 t (st96 t k)
  have pre98 : ∀ t, Steps p.tables e below (T96.setTop (mkF m 181 #[.val (.int xa), .val (.int xb), .val (.ref b2), .val (.ref b42), .val (.ref b56), .val (.int qq), .val (.int (F_rm_later (5 : Int32) qq a4 ([(-1 : Int32), (0 : Int32), p2, p3, p4, p5, p6] : List Int32)))] [])) t → Steps p.tables e below (s₁.setTop (entryFrame m #[(.int xa), (.int xb)] maxLocals)) t := by
    intro t k
    refine pre97 t ?_
    refine XS.istore X96.here hx rfl (hb hby at_179) rfl (l' := #[.val (.int xa), .val (.int xb), .val (.ref b2), .val (.ref b42), .val (.ref b56), .val (.int qq), .val (.int (F_rm_later (5 : Int32) qq a4 ([(-1 : Int32), (0 : Int32), p2, p3, p4, p5, p6] : List Int32)))]) rfl ?_
    show Steps p.tables e below (T96.setTop (mkF m 181 #[.val (.int xa), .val (.int xb), .val (.ref b2), .val (.ref b42), .val (.ref b56), .val (.int qq), .val (.int (F_rm_later (5 : Int32) qq a4 ([(-1 : Int32), (0 : Int32), p2, p3, p4, p5, p6] : List Int32)))] [])) _
    exact k
  obtain ⟨a5, ha5⟩ : ∃ z : Int32, z = (F_rm_later (5 : Int32) qq a4 ([(-1 : Int32), (0 : Int32), p2, p3, p4, p5, p6] : List Int32)) := ⟨_, rfl⟩
  rw [← ha5] at pre98
  have pre99 : ∀ t, Steps p.tables e below (T96.setTop (mkF m 188 #[.val (.int xa), .val (.int xb), .val (.ref b2), .val (.ref b42), .val (.ref b56), .val (.int qq), .val (.int a5)] [(.int a5), (.int qq), (.int (6 : Int32)), (.ref b2)])) t → Steps p.tables e below (s₁.setTop (entryFrame m #[(.int xa), (.int xb)] maxLocals)) t := by
    intro t k
    refine pre98 t ?_
    refine XS.aloadN X96.here hx rfl (hb hby at_181) rfl rfl ?_
    show Steps p.tables e below (T96.setTop (mkF m 182 #[.val (.int xa), .val (.int xb), .val (.ref b2), .val (.ref b42), .val (.ref b56), .val (.int qq), .val (.int a5)] [(.ref b2)])) _
    refine XS.bipush X96.here hx rfl (hb hby at_182) ?_
    show Steps p.tables e below (T96.setTop (mkF m 184 #[.val (.int xa), .val (.int xb), .val (.ref b2), .val (.ref b42), .val (.ref b56), .val (.int qq), .val (.int a5)] [(.int (6 : Int32)), (.ref b2)])) _
    refine XS.iload X96.here hx rfl (hb hby at_184) rfl ?_
    show Steps p.tables e below (T96.setTop (mkF m 186 #[.val (.int xa), .val (.int xb), .val (.ref b2), .val (.ref b42), .val (.ref b56), .val (.int qq), .val (.int a5)] [(.int qq), (.int (6 : Int32)), (.ref b2)])) _
    refine XS.iload X96.here hx rfl (hb hby at_186) rfl ?_
    show Steps p.tables e below (T96.setTop (mkF m 188 #[.val (.int xa), .val (.int xb), .val (.ref b2), .val (.ref b42), .val (.ref b56), .val (.int qq), .val (.int a5)] [(.int a5), (.int qq), (.int (6 : Int32)), (.ref b2)])) _
    exact k
  obtain ⟨_, _, ⟨T100, L100, k100, n100⟩, -, X100, ⟨Lc100, hQ100, l100, y100, z100⟩, st100⟩ := Jvm.LawKit.callS X96 hx (y := (⟨"com/example/xidr/xidr/xml/tree/TreePreviousSiblingPinLaw", "later", "([IIII)I"⟩ : MethodName)) hown (mvT hZ (hw _ (List.mem_of_getElem? (i := 126) rfl))) (mvT hZ (hw _ (List.mem_of_getElem? (i := 127) rfl))) (mvT hZ (hw _ (List.mem_of_getElem? (i := 3) rfl))) (mvT hZ (hw _ (List.mem_of_getElem? (i := 128) rfl))) (by decide) (backOf (W := 0) (rm_later l Z a0 hw [] b2 (6 : Int32) qq a5 k2 ([(-1 : Int32), (0 : Int32), p2, p3, p4, p5, p6] : List Int32) T75.heap n0 zz75 f79 (by decide) (own_q _ _ hqq)) hZ (hw _ (List.mem_of_getElem? (i := 128) rfl)) (hw _ (List.mem_of_getElem? (i := 3) rfl)) (by decide) (by decide)) (g := (mkF m 188 #[.val (.int xa), .val (.int xb), .val (.ref b2), .val (.ref b42), .val (.ref b56), .val (.int qq), .val (.int a5)] [(.int a5), (.int qq), (.int (6 : Int32)), (.ref b2)])) rfl (by rw [hml]; rfl) (argsL := [(.ref b2), (.int (6 : Int32)), (.int qq), (.int a5)]) (rest := []) (lenOf pd3 rfl) rfl (by show 2 * 0 + _ ≤ _; exact Nat.le_of_eq rfl) (hb hby at_188) (fun _ _ => ⟨rfl, e96, (by decide : 16 + 0 ≤ _), (by decide : 10285 + 0 ≤ _)⟩)
  dsimp only [Pt.U, Pt.locs, Pt.cells, Pt.slots] at X100 l100 y100 z100 st100 hQ100
  subst y100 z100
  obtain ⟨rfl, M100, e100⟩ := hQ100
  have N100 : Fr n0 L100 := by rw [l100]; exact Fr.app N96 M100
  clear l100
  have X100 : Stand p l e _ s m _ below meth c T100 _ 16 10285 := X100
  have pre101 : ∀ t, Steps p.tables e below (T100.setTop (mkF m 191 #[.val (.int xa), .val (.int xb), .val (.ref b2), .val (.ref b42), .val (.ref b56), .val (.int qq), .val (.int a5)] [(.int (F_rm_later (6 : Int32) qq a5 ([(-1 : Int32), (0 : Int32), p2, p3, p4, p5, p6] : List Int32)))])) t → Steps p.tables e below (s₁.setTop (entryFrame m #[(.int xa), (.int xb)] maxLocals)) t := fun t k => pre99 t (st100 t k)
  have pre102 : ∀ t, Steps p.tables e below (T100.setTop (mkF m 193 #[.val (.int xa), .val (.int xb), .val (.ref b2), .val (.ref b42), .val (.ref b56), .val (.int qq), .val (.int (F_rm_later (6 : Int32) qq a5 ([(-1 : Int32), (0 : Int32), p2, p3, p4, p5, p6] : List Int32)))] [])) t → Steps p.tables e below (s₁.setTop (entryFrame m #[(.int xa), (.int xb)] maxLocals)) t := by
    intro t k
    refine pre101 t ?_
    refine XS.istore X100.here hx rfl (hb hby at_191) rfl (l' := #[.val (.int xa), .val (.int xb), .val (.ref b2), .val (.ref b42), .val (.ref b56), .val (.int qq), .val (.int (F_rm_later (6 : Int32) qq a5 ([(-1 : Int32), (0 : Int32), p2, p3, p4, p5, p6] : List Int32)))]) rfl ?_
    show Steps p.tables e below (T100.setTop (mkF m 193 #[.val (.int xa), .val (.int xb), .val (.ref b2), .val (.ref b42), .val (.ref b56), .val (.int qq), .val (.int (F_rm_later (6 : Int32) qq a5 ([(-1 : Int32), (0 : Int32), p2, p3, p4, p5, p6] : List Int32)))] [])) _
    exact k
  obtain ⟨a6, ha6⟩ : ∃ z : Int32, z = (F_rm_later (6 : Int32) qq a5 ([(-1 : Int32), (0 : Int32), p2, p3, p4, p5, p6] : List Int32)) := ⟨_, rfl⟩
  rw [← ha6] at pre102
  have pre103 : ∀ t, Steps p.tables e below (T100.setTop (mkF m 197 #[.val (.int xa), .val (.int xb), .val (.ref b2), .val (.ref b42), .val (.ref b56), .val (.int qq), .val (.int a6)] [(.int qq), (.ref b56)])) t → Steps p.tables e below (s₁.setTop (entryFrame m #[(.int xa), (.int xb)] maxLocals)) t := by
    intro t k
    refine pre102 t ?_
    refine XS.aload X100.here hx rfl (hb hby at_193) rfl rfl ?_
    show Steps p.tables e below (T100.setTop (mkF m 195 #[.val (.int xa), .val (.int xb), .val (.ref b2), .val (.ref b42), .val (.ref b56), .val (.int qq), .val (.int a6)] [(.ref b56)])) _
    refine XS.iload X100.here hx rfl (hb hby at_195) rfl ?_
    show Steps p.tables e below (T100.setTop (mkF m 197 #[.val (.int xa), .val (.int xb), .val (.ref b2), .val (.ref b42), .val (.ref b56), .val (.int qq), .val (.int a6)] [(.int qq), (.ref b56)])) _
    exact k
  obtain ⟨cq104, kq104, q104a, q104b, q104c⟩ := isOf hZ e100 f75_0
  obtain ⟨_, _, ⟨T104, L104, k104, n104⟩, -, X104, ⟨Lc104, hQ104, l104, y104, z104⟩, st104⟩ := X100.virtualBack hx (y := (⟨"com/example/xidr/xidr/xml/tree/Tree", "previousSibling", "(I)I"⟩ : MethodName)) (z := (⟨"com/example/xidr/xidr/xml/tree/Tree", "previousSibling", "(I)I"⟩ : MethodName)) hown (mvT hZ (hw _ (List.mem_of_getElem? (i := 129) rfl))) (mvT hZ (hw _ (List.mem_of_getElem? (i := 130) rfl))) (notFace_of_selects (args := #[]) (mvT hZ (hw _ (List.mem_of_getElem? (i := 132) rfl)))) (mvT hZ (hw _ (List.mem_of_getElem? (i := 132) rfl))) (mvT hZ (hw _ (List.mem_of_getElem? (i := 131) rfl))) (by decide) (backOf (W := 0) (rm_prev l Z a0 hw [] b56 qq k2 ([(-1 : Int32), (0 : Int32), p2, p3, p4, p5, p6] : List Int32) b2 T75.heap n0 zz75 f75_1 f79 (own_okP _ _ _ _ _ _ G6 (own_q _ _ hqq))) hZ (hw _ (List.mem_of_getElem? (i := 133) rfl)) (hw _ (List.mem_of_getElem? (i := 70) rfl)) (by decide) (by decide)) q104a q104c (g := (mkF m 197 #[.val (.int xa), .val (.int xb), .val (.ref b2), .val (.ref b42), .val (.ref b56), .val (.int qq), .val (.int a6)] [(.int qq), (.ref b56)])) rfl (by rw [hml]; rfl) (Steps.refl _) (argsL := [(.int qq)]) (rest := []) (lenOf pd4 rfl) rfl (by show 2 * 0 + _ ≤ _; exact Nat.le_of_eq rfl) (hb hby at_197) (fun _ _ => ⟨rfl, e100, (by decide : 16 + 0 ≤ _), (by decide : 10285 + 0 ≤ _)⟩)
  dsimp only [Pt.U, Pt.locs, Pt.cells, Pt.slots] at X104 l104 y104 z104 st104 hQ104
  subst y104 z104
  obtain ⟨rfl, M104, e104⟩ := hQ104
  have N104 : Fr n0 L104 := by rw [l104]; exact Fr.app N100 M104
  clear l104
  have X104 : Stand p l e _ s m _ below meth c T104 _ 16 10285 := X104
  have pre105 : ∀ t, Steps p.tables e below (T104.setTop (mkF m 200 #[.val (.int xa), .val (.int xb), .val (.ref b2), .val (.ref b42), .val (.ref b56), .val (.int qq), .val (.int a6)] [(.int (F_rm_prev qq ([(-1 : Int32), (0 : Int32), p2, p3, p4, p5, p6] : List Int32)))])) t → Steps p.tables e below (s₁.setTop (entryFrame m #[(.int xa), (.int xb)] maxLocals)) t := fun t k => pre103 t (st104.trans k)
  have pre106 : ∀ t, Steps p.tables e below (T104.setTop (mkF m 210 #[.val (.int xa), .val (.int xb), .val (.ref b2), .val (.ref b42), .val (.ref b56), .val (.int qq), .val (.int a6)] [(.int (1 : Int32))])) t → Steps p.tables e below (s₁.setTop (entryFrame m #[(.int xa), (.int xb)] maxLocals)) t := by
    intro t k
    refine pre105 t ?_
    refine XS.iload X104.here hx rfl (hb hby at_200) rfl ?_
    show Steps p.tables e below (T104.setTop (mkF m 202 #[.val (.int xa), .val (.int xb), .val (.ref b2), .val (.ref b42), .val (.ref b56), .val (.int qq), .val (.int a6)] [(.int a6), (.int (F_rm_prev qq ([(-1 : Int32), (0 : Int32), p2, p3, p4, p5, p6] : List Int32)))])) _
    refine XS.icmpNo X104.here hx rfl (hb hby at_202) rfl (teq (show (F_rm_prev qq ([(-1 : Int32), (0 : Int32), p2, p3, p4, p5, p6] : List Int32)) = a6 from own_fin _ _ _ _ _ _ _ _ _ _ _ _ G6 (own_q _ _ hqq) ha1 ha2 ha3 ha4 ha5 ha6)).2 ?_
    show Steps p.tables e below (T104.setTop (mkF m 205 #[.val (.int xa), .val (.int xb), .val (.ref b2), .val (.ref b42), .val (.ref b56), .val (.int qq), .val (.int a6)] [])) _
    refine XS.iconst X104.here hx rfl (hb hby at_205) ?_
    show Steps p.tables e below (T104.setTop (mkF m 206 #[.val (.int xa), .val (.int xb), .val (.ref b2), .val (.ref b42), .val (.ref b56), .val (.int qq), .val (.int a6)] [(.int (1 : Int32))])) _
    refine XS.goto X104.here hx rfl (pc0 := 206) (pc' := 210) rfl (hb hby at_206) (by decide) (by decide) ?_
    show Steps p.tables e below (T104.setTop (mkF m 210 #[.val (.int xa), .val (.int xb), .val (.ref b2), .val (.ref b42), .val (.ref b56), .val (.int qq), .val (.int a6)] [(.int (1 : Int32))])) _
    exact k
  obtain ⟨fs, hr, hrun, hended, hW, hsame⟩ := X104.leave (v := some (.int (1 : Int32))) (fun h => by rw [Bd.returns] at h; cases h)
  refine ⟨_, _, pre106 _ ?_, hrun, hended, _, _, rfl, ?_, ⟨_, rfl⟩, hW, hsame.mono (by decide) (by decide)⟩
  · exact retN X104 hx (t := .boolean) Bd.returns (by simp) (hb hby at_210) hr
  · show Q_rm0 Z xa xb wl h0 n0 _ T104.heap _
    rw [e104]
    exact ⟨rfl, N104⟩
set_option maxRecDepth 65536 in
set_option maxHeartbeats 40000000 in
theorem comes_1 {Post : Tables → Env → Array Value → State → Outcome → State → Prop} (hpost : ∀ tb e args s v u, (limb_1_1.after args s (.returned v) u = true ∧ limb_1_2.after args s (.returned v) u = true ∧ True) → FrameEnd s (.returned v) u (Jvm.fieldLocs frame_1_writes args s ++ Jvm.arrayLocs frame_1_arrays args s ++ Jvm.staticLocs frame_1_statics s) 40 20672 → Post tb e args s (.returned v) u) :
    ArmFor flags0 classFile x code maxLocals ret World_1 tables_1 room_1 Calls_1 rest_1 Pre_1 Post := by
  intro l hfl _ _ p e ha hc hk s m args below hf hA hF happ hP
  obtain ⟨hcalls, hrest, hpre⟩ := hP
  obtain ⟨-, -, -, hnamed, -, -, -, hat⟩ := (Spec.applies_iff hf).mp happ
  obtain ⟨hg, hn⟩ := and_e (Cond.before_iff.mp (show (Jvm.Cond.and given_1 narrow_1).before args s = true from hpre))
  obtain ⟨ga1, gb1⟩ := and_e hg
  obtain ⟨ga2, gb2⟩ := and_e gb1
  obtain ⟨w0, w1, rfl⟩ : ∃ w0 w1 : Value, args = #[w0, w1] := by
    have hs : args.size = 2 := by simpa [Cond.value, given_1] using ga1
    obtain ⟨L⟩ := args
    match L, hs with
    | [w0, w1], _ => exact ⟨w0, w1, rfl⟩
  have hw := fun d (hd : d ∈ tables_1) => atoms_spec (ws := Jvm.Cond.code x code maxLocals ret :: tables_1) hat d (List.mem_cons_of_mem _ hd)
  have hfit : Fit s := fun {y c} hc i hi => by
    obtain ⟨ha, rfl⟩ := Array.getElem?_eq_some_iff.mp hc
    have q := List.all_eq_true.mp ((Array.all_eq_true_iff_forall_mem.mp hF) _ (Array.getElem_mem ha)) i (List.mem_range.mpr hi)
    simpa [Array.getElem?_eq_getElem hi] using q
  obtain ⟨hsets, hown0⟩ := atoms_of _ (rest_1_c_eq ▸ (show rest_1_c.before _ s = true from hrest))
  have hr0 := Cond.before_iff.mp hown0
  obtain ⟨i0, ei0⟩ := is_v ga2
  obtain rfl : w0 = (.int i0) := Option.some.inj ei0
  obtain ⟨i1, ei1⟩ := is_v gb2
  obtain rfl : w1 = (.int i1) := Option.some.inj ei1
  obtain ⟨wl, ewl⟩ := exa_v (Cond.before_iff.mp (hsets _ (List.mem_of_getElem? (i := 7) rfl)))
  have SD := Sta.start ewl (Or.inr ⟨(hw _ (List.mem_of_getElem? (i := 33) rfl)), (hsets _ (List.mem_of_getElem? (i := 2) rfl))⟩)
  obtain ⟨n, o, h1, h2, h3, _, L, rfl, ⟨rfl, N⟩, hq⟩ := rm0 l s _ hw tables_1 i0 i1 wl s.heap s.heap.size (Nat.le_refl _) SD p e ha hc hk s m _ below hf ((Spec.applies_iff_loose hf).mp happ).1 ⟨rfl, State.Warmed39.refl s, rfl⟩ trivial
  refine ⟨n, _, h1, h2, h3, hpost _ _ _ _ _ _ ⟨Cond.after_iff.mpr rfl, Cond.after_iff.mpr (eq_i res_at (Term.int_eval (1)) rfl), trivial⟩ ⟨hq.1, hq.2.1, (hq.2.2.sift fun y hy => Or.inr (N y hy)).mono (by decide) (by decide)⟩⟩
theorem main_1_1 : Claimed_1_1 := comes_1 fun _ _ _ _ _ _ h hF => ⟨h.1, hF⟩
theorem main_1_2 : Claimed_1_2 := comes_1 fun _ _ _ _ _ _ h hF => ⟨h.2.1, hF⟩
end Jvm.Pilot.@@N@@
namespace Jvm.Pilot.@@N@@
open Jvm Jvm.ClassFile Sem Op Lib Jvm.Free Jvm.Stand Jvm.Pilot.@@N@@.Jvm.D
/-! MADE BY PROGRAM (witnessworld.py) out of the Statement's table words and the real class files: 19 classes; the members and pool entries that the words name. The judged class is class 1, her method 1. -/
namespace start1
open Jvm.ClassFile
def u (s : String) : CpInfo := .utf8 (stringToUtf16 s)
/-- a pool by its gaps: so many unusable entries, then the entry; so many at the end -/
def gap : Nat → List CpInfo → List CpInfo
  | 0, r => r
  | n + 1, r => .unusable :: gap n r
def poolList (es : List (Nat × CpInfo)) (last : Nat) : List CpInfo := es.foldr (fun e r => gap e.1 (e.2 :: r)) (gap last [])
def pool (es : List (Nat × CpInfo)) (last : Nat) : Array CpInfo := ⟨poolList es last⟩
def fileOf (pool : Array CpInfo) (this : Nat) (attrs : Array Attribute := #[]) (ms : Array MethodInfo := #[]) (fl : Nat := 33) (sup : Nat := 0) (ifs : Array Nat := #[]) (fds : Array FieldInfo := #[]) : ClassFile where
  minorVersion := 0
  majorVersion := 65
  constantPool := pool
  accessFlags := fl
  thisClass := this
  superClass := sup
  interfaces := ifs
  fields := fds
  methods := ms
  attributes := attrs
def plain (name : String) (sup : Option ClassId) : Class where
  name := name
  kind := .ordinary
  loader := none
  accessFlags := 33
  super := sup
  interfaces := #[]
  cf := none
  fields := #[]
  methods := #[]
  instanceTypes := #[]
  staticTypes := #[]
  resolved := #[]
  callSites := []
  init := .initialized
  statics := none
  mirror := none

def pool0 : Array CpInfo := pool [(5, u "<init>"), (0, u "()V"), (1, .class_ 10), (1, u "java/lang/Object")] 113

def k0c0 : Code := { maxStack := 0, maxLocals := 1, code := object_method_1_code, exceptionTable := #[], attributes := #[] }
def k0m0 : Method := { name := "<init>", desc := "()V", sig := { parameters := [], returnType := none }, accessFlags := 1, code := some k0c0 }
/-- java/lang/Object -/
def k0 : Class := { plain "java/lang/Object" none with
  accessFlags := 33
  interfaces := #[]
  cf := some (fileOf pool0 8 #[] #[{ accessFlags := 1, nameIndex := 5, descriptorIndex := 6, attributes := #[] }] 33 0 #[] #[])
  fields := #[]
  methods := #[k0m0]
  instanceTypes := #[]
  staticTypes := #[]
  resolved := Array.replicate 124 none
  statics := none }

def pool1 : Array CpInfo := pool [(2, .class_ 4), (0, .nameAndType 5 6), (0, u "java/lang/Object"), (0, u "<init>"), (0, u "()V"), (0, .class_ 8), (0, u "com/example/xidr/xidr/xml/tree/Tree"), (0, .methodref 10 11), (0, .class_ 12), (0, .nameAndType 13 14), (0, u "com/example/xidr/xidr/xml/tree/TreePreviousSiblingPinLaw"), (0, u "up"), (0, u "([III)I"), (0, .class_ 16), (0, u "com/example/xidr/xidr/xml/tree/TreeBuilder$Parts"), (0, .methodref 15 3), (0, .fieldref 15 19), (0, .nameAndType 20 21), (0, u "parents"), (0, u "[I"), (0, .fieldref 15 23), (0, .nameAndType 24 25), (0, u "nodeCount"), (0, u "I"), (0, .methodref 7 27), (0, .nameAndType 5 28), (0, u "(Lcom/example/xidr/xidr/xml/tree/TreeBuilder$Parts;)V"), (0, .integer 2147483647), (0, .methodref 10 31), (0, .nameAndType 32 33), (0, u "later"), (0, u "([IIII)I"), (0, .methodref 7 35), (0, .nameAndType 36 37), (0, u "previousSibling"), (0, u "(I)I"), (2, u "law"), (0, u "(II)Z")] 8

def k1m0 : Method := { name := "<init>", desc := "()V", sig := { parameters := [], returnType := none }, accessFlags := 1, code := none }
def k1c1 : Code := { maxStack := 6, maxLocals := 7, code := code, exceptionTable := #[], attributes := #[] }
def k1m1 : Method := { name := "law", desc := "(II)Z", sig := { parameters := [.int, .int], returnType := some .boolean }, accessFlags := 9, code := some k1c1 }
def k1c2 : Code := { maxStack := 2, maxLocals := 4, code := method_3_code, exceptionTable := #[], attributes := #[] }
def k1m2 : Method := { name := "up", desc := "([III)I", sig := { parameters := [(.array .int), .int, .int], returnType := some .int }, accessFlags := 10, code := some k1c2 }
def k1c3 : Code := { maxStack := 3, maxLocals := 4, code := method_4_code, exceptionTable := #[], attributes := #[] }
def k1m3 : Method := { name := "later", desc := "([IIII)I", sig := { parameters := [(.array .int), .int, .int, .int], returnType := some .int }, accessFlags := 10, code := some k1c3 }
/-- com/example/xidr/xidr/xml/tree/TreePreviousSiblingPinLaw -/
def k1 : Class := { plain "com/example/xidr/xidr/xml/tree/TreePreviousSiblingPinLaw" (some 0) with
  accessFlags := 49
  interfaces := #[]
  cf := some (fileOf pool1 10 #[] #[{ accessFlags := 1, nameIndex := 5, descriptorIndex := 6, attributes := #[] }, { accessFlags := 9, nameIndex := 40, descriptorIndex := 41, attributes := #[] }, { accessFlags := 10, nameIndex := 13, descriptorIndex := 14, attributes := #[] }, { accessFlags := 10, nameIndex := 32, descriptorIndex := 33, attributes := #[] }] 49 2 #[] #[])
  fields := #[]
  methods := #[k1m0, k1m1, k1m2, k1m3]
  instanceTypes := #[]
  staticTypes := #[]
  resolved := Array.replicate 50 none
  statics := none }

def pool2 : Array CpInfo := pool [(1, .class_ 2), (0, u "com/example/xidr/xidr/xml/tree/TreeBuilder"), (0, .methodref 4 5), (0, .class_ 6), (0, .nameAndType 7 8), (0, u "java/lang/Object"), (0, u "<init>"), (0, u "()V"), (0, .fieldref 10 11), (0, .class_ 12), (0, .nameAndType 13 14), (0, u "com/example/xidr/xidr/xml/tree/TreeBuilder$Parts"), (0, u "kinds"), (0, u "[B"), (0, .fieldref 10 16), (0, .nameAndType 17 18), (0, u "parents"), (0, u "[I"), (0, .fieldref 10 20), (0, .nameAndType 21 18), (0, u "nextSiblings"), (0, .fieldref 10 23), (0, .nameAndType 24 18), (0, u "data"), (0, .fieldref 10 26), (0, .nameAndType 27 18), (0, u "owners"), (0, .fieldref 10 29), (0, .nameAndType 30 18), (0, u "attributeNames"), (0, .fieldref 10 32), (0, .nameAndType 33 18), (0, u "attributeValues"), (0, .fieldref 10 35), (0, .nameAndType 36 14), (0, u "attributeTypes"), (0, .class_ 38), (0, u "java/util/ArrayList"), (0, .methodref 37 5), (0, .fieldref 10 41), (0, .nameAndType 42 43), (0, u "names"), (0, u "Ljava/util/List;"), (0, .fieldref 10 45), (0, .nameAndType 46 14), (0, u "narrowText"), (0, .fieldref 10 48), (0, .nameAndType 49 18), (0, u "valueStarts"), (0, .fieldref 10 51), (0, .nameAndType 52 18), (0, u "instructions"), (0, .fieldref 10 54), (0, .nameAndType 55 18), (0, u "instructionData"), (2, u "nodeCount"), (0, u "I"), (11, u "attributeCount"), (2, u "wideText"), (0, u "[C"), (5, u "instructionCount")] 17

def k2c0 : Code := { maxStack := 3, maxLocals := 1, code := prog_36_method_1_code, exceptionTable := #[], attributes := #[] }
def k2m0 : Method := { name := "<init>", desc := "()V", sig := { parameters := [], returnType := none }, accessFlags := 0, code := some k2c0 }
/-- com/example/xidr/xidr/xml/tree/TreeBuilder$Parts -/
def k2 : Class := { plain "com/example/xidr/xidr/xml/tree/TreeBuilder$Parts" (some 0) with
  accessFlags := 48
  interfaces := #[]
  cf := some (fileOf pool2 10 #[.nestHost 1] #[{ accessFlags := 0, nameIndex := 7, descriptorIndex := 8, attributes := #[] }] 48 4 #[] #[{ accessFlags := 0, nameIndex := 13, descriptorIndex := 14, attributes := #[] }, { accessFlags := 0, nameIndex := 17, descriptorIndex := 18, attributes := #[] }, { accessFlags := 0, nameIndex := 21, descriptorIndex := 18, attributes := #[] }, { accessFlags := 0, nameIndex := 24, descriptorIndex := 18, attributes := #[] }, { accessFlags := 0, nameIndex := 58, descriptorIndex := 59, attributes := #[] }, { accessFlags := 0, nameIndex := 27, descriptorIndex := 18, attributes := #[] }, { accessFlags := 0, nameIndex := 30, descriptorIndex := 18, attributes := #[] }, { accessFlags := 0, nameIndex := 33, descriptorIndex := 18, attributes := #[] }, { accessFlags := 0, nameIndex := 36, descriptorIndex := 14, attributes := #[] }, { accessFlags := 0, nameIndex := 71, descriptorIndex := 59, attributes := #[] }, { accessFlags := 16, nameIndex := 42, descriptorIndex := 43, attributes := #[] }, { accessFlags := 0, nameIndex := 46, descriptorIndex := 14, attributes := #[] }, { accessFlags := 0, nameIndex := 74, descriptorIndex := 75, attributes := #[] }, { accessFlags := 0, nameIndex := 49, descriptorIndex := 18, attributes := #[] }, { accessFlags := 0, nameIndex := 52, descriptorIndex := 18, attributes := #[] }, { accessFlags := 0, nameIndex := 55, descriptorIndex := 18, attributes := #[] }, { accessFlags := 0, nameIndex := 81, descriptorIndex := 59, attributes := #[] }])
  fields := #[{ name := "kinds", type := (.array .byte), accessFlags := 0, slot := 0, constantValue := 0 }, { name := "parents", type := (.array .int), accessFlags := 0, slot := 1, constantValue := 0 }, { name := "nextSiblings", type := (.array .int), accessFlags := 0, slot := 2, constantValue := 0 }, { name := "data", type := (.array .int), accessFlags := 0, slot := 3, constantValue := 0 }, { name := "nodeCount", type := .int, accessFlags := 0, slot := 4, constantValue := 0 }, { name := "owners", type := (.array .int), accessFlags := 0, slot := 5, constantValue := 0 }, { name := "attributeNames", type := (.array .int), accessFlags := 0, slot := 6, constantValue := 0 }, { name := "attributeValues", type := (.array .int), accessFlags := 0, slot := 7, constantValue := 0 }, { name := "attributeTypes", type := (.array .byte), accessFlags := 0, slot := 8, constantValue := 0 }, { name := "attributeCount", type := .int, accessFlags := 0, slot := 9, constantValue := 0 }, { name := "names", type := (.object "java/util/List"), accessFlags := 16, slot := 10, constantValue := 0 }, { name := "narrowText", type := (.array .byte), accessFlags := 0, slot := 11, constantValue := 0 }, { name := "wideText", type := (.array .char), accessFlags := 0, slot := 12, constantValue := 0 }, { name := "valueStarts", type := (.array .int), accessFlags := 0, slot := 13, constantValue := 0 }, { name := "instructions", type := (.array .int), accessFlags := 0, slot := 14, constantValue := 0 }, { name := "instructionData", type := (.array .int), accessFlags := 0, slot := 15, constantValue := 0 }, { name := "instructionCount", type := .int, accessFlags := 0, slot := 16, constantValue := 0 }]
  methods := #[k2m0]
  instanceTypes := #[(.array .byte), (.array .int), (.array .int), (.array .int), .int, (.array .int), (.array .int), (.array .int), (.array .byte), .int, (.object "java/util/List"), (.array .byte), (.array .char), (.array .int), (.array .int), (.array .int), .int]
  staticTypes := #[]
  resolved := Array.replicate 99 none
  statics := none }

def pool3 : Array CpInfo := pool [(8, .class_ 10), (1, u "java/lang/Iterable"), (24, .class_ 36), (0, u "java/lang/Object")] 25

/-- java/lang/Iterable -/
def k3 : Class := { plain "java/lang/Iterable" (some 0) with
  accessFlags := 1537
  interfaces := #[]
  cf := some (fileOf pool3 8 #[] #[] 1537 35 #[] #[])
  fields := #[]
  methods := #[]
  instanceTypes := #[]
  staticTypes := #[]
  resolved := Array.replicate 62 none
  statics := none }

def pool4 : Array CpInfo := pool [(10, .class_ 12), (1, u "java/util/Collection"), (47, .class_ 61), (0, u "java/lang/Object"), (0, .class_ 63), (0, u "java/lang/Iterable")] 51

/-- java/util/Collection -/
def k4 : Class := { plain "java/util/Collection" (some 0) with
  accessFlags := 1537
  interfaces := #[3]
  cf := some (fileOf pool4 10 #[] #[] 1537 60 #[62] #[])
  fields := #[]
  methods := #[]
  instanceTypes := #[]
  staticTypes := #[]
  resolved := Array.replicate 115 none
  statics := none }

def pool5 : Array CpInfo := pool [(1, .methodref 2 3), (0, .class_ 4), (0, .nameAndType 5 6), (0, u "java/lang/Object"), (0, u "<init>"), (0, u "()V"), (1, .class_ 10), (1, u "java/util/AbstractCollection"), (66, .class_ 78), (0, u "java/util/Collection")] 81

def k5c0 : Code := { maxStack := 1, maxLocals := 1, code := jdk_22_method_1_code, exceptionTable := #[], attributes := #[] }
def k5m0 : Method := { name := "<init>", desc := "()V", sig := { parameters := [], returnType := none }, accessFlags := 4, code := some k5c0 }
/-- java/util/AbstractCollection -/
def k5 : Class := { plain "java/util/AbstractCollection" (some 0) with
  accessFlags := 1057
  interfaces := #[4]
  cf := some (fileOf pool5 8 #[] #[{ accessFlags := 4, nameIndex := 5, descriptorIndex := 6, attributes := #[] }] 1057 2 #[77] #[])
  fields := #[]
  methods := #[k5m0]
  instanceTypes := #[]
  staticTypes := #[]
  resolved := Array.replicate 160 none
  statics := none }

def pool6 : Array CpInfo := pool [(8, .class_ 10), (1, u "java/util/SequencedCollection"), (15, .class_ 27), (0, u "java/lang/Object"), (0, .class_ 29), (0, u "java/util/Collection")] 27

/-- java/util/SequencedCollection -/
def k6 : Class := { plain "java/util/SequencedCollection" (some 0) with
  accessFlags := 1537
  interfaces := #[4]
  cf := some (fileOf pool6 8 #[] #[] 1537 26 #[28] #[])
  fields := #[]
  methods := #[]
  instanceTypes := #[]
  staticTypes := #[]
  resolved := Array.replicate 57 none
  statics := none }

def pool7 : Array CpInfo := pool [(8, .class_ 10), (1, u "java/util/List"), (92, .class_ 104), (0, u "java/lang/Object"), (15, .class_ 121), (0, u "java/util/SequencedCollection")] 129

/-- java/util/List -/
def k7 : Class := { plain "java/util/List" (some 0) with
  accessFlags := 1537
  interfaces := #[6]
  cf := some (fileOf pool7 8 #[] #[] 1537 103 #[120] #[])
  fields := #[]
  methods := #[]
  instanceTypes := #[]
  staticTypes := #[]
  resolved := Array.replicate 251 none
  statics := none }

def pool8 : Array CpInfo := pool [(1, .methodref 2 3), (0, .class_ 4), (0, .nameAndType 5 6), (0, u "java/util/AbstractCollection"), (0, u "<init>"), (0, u "()V"), (0, .fieldref 8 9), (0, .class_ 10), (0, .nameAndType 11 12), (0, u "java/util/AbstractList"), (0, u "modCount"), (0, u "I"), (64, .class_ 78), (0, u "java/util/AbstractList$Itr"), (3, .class_ 83), (0, u "java/util/AbstractList$ListItr"), (9, .class_ 94), (0, u "java/util/AbstractList$RandomAccessSubList"), (3, .class_ 99), (0, u "java/util/AbstractList$SubList"), (33, .class_ 134), (0, u "java/util/List"), (73, .class_ 209), (0, u "java/util/AbstractList$SubList$1"), (0, .class_ 211), (0, u "java/util/AbstractList$RandomAccessSpliterator")] 6

def k8c0 : Code := { maxStack := 2, maxLocals := 1, code := jdk_39_method_1_code, exceptionTable := #[], attributes := #[] }
def k8m0 : Method := { name := "<init>", desc := "()V", sig := { parameters := [], returnType := none }, accessFlags := 4, code := some k8c0 }
/-- java/util/AbstractList -/
def k8 : Class := { plain "java/util/AbstractList" (some 5) with
  accessFlags := 1057
  interfaces := #[7]
  cf := some (fileOf pool8 8 #[.nestMembers #[93, 98, 208, 210, 82, 77]] #[{ accessFlags := 4, nameIndex := 5, descriptorIndex := 6, attributes := #[] }] 1057 2 #[133] #[{ accessFlags := 132, nameIndex := 11, descriptorIndex := 12, attributes := #[] }])
  fields := #[{ name := "modCount", type := .int, accessFlags := 132, slot := 0, constantValue := 0 }]
  methods := #[k8m0]
  instanceTypes := #[.int]
  staticTypes := #[]
  resolved := Array.replicate 218 none
  statics := none }

def pool9 : Array CpInfo := pool [(1, .class_ 2), (0, u "java/util/RandomAccess"), (0, .class_ 4), (0, u "java/lang/Object")] 2

/-- java/util/RandomAccess -/
def k9 : Class := { plain "java/util/RandomAccess" (some 0) with
  accessFlags := 1537
  interfaces := #[]
  cf := some (fileOf pool9 1 #[] #[] 1537 3 #[] #[])
  fields := #[]
  methods := #[]
  instanceTypes := #[]
  staticTypes := #[]
  resolved := Array.replicate 7 none
  statics := none }

def pool10 : Array CpInfo := pool [(1, .class_ 2), (0, u "java/lang/Cloneable"), (0, .class_ 4), (0, u "java/lang/Object")] 2

/-- java/lang/Cloneable -/
def k10 : Class := { plain "java/lang/Cloneable" (some 0) with
  accessFlags := 1537
  interfaces := #[]
  cf := some (fileOf pool10 1 #[] #[] 1537 3 #[] #[])
  fields := #[]
  methods := #[]
  instanceTypes := #[]
  staticTypes := #[]
  resolved := Array.replicate 7 none
  statics := none }

def pool11 : Array CpInfo := pool [(1, .class_ 2), (0, u "java/io/Serializable"), (0, .class_ 4), (0, u "java/lang/Object")] 2

/-- java/io/Serializable -/
def k11 : Class := { plain "java/io/Serializable" (some 0) with
  accessFlags := 1537
  interfaces := #[]
  cf := some (fileOf pool11 1 #[] #[] 1537 3 #[] #[])
  fields := #[]
  methods := #[]
  instanceTypes := #[]
  staticTypes := #[]
  resolved := Array.replicate 7 none
  statics := none }

def pool12 : Array CpInfo := pool [(1, .methodref 2 3), (0, .class_ 4), (0, .nameAndType 5 6), (0, u "java/util/AbstractList"), (0, u "<init>"), (0, u "()V"), (2, .fieldref 10 11), (0, .class_ 12), (0, .nameAndType 13 14), (0, u "java/util/ArrayList"), (0, u "elementData"), (0, u "[Ljava/lang/Object;"), (2, u "EMPTY_ELEMENTDATA"), (21, .fieldref 10 40), (0, .nameAndType 41 14), (0, u "DEFAULTCAPACITY_EMPTY_ELEMENTDATA"), (8, u "size"), (0, u "I"), (96, .class_ 149), (0, u "java/util/List"), (112, .class_ 263), (0, u "java/util/ArrayList$ListItr"), (3, .class_ 268), (0, u "java/util/ArrayList$Itr"), (7, .class_ 277), (0, u "java/util/ArrayList$SubList"), (12, .class_ 291), (0, u "java/util/ArrayList$ArrayListSpliterator"), (37, .class_ 330), (0, u "java/util/RandomAccess"), (0, .class_ 332), (0, u "java/lang/Cloneable"), (0, .class_ 334), (0, u "java/io/Serializable"), (0, u "serialVersionUID"), (0, u "J"), (3, u "DEFAULT_CAPACITY"), (159, .class_ 501), (0, u "java/util/ArrayList$SubList$2"), (0, .class_ 503), (0, u "java/util/ArrayList$SubList$1")] 5

def k12c0 : Code := { maxStack := 2, maxLocals := 1, code := jdk_38_method_2_code, exceptionTable := #[], attributes := #[] }
def k12m0 : Method := { name := "<init>", desc := "()V", sig := { parameters := [], returnType := none }, accessFlags := 1, code := some k12c0 }
/-- java/util/ArrayList -/
def k12 : Class := { plain "java/util/ArrayList" (some 8) with
  accessFlags := 33
  interfaces := #[7, 9, 10, 11]
  cf := some (fileOf pool12 10 #[.nestMembers #[290, 276, 500, 502, 262, 267]] #[{ accessFlags := 1, nameIndex := 5, descriptorIndex := 6, attributes := #[] }] 33 2 #[148, 329, 331, 333] #[{ accessFlags := 26, nameIndex := 335, descriptorIndex := 336, attributes := #[] }, { accessFlags := 26, nameIndex := 340, descriptorIndex := 51, attributes := #[] }, { accessFlags := 26, nameIndex := 17, descriptorIndex := 14, attributes := #[] }, { accessFlags := 26, nameIndex := 41, descriptorIndex := 14, attributes := #[] }, { accessFlags := 128, nameIndex := 13, descriptorIndex := 14, attributes := #[] }, { accessFlags := 2, nameIndex := 50, descriptorIndex := 51, attributes := #[] }])
  fields := #[{ name := "serialVersionUID", type := .long, accessFlags := 26, slot := 0, constantValue := 0 }, { name := "DEFAULT_CAPACITY", type := .int, accessFlags := 26, slot := 1, constantValue := 0 }, { name := "EMPTY_ELEMENTDATA", type := (.array (.object "java/lang/Object")), accessFlags := 26, slot := 2, constantValue := 0 }, { name := "DEFAULTCAPACITY_EMPTY_ELEMENTDATA", type := (.array (.object "java/lang/Object")), accessFlags := 26, slot := 3, constantValue := 0 }, { name := "elementData", type := (.array (.object "java/lang/Object")), accessFlags := 128, slot := 1, constantValue := 0 }, { name := "size", type := .int, accessFlags := 2, slot := 2, constantValue := 0 }]
  methods := #[k12m0]
  instanceTypes := #[.int, (.array (.object "java/lang/Object")), .int]
  staticTypes := #[.long, .int, (.array (.object "java/lang/Object")), (.array (.object "java/lang/Object"))]
  resolved := Array.replicate 509 none
  statics := some 0 }

def pool13 : Array CpInfo := pool [(1, .methodref 2 3), (0, .class_ 4), (0, .nameAndType 5 6), (0, u "java/lang/Object"), (0, u "<init>"), (0, u "()V"), (0, .fieldref 8 9), (0, .class_ 10), (0, .nameAndType 11 12), (0, u "com/example/xidr/xidr/xml/tree/TreeBuilder$Parts"), (0, u "kinds"), (0, u "[B"), (0, .fieldref 14 9), (0, .class_ 15), (0, u "com/example/xidr/xidr/xml/tree/Tree"), (0, .fieldref 8 17), (0, .nameAndType 18 19), (0, u "parents"), (0, u "[I"), (0, .fieldref 14 17), (0, .fieldref 8 22), (0, .nameAndType 23 19), (0, u "nextSiblings"), (0, .fieldref 14 22), (0, .fieldref 8 26), (0, .nameAndType 27 19), (0, u "data"), (0, .fieldref 14 26), (0, .fieldref 8 30), (0, .nameAndType 31 32), (0, u "nodeCount"), (0, u "I"), (0, .fieldref 14 30), (0, .fieldref 8 35), (0, .nameAndType 36 19), (0, u "owners"), (0, .fieldref 14 35), (0, .fieldref 8 39), (0, .nameAndType 40 19), (0, u "attributeNames"), (0, .fieldref 14 39), (0, .fieldref 8 43), (0, .nameAndType 44 19), (0, u "attributeValues"), (0, .fieldref 14 43), (0, .fieldref 8 47), (0, .nameAndType 48 12), (0, u "attributeTypes"), (0, .fieldref 14 47), (0, .fieldref 8 51), (0, .nameAndType 52 32), (0, u "attributeCount"), (0, .fieldref 14 51), (0, .fieldref 8 55), (0, .nameAndType 56 57), (0, u "names"), (0, u "Ljava/util/List;"), (0, .fieldref 14 55), (0, .fieldref 8 60), (0, .nameAndType 61 12), (0, u "narrowText"), (0, .fieldref 14 60), (0, .fieldref 8 64), (0, .nameAndType 65 66), (0, u "wideText"), (0, u "[C"), (0, .fieldref 14 64), (0, .fieldref 8 69), (0, .nameAndType 70 19), (0, u "valueStarts"), (0, .fieldref 14 69), (0, .fieldref 8 73), (0, .nameAndType 74 19), (0, u "instructions"), (0, .fieldref 14 73), (0, .fieldref 8 77), (0, .nameAndType 78 19), (0, u "instructionData"), (0, .fieldref 14 77), (3, u "(I)I"), (19, .class_ 104), (0, u "com/example/xidr/xidr/xml/tree/Tree$Name"), (48, u "NONE"), (2, u "WITH_ATTRIBUTES"), (0, u "B"), (1, u "PASSES"), (1, u "FAILS"), (3, u "document"), (0, u "Lcom/example/xidr/xidr/xml/tree/TreeDocument;"), (0, u "(Lcom/example/xidr/xidr/xml/tree/TreeBuilder$Parts;)V"), (8, u "previousSibling")] 24

def k13c0 : Code := { maxStack := 2, maxLocals := 2, code := prog_30_method_1_code, exceptionTable := #[], attributes := #[] }
def k13m0 : Method := { name := "<init>", desc := "(Lcom/example/xidr/xidr/xml/tree/TreeBuilder$Parts;)V", sig := { parameters := [(.object "com/example/xidr/xidr/xml/tree/TreeBuilder$Parts")], returnType := none }, accessFlags := 0, code := some k13c0 }
def k13c1 : Code := { maxStack := 3, maxLocals := 4, code := prog_30_method_9_code, exceptionTable := #[], attributes := #[] }
def k13m1 : Method := { name := "previousSibling", desc := "(I)I", sig := { parameters := [.int], returnType := some .int }, accessFlags := 0, code := some k13c1 }
/-- com/example/xidr/xidr/xml/tree/Tree -/
def k13 : Class := { plain "com/example/xidr/xidr/xml/tree/Tree" (some 0) with
  accessFlags := 48
  interfaces := #[]
  cf := some (fileOf pool13 14 #[.nestMembers #[103]] #[{ accessFlags := 0, nameIndex := 5, descriptorIndex := 167, attributes := #[] }, { accessFlags := 0, nameIndex := 176, descriptorIndex := 83, attributes := #[] }] 48 2 #[] #[{ accessFlags := 24, nameIndex := 153, descriptorIndex := 32, attributes := #[] }, { accessFlags := 24, nameIndex := 156, descriptorIndex := 157, attributes := #[] }, { accessFlags := 26, nameIndex := 159, descriptorIndex := 157, attributes := #[] }, { accessFlags := 26, nameIndex := 161, descriptorIndex := 157, attributes := #[] }, { accessFlags := 18, nameIndex := 11, descriptorIndex := 12, attributes := #[] }, { accessFlags := 18, nameIndex := 18, descriptorIndex := 19, attributes := #[] }, { accessFlags := 18, nameIndex := 23, descriptorIndex := 19, attributes := #[] }, { accessFlags := 18, nameIndex := 27, descriptorIndex := 19, attributes := #[] }, { accessFlags := 18, nameIndex := 31, descriptorIndex := 32, attributes := #[] }, { accessFlags := 18, nameIndex := 36, descriptorIndex := 19, attributes := #[] }, { accessFlags := 18, nameIndex := 40, descriptorIndex := 19, attributes := #[] }, { accessFlags := 18, nameIndex := 44, descriptorIndex := 19, attributes := #[] }, { accessFlags := 18, nameIndex := 48, descriptorIndex := 12, attributes := #[] }, { accessFlags := 18, nameIndex := 52, descriptorIndex := 32, attributes := #[] }, { accessFlags := 18, nameIndex := 56, descriptorIndex := 57, attributes := #[] }, { accessFlags := 18, nameIndex := 61, descriptorIndex := 12, attributes := #[] }, { accessFlags := 18, nameIndex := 65, descriptorIndex := 66, attributes := #[] }, { accessFlags := 18, nameIndex := 70, descriptorIndex := 19, attributes := #[] }, { accessFlags := 18, nameIndex := 74, descriptorIndex := 19, attributes := #[] }, { accessFlags := 18, nameIndex := 78, descriptorIndex := 19, attributes := #[] }, { accessFlags := 0, nameIndex := 165, descriptorIndex := 166, attributes := #[] }])
  fields := #[{ name := "NONE", type := .int, accessFlags := 24, slot := 0, constantValue := 0 }, { name := "WITH_ATTRIBUTES", type := .byte, accessFlags := 24, slot := 1, constantValue := 0 }, { name := "PASSES", type := .byte, accessFlags := 26, slot := 2, constantValue := 0 }, { name := "FAILS", type := .byte, accessFlags := 26, slot := 3, constantValue := 0 }, { name := "kinds", type := (.array .byte), accessFlags := 18, slot := 0, constantValue := 0 }, { name := "parents", type := (.array .int), accessFlags := 18, slot := 1, constantValue := 0 }, { name := "nextSiblings", type := (.array .int), accessFlags := 18, slot := 2, constantValue := 0 }, { name := "data", type := (.array .int), accessFlags := 18, slot := 3, constantValue := 0 }, { name := "nodeCount", type := .int, accessFlags := 18, slot := 4, constantValue := 0 }, { name := "owners", type := (.array .int), accessFlags := 18, slot := 5, constantValue := 0 }, { name := "attributeNames", type := (.array .int), accessFlags := 18, slot := 6, constantValue := 0 }, { name := "attributeValues", type := (.array .int), accessFlags := 18, slot := 7, constantValue := 0 }, { name := "attributeTypes", type := (.array .byte), accessFlags := 18, slot := 8, constantValue := 0 }, { name := "attributeCount", type := .int, accessFlags := 18, slot := 9, constantValue := 0 }, { name := "names", type := (.object "java/util/List"), accessFlags := 18, slot := 10, constantValue := 0 }, { name := "narrowText", type := (.array .byte), accessFlags := 18, slot := 11, constantValue := 0 }, { name := "wideText", type := (.array .char), accessFlags := 18, slot := 12, constantValue := 0 }, { name := "valueStarts", type := (.array .int), accessFlags := 18, slot := 13, constantValue := 0 }, { name := "instructions", type := (.array .int), accessFlags := 18, slot := 14, constantValue := 0 }, { name := "instructionData", type := (.array .int), accessFlags := 18, slot := 15, constantValue := 0 }, { name := "document", type := (.object "com/example/xidr/xidr/xml/tree/TreeDocument"), accessFlags := 0, slot := 16, constantValue := 0 }]
  methods := #[k13m0, k13m1]
  instanceTypes := #[(.array .byte), (.array .int), (.array .int), (.array .int), .int, (.array .int), (.array .int), (.array .int), (.array .byte), .int, (.object "java/util/List"), (.array .byte), (.array .char), (.array .int), (.array .int), (.array .int), (.object "com/example/xidr/xidr/xml/tree/TreeDocument")]
  staticTypes := #[.int, .byte, .byte, .byte]
  resolved := Array.replicate 201 none
  statics := none }

/-- the primitive byte -/
def k14 : Class := { plain "byte" none with kind := .primitive 'B', accessFlags := 0x411 }
/-- [B -/
def k15 : Class := { plain "[B" (some 0) with kind := .array 14 .byte, interfaces := #[10, 11], accessFlags := 1041 }

/-- the primitive int -/
def k16 : Class := { plain "int" none with kind := .primitive 'I', accessFlags := 0x411 }
/-- [I -/
def k17 : Class := { plain "[I" (some 0) with kind := .array 16 .int, interfaces := #[10, 11], accessFlags := 1041 }

/-- [Ljava/lang/Object; -/
def k18 : Class := { plain "[Ljava/lang/Object;" (some 0) with kind := .array 0 (.object "java/lang/Object"), interfaces := #[10, 11], accessFlags := 1041 }

def heap : Heap := #[{ cls := 12, slots := #[.long 0, .int 0, .ref 1, .ref 2], vm := .statics 12 },
  { cls := 18, slots := #[], vm := .none },
  { cls := 18, slots := #[], vm := .none }]
def classes : Array Class := #[k0, k1, k2, k3, k4, k5, k6, k7, k8, k9, k10, k11, k12, k13, k14, k15, k16, k17, k18]
def interned : List (Array UInt16 × Addr) := []
def slotsUsed : Nat := 4
def theMethod : MethodId := ⟨1, 1⟩
def args0 : Array Value := #[.int 5, .int 5]
def aboutOver (below : List Frame) : State where
  vm := { classes := classes, interned := interned.toArray }
  heap := heap
  slotsUsed := slotsUsed
  threads := #[{ frames := .invoking theMethod args0 :: below }]
def below0 : List Frame := [.native { method := ⟨0, 0⟩, args := #[] }]
def about1 : State := aboutOver below0
def p0 : Program := .bare "" "" ""
def e0 : Env := launch0.env 0 0 0
theorem w_frames : about1.frames = Frame.invoking theMethod args0 :: below0 := rfl
set_option maxRecDepth 65536 in
theorem w_args : argsFit about1.vm theMethod args0 = true := by decide +kernel
set_option maxRecDepth 65536 in
theorem w_heap : heapFits about1 = true := by decide +kernel
set_option maxRecDepth 65536 in
theorem w_runnable : about1.curStatus? = some .runnable := by decide +kernel
set_option maxRecDepth 65536 in
theorem w_alone : about1.alone = true := by decide +kernel
set_option maxRecDepth 65536 in
theorem w_named : about1.methodNamed? x = some theMethod := by decide +kernel
set_option maxRecDepth 65536 in
theorem w_hears : about1.hears theMethod below0 = true := by decide +kernel
set_option maxRecDepth 65536 in
theorem w_ripe : about1.ripe theMethod args0 below0 = true := by decide +kernel
theorem w_running : about1.status = .running := rfl
set_option maxRecDepth 65536 in
theorem w_room : about1.hasRoom e0.platform room_1 = true :=
  launch0.hasRoom_least _ room_1 (by decide +kernel) (by decide +kernel) (by decide +kernel) (by decide +kernel) (by decide +kernel) (by decide +kernel)
theorem allAtoms_all (ts : List Jvm.Cond) (a : Array Jvm.Value) (st : Jvm.State) : (allAtoms ts).before a st = ts.all (fun c => c.before a st) := by
  induction ts with
  | nil => rfl
  | cons c t ih =>
    show (Jvm.Cond.and c (allAtoms t)).before a st = _
    rw [Jvm.Cond.before_and, ih, List.all_cons]
def words1 : List Jvm.Cond := Jvm.Cond.code x code maxLocals ret :: tables_1
/-- a 'code' word, met by the world's own term for the bytes: nothing is compared byte by byte -/
theorem code_word {y : MethodName} {bytes : ByteArray} {mx : Nat} {rt : Option FieldType} {a : Array Value} {s : State} {m : MethodId} {meth : Method} {c : Code} (h1 : s.methodNamed? y = some m) (h2 : s.vm.method? m = some meth) (h3 : meth.code = some c) (h4 : c.code = bytes)
    (h5 : (c.maxLocals == mx && c.exceptionTable.isEmpty && decide (c.maxStack ≤ mostOperands) && decide (meth.sig.returnType = rt) && !meth.locks && decide (parseMethodDescriptor y.desc = some meth.sig)) = true) : (Jvm.Cond.code y bytes mx rt).before a s = true := by
  simp only [Bool.and_eq_true, beq_iff_eq, Bool.not_eq_true', decide_eq_true_eq] at h5
  obtain ⟨⟨⟨⟨⟨g1, g2⟩, g3⟩, g4⟩, g5⟩, g6⟩ := h5
  simp [Cond.before, Cond.holds, Cond.value, h1, h2, h3, h4, g1, g2, g3, g4, g5, g6]
def isCode : Jvm.Cond → Bool
  | .code _ _ _ _ => true
  | _ => false
theorem all_split {L : List Jvm.Cond} {P : Jvm.Cond → Bool} (h1 : L.all (fun c => isCode c || P c) = true) (h2 : ∀ c ∈ L.filter isCode, P c = true) : L.all P = true := by
  refine List.all_eq_true.mpr fun c hc => ?_
  have h := List.all_eq_true.mp h1 c hc
  rcases Bool.eq_false_or_eq_true (isCode c) with hi | hi
  · exact h2 c (List.mem_filter.mpr ⟨hc, hi⟩)
  · simpa [hi] using h
set_option maxRecDepth 65536 in
theorem w_c0 : (Jvm.Cond.code x code maxLocals ret).before args0 about1 = true := code_word (m := ⟨1, 1⟩) (meth := k1m1) (c := k1c1) (by decide +kernel) rfl rfl rfl (by decide +kernel)
set_option maxRecDepth 65536 in
theorem w_c1 : (Jvm.Cond.code ({ cls := "com/example/xidr/xidr/xml/tree/TreePreviousSiblingPinLaw", name := "up", desc := "([III)I" } : Jvm.MethodName) method_3_code (4 : Nat) (Option.some Jvm.ClassFile.FieldType.int)).before args0 about1 = true := code_word (m := ⟨1, 2⟩) (meth := k1m2) (c := k1c2) (by decide +kernel) rfl rfl rfl (by decide +kernel)
set_option maxRecDepth 65536 in
theorem w_c2 : (Jvm.Cond.code ({ cls := "com/example/xidr/xidr/xml/tree/TreeBuilder$Parts", name := "<init>", desc := "()V" } : Jvm.MethodName) prog_36_method_1_code (1 : Nat) (Option.none : Option Jvm.ClassFile.FieldType)).before args0 about1 = true := code_word (m := ⟨2, 0⟩) (meth := k2m0) (c := k2c0) (by decide +kernel) rfl rfl rfl (by decide +kernel)
set_option maxRecDepth 65536 in
theorem w_c3 : (Jvm.Cond.code ({ cls := "java/lang/Object", name := "<init>", desc := "()V" } : Jvm.MethodName) object_method_1_code (1 : Nat) (Option.none : Option Jvm.ClassFile.FieldType)).before args0 about1 = true := code_word (m := ⟨0, 0⟩) (meth := k0m0) (c := k0c0) (by decide +kernel) rfl rfl rfl (by decide +kernel)
set_option maxRecDepth 65536 in
theorem w_c4 : (Jvm.Cond.code ({ cls := "java/util/ArrayList", name := "<init>", desc := "()V" } : Jvm.MethodName) jdk_38_method_2_code (1 : Nat) (Option.none : Option Jvm.ClassFile.FieldType)).before args0 about1 = true := code_word (m := ⟨12, 0⟩) (meth := k12m0) (c := k12c0) (by decide +kernel) rfl rfl rfl (by decide +kernel)
set_option maxRecDepth 65536 in
theorem w_c5 : (Jvm.Cond.code ({ cls := "java/util/AbstractList", name := "<init>", desc := "()V" } : Jvm.MethodName) jdk_39_method_1_code (1 : Nat) (Option.none : Option Jvm.ClassFile.FieldType)).before args0 about1 = true := code_word (m := ⟨8, 0⟩) (meth := k8m0) (c := k8c0) (by decide +kernel) rfl rfl rfl (by decide +kernel)
set_option maxRecDepth 65536 in
theorem w_c6 : (Jvm.Cond.code ({ cls := "java/util/AbstractCollection", name := "<init>", desc := "()V" } : Jvm.MethodName) jdk_22_method_1_code (1 : Nat) (Option.none : Option Jvm.ClassFile.FieldType)).before args0 about1 = true := code_word (m := ⟨5, 0⟩) (meth := k5m0) (c := k5c0) (by decide +kernel) rfl rfl rfl (by decide +kernel)
set_option maxRecDepth 65536 in
theorem w_c7 : (Jvm.Cond.code ({ cls := "com/example/xidr/xidr/xml/tree/Tree", name := "<init>", desc := "(Lcom/example/xidr/xidr/xml/tree/TreeBuilder$Parts;)V" } : Jvm.MethodName) prog_30_method_1_code (2 : Nat) (Option.none : Option Jvm.ClassFile.FieldType)).before args0 about1 = true := code_word (m := ⟨13, 0⟩) (meth := k13m0) (c := k13c0) (by decide +kernel) rfl rfl rfl (by decide +kernel)
set_option maxRecDepth 65536 in
theorem w_c8 : (Jvm.Cond.code ({ cls := "com/example/xidr/xidr/xml/tree/TreePreviousSiblingPinLaw", name := "later", desc := "([IIII)I" } : Jvm.MethodName) method_4_code (4 : Nat) (Option.some Jvm.ClassFile.FieldType.int)).before args0 about1 = true := code_word (m := ⟨1, 3⟩) (meth := k1m3) (c := k1c3) (by decide +kernel) rfl rfl rfl (by decide +kernel)
set_option maxRecDepth 65536 in
theorem w_c9 : (Jvm.Cond.code ({ cls := "com/example/xidr/xidr/xml/tree/Tree", name := "previousSibling", desc := "(I)I" } : Jvm.MethodName) prog_30_method_9_code (4 : Nat) (Option.some Jvm.ClassFile.FieldType.int)).before args0 about1 = true := code_word (m := ⟨13, 1⟩) (meth := k13m1) (c := k13c1) (by decide +kernel) rfl rfl rfl (by decide +kernel)
def codes1 : List Jvm.Cond := [Jvm.Cond.code x code maxLocals ret, Jvm.Cond.code ({ cls := "com/example/xidr/xidr/xml/tree/TreePreviousSiblingPinLaw", name := "up", desc := "([III)I" } : Jvm.MethodName) method_3_code (4 : Nat) (Option.some Jvm.ClassFile.FieldType.int), Jvm.Cond.code ({ cls := "com/example/xidr/xidr/xml/tree/TreeBuilder$Parts", name := "<init>", desc := "()V" } : Jvm.MethodName) prog_36_method_1_code (1 : Nat) (Option.none : Option Jvm.ClassFile.FieldType), Jvm.Cond.code ({ cls := "java/lang/Object", name := "<init>", desc := "()V" } : Jvm.MethodName) object_method_1_code (1 : Nat) (Option.none : Option Jvm.ClassFile.FieldType), Jvm.Cond.code ({ cls := "java/util/ArrayList", name := "<init>", desc := "()V" } : Jvm.MethodName) jdk_38_method_2_code (1 : Nat) (Option.none : Option Jvm.ClassFile.FieldType), Jvm.Cond.code ({ cls := "java/util/AbstractList", name := "<init>", desc := "()V" } : Jvm.MethodName) jdk_39_method_1_code (1 : Nat) (Option.none : Option Jvm.ClassFile.FieldType), Jvm.Cond.code ({ cls := "java/util/AbstractCollection", name := "<init>", desc := "()V" } : Jvm.MethodName) jdk_22_method_1_code (1 : Nat) (Option.none : Option Jvm.ClassFile.FieldType), Jvm.Cond.code ({ cls := "com/example/xidr/xidr/xml/tree/Tree", name := "<init>", desc := "(Lcom/example/xidr/xidr/xml/tree/TreeBuilder$Parts;)V" } : Jvm.MethodName) prog_30_method_1_code (2 : Nat) (Option.none : Option Jvm.ClassFile.FieldType), Jvm.Cond.code ({ cls := "com/example/xidr/xidr/xml/tree/TreePreviousSiblingPinLaw", name := "later", desc := "([IIII)I" } : Jvm.MethodName) method_4_code (4 : Nat) (Option.some Jvm.ClassFile.FieldType.int), Jvm.Cond.code ({ cls := "com/example/xidr/xidr/xml/tree/Tree", name := "previousSibling", desc := "(I)I" } : Jvm.MethodName) prog_30_method_9_code (4 : Nat) (Option.some Jvm.ClassFile.FieldType.int)]
set_option maxRecDepth 65536 in
theorem codes_eq : words1.filter isCode = codes1 := rfl
theorem w_codes : ∀ c ∈ words1.filter isCode, c.before args0 about1 = true := by
  rw [codes_eq]
  intro c hc
  simp only [codes1, List.mem_cons, List.not_mem_nil, or_false] at hc
  rcases hc with rfl | rfl | rfl | rfl | rfl | rfl | rfl | rfl | rfl | rfl
  · exact w_c0
  · exact w_c1
  · exact w_c2
  · exact w_c3
  · exact w_c4
  · exact w_c5
  · exact w_c6
  · exact w_c7
  · exact w_c8
  · exact w_c9
set_option maxRecDepth 65536 in
theorem w_t1 : (words1.take 24).all (fun c => isCode c || c.before args0 about1) = true := by decide +kernel
set_option maxRecDepth 65536 in
theorem w_t2 : ((words1.drop 24).take 24).all (fun c => isCode c || c.before args0 about1) = true := by decide +kernel
set_option maxRecDepth 65536 in
theorem w_t3 : (((words1.drop 24).drop 24).take 24).all (fun c => isCode c || c.before args0 about1) = true := by decide +kernel
set_option maxRecDepth 65536 in
theorem w_t4 : ((((words1.drop 24).drop 24).drop 24).take 24).all (fun c => isCode c || c.before args0 about1) = true := by decide +kernel
set_option maxRecDepth 65536 in
theorem w_t5 : (((((words1.drop 24).drop 24).drop 24).drop 24).take 24).all (fun c => isCode c || c.before args0 about1) = true := by decide +kernel
set_option maxRecDepth 65536 in
theorem w_t6 : (((((words1.drop 24).drop 24).drop 24).drop 24).drop 24).all (fun c => isCode c || c.before args0 about1) = true := by decide +kernel
theorem w_tables : (allAtoms (Jvm.Cond.code x code maxLocals ret :: tables_1)).before args0 about1 = true := by
  rw [allAtoms_all]
  show words1.all (fun c => c.before args0 about1) = true
  refine all_split ?_ w_codes
  rw [← List.take_append_drop 24 words1, List.all_append, w_t1, ← List.take_append_drop 24 (words1.drop 24), List.all_append, w_t2, ← List.take_append_drop 24 ((words1.drop 24).drop 24), List.all_append, w_t3, ← List.take_append_drop 24 (((words1.drop 24).drop 24).drop 24), List.all_append, w_t4, ← List.take_append_drop 24 ((((words1.drop 24).drop 24).drop 24).drop 24), List.all_append, w_t5, w_t6]
  rfl
set_option maxRecDepth 65536 in
theorem w_rest : rest_1_c.before args0 about1 = true := by decide +kernel
set_option maxRecDepth 65536 in
theorem w_case : (Jvm.Cond.and given_1 narrow_1).before args0 about1 = true := by decide +kernel
theorem w_applies : (headSpec (Jvm.Cond.code x code maxLocals ret :: tables_1) room_1).applies x e0.platform about1 = true :=
  (Spec.applies_iff w_frames).mpr ⟨w_running, w_runnable, w_alone, w_named, w_hears, w_ripe, w_room, w_tables⟩
theorem atStart : AtStart classFile x code maxLocals ret World_1 tables_1 room_1 Calls_1 rest_1 Pre_1 launch0 p0 e0 about1 theMethod args0 below0 :=
  ⟨lists_1, trivial, launch0.admits_env _ _ _, launch0.least_env, fairChoices_fair.cas, fairChoices_fair.clock, w_frames, w_args, w_heap, w_applies, trivial, w_rest, w_case⟩
end start1
theorem witness_1 : WitnessClaimed_1 := ⟨start1.p0, start1.e0, start1.about1, start1.theMethod, start1.args0, start1.below0, start1.atStart⟩
end Jvm.Pilot.@@N@@
