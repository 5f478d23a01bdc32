import JvmDerived
import JvmDerived.Pilot.@@N@@Statement
import JvmDerived.Pilot.@@N@@Code
set_option linter.unusedVariables false
set_option linter.unusedSimpArgs false
namespace Jvm.RoadKit
open Sem ClassFile Op Lib Jvm.Stand Jvm.Free Jvm.LawKit
section New
variable {p : Program} {l : Launch} {e : Env} {R : Room} {s : State} {m : MethodId} {args : Array Value} {below : List Frame} {meth : Method} {c : Code} {T : State} {locs : List Loc} {cells slots : Nat}
theorem retI (X : Stand p l e R s m args below meth c T locs cells slots) (hx : p.tables.exec = Jvm.exec) {pc : Nat} {Ls : Array Slot} {z : Int32} {rest : List Value} (hret : meth.sig.returnType = some .int) (hd : decode c.code pc = .ok (.ireturn, 1)) {fs : List Frame}
    (hl : ∀ (f : JFrame) (acts : List Action), f.method = m → f.locked = none → f.entered = [] → (doReturn e (T.setTop f) acts (some (.int z))).1 = T.setFrames fs) : Steps p.tables e below (T.setTop (mkF m pc Ls (.int z :: rest))) (T.setFrames fs) := by
  have hm' : T.vm.method? m = some meth := X.method'
  have hn : narrow .int (.int z) = .int z := rfl
  show Steps p.tables e below (T.setTop { method := m, pc := pc, locals := Ls, stack := _ :: rest, locked := none }) _
  jvm_step X.here [X.here.top, hx, hd, hm', hret, hn]
  first | (intro acts; rw [hl _ acts rfl rfl rfl]) | rw [hl _ _ rfl rfl rfl]
  exact Steps.refl _
end New
end Jvm.RoadKit
namespace Jvm.Pilot.@@N@@
open Jvm Jvm.ClassFile Sem Op Lib Jvm.Free Jvm.Stand Jvm.LawKit Jvm.RoadKit Bundle Jvm.Pilot.@@N@@.Jvm.D
theorem own_keep_ext {h h' : Heap} (K : Keep h h' []) : Ext h h' := ⟨K.1, fun a c q => K.2.1 a c q nin0⟩
theorem own_sta_keep {Z : State} {h h' : Heap} {C n d K : String} {a : Addr} {v : Value} (F : Sta Z h C n d v) (Kp : Keep h h' [a]) (E : Exa Z h a K) : Sta Z h' C n d v := by
  obtain ⟨cf, i, k, f, st, cell, h1, h2, h3, h4, h5, h6, h7⟩ := F
  obtain ⟨cell', k', g1, -, -, g4, -⟩ := E
  have ne : st ≠ a := by
    intro q
    subst q
    rw [h5] at g1
    cases g1
    rw [h6] at g4
    cases g4
  exact ⟨cf, i, k, f, st, cell, h1, h2, h3, h4, Kp.2.1 st cell h5 (ninS ne nin0), h6, h7⟩
def own_EL : List (String × Nat) := [("com/example/feuillet/feuillet/input/Element", 16), ("java/lang/String", 7)]
def own_at (xs : List Int32) (j : Int32) : Int32 := xs.getD j.toNatClampNeg 0
theorem own_getD (xs : List Int32) (i : Nat) : (xs.map Value.int).getD i (.int (0 : Int32)) = .int (xs.getD i 0) := by
  simp only [List.getD_eq_getElem?_getD, List.getElem?_map]
  cases xs[i]? <;> rfl
def own_b (c : Int32) : Int32 := nar .byte (c.toInt8.toInt32)
theorem d14_0 : decode jdk_43_method_3_code 0 = .ok (.iload_n 0, 1) := by decide +kernel
theorem d14_1 : decode jdk_43_method_3_code 1 = .ok (.sipush 255, 3) := by decide +kernel
theorem d14_4 : decode jdk_43_method_3_code 4 = .ok (.if_icmp .gt 7, 3) := by decide +kernel
theorem d14_7 : decode jdk_43_method_3_code 7 = .ok (.iconst 1, 1) := by decide +kernel
theorem d14_8 : decode jdk_43_method_3_code 8 = .ok (.goto 4, 3) := by decide +kernel
theorem d14_12 : decode jdk_43_method_3_code 12 = .ok (.ireturn, 1) := by decide +kernel
theorem pn0 : plainName "java/lang/StringLatin1" = true := by first | (simp [plainName, overriddenIn]; done) | decide +kernel
theorem ef_rm_can (m : MethodId) (xc : Int32) : entryFrame m #[(.int xc)] 1 = mkF m 0 #[.val (.int xc)] [] := by first | (simp [entryFrame, mkF, argsToLocals, Value.category]; done) | rfl
def Q_rm_can (Z : State) (xc : Int32) (h0 : Heap) (n0 : Nat) (v : Option Value) (h : Heap) (L : List Loc) : Prop := v = some (.int (1 : Int32)) ∧ Fr n0 L ∧ h = h0
set_option maxRecDepth 65536 in
set_option maxHeartbeats 40000000 in
theorem rm_can (l : Launch) (Z : State) (a0 : Array Value) (hw : ∀ d ∈ tables_1, d.before a0 Z = true) (ws : List Jvm.Cond) (xc : Int32) (h0 : Heap) (n0 : Nat) (Z0 : n0 ≤ h0.size) (hc : ¬ ((255 : Int32) < xc)) :
    MetFree l (⟨"java/lang/StringLatin1", "canEncode", "(C)Z"⟩ : MethodName) (head1 (Jvm.Cond.code (⟨"java/lang/StringLatin1", "canEncode", "(C)Z"⟩ : MethodName) jdk_43_method_3_code 1 (some .boolean) :: ws) ({ frames := 0, cells := 0, slots := 0, locals := 0 } : Room)) (fun a U => a = #[(.int xc)] ∧ Z.Warmed39 U.vm ∧ U.heap = h0) (fun _ _ _ _ _ => True) (fun _ U o U' => ∃ v L, o = .returned v ∧ Q_rm_can Z xc h0 n0 v U'.heap L ∧ FrameEnd U o U' L ({ frames := 0, cells := 0, slots := 0, locals := 0 } : Room).cells ({ frames := 0, cells := 0, slots := 0, locals := 0 } : Room).slots) := by
  refine MetFree.of_bodySF (plainFor_of_name pn0) hisR ?_
  intro p e s m args below meth c s₁ Bd hml0 hP hK
  obtain ⟨rfl, hZ, hh⟩ := hP
  have hx := Bd.exec
  have hby := Bd.bytes
  have hml : c.maxLocals = 1 := hml0
  have hown : s.vm.findClass "java/lang/StringLatin1" = some m.cls := findClass_of_methodNamed Bd.named
  have hnm := (name_of_methodNamed Bd.named Bd.method).1
  have X0 : Stand p l e ({ frames := 0, cells := 0, slots := 0, locals := 0 } : Room) s m #[(.int xc)] below meth c s₁ [] 0 0 := Stand.of_body Bd
  have e0 : s₁.heap = h0 := by rw [← hh, Bd.state]; rfl
  have N0 := Fr.nil n0
  have pre0 : ∀ t, Steps p.tables e below (s₁.setTop (mkF m 0 #[.val (.int xc)] [])) t → Steps p.tables e below (s₁.setTop (entryFrame m #[(.int xc)] 1)) t := fun t k => castTop (ef_rm_can m xc) k
  have pre1 : ∀ t, Steps p.tables e below (s₁.setTop (mkF m 12 #[.val (.int xc)] [(.int (1 : Int32))])) t → Steps p.tables e below (s₁.setTop (entryFrame m #[(.int xc)] 1)) t := by
    intro t k
    refine pre0 t ?_
    refine XS.iloadN X0.here hx rfl (hb hby d14_0) rfl ?_
    show Steps p.tables e below (s₁.setTop (mkF m 1 #[.val (.int xc)] [(.int xc)])) _
    refine XS.sipush X0.here hx rfl (hb hby d14_1) ?_
    show Steps p.tables e below (s₁.setTop (mkF m 4 #[.val (.int xc)] [(.int (255 : Int32)), (.int xc)])) _
    refine XS.icmpNo X0.here hx rfl (hb hby d14_4) rfl (flt (show ¬ ((255 : Int32) < xc) from hc)).2.2.1 ?_
    show Steps p.tables e below (s₁.setTop (mkF m 7 #[.val (.int xc)] [])) _
    refine XS.iconst X0.here hx rfl (hb hby d14_7) ?_
    show Steps p.tables e below (s₁.setTop (mkF m 8 #[.val (.int xc)] [(.int (1 : Int32))])) _
    refine XS.goto X0.here hx rfl (pc0 := 8) (pc' := 12) rfl (hb hby d14_8) (by decide) (by decide) ?_
    show Steps p.tables e below (s₁.setTop (mkF m 12 #[.val (.int xc)] [(.int (1 : Int32))])) _
    exact k
  obtain ⟨fs, hr, hrun, hended, hW, hsame⟩ := X0.leave (v := some (.int (1 : Int32))) (fun h => by rw [Bd.returns] at h; cases h)
  refine ⟨_, _, pre1 _ ?_, hrun, hended, _, _, rfl, ?_, ⟨_, rfl⟩, hW, hsame.mono (by decide) (by decide)⟩
  · exact retN X0 hx (t := .boolean) Bd.returns (by simp) (hb hby d14_12) hr
  · show Q_rm_can Z xc h0 n0 _ s₁.heap _
    rw [e0]
    exact ⟨rfl, N0, rfl⟩
theorem d15_0 : decode jdk_43_method_46_code 0 = .ok (.iconst 1, 1) := by decide +kernel
theorem d15_1 : decode jdk_43_method_46_code 1 = .ok (.newarray .byte, 2) := by decide +kernel
theorem d15_3 : decode jdk_43_method_46_code 3 = .ok (.dup, 1) := by decide +kernel
theorem d15_4 : decode jdk_43_method_46_code 4 = .ok (.iconst 0, 1) := by decide +kernel
theorem d15_5 : decode jdk_43_method_46_code 5 = .ok (.iload_n 0, 1) := by decide +kernel
theorem d15_6 : decode jdk_43_method_46_code 6 = .ok (.i2b, 1) := by decide +kernel
theorem d15_7 : decode jdk_43_method_46_code 7 = .ok (.bastore, 1) := by decide +kernel
theorem d15_8 : decode jdk_43_method_46_code 8 = .ok (.areturn, 1) := by decide +kernel
theorem ef_rm_tob (m : MethodId) (xc : Int32) : entryFrame m #[(.int xc)] 1 = mkF m 0 #[.val (.int xc)] [] := by first | (simp [entryFrame, mkF, argsToLocals, Value.category]; done) | rfl
def Q_rm_tob (Z : State) (xc : Int32) (h0 : Heap) (n0 : Nat) (v : Option Value) (h : Heap) (L : List Loc) : Prop := ∃ kb : ClassId, ∃ bo : Addr, v = some (.ref bo) ∧ Fr n0 L ∧ n0 ≤ bo ∧ h0.size ≤ bo ∧ Keep h0 h ([] : List Addr) ∧ Arv Z h bo kb .byte (1 : Int32) [(.int (nar .byte (xc.toInt8.toInt32)))] (.int (0 : Int32))
set_option maxRecDepth 65536 in
set_option maxHeartbeats 40000000 in
theorem rm_tob (l : Launch) (Z : State) (a0 : Array Value) (hw : ∀ d ∈ tables_1, d.before a0 Z = true) (ws : List Jvm.Cond) (xc : Int32) (h0 : Heap) (n0 : Nat) (Z0 : n0 ≤ h0.size) :
    MetFree l (⟨"java/lang/StringLatin1", "toBytes", "(C)[B"⟩ : MethodName) (head1 (Jvm.Cond.code (⟨"java/lang/StringLatin1", "toBytes", "(C)[B"⟩ : MethodName) jdk_43_method_46_code 1 (some (.array .byte)) :: ws) ({ frames := 0, cells := 1, slots := 1, locals := 0 } : Room)) (fun a U => a = #[(.int xc)] ∧ Z.Warmed39 U.vm ∧ U.heap = h0) (fun _ _ _ _ _ => True) (fun _ U o U' => ∃ v L, o = .returned v ∧ Q_rm_tob Z xc h0 n0 v U'.heap L ∧ FrameEnd U o U' L ({ frames := 0, cells := 1, slots := 1, locals := 0 } : Room).cells ({ frames := 0, cells := 1, slots := 1, locals := 0 } : Room).slots) := by
  refine MetFree.of_bodySF (plainFor_of_name pn0) hisR ?_
  intro p e s m args below meth c s₁ Bd hml0 hP hK
  obtain ⟨rfl, hZ, hh⟩ := hP
  have hx := Bd.exec
  have hby := Bd.bytes
  have hml : c.maxLocals = 1 := hml0
  have hown : s.vm.findClass "java/lang/StringLatin1" = some m.cls := findClass_of_methodNamed Bd.named
  have hnm := (name_of_methodNamed Bd.named Bd.method).1
  have X0 : Stand p l e ({ frames := 0, cells := 1, slots := 1, locals := 0 } : Room) s m #[(.int xc)] below meth c s₁ [] 0 0 := Stand.of_body Bd
  have e0 : s₁.heap = h0 := by rw [← hh, Bd.state]; rfl
  have N0 := Fr.nil n0
  have pre0 : ∀ t, Steps p.tables e below (s₁.setTop (mkF m 0 #[.val (.int xc)] [])) t → Steps p.tables e below (s₁.setTop (entryFrame m #[(.int xc)] 1)) t := fun t k => castTop (ef_rm_tob m xc) k
  have pre1 : ∀ t, Steps p.tables e below (s₁.setTop (mkF m 1 #[.val (.int xc)] [(.int (1 : Int32))])) t → Steps p.tables e below (s₁.setTop (entryFrame m #[(.int xc)] 1)) t := by
    intro t k
    refine pre0 t ?_
    refine XS.iconst X0.here hx rfl (hb hby d15_0) ?_
    show Steps p.tables e below (s₁.setTop (mkF m 1 #[.val (.int xc)] [(.int (1 : Int32))])) _
    exact k
  obtain ⟨T2, h2, k2, X2, e2, E2, A2, st2⟩ := newP X0 hx hZ (hw _ (List.mem_of_getElem? (i := 19) rfl)) e0 (g := (mkF m 1 #[.val (.int xc)] [(.int (1 : Int32))])) rfl (hb hby d15_1) rfl (by decide) (cap := 1) (by decide) (by decide) (by decide) (by decide)
  obtain ⟨b2, g2⟩ : ∃ z, z = h0.size := ⟨_, rfl⟩
  rw [← g2] at A2 st2
  have g_b2 : n0 ≤ b2 := Nat.le_trans Z0 (Nat.le_of_eq g2.symm)
  have sz_b2 : h0.size ≤ b2 := Nat.le_trans (Keep.refl h0 ([] : List Addr)).1 (Nat.le_of_eq g2.symm)
  have K2 : Keep h0 h2 ([] : List Addr) := (Keep.refl h0 ([] : List Addr)).ext E2
  have z2 : n0 ≤ h2.size := Nat.le_trans Z0 K2.1
  have V_b2 : Arv Z h2 b2 k2 .byte (1 : Int32) [(.int (0 : Int32))] (.int (0 : Int32)) := (Arv.new A2 (by decide)).pad (pad_rep [] (.int (0 : Int32)) 1)
  have X2 : Stand p l e _ _ m _ below meth c T2 _ 1 1 := X2
  have pre3 : ∀ t, Steps p.tables e below (T2.setTop (mkF m 3 #[.val (.int xc)] [(.ref b2)])) t → Steps p.tables e below (s₁.setTop (entryFrame m #[(.int xc)] 1)) t := fun t k => pre1 t (st2 t k)
  have pre4 : ∀ t, Steps p.tables e below (T2.setTop (mkF m 7 #[.val (.int xc)] [(.int (xc.toInt8.toInt32)), (.int (0 : Int32)), (.ref b2), (.ref b2)])) t → Steps p.tables e below (s₁.setTop (entryFrame m #[(.int xc)] 1)) t := by
    intro t k
    refine pre3 t ?_
    refine XS.dup X2.here hx rfl (hb hby d15_3) rfl rfl ?_
    show Steps p.tables e below (T2.setTop (mkF m 4 #[.val (.int xc)] [(.ref b2), (.ref b2)])) _
    refine XS.iconst X2.here hx rfl (hb hby d15_4) ?_
    show Steps p.tables e below (T2.setTop (mkF m 5 #[.val (.int xc)] [(.int (0 : Int32)), (.ref b2), (.ref b2)])) _
    refine XS.iloadN X2.here hx rfl (hb hby d15_5) rfl ?_
    show Steps p.tables e below (T2.setTop (mkF m 6 #[.val (.int xc)] [(.int xc), (.int (0 : Int32)), (.ref b2), (.ref b2)])) _
    refine XS.i2b X2.here hx rfl (hb hby d15_6) rfl ?_
    show Steps p.tables e below (T2.setTop (mkF m 7 #[.val (.int xc)] [(.int (xc.toInt8.toInt32)), (.int (0 : Int32)), (.ref b2), (.ref b2)])) _
    exact k
  obtain ⟨c5, a5, q5, s5, m5, i5, u5⟩ := id V_b2
  obtain ⟨T6, h6, X6, e6, W6, st6⟩ := stB X2 hx hZ e2 a5 (j := (0 : Int32)) (inb_of s5 ⟨by decide, by decide⟩) (g := (mkF m 7 #[.val (.int xc)] [(.int (xc.toInt8.toInt32)), (.int (0 : Int32)), (.ref b2), (.ref b2)])) rfl rfl (hb hby d15_7)
  have K6 : Keep h0 h6 ([] : List Addr) := K2.wr W6 (Or.inr sz_b2)
  have z6 : n0 ≤ h6.size := Nat.le_trans Z0 K6.1
  have N6 := Fr.snoc X6 N0 g_b2
  have V6 : Arv Z h6 b2 k2 .byte (1 : Int32) [(.int (nar .byte (xc.toInt8.toInt32)))] (.int (0 : Int32)) := Arv.set a5 q5 s5 m5 i5 u5 (fits_nar_byte _) W6 0 rfl (Nat.le_of_ble_eq_true rfl)
  have pre7 : ∀ t, Steps p.tables e below (T6.setTop (mkF m 8 #[.val (.int xc)] [(.ref b2)])) t → Steps p.tables e below (s₁.setTop (entryFrame m #[(.int xc)] 1)) t := fun t k => pre4 t (st6 t k)
  obtain ⟨fs, hr, hrun, hended, hW, hsame⟩ := X6.leave (v := some (.ref b2)) (fun h => by rw [Bd.returns] at h; cases h)
  refine ⟨_, _, pre7 _ ?_, hrun, hended, _, _, rfl, ?_, ⟨_, rfl⟩, hW, hsame.mono (by decide) (by decide)⟩
  · exact retOut X6 hx Bd.returns rfl (Or.inr (Or.inr (Or.inr (Or.inr ⟨rfl, rfl, rfl⟩)))) (hb hby d15_8) hr
  · show Q_rm_tob Z xc h0 n0 _ T6.heap _
    rw [e6]
    exact ⟨k2, b2, rfl, N6, g_b2, sz_b2, K6, V6⟩
theorem d16_0 : decode jdk_42_method_151_code 0 = .ok (.aload_n 0, 1) := by decide +kernel
theorem d16_1 : decode jdk_42_method_151_code 1 = .ok (.invokespecial 1, 3) := by decide +kernel
theorem d16_4 : decode jdk_42_method_151_code 4 = .ok (.aload_n 0, 1) := by decide +kernel
theorem d16_5 : decode jdk_42_method_151_code 5 = .ok (.aload_n 1, 1) := by decide +kernel
theorem d16_6 : decode jdk_42_method_151_code 6 = .ok (.putfield 9, 3) := by decide +kernel
theorem d16_9 : decode jdk_42_method_151_code 9 = .ok (.aload_n 0, 1) := by decide +kernel
theorem d16_10 : decode jdk_42_method_151_code 10 = .ok (.iload_n 2, 1) := by decide +kernel
theorem d16_11 : decode jdk_42_method_151_code 11 = .ok (.putfield 15, 3) := by decide +kernel
theorem d16_14 : decode jdk_42_method_151_code 14 = .ok (.return_, 1) := by decide +kernel
theorem pn1 : plainName "java/lang/String" = true := by first | (simp [plainName, overriddenIn]; done) | decide +kernel
theorem ef_rm_sinit (m : MethodId) (ra : Addr) (rb : Addr) : entryFrame m #[(.ref ra), (.ref rb), (.int (0 : Int32))] 3 = mkF m 0 #[.val (.ref ra), .val (.ref rb), .val (.int (0 : Int32))] [] := by first | (simp [entryFrame, mkF, argsToLocals, Value.category]; done) | rfl
def Q_rm_sinit (Z : State) (ra : Addr) (rb : Addr) (h0 : Heap) (n0 : Nat) (v : Option Value) (h : Heap) (L : List Loc) : Prop := v = none ∧ Fr n0 L ∧ Keep h0 h [ra] ∧ Exa Z h ra "java/lang/String" ∧ Fld Z h ra "java/lang/String" "value" "[B" (.ref rb) ∧ Fld Z h ra "java/lang/String" "coder" "B" (.int (0 : Int32))
set_option maxRecDepth 65536 in
set_option maxHeartbeats 40000000 in
theorem rm_sinit (l : Launch) (Z : State) (a0 : Array Value) (hw : ∀ d ∈ tables_1, d.before a0 Z = true) (ws : List Jvm.Cond) (ra : Addr) (rb : Addr) (h0 : Heap) (n0 : Nat) (Z0 : n0 ≤ h0.size) (E_ra : Exa Z h0 ra "java/lang/String") (g_ra : n0 ≤ ra) (F_value_ra : Fld Z h0 ra "java/lang/String" "value" "[B" .null) (F_coder_ra : Fld Z h0 ra "java/lang/String" "coder" "B" (.int (0 : Int32))) :
    MetFree l (⟨"java/lang/String", "<init>", "([BB)V"⟩ : MethodName) (head1 (Jvm.Cond.code (⟨"java/lang/String", "<init>", "([BB)V"⟩ : MethodName) jdk_42_method_151_code 3 none :: ws) ({ frames := 1, cells := 0, slots := 0, locals := 12 } : Room)) (fun a U => a = #[(.ref ra), (.ref rb), (.int (0 : Int32))] ∧ Z.Warmed39 U.vm ∧ U.heap = h0) (fun _ _ _ _ _ => True) (fun _ U o U' => ∃ v L, o = .returned v ∧ Q_rm_sinit Z ra rb h0 n0 v U'.heap L ∧ FrameEnd U o U' L ({ frames := 1, cells := 0, slots := 0, locals := 12 } : Room).cells ({ frames := 1, cells := 0, slots := 0, locals := 12 } : Room).slots) := by
  refine MetFree.of_bodySF (plainFor_of_name pn1) hisR ?_
  intro p e s m args below meth c s₁ Bd hml0 hP hK
  obtain ⟨rfl, hZ, hh⟩ := hP
  have hx := Bd.exec
  have hby := Bd.bytes
  have hml : c.maxLocals = 3 := hml0
  have hown : s.vm.findClass "java/lang/String" = some m.cls := findClass_of_methodNamed Bd.named
  have hnm := (name_of_methodNamed Bd.named Bd.method).1
  have X0 : Stand p l e ({ frames := 1, cells := 0, slots := 0, locals := 12 } : Room) s m #[(.ref ra), (.ref rb), (.int (0 : Int32))] below meth c s₁ [] 0 0 := Stand.of_body Bd
  have e0 : s₁.heap = h0 := by rw [← hh, Bd.state]; rfl
  have N0 := Fr.nil n0
  have pre0 : ∀ t, Steps p.tables e below (s₁.setTop (mkF m 0 #[.val (.ref ra), .val (.ref rb), .val (.int (0 : Int32))] [])) t → Steps p.tables e below (s₁.setTop (entryFrame m #[(.ref ra), (.ref rb), (.int (0 : Int32))] 3)) t := fun t k => castTop (ef_rm_sinit m ra rb) k
  have pre1 : ∀ t, Steps p.tables e below (s₁.setTop (mkF m 1 #[.val (.ref ra), .val (.ref rb), .val (.int (0 : Int32))] [(.ref ra)])) t → Steps p.tables e below (s₁.setTop (entryFrame m #[(.ref ra), (.ref rb), (.int (0 : Int32))] 3)) t := by
    intro t k
    refine pre0 t ?_
    refine XS.aloadN X0.here hx rfl (hb hby d16_0) rfl rfl ?_
    show Steps p.tables e below (s₁.setTop (mkF m 1 #[.val (.ref ra), .val (.ref rb), .val (.int (0 : Int32))] [(.ref ra)])) _
    exact k
  obtain ⟨T2, X2, e2, st2⟩ := initO X0 hx hZ hown (hw _ (List.mem_of_getElem? (i := 15) rfl)) (hw _ (List.mem_of_getElem? (i := 16) rfl)) (hw _ (List.mem_of_getElem? (i := 17) rfl)) e0 (g := (mkF m 1 #[.val (.ref ra), .val (.ref rb), .val (.int (0 : Int32))] [(.ref ra)])) rfl (by rw [hml]; rfl) rfl (hb hby d16_1) (by decide) (W := 0) (by show 2 * 0 + _ ≤ _; exact Nat.le_of_eq rfl) (by decide)
  have pre3 : ∀ t, Steps p.tables e below (T2.setTop (mkF m 4 #[.val (.ref ra), .val (.ref rb), .val (.int (0 : Int32))] [])) t → Steps p.tables e below (s₁.setTop (entryFrame m #[(.ref ra), (.ref rb), (.int (0 : Int32))] 3)) t := fun t k => pre1 t (st2 t k)
  have pre4 : ∀ t, Steps p.tables e below (T2.setTop (mkF m 6 #[.val (.ref ra), .val (.ref rb), .val (.int (0 : Int32))] [(.ref rb), (.ref ra)])) t → Steps p.tables e below (s₁.setTop (entryFrame m #[(.ref ra), (.ref rb), (.int (0 : Int32))] 3)) t := by
    intro t k
    refine pre3 t ?_
    refine XS.aloadN X2.here hx rfl (hb hby d16_4) rfl rfl ?_
    show Steps p.tables e below (T2.setTop (mkF m 5 #[.val (.ref ra), .val (.ref rb), .val (.int (0 : Int32))] [(.ref ra)])) _
    refine XS.aloadN X2.here hx rfl (hb hby d16_5) rfl rfl ?_
    show Steps p.tables e below (T2.setTop (mkF m 6 #[.val (.ref ra), .val (.ref rb), .val (.int (0 : Int32))] [(.ref rb), (.ref ra)])) _
    exact k
  obtain ⟨T5, h5, X5, e5, W5, st5⟩ := putF X2 hx hZ hown (host := "") (Or.inl (hw _ (List.mem_of_getElem? (i := 24) rfl))) Via.refl e2 F_value_ra E_ra (Or.inr ⟨(hw _ (List.mem_of_getElem? (i := 20) rfl)), rfl, hnm⟩) (hw _ (List.mem_of_getElem? (i := 5) rfl)) (ty := (.array .byte)) (by decide) rfl rfl (g := (mkF m 6 #[.val (.ref ra), .val (.ref rb), .val (.int (0 : Int32))] [(.ref rb), (.ref ra)])) rfl rfl (hb hby d16_6)
  have K5 : Keep h0 h5 [ra] := (Keep.refl h0 [ra]).wr W5 (Or.inl (by simp))
  have z5 : n0 ≤ h5.size := Nat.le_trans Z0 K5.1
  have N5 := Fr.snoc X5 N0 g_ra
  have Fw5 := F_value_ra.same W5
  have pre6 : ∀ t, Steps p.tables e below (T5.setTop (mkF m 9 #[.val (.ref ra), .val (.ref rb), .val (.int (0 : Int32))] [])) t → Steps p.tables e below (s₁.setTop (entryFrame m #[(.ref ra), (.ref rb), (.int (0 : Int32))] 3)) t := fun t k => pre4 t (st5 t k)
  have pre7 : ∀ t, Steps p.tables e below (T5.setTop (mkF m 11 #[.val (.ref ra), .val (.ref rb), .val (.int (0 : Int32))] [(.int (0 : Int32)), (.ref ra)])) t → Steps p.tables e below (s₁.setTop (entryFrame m #[(.ref ra), (.ref rb), (.int (0 : Int32))] 3)) t := by
    intro t k
    refine pre6 t ?_
    refine XS.aloadN X5.here hx rfl (hb hby d16_9) rfl rfl ?_
    show Steps p.tables e below (T5.setTop (mkF m 10 #[.val (.ref ra), .val (.ref rb), .val (.int (0 : Int32))] [(.ref ra)])) _
    refine XS.iloadN X5.here hx rfl (hb hby d16_10) rfl ?_
    show Steps p.tables e below (T5.setTop (mkF m 11 #[.val (.ref ra), .val (.ref rb), .val (.int (0 : Int32))] [(.int (0 : Int32)), (.ref ra)])) _
    exact k
  have f8 := (E_ra.wr W5)
  have f9 := (F_coder_ra.other W5 (Or.inr (slot_ne (Or.inr (hw _ (List.mem_of_getElem? (i := 21) rfl))) (Or.inr (hw _ (List.mem_of_getElem? (i := 20) rfl))) (by decide) (t := .byte) (t' := (.array .byte)) (by decide) (by decide))))
  obtain ⟨T10, h10, X10, e10, W10, st10⟩ := putFN X5 hx hZ hown (hw _ (List.mem_of_getElem? (i := 25) rfl)) Via.refl e5 f9 f8 (Or.inr ⟨(hw _ (List.mem_of_getElem? (i := 21) rfl)), rfl, hnm⟩) (hw _ (List.mem_of_getElem? (i := 5) rfl)) (ty := .byte) (v' := (.int (nar .byte (0 : Int32)))) (by decide) rfl (fits_nar_byte _) (g := (mkF m 11 #[.val (.ref ra), .val (.ref rb), .val (.int (0 : Int32))] [(.int (0 : Int32)), (.ref ra)])) rfl rfl (hb hby d16_11)
  have K10 : Keep h0 h10 [ra] := K5.wr W10 (Or.inl (by simp))
  have z10 : n0 ≤ h10.size := Nat.le_trans Z0 K10.1
  have N10 := Fr.snoc X10 N5 g_ra
  have Fw10 := f9.same W10
  have pre11 : ∀ t, Steps p.tables e below (T10.setTop (mkF m 14 #[.val (.ref ra), .val (.ref rb), .val (.int (0 : Int32))] [])) t → Steps p.tables e below (s₁.setTop (entryFrame m #[(.ref ra), (.ref rb), (.int (0 : Int32))] 3)) t := fun t k => pre7 t (st10 t k)
  obtain ⟨fs, hr, hrun, hended, hW, hsame⟩ := X10.leave (v := none) (fun _ => rfl)
  refine ⟨_, _, pre11 _ ?_, hrun, hended, _, _, rfl, ?_, ⟨_, rfl⟩, hW, hsame.mono (by decide) (by decide)⟩
  · exact X10.returnOut hx Bd.returns (hb hby d16_14) hr
  · show Q_rm_sinit Z ra rb h0 n0 _ T10.heap _
    rw [e10]
    exact ⟨rfl, N10, K10, (f8.wr W10), (Fw5.other W10 (Or.inr (slot_ne (Or.inr (hw _ (List.mem_of_getElem? (i := 20) rfl))) (Or.inr (hw _ (List.mem_of_getElem? (i := 21) rfl))) (by decide) (t := (.array .byte)) (t' := .byte) (by decide) (by decide)))), Fw10⟩
theorem d13_0 : decode jdk_42_method_139_code 0 = .ok (.getstatic 38, 3) := by decide +kernel
theorem d13_3 : decode jdk_42_method_139_code 3 = .ok (.ifCond .eq 23, 3) := by decide +kernel
theorem d13_6 : decode jdk_42_method_139_code 6 = .ok (.iload_n 0, 1) := by decide +kernel
theorem d13_7 : decode jdk_42_method_139_code 7 = .ok (.invokestatic 1015, 3) := by decide +kernel
theorem pd0 : parseMethodDescriptor "(C)Z" = some ⟨[.char], some .boolean⟩ := by decide +kernel
theorem d13_10 : decode jdk_42_method_139_code 10 = .ok (.ifCond .eq 16, 3) := by decide +kernel
theorem d13_13 : decode jdk_42_method_139_code 13 = .ok (.new 10, 3) := by decide +kernel
theorem d13_16 : decode jdk_42_method_139_code 16 = .ok (.dup, 1) := by decide +kernel
theorem d13_17 : decode jdk_42_method_139_code 17 = .ok (.iload_n 0, 1) := by decide +kernel
theorem d13_18 : decode jdk_42_method_139_code 18 = .ok (.invokestatic 1018, 3) := by decide +kernel
theorem pd1 : parseMethodDescriptor "(C)[B" = some ⟨[.char], some (.array .byte)⟩ := by decide +kernel
theorem d13_21 : decode jdk_42_method_139_code 21 = .ok (.iconst 0, 1) := by decide +kernel
theorem d13_22 : decode jdk_42_method_139_code 22 = .ok (.invokespecial 209, 3) := by decide +kernel
theorem pd2 : parseMethodDescriptor "([BB)V" = some ⟨[(.array .byte), .byte], none⟩ := by decide +kernel
theorem d13_25 : decode jdk_42_method_139_code 25 = .ok (.areturn, 1) := by decide +kernel
theorem ef_rm_sval (m : MethodId) (xc : Int32) : entryFrame m #[(.int xc)] 1 = mkF m 0 #[.val (.int xc)] [] := by first | (simp [entryFrame, mkF, argsToLocals, Value.category]; done) | rfl
def Q_rm_sval (Z : State) (xc : Int32) (xcs : Int32) (h0 : Heap) (n0 : Nat) (v : Option Value) (h : Heap) (L : List Loc) : Prop := ∃ ry : Addr, ∃ ky : ClassId, ∃ bo : Addr, v = some (.ref bo) ∧ Fr n0 L ∧ n0 ≤ bo ∧ h0.size ≤ bo ∧ Keep h0 h ([] : List Addr) ∧ Exa Z h bo "java/lang/String" ∧ Fld Z h bo "java/lang/String" "value" "[B" (.ref ry) ∧ Fld Z h bo "java/lang/String" "coder" "B" (.int (0 : Int32)) ∧ Arv Z h ry ky .byte (1 : Int32) [(.int (nar .byte (xc.toInt8.toInt32)))] (.int (0 : Int32))
set_option maxRecDepth 65536 in
set_option maxHeartbeats 40000000 in
theorem rm_sval (l : Launch) (Z : State) (a0 : Array Value) (hw : ∀ d ∈ tables_1, d.before a0 Z = true) (ws : List Jvm.Cond) (xc : Int32) (xcs : Int32) (h0 : Heap) (n0 : Nat) (Z0 : n0 ≤ h0.size) (SC : Sta Z h0 "java/lang/String" "COMPACT_STRINGS" "Z" (.int xcs)) (hcs : ¬ (xcs = (0 : Int32))) (hc : ¬ ((255 : Int32) < xc)) :
    MetFree l (⟨"java/lang/String", "valueOf", "(C)Ljava/lang/String;"⟩ : MethodName) (head1 (Jvm.Cond.code (⟨"java/lang/String", "valueOf", "(C)Ljava/lang/String;"⟩ : MethodName) jdk_42_method_139_code 1 (some (.object "java/lang/String")) :: ws) ({ frames := 2, cells := 2, slots := 5, locals := 27 } : Room)) (fun a U => a = #[(.int xc)] ∧ Z.Warmed39 U.vm ∧ U.heap = h0) (fun _ _ _ _ _ => True) (fun _ U o U' => ∃ v L, o = .returned v ∧ Q_rm_sval Z xc xcs h0 n0 v U'.heap L ∧ FrameEnd U o U' L ({ frames := 2, cells := 2, slots := 5, locals := 27 } : Room).cells ({ frames := 2, cells := 2, slots := 5, locals := 27 } : Room).slots) := by
  refine MetFree.of_bodySF (plainFor_of_name pn1) hisR ?_
  intro p e s m args below meth c s₁ Bd hml0 hP hK
  obtain ⟨rfl, hZ, hh⟩ := hP
  have hx := Bd.exec
  have hby := Bd.bytes
  have hml : c.maxLocals = 1 := hml0
  have hown : s.vm.findClass "java/lang/String" = some m.cls := findClass_of_methodNamed Bd.named
  have hnm := (name_of_methodNamed Bd.named Bd.method).1
  have X0 : Stand p l e ({ frames := 2, cells := 2, slots := 5, locals := 27 } : Room) s m #[(.int xc)] below meth c s₁ [] 0 0 := Stand.of_body Bd
  have e0 : s₁.heap = h0 := by rw [← hh, Bd.state]; rfl
  have N0 := Fr.nil n0
  have pre0 : ∀ t, Steps p.tables e below (s₁.setTop (mkF m 0 #[.val (.int xc)] [])) t → Steps p.tables e below (s₁.setTop (entryFrame m #[(.int xc)] 1)) t := fun t k => castTop (ef_rm_sval m xc) k
  obtain ⟨T1, X1, e1, st1⟩ := getS2 X0 hx hZ hown (host := "") (Or.inl (hw _ (List.mem_of_getElem? (i := 88) rfl))) Via.refl e0 SC (g := (mkF m 0 #[.val (.int xc)] [])) rfl (hb hby d13_0)
  have pre2 : ∀ t, Steps p.tables e below (T1.setTop (mkF m 3 #[.val (.int xc)] [(.int xcs)])) t → Steps p.tables e below (s₁.setTop (entryFrame m #[(.int xc)] 1)) t := fun t k => pre0 t (st1 t k)
  have pre3 : ∀ t, Steps p.tables e below (T1.setTop (mkF m 7 #[.val (.int xc)] [(.int xc)])) t → Steps p.tables e below (s₁.setTop (entryFrame m #[(.int xc)] 1)) t := by
    intro t k
    refine pre2 t ?_
    refine XS.ifNo X1.here hx rfl (hb hby d13_3) rfl ((if0 _ _).trans (feq (show ¬ (xcs = (0 : Int32)) from hcs)).1) ?_
    show Steps p.tables e below (T1.setTop (mkF m 6 #[.val (.int xc)] [])) _
    refine XS.iloadN X1.here hx rfl (hb hby d13_6) rfl ?_
    show Steps p.tables e below (T1.setTop (mkF m 7 #[.val (.int xc)] [(.int xc)])) _
    exact k
  obtain ⟨_, _, ⟨T4, L4, k4, n4⟩, -, X4, ⟨Lc4, hQ4, l4, y4, z4⟩, st4⟩ := Jvm.LawKit.callS X1 hx (y := (⟨"java/lang/StringLatin1", "canEncode", "(C)Z"⟩ : MethodName)) hown (mvT hZ (hw _ (List.mem_of_getElem? (i := 96) rfl))) (mvT hZ (hw _ (List.mem_of_getElem? (i := 97) rfl))) (mvT hZ (hw _ (List.mem_of_getElem? (i := 91) rfl))) (mvT hZ (hw _ (List.mem_of_getElem? (i := 98) rfl))) (by decide) (backOf (W := 0) (rm_can l Z a0 hw [] xc h0 n0 Z0 (hc)) hZ (hw _ (List.mem_of_getElem? (i := 98) rfl)) (hw _ (List.mem_of_getElem? (i := 91) rfl)) (by decide) (by decide)) (g := (mkF m 7 #[.val (.int xc)] [(.int xc)])) rfl (by rw [hml]; rfl) (argsL := [(.int xc)]) (rest := []) (lenOf pd0 rfl) rfl (by show 2 * 0 + _ ≤ _; exact Nat.le_of_eq rfl) (hb hby d13_7) (fun _ _ => ⟨rfl, e1, (by decide : 0 + 0 ≤ _), (by decide : 0 + 0 ≤ _)⟩)
  dsimp only [Pt.U, Pt.locs, Pt.cells, Pt.slots] at X4 l4 y4 z4 st4 hQ4
  subst y4 z4
  obtain ⟨rfl, M4, e4⟩ := hQ4
  have N4 : Fr n0 L4 := by rw [l4]; exact Fr.app N0 M4
  clear l4
  have X4 : Stand p l e _ _ m _ below meth c T4 _ 0 0 := X4
  have pre5 : ∀ t, Steps p.tables e below (T4.setTop (mkF m 10 #[.val (.int xc)] [(.int (1 : Int32))])) t → Steps p.tables e below (s₁.setTop (entryFrame m #[(.int xc)] 1)) t := fun t k => pre3 t (st4 t k)
  have pre6 : ∀ t, Steps p.tables e below (T4.setTop (mkF m 13 #[.val (.int xc)] [])) t → Steps p.tables e below (s₁.setTop (entryFrame m #[(.int xc)] 1)) t := by
    intro t k
    refine pre5 t ?_
    refine XS.ifNo X4.here hx rfl (hb hby d13_10) rfl ((if0 _ _).trans (feq (show ¬ ((1 : Int32) = (0 : Int32)) from by decide)).1) ?_
    show Steps p.tables e below (T4.setTop (mkF m 13 #[.val (.int xc)] [])) _
    exact k
  obtain ⟨T7, h7, X7, e7, E7, A7, D7, -, st7⟩ := newO X4 hx hZ hown (hw _ (List.mem_of_getElem? (i := 87) rfl)) (hw _ (List.mem_of_getElem? (i := 5) rfl)) (hw _ (List.mem_of_getElem? (i := 6) rfl)) e4 (g := (mkF m 13 #[.val (.int xc)] [])) rfl (hb hby d13_13) (by decide) (by decide)
  obtain ⟨b7, g7⟩ : ∃ z, z = h0.size := ⟨_, rfl⟩
  rw [← g7] at A7 D7 st7
  have g_b7 : n0 ≤ b7 := Nat.le_trans Z0 (Nat.le_of_eq g7.symm)
  have sz_b7 : h0.size ≤ b7 := Nat.le_trans (Keep.refl h0 ([] : List Addr)).1 (Nat.le_of_eq g7.symm)
  have K7 : Keep h0 h7 ([] : List Addr) := (Keep.refl h0 ([] : List Addr)).ext E7
  have z7 : n0 ≤ h7.size := Nat.le_trans Z0 K7.1
  have F_value_b7 : Fld Z h7 b7 "java/lang/String" "value" "[B" .null := D7 (Or.inr (hw _ (List.mem_of_getElem? (i := 20) rfl))) (ty := (.array .byte)) (by decide)
  have F_coder_b7 : Fld Z h7 b7 "java/lang/String" "coder" "B" (.int (0 : Int32)) := D7 (Or.inr (hw _ (List.mem_of_getElem? (i := 21) rfl))) (ty := .byte) (by decide)
  have X7 : Stand p l e _ _ m _ below meth c T7 _ 1 4 := X7
  have pre8 : ∀ t, Steps p.tables e below (T7.setTop (mkF m 16 #[.val (.int xc)] [(.ref b7)])) t → Steps p.tables e below (s₁.setTop (entryFrame m #[(.int xc)] 1)) t := fun t k => pre6 t (st7 t k)
  have pre9 : ∀ t, Steps p.tables e below (T7.setTop (mkF m 18 #[.val (.int xc)] [(.int xc), (.ref b7), (.ref b7)])) t → Steps p.tables e below (s₁.setTop (entryFrame m #[(.int xc)] 1)) t := by
    intro t k
    refine pre8 t ?_
    refine XS.dup X7.here hx rfl (hb hby d13_16) rfl rfl ?_
    show Steps p.tables e below (T7.setTop (mkF m 17 #[.val (.int xc)] [(.ref b7), (.ref b7)])) _
    refine XS.iloadN X7.here hx rfl (hb hby d13_17) rfl ?_
    show Steps p.tables e below (T7.setTop (mkF m 18 #[.val (.int xc)] [(.int xc), (.ref b7), (.ref b7)])) _
    exact k
  obtain ⟨_, _, ⟨T10, L10, k10, n10⟩, -, X10, ⟨Lc10, hQ10, l10, y10, z10⟩, st10⟩ := Jvm.LawKit.callS X7 hx (y := (⟨"java/lang/StringLatin1", "toBytes", "(C)[B"⟩ : MethodName)) hown (mvT hZ (hw _ (List.mem_of_getElem? (i := 99) rfl))) (mvT hZ (hw _ (List.mem_of_getElem? (i := 100) rfl))) (mvT hZ (hw _ (List.mem_of_getElem? (i := 91) rfl))) (mvT hZ (hw _ (List.mem_of_getElem? (i := 101) rfl))) (by decide) (backOf (W := 2) (rm_tob l Z a0 hw [] xc h7 n0 z7 ) hZ (hw _ (List.mem_of_getElem? (i := 101) rfl)) (hw _ (List.mem_of_getElem? (i := 91) rfl)) (by decide) (by decide)) (g := (mkF m 18 #[.val (.int xc)] [(.int xc), (.ref b7), (.ref b7)])) rfl (by rw [hml]; rfl) (argsL := [(.int xc)]) (rest := [(.ref b7), (.ref b7)]) (lenOf pd1 rfl) rfl (by show 2 * 0 + _ ≤ _; exact Nat.le_of_eq rfl) (hb hby d13_18) (fun _ _ => ⟨rfl, e7, (by decide : 1 + 1 ≤ _), (by decide : 4 + 1 ≤ _)⟩)
  dsimp only [Pt.U, Pt.locs, Pt.cells, Pt.slots] at X10 l10 y10 z10 st10 hQ10
  subst y10 z10
  obtain ⟨kb_10, b10, rfl, M10, g_b10, zs10, kp10, f10_0⟩ := hQ10
  have sz_b10 : h0.size ≤ b10 := Nat.le_trans K7.1 zs10
  have K10 : Keep h0 T10.heap ([] : List Addr) := K7.trans kp10 all0
  have zz10 : n0 ≤ T10.heap.size := Nat.le_trans Z0 K10.1
  have N10 : Fr n0 L10 := by rw [l10]; exact Fr.app N4 M10
  clear l10
  have X10 : Stand p l e _ _ m _ below meth c T10 _ 2 5 := X10
  have pre11 : ∀ t, Steps p.tables e below (T10.setTop (mkF m 21 #[.val (.int xc)] [(.ref b10), (.ref b7), (.ref b7)])) t → Steps p.tables e below (s₁.setTop (entryFrame m #[(.int xc)] 1)) t := fun t k => pre9 t (st10 t k)
  have pre12 : ∀ t, Steps p.tables e below (T10.setTop (mkF m 22 #[.val (.int xc)] [(.int (0 : Int32)), (.ref b10), (.ref b7), (.ref b7)])) t → Steps p.tables e below (s₁.setTop (entryFrame m #[(.int xc)] 1)) t := by
    intro t k
    refine pre11 t ?_
    refine XS.iconst X10.here hx rfl (hb hby d13_21) ?_
    show Steps p.tables e below (T10.setTop (mkF m 22 #[.val (.int xc)] [(.int (0 : Int32)), (.ref b10), (.ref b7), (.ref b7)])) _
    exact k
  have f13 := (A7.keep kp10)
  have f14 := (F_value_b7.keep kp10 nin0)
  have f15 := (F_coder_b7.keep kp10 nin0)
  obtain ⟨_, _, ⟨T16, L16, k16, n16⟩, -, X16, ⟨Lc16, hQ16, l16, y16, z16⟩, st16⟩ := X10.specialBack hx (y := (⟨"java/lang/String", "<init>", "([BB)V"⟩ : MethodName)) rfl hown (mvT hZ (hw _ (List.mem_of_getElem? (i := 102) rfl))) (mvT hZ (hw _ (List.mem_of_getElem? (i := 103) rfl))) (mvT hZ (hw _ (List.mem_of_getElem? (i := 104) rfl))) (by decide) (backOf (W := 1) (rm_sinit l Z a0 hw [] b7 b10 T10.heap n0 zz10 f13 (g_b7) f14 f15) hZ (hw _ (List.mem_of_getElem? (i := 104) rfl)) (hw _ (List.mem_of_getElem? (i := 6) rfl)) (by decide) (by decide)) (g := (mkF m 22 #[.val (.int xc)] [(.int (0 : Int32)), (.ref b10), (.ref b7), (.ref b7)])) rfl (by rw [hml]; rfl) (Steps.refl _) (a := b7) (argsL := [(.ref b10), (.int (0 : Int32))]) (rest := [(.ref b7)]) (lenOf pd2 rfl) rfl (by show 2 * 0 + _ ≤ _; exact Nat.le_of_eq rfl) (hb hby d13_22) (fun _ _ => ⟨rfl, rfl, (by decide : 2 + 0 ≤ _), (by decide : 5 + 0 ≤ _)⟩)
  dsimp only [Pt.U, Pt.locs, Pt.cells, Pt.slots] at X16 l16 y16 z16 st16 hQ16
  subst y16 z16
  obtain ⟨rfl, M16, kp16, f16_0, f16_1, f16_2⟩ := hQ16
  have K16 : Keep h0 T16.heap ([] : List Addr) := K10.trans kp16 (allS (P := fun x => x ∈ ([] : List Addr) ∨ h0.size ≤ x) (Or.inr sz_b7) all0)
  have zz16 : n0 ≤ T16.heap.size := Nat.le_trans Z0 K16.1
  have N16 : Fr n0 L16 := by rw [l16]; exact Fr.app N10 M16
  clear l16
  have X16 : Stand p l e _ _ m _ below meth c T16 _ 2 5 := X16
  have pre17 : ∀ t, Steps p.tables e below (T16.setTop (mkF m 25 #[.val (.int xc)] [(.ref b7)])) t → Steps p.tables e below (s₁.setTop (entryFrame m #[(.int xc)] 1)) t := fun t k => pre12 t (st16.trans k)
  obtain ⟨fs, hr, hrun, hended, hW, hsame⟩ := X16.leave (v := some (.ref b7)) (fun h => by rw [Bd.returns] at h; cases h)
  refine ⟨_, _, pre17 _ ?_, hrun, hended, _, _, rfl, ?_, ⟨_, rfl⟩, hW, hsame.mono (by decide) (by decide)⟩
  · exact retOut X16 hx Bd.returns rfl (Or.inr (Or.inr (Or.inr (Or.inr ⟨rfl, rfl, rfl⟩)))) (hb hby d13_25) hr
  · show Q_rm_sval Z xc xcs h0 n0 _ T16.heap _
    exact ⟨b10, kb_10, b7, rfl, N16, g_b7, sz_b7, K16, f16_0, f16_1, f16_2, (f10_0.keep kp16 (ninS (Ne.symm (Nat.ne_of_lt (Nat.lt_of_lt_of_le A7.lt zs10))) nin0))⟩
theorem d18_0 : decode jdk_52_method_21_code 0 = .ok (.iconst 0, 1) := by decide +kernel
theorem d18_1 : decode jdk_52_method_21_code 1 = .ok (.istore 5, 2) := by decide +kernel
theorem d18_3 : decode jdk_52_method_21_code 3 = .ok (.iload 5, 2) := by decide +kernel
theorem d18_5 : decode jdk_52_method_21_code 5 = .ok (.iload 4, 2) := by decide +kernel
theorem d18_7 : decode jdk_52_method_21_code 7 = .ok (.if_icmp .ge 37, 3) := by decide +kernel
theorem d18_10 : decode jdk_52_method_21_code 10 = .ok (.aload_n 0, 1) := by decide +kernel
theorem d18_11 : decode jdk_52_method_21_code 11 = .ok (.iload_n 1, 1) := by decide +kernel
theorem d18_12 : decode jdk_52_method_21_code 12 = .ok (.caload, 1) := by decide +kernel
theorem d18_13 : decode jdk_52_method_21_code 13 = .ok (.istore 6, 2) := by decide +kernel
theorem d18_15 : decode jdk_52_method_21_code 15 = .ok (.iload 6, 2) := by decide +kernel
theorem d18_17 : decode jdk_52_method_21_code 17 = .ok (.sipush 255, 3) := by decide +kernel
theorem d18_20 : decode jdk_52_method_21_code 20 = .ok (.if_icmp .le 6, 3) := by decide +kernel
theorem d18_26 : decode jdk_52_method_21_code 26 = .ok (.aload_n 2, 1) := by decide +kernel
theorem d18_27 : decode jdk_52_method_21_code 27 = .ok (.iload_n 3, 1) := by decide +kernel
theorem d18_28 : decode jdk_52_method_21_code 28 = .ok (.iload 6, 2) := by decide +kernel
theorem d18_30 : decode jdk_52_method_21_code 30 = .ok (.i2b, 1) := by decide +kernel
theorem d18_31 : decode jdk_52_method_21_code 31 = .ok (.bastore, 1) := by decide +kernel
theorem d18_32 : decode jdk_52_method_21_code 32 = .ok (.iinc 1 1, 3) := by decide +kernel
theorem d18_35 : decode jdk_52_method_21_code 35 = .ok (.iinc 3 1, 3) := by decide +kernel
theorem d18_38 : decode jdk_52_method_21_code 38 = .ok (.iinc 5 1, 3) := by decide +kernel
theorem d18_41 : decode jdk_52_method_21_code 41 = .ok (.goto (-38), 3) := by decide +kernel
theorem d18_44 : decode jdk_52_method_21_code 44 = .ok (.iload 4, 2) := by decide +kernel
theorem d18_46 : decode jdk_52_method_21_code 46 = .ok (.ireturn, 1) := by decide +kernel
theorem pn2 : plainName "java/lang/StringUTF16" = true := by first | (simp [plainName, overriddenIn]; done) | decide +kernel
theorem ef_rm_cmp (m : MethodId) (ra : Addr) (rb : Addr) : entryFrame m #[(.ref ra), (.int (0 : Int32)), (.ref rb), (.int (0 : Int32)), (.int (2 : Int32))] 7 = mkF m 0 #[.val (.ref ra), .val (.int (0 : Int32)), .val (.ref rb), .val (.int (0 : Int32)), .val (.int (2 : Int32)), .unset, .unset] [] := by first | (simp [entryFrame, mkF, argsToLocals, Value.category]; done) | rfl
def Q_rm_cmp (Z : State) (ra : Addr) (rb : Addr) (ka : ClassId) (kb : ClassId) (xc0 : Int32) (xc1 : Int32) (h0 : Heap) (n0 : Nat) (v : Option Value) (h : Heap) (L : List Loc) : Prop := v = some (.int (2 : Int32)) ∧ Fr n0 L ∧ Keep h0 h [rb] ∧ Arv Z h rb kb .byte (2 : Int32) [(.int (nar .byte (xc0.toInt8.toInt32))), (.int (nar .byte (xc1.toInt8.toInt32)))] (.int (0 : Int32))
set_option maxRecDepth 65536 in
set_option maxHeartbeats 40000000 in
theorem rm_cmp (l : Launch) (Z : State) (a0 : Array Value) (hw : ∀ d ∈ tables_1, d.before a0 Z = true) (ws : List Jvm.Cond) (ra : Addr) (rb : Addr) (ka : ClassId) (kb : ClassId) (xc0 : Int32) (xc1 : Int32) (h0 : Heap) (n0 : Nat) (Z0 : n0 ≤ h0.size) (VA : Arv Z h0 ra ka .char (2 : Int32) [(.int xc0), (.int xc1)] (.int (0 : Int32))) (VB0 : Arv Z h0 rb kb .byte (2 : Int32) [(.int (0 : Int32)), (.int (0 : Int32))] (.int (0 : Int32))) (g_rb : n0 ≤ rb) (hne : ra ≠ rb) (hd0 : ¬ ((255 : Int32) < xc0)) (hd1 : ¬ ((255 : Int32) < xc1)) :
    MetFree l (⟨"java/lang/StringUTF16", "compress", "([CI[BII)I"⟩ : MethodName) (head1 (Jvm.Cond.code (⟨"java/lang/StringUTF16", "compress", "([CI[BII)I"⟩ : MethodName) jdk_52_method_21_code 7 (some .int) :: ws) ({ frames := 0, cells := 0, slots := 0, locals := 0 } : Room)) (fun a U => a = #[(.ref ra), (.int (0 : Int32)), (.ref rb), (.int (0 : Int32)), (.int (2 : Int32))] ∧ Z.Warmed39 U.vm ∧ U.heap = h0) (fun _ _ _ _ _ => True) (fun _ U o U' => ∃ v L, o = .returned v ∧ Q_rm_cmp Z ra rb ka kb xc0 xc1 h0 n0 v U'.heap L ∧ FrameEnd U o U' L ({ frames := 0, cells := 0, slots := 0, locals := 0 } : Room).cells ({ frames := 0, cells := 0, slots := 0, locals := 0 } : Room).slots) := by
  refine MetFree.of_bodySF (plainFor_of_name pn2) hisR ?_
  intro p e s m args below meth c s₁ Bd hml0 hP hK
  obtain ⟨rfl, hZ, hh⟩ := hP
  have hx := Bd.exec
  have hby := Bd.bytes
  have hml : c.maxLocals = 7 := hml0
  have hown : s.vm.findClass "java/lang/StringUTF16" = some m.cls := findClass_of_methodNamed Bd.named
  have hnm := (name_of_methodNamed Bd.named Bd.method).1
  have X0 : Stand p l e ({ frames := 0, cells := 0, slots := 0, locals := 0 } : Room) s m #[(.ref ra), (.int (0 : Int32)), (.ref rb), (.int (0 : Int32)), (.int (2 : Int32))] below meth c s₁ [] 0 0 := Stand.of_body Bd
  have e0 : s₁.heap = h0 := by rw [← hh, Bd.state]; rfl
  have N0 := Fr.nil n0
  have pre0 : ∀ t, Steps p.tables e below (s₁.setTop (mkF m 0 #[.val (.ref ra), .val (.int (0 : Int32)), .val (.ref rb), .val (.int (0 : Int32)), .val (.int (2 : Int32)), .unset, .unset] [])) t → Steps p.tables e below (s₁.setTop (entryFrame m #[(.ref ra), (.int (0 : Int32)), (.ref rb), (.int (0 : Int32)), (.int (2 : Int32))] 7)) t := fun t k => castTop (ef_rm_cmp m ra rb) k
  have pre2 : ∀ t, Steps p.tables e below (s₁.setTop (mkF m 31 #[.val (.ref ra), .val (.int (0 : Int32)), .val (.ref rb), .val (.int (0 : Int32)), .val (.int (2 : Int32)), .val (.int (0 : Int32)), .val (.int xc0)] [(.int (xc0.toInt8.toInt32)), (.int (0 : Int32)), (.ref rb)])) t → Steps p.tables e below (s₁.setTop (entryFrame m #[(.ref ra), (.int (0 : Int32)), (.ref rb), (.int (0 : Int32)), (.int (2 : Int32))] 7)) t := by
    intro t k
    refine pre0 t ?_
    refine XS.iconst X0.here hx rfl (hb hby d18_0) ?_
    show Steps p.tables e below (s₁.setTop (mkF m 1 #[.val (.ref ra), .val (.int (0 : Int32)), .val (.ref rb), .val (.int (0 : Int32)), .val (.int (2 : Int32)), .unset, .unset] [(.int (0 : Int32))])) _
    refine XS.istore X0.here hx rfl (hb hby d18_1) rfl (l' := #[.val (.ref ra), .val (.int (0 : Int32)), .val (.ref rb), .val (.int (0 : Int32)), .val (.int (2 : Int32)), .val (.int (0 : Int32)), .unset]) rfl ?_
    show Steps p.tables e below (s₁.setTop (mkF m 3 #[.val (.ref ra), .val (.int (0 : Int32)), .val (.ref rb), .val (.int (0 : Int32)), .val (.int (2 : Int32)), .val (.int (0 : Int32)), .unset] [])) _
    refine XS.iload X0.here hx rfl (hb hby d18_3) rfl ?_
    show Steps p.tables e below (s₁.setTop (mkF m 5 #[.val (.ref ra), .val (.int (0 : Int32)), .val (.ref rb), .val (.int (0 : Int32)), .val (.int (2 : Int32)), .val (.int (0 : Int32)), .unset] [(.int (0 : Int32))])) _
    refine XS.iload X0.here hx rfl (hb hby d18_5) rfl ?_
    show Steps p.tables e below (s₁.setTop (mkF m 7 #[.val (.ref ra), .val (.int (0 : Int32)), .val (.ref rb), .val (.int (0 : Int32)), .val (.int (2 : Int32)), .val (.int (0 : Int32)), .unset] [(.int (2 : Int32)), (.int (0 : Int32))])) _
    refine XS.icmpNo X0.here hx rfl (hb hby d18_7) rfl (tlt (show (0 : Int32) < (2 : Int32) from by decide)).2.1 ?_
    show Steps p.tables e below (s₁.setTop (mkF m 10 #[.val (.ref ra), .val (.int (0 : Int32)), .val (.ref rb), .val (.int (0 : Int32)), .val (.int (2 : Int32)), .val (.int (0 : Int32)), .unset] [])) _
    refine XS.aloadN X0.here hx rfl (hb hby d18_10) rfl rfl ?_
    show Steps p.tables e below (s₁.setTop (mkF m 11 #[.val (.ref ra), .val (.int (0 : Int32)), .val (.ref rb), .val (.int (0 : Int32)), .val (.int (2 : Int32)), .val (.int (0 : Int32)), .unset] [(.ref ra)])) _
    refine XS.iloadN X0.here hx rfl (hb hby d18_11) rfl ?_
    show Steps p.tables e below (s₁.setTop (mkF m 12 #[.val (.ref ra), .val (.int (0 : Int32)), .val (.ref rb), .val (.int (0 : Int32)), .val (.int (2 : Int32)), .val (.int (0 : Int32)), .unset] [(.int (0 : Int32)), (.ref ra)])) _
    obtain ⟨c1, a1, q1, s1, m1, i1, u1⟩ := id VA
    have hin1 := inb_of (j := (0 : Int32)) s1 ⟨by decide, by decide⟩
    refine X0.caload hx (j := (0 : Int32)) (v := (.int xc0)) (by rw [e0]; exact a1.1) (State.isArrayOf_alike hZ.alike a1.2.1) a1.2.2 hin1 (i1.at hin1 rfl) (g := (mkF m 12 #[.val (.ref ra), .val (.int (0 : Int32)), .val (.ref rb), .val (.int (0 : Int32)), .val (.int (2 : Int32)), .val (.int (0 : Int32)), .unset] [(.int (0 : Int32)), (.ref ra)])) rfl rfl (hb hby d18_12) _ ?_
    show Steps p.tables e below (s₁.setTop (mkF m 13 #[.val (.ref ra), .val (.int (0 : Int32)), .val (.ref rb), .val (.int (0 : Int32)), .val (.int (2 : Int32)), .val (.int (0 : Int32)), .unset] [(.int xc0)])) _
    refine XS.istore X0.here hx rfl (hb hby d18_13) rfl (l' := #[.val (.ref ra), .val (.int (0 : Int32)), .val (.ref rb), .val (.int (0 : Int32)), .val (.int (2 : Int32)), .val (.int (0 : Int32)), .val (.int xc0)]) rfl ?_
    show Steps p.tables e below (s₁.setTop (mkF m 15 #[.val (.ref ra), .val (.int (0 : Int32)), .val (.ref rb), .val (.int (0 : Int32)), .val (.int (2 : Int32)), .val (.int (0 : Int32)), .val (.int xc0)] [])) _
    refine XS.iload X0.here hx rfl (hb hby d18_15) rfl ?_
    show Steps p.tables e below (s₁.setTop (mkF m 17 #[.val (.ref ra), .val (.int (0 : Int32)), .val (.ref rb), .val (.int (0 : Int32)), .val (.int (2 : Int32)), .val (.int (0 : Int32)), .val (.int xc0)] [(.int xc0)])) _
    refine XS.sipush X0.here hx rfl (hb hby d18_17) ?_
    show Steps p.tables e below (s₁.setTop (mkF m 20 #[.val (.ref ra), .val (.int (0 : Int32)), .val (.ref rb), .val (.int (0 : Int32)), .val (.int (2 : Int32)), .val (.int (0 : Int32)), .val (.int xc0)] [(.int (255 : Int32)), (.int xc0)])) _
    refine XS.icmpYes X0.here hx rfl (pc0 := 20) (pc' := 26) rfl (hb hby d18_20) rfl (flt (show ¬ ((255 : Int32) < xc0) from hd0)).2.2.2 (by decide) (by decide) ?_
    show Steps p.tables e below (s₁.setTop (mkF m 26 #[.val (.ref ra), .val (.int (0 : Int32)), .val (.ref rb), .val (.int (0 : Int32)), .val (.int (2 : Int32)), .val (.int (0 : Int32)), .val (.int xc0)] [])) _
    refine XS.aloadN X0.here hx rfl (hb hby d18_26) rfl rfl ?_
    show Steps p.tables e below (s₁.setTop (mkF m 27 #[.val (.ref ra), .val (.int (0 : Int32)), .val (.ref rb), .val (.int (0 : Int32)), .val (.int (2 : Int32)), .val (.int (0 : Int32)), .val (.int xc0)] [(.ref rb)])) _
    refine XS.iloadN X0.here hx rfl (hb hby d18_27) rfl ?_
    show Steps p.tables e below (s₁.setTop (mkF m 28 #[.val (.ref ra), .val (.int (0 : Int32)), .val (.ref rb), .val (.int (0 : Int32)), .val (.int (2 : Int32)), .val (.int (0 : Int32)), .val (.int xc0)] [(.int (0 : Int32)), (.ref rb)])) _
    refine XS.iload X0.here hx rfl (hb hby d18_28) rfl ?_
    show Steps p.tables e below (s₁.setTop (mkF m 30 #[.val (.ref ra), .val (.int (0 : Int32)), .val (.ref rb), .val (.int (0 : Int32)), .val (.int (2 : Int32)), .val (.int (0 : Int32)), .val (.int xc0)] [(.int xc0), (.int (0 : Int32)), (.ref rb)])) _
    refine XS.i2b X0.here hx rfl (hb hby d18_30) rfl ?_
    show Steps p.tables e below (s₁.setTop (mkF m 31 #[.val (.ref ra), .val (.int (0 : Int32)), .val (.ref rb), .val (.int (0 : Int32)), .val (.int (2 : Int32)), .val (.int (0 : Int32)), .val (.int xc0)] [(.int (xc0.toInt8.toInt32)), (.int (0 : Int32)), (.ref rb)])) _
    exact k
  obtain ⟨c3, a3, q3, s3, m3, i3, u3⟩ := id VB0
  obtain ⟨T4, h4, X4, e4, W4, st4⟩ := stB X0 hx hZ e0 a3 (j := (0 : Int32)) (inb_of s3 ⟨by decide, by decide⟩) (g := (mkF m 31 #[.val (.ref ra), .val (.int (0 : Int32)), .val (.ref rb), .val (.int (0 : Int32)), .val (.int (2 : Int32)), .val (.int (0 : Int32)), .val (.int xc0)] [(.int (xc0.toInt8.toInt32)), (.int (0 : Int32)), (.ref rb)])) rfl rfl (hb hby d18_31)
  have K4 : Keep h0 h4 [rb] := (Keep.refl h0 [rb]).wr W4 (Or.inl (by simp))
  have z4 : n0 ≤ h4.size := Nat.le_trans Z0 K4.1
  have N4 := Fr.snoc X4 N0 g_rb
  have V4 : Arv Z h4 rb kb .byte (2 : Int32) [(.int (nar .byte (xc0.toInt8.toInt32))), (.int (0 : Int32))] (.int (0 : Int32)) := Arv.set a3 q3 s3 m3 i3 u3 (fits_nar_byte _) W4 0 rfl (Nat.le_of_ble_eq_true rfl)
  have pre5 : ∀ t, Steps p.tables e below (T4.setTop (mkF m 32 #[.val (.ref ra), .val (.int (0 : Int32)), .val (.ref rb), .val (.int (0 : Int32)), .val (.int (2 : Int32)), .val (.int (0 : Int32)), .val (.int xc0)] [])) t → Steps p.tables e below (s₁.setTop (entryFrame m #[(.ref ra), (.int (0 : Int32)), (.ref rb), (.int (0 : Int32)), (.int (2 : Int32))] 7)) t := fun t k => pre2 t (st4 t k)
  have pre7 : ∀ t, Steps p.tables e below (T4.setTop (mkF m 31 #[.val (.ref ra), .val (.int (1 : Int32)), .val (.ref rb), .val (.int (1 : Int32)), .val (.int (2 : Int32)), .val (.int (1 : Int32)), .val (.int xc1)] [(.int (xc1.toInt8.toInt32)), (.int (1 : Int32)), (.ref rb)])) t → Steps p.tables e below (s₁.setTop (entryFrame m #[(.ref ra), (.int (0 : Int32)), (.ref rb), (.int (0 : Int32)), (.int (2 : Int32))] 7)) t := by
    intro t k
    refine pre5 t ?_
    refine XS.iinc X4.here hx rfl (hb hby d18_32) rfl (l' := #[.val (.ref ra), .val (.int (1 : Int32)), .val (.ref rb), .val (.int (0 : Int32)), .val (.int (2 : Int32)), .val (.int (0 : Int32)), .val (.int xc0)]) rfl ?_
    show Steps p.tables e below (T4.setTop (mkF m 35 #[.val (.ref ra), .val (.int (1 : Int32)), .val (.ref rb), .val (.int (0 : Int32)), .val (.int (2 : Int32)), .val (.int (0 : Int32)), .val (.int xc0)] [])) _
    refine XS.iinc X4.here hx rfl (hb hby d18_35) rfl (l' := #[.val (.ref ra), .val (.int (1 : Int32)), .val (.ref rb), .val (.int (1 : Int32)), .val (.int (2 : Int32)), .val (.int (0 : Int32)), .val (.int xc0)]) rfl ?_
    show Steps p.tables e below (T4.setTop (mkF m 38 #[.val (.ref ra), .val (.int (1 : Int32)), .val (.ref rb), .val (.int (1 : Int32)), .val (.int (2 : Int32)), .val (.int (0 : Int32)), .val (.int xc0)] [])) _
    refine XS.iinc X4.here hx rfl (hb hby d18_38) rfl (l' := #[.val (.ref ra), .val (.int (1 : Int32)), .val (.ref rb), .val (.int (1 : Int32)), .val (.int (2 : Int32)), .val (.int (1 : Int32)), .val (.int xc0)]) rfl ?_
    show Steps p.tables e below (T4.setTop (mkF m 41 #[.val (.ref ra), .val (.int (1 : Int32)), .val (.ref rb), .val (.int (1 : Int32)), .val (.int (2 : Int32)), .val (.int (1 : Int32)), .val (.int xc0)] [])) _
    refine XS.goto X4.here hx rfl (pc0 := 41) (pc' := 3) rfl (hb hby d18_41) (by decide) (by decide) ?_
    show Steps p.tables e below (T4.setTop (mkF m 3 #[.val (.ref ra), .val (.int (1 : Int32)), .val (.ref rb), .val (.int (1 : Int32)), .val (.int (2 : Int32)), .val (.int (1 : Int32)), .val (.int xc0)] [])) _
    refine XS.iload X4.here hx rfl (hb hby d18_3) rfl ?_
    show Steps p.tables e below (T4.setTop (mkF m 5 #[.val (.ref ra), .val (.int (1 : Int32)), .val (.ref rb), .val (.int (1 : Int32)), .val (.int (2 : Int32)), .val (.int (1 : Int32)), .val (.int xc0)] [(.int (1 : Int32))])) _
    refine XS.iload X4.here hx rfl (hb hby d18_5) rfl ?_
    show Steps p.tables e below (T4.setTop (mkF m 7 #[.val (.ref ra), .val (.int (1 : Int32)), .val (.ref rb), .val (.int (1 : Int32)), .val (.int (2 : Int32)), .val (.int (1 : Int32)), .val (.int xc0)] [(.int (2 : Int32)), (.int (1 : Int32))])) _
    refine XS.icmpNo X4.here hx rfl (hb hby d18_7) rfl (tlt (show (1 : Int32) < (2 : Int32) from by decide)).2.1 ?_
    show Steps p.tables e below (T4.setTop (mkF m 10 #[.val (.ref ra), .val (.int (1 : Int32)), .val (.ref rb), .val (.int (1 : Int32)), .val (.int (2 : Int32)), .val (.int (1 : Int32)), .val (.int xc0)] [])) _
    refine XS.aloadN X4.here hx rfl (hb hby d18_10) rfl rfl ?_
    show Steps p.tables e below (T4.setTop (mkF m 11 #[.val (.ref ra), .val (.int (1 : Int32)), .val (.ref rb), .val (.int (1 : Int32)), .val (.int (2 : Int32)), .val (.int (1 : Int32)), .val (.int xc0)] [(.ref ra)])) _
    refine XS.iloadN X4.here hx rfl (hb hby d18_11) rfl ?_
    show Steps p.tables e below (T4.setTop (mkF m 12 #[.val (.ref ra), .val (.int (1 : Int32)), .val (.ref rb), .val (.int (1 : Int32)), .val (.int (2 : Int32)), .val (.int (1 : Int32)), .val (.int xc0)] [(.int (1 : Int32)), (.ref ra)])) _
    obtain ⟨c6, a6, q6, s6, m6, i6, u6⟩ := id (VA.other W4 hne)
    have hin6 := inb_of (j := (1 : Int32)) s6 ⟨by decide, by decide⟩
    refine X4.caload hx (j := (1 : Int32)) (v := (.int xc1)) (by rw [e4]; exact a6.1) (State.isArrayOf_alike hZ.alike a6.2.1) a6.2.2 hin6 (i6.at hin6 rfl) (g := (mkF m 12 #[.val (.ref ra), .val (.int (1 : Int32)), .val (.ref rb), .val (.int (1 : Int32)), .val (.int (2 : Int32)), .val (.int (1 : Int32)), .val (.int xc0)] [(.int (1 : Int32)), (.ref ra)])) rfl rfl (hb hby d18_12) _ ?_
    show Steps p.tables e below (T4.setTop (mkF m 13 #[.val (.ref ra), .val (.int (1 : Int32)), .val (.ref rb), .val (.int (1 : Int32)), .val (.int (2 : Int32)), .val (.int (1 : Int32)), .val (.int xc0)] [(.int xc1)])) _
    refine XS.istore X4.here hx rfl (hb hby d18_13) rfl (l' := #[.val (.ref ra), .val (.int (1 : Int32)), .val (.ref rb), .val (.int (1 : Int32)), .val (.int (2 : Int32)), .val (.int (1 : Int32)), .val (.int xc1)]) rfl ?_
    show Steps p.tables e below (T4.setTop (mkF m 15 #[.val (.ref ra), .val (.int (1 : Int32)), .val (.ref rb), .val (.int (1 : Int32)), .val (.int (2 : Int32)), .val (.int (1 : Int32)), .val (.int xc1)] [])) _
    refine XS.iload X4.here hx rfl (hb hby d18_15) rfl ?_
    show Steps p.tables e below (T4.setTop (mkF m 17 #[.val (.ref ra), .val (.int (1 : Int32)), .val (.ref rb), .val (.int (1 : Int32)), .val (.int (2 : Int32)), .val (.int (1 : Int32)), .val (.int xc1)] [(.int xc1)])) _
    refine XS.sipush X4.here hx rfl (hb hby d18_17) ?_
    show Steps p.tables e below (T4.setTop (mkF m 20 #[.val (.ref ra), .val (.int (1 : Int32)), .val (.ref rb), .val (.int (1 : Int32)), .val (.int (2 : Int32)), .val (.int (1 : Int32)), .val (.int xc1)] [(.int (255 : Int32)), (.int xc1)])) _
    refine XS.icmpYes X4.here hx rfl (pc0 := 20) (pc' := 26) rfl (hb hby d18_20) rfl (flt (show ¬ ((255 : Int32) < xc1) from hd1)).2.2.2 (by decide) (by decide) ?_
    show Steps p.tables e below (T4.setTop (mkF m 26 #[.val (.ref ra), .val (.int (1 : Int32)), .val (.ref rb), .val (.int (1 : Int32)), .val (.int (2 : Int32)), .val (.int (1 : Int32)), .val (.int xc1)] [])) _
    refine XS.aloadN X4.here hx rfl (hb hby d18_26) rfl rfl ?_
    show Steps p.tables e below (T4.setTop (mkF m 27 #[.val (.ref ra), .val (.int (1 : Int32)), .val (.ref rb), .val (.int (1 : Int32)), .val (.int (2 : Int32)), .val (.int (1 : Int32)), .val (.int xc1)] [(.ref rb)])) _
    refine XS.iloadN X4.here hx rfl (hb hby d18_27) rfl ?_
    show Steps p.tables e below (T4.setTop (mkF m 28 #[.val (.ref ra), .val (.int (1 : Int32)), .val (.ref rb), .val (.int (1 : Int32)), .val (.int (2 : Int32)), .val (.int (1 : Int32)), .val (.int xc1)] [(.int (1 : Int32)), (.ref rb)])) _
    refine XS.iload X4.here hx rfl (hb hby d18_28) rfl ?_
    show Steps p.tables e below (T4.setTop (mkF m 30 #[.val (.ref ra), .val (.int (1 : Int32)), .val (.ref rb), .val (.int (1 : Int32)), .val (.int (2 : Int32)), .val (.int (1 : Int32)), .val (.int xc1)] [(.int xc1), (.int (1 : Int32)), (.ref rb)])) _
    refine XS.i2b X4.here hx rfl (hb hby d18_30) rfl ?_
    show Steps p.tables e below (T4.setTop (mkF m 31 #[.val (.ref ra), .val (.int (1 : Int32)), .val (.ref rb), .val (.int (1 : Int32)), .val (.int (2 : Int32)), .val (.int (1 : Int32)), .val (.int xc1)] [(.int (xc1.toInt8.toInt32)), (.int (1 : Int32)), (.ref rb)])) _
    exact k
  obtain ⟨c8, a8, q8, s8, m8, i8, u8⟩ := id V4
  obtain ⟨T9, h9, X9, e9, W9, st9⟩ := stB X4 hx hZ e4 a8 (j := (1 : Int32)) (inb_of s8 ⟨by decide, by decide⟩) (g := (mkF m 31 #[.val (.ref ra), .val (.int (1 : Int32)), .val (.ref rb), .val (.int (1 : Int32)), .val (.int (2 : Int32)), .val (.int (1 : Int32)), .val (.int xc1)] [(.int (xc1.toInt8.toInt32)), (.int (1 : Int32)), (.ref rb)])) rfl rfl (hb hby d18_31)
  have K9 : Keep h0 h9 [rb] := K4.wr W9 (Or.inl (by simp))
  have z9 : n0 ≤ h9.size := Nat.le_trans Z0 K9.1
  have N9 := Fr.snoc X9 N4 g_rb
  have V9 : Arv Z h9 rb kb .byte (2 : Int32) [(.int (nar .byte (xc0.toInt8.toInt32))), (.int (nar .byte (xc1.toInt8.toInt32)))] (.int (0 : Int32)) := Arv.set a8 q8 s8 m8 i8 u8 (fits_nar_byte _) W9 1 rfl (Nat.le_of_ble_eq_true rfl)
  have pre10 : ∀ t, Steps p.tables e below (T9.setTop (mkF m 32 #[.val (.ref ra), .val (.int (1 : Int32)), .val (.ref rb), .val (.int (1 : Int32)), .val (.int (2 : Int32)), .val (.int (1 : Int32)), .val (.int xc1)] [])) t → Steps p.tables e below (s₁.setTop (entryFrame m #[(.ref ra), (.int (0 : Int32)), (.ref rb), (.int (0 : Int32)), (.int (2 : Int32))] 7)) t := fun t k => pre7 t (st9 t k)
  have pre11 : ∀ t, Steps p.tables e below (T9.setTop (mkF m 46 #[.val (.ref ra), .val (.int (2 : Int32)), .val (.ref rb), .val (.int (2 : Int32)), .val (.int (2 : Int32)), .val (.int (2 : Int32)), .val (.int xc1)] [(.int (2 : Int32))])) t → Steps p.tables e below (s₁.setTop (entryFrame m #[(.ref ra), (.int (0 : Int32)), (.ref rb), (.int (0 : Int32)), (.int (2 : Int32))] 7)) t := by
    intro t k
    refine pre10 t ?_
    refine XS.iinc X9.here hx rfl (hb hby d18_32) rfl (l' := #[.val (.ref ra), .val (.int (2 : Int32)), .val (.ref rb), .val (.int (1 : Int32)), .val (.int (2 : Int32)), .val (.int (1 : Int32)), .val (.int xc1)]) rfl ?_
    show Steps p.tables e below (T9.setTop (mkF m 35 #[.val (.ref ra), .val (.int (2 : Int32)), .val (.ref rb), .val (.int (1 : Int32)), .val (.int (2 : Int32)), .val (.int (1 : Int32)), .val (.int xc1)] [])) _
    refine XS.iinc X9.here hx rfl (hb hby d18_35) rfl (l' := #[.val (.ref ra), .val (.int (2 : Int32)), .val (.ref rb), .val (.int (2 : Int32)), .val (.int (2 : Int32)), .val (.int (1 : Int32)), .val (.int xc1)]) rfl ?_
    show Steps p.tables e below (T9.setTop (mkF m 38 #[.val (.ref ra), .val (.int (2 : Int32)), .val (.ref rb), .val (.int (2 : Int32)), .val (.int (2 : Int32)), .val (.int (1 : Int32)), .val (.int xc1)] [])) _
    refine XS.iinc X9.here hx rfl (hb hby d18_38) rfl (l' := #[.val (.ref ra), .val (.int (2 : Int32)), .val (.ref rb), .val (.int (2 : Int32)), .val (.int (2 : Int32)), .val (.int (2 : Int32)), .val (.int xc1)]) rfl ?_
    show Steps p.tables e below (T9.setTop (mkF m 41 #[.val (.ref ra), .val (.int (2 : Int32)), .val (.ref rb), .val (.int (2 : Int32)), .val (.int (2 : Int32)), .val (.int (2 : Int32)), .val (.int xc1)] [])) _
    refine XS.goto X9.here hx rfl (pc0 := 41) (pc' := 3) rfl (hb hby d18_41) (by decide) (by decide) ?_
    show Steps p.tables e below (T9.setTop (mkF m 3 #[.val (.ref ra), .val (.int (2 : Int32)), .val (.ref rb), .val (.int (2 : Int32)), .val (.int (2 : Int32)), .val (.int (2 : Int32)), .val (.int xc1)] [])) _
    refine XS.iload X9.here hx rfl (hb hby d18_3) rfl ?_
    show Steps p.tables e below (T9.setTop (mkF m 5 #[.val (.ref ra), .val (.int (2 : Int32)), .val (.ref rb), .val (.int (2 : Int32)), .val (.int (2 : Int32)), .val (.int (2 : Int32)), .val (.int xc1)] [(.int (2 : Int32))])) _
    refine XS.iload X9.here hx rfl (hb hby d18_5) rfl ?_
    show Steps p.tables e below (T9.setTop (mkF m 7 #[.val (.ref ra), .val (.int (2 : Int32)), .val (.ref rb), .val (.int (2 : Int32)), .val (.int (2 : Int32)), .val (.int (2 : Int32)), .val (.int xc1)] [(.int (2 : Int32)), (.int (2 : Int32))])) _
    refine XS.icmpYes X9.here hx rfl (pc0 := 7) (pc' := 44) rfl (hb hby d18_7) rfl (flt (show ¬ ((2 : Int32) < (2 : Int32)) from by decide)).2.1 (by decide) (by decide) ?_
    show Steps p.tables e below (T9.setTop (mkF m 44 #[.val (.ref ra), .val (.int (2 : Int32)), .val (.ref rb), .val (.int (2 : Int32)), .val (.int (2 : Int32)), .val (.int (2 : Int32)), .val (.int xc1)] [])) _
    refine XS.iload X9.here hx rfl (hb hby d18_44) rfl ?_
    show Steps p.tables e below (T9.setTop (mkF m 46 #[.val (.ref ra), .val (.int (2 : Int32)), .val (.ref rb), .val (.int (2 : Int32)), .val (.int (2 : Int32)), .val (.int (2 : Int32)), .val (.int xc1)] [(.int (2 : Int32))])) _
    exact k
  obtain ⟨fs, hr, hrun, hended, hW, hsame⟩ := X9.leave (v := some (.int (2 : Int32))) (fun h => by rw [Bd.returns] at h; cases h)
  refine ⟨_, _, pre11 _ ?_, hrun, hended, _, _, rfl, ?_, ⟨_, rfl⟩, hW, hsame.mono (by decide) (by decide)⟩
  · exact retI X9 hx Bd.returns (hb hby d18_46) hr
  · show Q_rm_cmp Z ra rb ka kb xc0 xc1 h0 n0 _ T9.heap _
    rw [e9]
    exact ⟨rfl, N9, K9, V9⟩
theorem d17_0 : decode jdk_52_method_16_code 0 = .ok (.iload_n 2, 1) := by decide +kernel
theorem d17_1 : decode jdk_52_method_16_code 1 = .ok (.newarray .byte, 2) := by decide +kernel
theorem d17_3 : decode jdk_52_method_16_code 3 = .ok (.astore_n 3, 1) := by decide +kernel
theorem d17_4 : decode jdk_52_method_16_code 4 = .ok (.aload_n 0, 1) := by decide +kernel
theorem d17_5 : decode jdk_52_method_16_code 5 = .ok (.iload_n 1, 1) := by decide +kernel
theorem d17_6 : decode jdk_52_method_16_code 6 = .ok (.aload_n 3, 1) := by decide +kernel
theorem d17_7 : decode jdk_52_method_16_code 7 = .ok (.iconst 0, 1) := by decide +kernel
theorem d17_8 : decode jdk_52_method_16_code 8 = .ok (.iload_n 2, 1) := by decide +kernel
theorem d17_9 : decode jdk_52_method_16_code 9 = .ok (.invokestatic 115, 3) := by decide +kernel
theorem pd3 : parseMethodDescriptor "([CI[BII)I" = some ⟨[(.array .char), .int, (.array .byte), .int, .int], some .int⟩ := by decide +kernel
theorem d17_12 : decode jdk_52_method_16_code 12 = .ok (.istore 4, 2) := by decide +kernel
theorem d17_14 : decode jdk_52_method_16_code 14 = .ok (.iload 4, 2) := by decide +kernel
theorem d17_16 : decode jdk_52_method_16_code 16 = .ok (.iload_n 2, 1) := by decide +kernel
theorem d17_17 : decode jdk_52_method_16_code 17 = .ok (.if_icmp .eq 40, 3) := by decide +kernel
theorem d17_57 : decode jdk_52_method_16_code 57 = .ok (.aload_n 3, 1) := by decide +kernel
theorem d17_58 : decode jdk_52_method_16_code 58 = .ok (.areturn, 1) := by decide +kernel
theorem ef_rm_cmb (m : MethodId) (ra : Addr) : entryFrame m #[(.ref ra), (.int (0 : Int32)), (.int (2 : Int32))] 6 = mkF m 0 #[.val (.ref ra), .val (.int (0 : Int32)), .val (.int (2 : Int32)), .unset, .unset, .unset] [] := by first | (simp [entryFrame, mkF, argsToLocals, Value.category]; done) | rfl
def Q_rm_cmb (Z : State) (ra : Addr) (ka : ClassId) (xc0 : Int32) (xc1 : Int32) (h0 : Heap) (n0 : Nat) (v : Option Value) (h : Heap) (L : List Loc) : Prop := ∃ kb : ClassId, ∃ bo : Addr, v = some (.ref bo) ∧ Fr n0 L ∧ n0 ≤ bo ∧ h0.size ≤ bo ∧ Keep h0 h ([] : List Addr) ∧ Arv Z h bo kb .byte (2 : Int32) [(.int (nar .byte (xc0.toInt8.toInt32))), (.int (nar .byte (xc1.toInt8.toInt32)))] (.int (0 : Int32))
set_option maxRecDepth 65536 in
set_option maxHeartbeats 40000000 in
theorem rm_cmb (l : Launch) (Z : State) (a0 : Array Value) (hw : ∀ d ∈ tables_1, d.before a0 Z = true) (ws : List Jvm.Cond) (ra : Addr) (ka : ClassId) (xc0 : Int32) (xc1 : Int32) (h0 : Heap) (n0 : Nat) (Z0 : n0 ≤ h0.size) (VA : Arv Z h0 ra ka .char (2 : Int32) [(.int xc0), (.int xc1)] (.int (0 : Int32))) (hd0 : ¬ ((255 : Int32) < xc0)) (hd1 : ¬ ((255 : Int32) < xc1)) :
    MetFree l (⟨"java/lang/StringUTF16", "compress", "([CII)[B"⟩ : MethodName) (head1 (Jvm.Cond.code (⟨"java/lang/StringUTF16", "compress", "([CII)[B"⟩ : MethodName) jdk_52_method_16_code 6 (some (.array .byte)) :: ws) ({ frames := 1, cells := 1, slots := 2, locals := 18 } : Room)) (fun a U => a = #[(.ref ra), (.int (0 : Int32)), (.int (2 : Int32))] ∧ Z.Warmed39 U.vm ∧ U.heap = h0) (fun _ _ _ _ _ => True) (fun _ U o U' => ∃ v L, o = .returned v ∧ Q_rm_cmb Z ra ka xc0 xc1 h0 n0 v U'.heap L ∧ FrameEnd U o U' L ({ frames := 1, cells := 1, slots := 2, locals := 18 } : Room).cells ({ frames := 1, cells := 1, slots := 2, locals := 18 } : Room).slots) := by
  refine MetFree.of_bodySF (plainFor_of_name pn2) hisR ?_
  intro p e s m args below meth c s₁ Bd hml0 hP hK
  obtain ⟨rfl, hZ, hh⟩ := hP
  have hx := Bd.exec
  have hby := Bd.bytes
  have hml : c.maxLocals = 6 := hml0
  have hown : s.vm.findClass "java/lang/StringUTF16" = some m.cls := findClass_of_methodNamed Bd.named
  have hnm := (name_of_methodNamed Bd.named Bd.method).1
  have X0 : Stand p l e ({ frames := 1, cells := 1, slots := 2, locals := 18 } : Room) s m #[(.ref ra), (.int (0 : Int32)), (.int (2 : Int32))] below meth c s₁ [] 0 0 := Stand.of_body Bd
  have e0 : s₁.heap = h0 := by rw [← hh, Bd.state]; rfl
  have N0 := Fr.nil n0
  have pre0 : ∀ t, Steps p.tables e below (s₁.setTop (mkF m 0 #[.val (.ref ra), .val (.int (0 : Int32)), .val (.int (2 : Int32)), .unset, .unset, .unset] [])) t → Steps p.tables e below (s₁.setTop (entryFrame m #[(.ref ra), (.int (0 : Int32)), (.int (2 : Int32))] 6)) t := fun t k => castTop (ef_rm_cmb m ra) k
  have pre1 : ∀ t, Steps p.tables e below (s₁.setTop (mkF m 1 #[.val (.ref ra), .val (.int (0 : Int32)), .val (.int (2 : Int32)), .unset, .unset, .unset] [(.int (2 : Int32))])) t → Steps p.tables e below (s₁.setTop (entryFrame m #[(.ref ra), (.int (0 : Int32)), (.int (2 : Int32))] 6)) t := by
    intro t k
    refine pre0 t ?_
    refine XS.iloadN X0.here hx rfl (hb hby d17_0) rfl ?_
    show Steps p.tables e below (s₁.setTop (mkF m 1 #[.val (.ref ra), .val (.int (0 : Int32)), .val (.int (2 : Int32)), .unset, .unset, .unset] [(.int (2 : Int32))])) _
    exact k
  obtain ⟨T2, h2, k2, X2, e2, E2, A2, st2⟩ := newP X0 hx hZ (hw _ (List.mem_of_getElem? (i := 19) rfl)) e0 (g := (mkF m 1 #[.val (.ref ra), .val (.int (0 : Int32)), .val (.int (2 : Int32)), .unset, .unset, .unset] [(.int (2 : Int32))])) rfl (hb hby d17_1) rfl (by decide) (cap := 2) (by decide) (by decide) (by decide) (by decide)
  obtain ⟨b2, g2⟩ : ∃ z, z = h0.size := ⟨_, rfl⟩
  rw [← g2] at A2 st2
  have g_b2 : n0 ≤ b2 := Nat.le_trans Z0 (Nat.le_of_eq g2.symm)
  have sz_b2 : h0.size ≤ b2 := Nat.le_trans (Keep.refl h0 ([] : List Addr)).1 (Nat.le_of_eq g2.symm)
  have K2 : Keep h0 h2 ([] : List Addr) := (Keep.refl h0 ([] : List Addr)).ext E2
  have z2 : n0 ≤ h2.size := Nat.le_trans Z0 K2.1
  have V_b2 : Arv Z h2 b2 k2 .byte (2 : Int32) [(.int (0 : Int32)), (.int (0 : Int32))] (.int (0 : Int32)) := (Arv.new A2 (by decide)).pad (pad_rep [] (.int (0 : Int32)) 2)
  have X2 : Stand p l e _ _ m _ below meth c T2 _ 1 2 := X2
  have pre3 : ∀ t, Steps p.tables e below (T2.setTop (mkF m 3 #[.val (.ref ra), .val (.int (0 : Int32)), .val (.int (2 : Int32)), .unset, .unset, .unset] [(.ref b2)])) t → Steps p.tables e below (s₁.setTop (entryFrame m #[(.ref ra), (.int (0 : Int32)), (.int (2 : Int32))] 6)) t := fun t k => pre1 t (st2 t k)
  have pre4 : ∀ t, Steps p.tables e below (T2.setTop (mkF m 9 #[.val (.ref ra), .val (.int (0 : Int32)), .val (.int (2 : Int32)), .val (.ref b2), .unset, .unset] [(.int (2 : Int32)), (.int (0 : Int32)), (.ref b2), (.int (0 : Int32)), (.ref ra)])) t → Steps p.tables e below (s₁.setTop (entryFrame m #[(.ref ra), (.int (0 : Int32)), (.int (2 : Int32))] 6)) t := by
    intro t k
    refine pre3 t ?_
    refine XS.astoreN X2.here hx rfl (hb hby d17_3) rfl rfl (l' := #[.val (.ref ra), .val (.int (0 : Int32)), .val (.int (2 : Int32)), .val (.ref b2), .unset, .unset]) rfl ?_
    show Steps p.tables e below (T2.setTop (mkF m 4 #[.val (.ref ra), .val (.int (0 : Int32)), .val (.int (2 : Int32)), .val (.ref b2), .unset, .unset] [])) _
    refine XS.aloadN X2.here hx rfl (hb hby d17_4) rfl rfl ?_
    show Steps p.tables e below (T2.setTop (mkF m 5 #[.val (.ref ra), .val (.int (0 : Int32)), .val (.int (2 : Int32)), .val (.ref b2), .unset, .unset] [(.ref ra)])) _
    refine XS.iloadN X2.here hx rfl (hb hby d17_5) rfl ?_
    show Steps p.tables e below (T2.setTop (mkF m 6 #[.val (.ref ra), .val (.int (0 : Int32)), .val (.int (2 : Int32)), .val (.ref b2), .unset, .unset] [(.int (0 : Int32)), (.ref ra)])) _
    refine XS.aloadN X2.here hx rfl (hb hby d17_6) rfl rfl ?_
    show Steps p.tables e below (T2.setTop (mkF m 7 #[.val (.ref ra), .val (.int (0 : Int32)), .val (.int (2 : Int32)), .val (.ref b2), .unset, .unset] [(.ref b2), (.int (0 : Int32)), (.ref ra)])) _
    refine XS.iconst X2.here hx rfl (hb hby d17_7) ?_
    show Steps p.tables e below (T2.setTop (mkF m 8 #[.val (.ref ra), .val (.int (0 : Int32)), .val (.int (2 : Int32)), .val (.ref b2), .unset, .unset] [(.int (0 : Int32)), (.ref b2), (.int (0 : Int32)), (.ref ra)])) _
    refine XS.iloadN X2.here hx rfl (hb hby d17_8) rfl ?_
    show Steps p.tables e below (T2.setTop (mkF m 9 #[.val (.ref ra), .val (.int (0 : Int32)), .val (.int (2 : Int32)), .val (.ref b2), .unset, .unset] [(.int (2 : Int32)), (.int (0 : Int32)), (.ref b2), (.int (0 : Int32)), (.ref ra)])) _
    exact k
  have f5 := (VA.ext E2)
  obtain ⟨_, _, ⟨T6, L6, k6, n6⟩, -, X6, ⟨Lc6, hQ6, l6, y6, z6⟩, st6⟩ := Jvm.LawKit.callS X2 hx (y := (⟨"java/lang/StringUTF16", "compress", "([CI[BII)I"⟩ : MethodName)) hown (mvT hZ (hw _ (List.mem_of_getElem? (i := 109) rfl))) (mvT hZ (hw _ (List.mem_of_getElem? (i := 110) rfl))) (mvT hZ (hw _ (List.mem_of_getElem? (i := 107) rfl))) (mvT hZ (hw _ (List.mem_of_getElem? (i := 111) rfl))) (by decide) (backOf (W := 0) (rm_cmp l Z a0 hw [] ra b2 ka k2 xc0 xc1 h2 n0 z2 f5 V_b2 (g_b2) ((Nat.ne_of_lt (Nat.lt_of_lt_of_le VA.lt (Nat.le_of_eq g2.symm)))) (hd0) (hd1)) hZ (hw _ (List.mem_of_getElem? (i := 111) rfl)) (hw _ (List.mem_of_getElem? (i := 107) rfl)) (by decide) (by decide)) (g := (mkF m 9 #[.val (.ref ra), .val (.int (0 : Int32)), .val (.int (2 : Int32)), .val (.ref b2), .unset, .unset] [(.int (2 : Int32)), (.int (0 : Int32)), (.ref b2), (.int (0 : Int32)), (.ref ra)])) rfl (by rw [hml]; rfl) (argsL := [(.ref ra), (.int (0 : Int32)), (.ref b2), (.int (0 : Int32)), (.int (2 : Int32))]) (rest := []) (lenOf pd3 rfl) rfl (by show 2 * 0 + _ ≤ _; exact Nat.le_of_eq rfl) (hb hby d17_9) (fun _ _ => ⟨rfl, e2, (by decide : 1 + 0 ≤ _), (by decide : 2 + 0 ≤ _)⟩)
  dsimp only [Pt.U, Pt.locs, Pt.cells, Pt.slots] at X6 l6 y6 z6 st6 hQ6
  subst y6 z6
  obtain ⟨rfl, M6, kp6, f6_0⟩ := hQ6
  have K6 : Keep h0 T6.heap ([] : List Addr) := K2.trans kp6 (allS (P := fun x => x ∈ ([] : List Addr) ∨ h0.size ≤ x) (Or.inr sz_b2) all0)
  have zz6 : n0 ≤ T6.heap.size := Nat.le_trans Z0 K6.1
  have N6 : Fr n0 L6 := by rw [l6]; exact Fr.app N0 M6
  clear l6
  have X6 : Stand p l e _ _ m _ below meth c T6 _ 1 2 := X6
  have pre7 : ∀ t, Steps p.tables e below (T6.setTop (mkF m 12 #[.val (.ref ra), .val (.int (0 : Int32)), .val (.int (2 : Int32)), .val (.ref b2), .unset, .unset] [(.int (2 : Int32))])) t → Steps p.tables e below (s₁.setTop (entryFrame m #[(.ref ra), (.int (0 : Int32)), (.int (2 : Int32))] 6)) t := fun t k => pre4 t (st6 t k)
  have pre8 : ∀ t, Steps p.tables e below (T6.setTop (mkF m 58 #[.val (.ref ra), .val (.int (0 : Int32)), .val (.int (2 : Int32)), .val (.ref b2), .val (.int (2 : Int32)), .unset] [(.ref b2)])) t → Steps p.tables e below (s₁.setTop (entryFrame m #[(.ref ra), (.int (0 : Int32)), (.int (2 : Int32))] 6)) t := by
    intro t k
    refine pre7 t ?_
    refine XS.istore X6.here hx rfl (hb hby d17_12) rfl (l' := #[.val (.ref ra), .val (.int (0 : Int32)), .val (.int (2 : Int32)), .val (.ref b2), .val (.int (2 : Int32)), .unset]) rfl ?_
    show Steps p.tables e below (T6.setTop (mkF m 14 #[.val (.ref ra), .val (.int (0 : Int32)), .val (.int (2 : Int32)), .val (.ref b2), .val (.int (2 : Int32)), .unset] [])) _
    refine XS.iload X6.here hx rfl (hb hby d17_14) rfl ?_
    show Steps p.tables e below (T6.setTop (mkF m 16 #[.val (.ref ra), .val (.int (0 : Int32)), .val (.int (2 : Int32)), .val (.ref b2), .val (.int (2 : Int32)), .unset] [(.int (2 : Int32))])) _
    refine XS.iloadN X6.here hx rfl (hb hby d17_16) rfl ?_
    show Steps p.tables e below (T6.setTop (mkF m 17 #[.val (.ref ra), .val (.int (0 : Int32)), .val (.int (2 : Int32)), .val (.ref b2), .val (.int (2 : Int32)), .unset] [(.int (2 : Int32)), (.int (2 : Int32))])) _
    refine XS.icmpYes X6.here hx rfl (pc0 := 17) (pc' := 57) rfl (hb hby d17_17) rfl (teq (show (2 : Int32) = (2 : Int32) from rfl)).1 (by decide) (by decide) ?_
    show Steps p.tables e below (T6.setTop (mkF m 57 #[.val (.ref ra), .val (.int (0 : Int32)), .val (.int (2 : Int32)), .val (.ref b2), .val (.int (2 : Int32)), .unset] [])) _
    refine XS.aloadN X6.here hx rfl (hb hby d17_57) rfl rfl ?_
    show Steps p.tables e below (T6.setTop (mkF m 58 #[.val (.ref ra), .val (.int (0 : Int32)), .val (.int (2 : Int32)), .val (.ref b2), .val (.int (2 : Int32)), .unset] [(.ref b2)])) _
    exact k
  obtain ⟨fs, hr, hrun, hended, hW, hsame⟩ := X6.leave (v := some (.ref b2)) (fun h => by rw [Bd.returns] at h; cases h)
  refine ⟨_, _, pre8 _ ?_, hrun, hended, _, _, rfl, ?_, ⟨_, rfl⟩, hW, hsame.mono (by decide) (by decide)⟩
  · exact retOut X6 hx Bd.returns rfl (Or.inr (Or.inr (Or.inr (Or.inr ⟨rfl, rfl, rfl⟩)))) (hb hby d17_58) hr
  · show Q_rm_cmb Z ra ka xc0 xc1 h0 n0 _ T6.heap _
    exact ⟨k2, b2, rfl, N6, g_b2, sz_b2, K6, f6_0⟩
theorem d19_0 : decode jdk_52_method_15_code 0 = .ok (.iload_n 1, 1) := by decide +kernel
theorem d19_1 : decode jdk_52_method_15_code 1 = .ok (.aload_n 0, 1) := by decide +kernel
theorem d19_2 : decode jdk_52_method_15_code 2 = .ok (.arraylength, 1) := by decide +kernel
theorem d19_3 : decode jdk_52_method_15_code 3 = .ok (.isub, 1) := by decide +kernel
theorem d19_4 : decode jdk_52_method_15_code 4 = .ok (.bipush 31, 2) := by decide +kernel
theorem d19_6 : decode jdk_52_method_15_code 6 = .ok (.iushr, 1) := by decide +kernel
theorem d19_7 : decode jdk_52_method_15_code 7 = .ok (.i2b, 1) := by decide +kernel
theorem d19_8 : decode jdk_52_method_15_code 8 = .ok (.ireturn, 1) := by decide +kernel
theorem ef_rm_cfa (m : MethodId) (rb : Addr) : entryFrame m #[(.ref rb), (.int (2 : Int32))] 2 = mkF m 0 #[.val (.ref rb), .val (.int (2 : Int32))] [] := by first | (simp [entryFrame, mkF, argsToLocals, Value.category]; done) | rfl
def Q_rm_cfa (Z : State) (rb : Addr) (kb : ClassId) (xv0 : Int32) (xv1 : Int32) (h0 : Heap) (n0 : Nat) (v : Option Value) (h : Heap) (L : List Loc) : Prop := v = some (.int (0 : Int32)) ∧ Fr n0 L ∧ h = h0
set_option maxRecDepth 65536 in
set_option maxHeartbeats 40000000 in
theorem rm_cfa (l : Launch) (Z : State) (a0 : Array Value) (hw : ∀ d ∈ tables_1, d.before a0 Z = true) (ws : List Jvm.Cond) (rb : Addr) (kb : ClassId) (xv0 : Int32) (xv1 : Int32) (h0 : Heap) (n0 : Nat) (Z0 : n0 ≤ h0.size) (VB0 : Arv Z h0 rb kb .byte (2 : Int32) [(.int xv0), (.int xv1)] (.int (0 : Int32))) :
    MetFree l (⟨"java/lang/StringUTF16", "coderFromArrayLen", "([BI)B"⟩ : MethodName) (head1 (Jvm.Cond.code (⟨"java/lang/StringUTF16", "coderFromArrayLen", "([BI)B"⟩ : MethodName) jdk_52_method_15_code 2 (some .byte) :: ws) ({ frames := 0, cells := 0, slots := 0, locals := 0 } : Room)) (fun a U => a = #[(.ref rb), (.int (2 : Int32))] ∧ Z.Warmed39 U.vm ∧ U.heap = h0) (fun _ _ _ _ _ => True) (fun _ U o U' => ∃ v L, o = .returned v ∧ Q_rm_cfa Z rb kb xv0 xv1 h0 n0 v U'.heap L ∧ FrameEnd U o U' L ({ frames := 0, cells := 0, slots := 0, locals := 0 } : Room).cells ({ frames := 0, cells := 0, slots := 0, locals := 0 } : Room).slots) := by
  refine MetFree.of_bodySF (plainFor_of_name pn2) hisR ?_
  intro p e s m args below meth c s₁ Bd hml0 hP hK
  obtain ⟨rfl, hZ, hh⟩ := hP
  have hx := Bd.exec
  have hby := Bd.bytes
  have hml : c.maxLocals = 2 := hml0
  have hown : s.vm.findClass "java/lang/StringUTF16" = some m.cls := findClass_of_methodNamed Bd.named
  have hnm := (name_of_methodNamed Bd.named Bd.method).1
  have X0 : Stand p l e ({ frames := 0, cells := 0, slots := 0, locals := 0 } : Room) s m #[(.ref rb), (.int (2 : Int32))] below meth c s₁ [] 0 0 := Stand.of_body Bd
  have e0 : s₁.heap = h0 := by rw [← hh, Bd.state]; rfl
  have N0 := Fr.nil n0
  have pre0 : ∀ t, Steps p.tables e below (s₁.setTop (mkF m 0 #[.val (.ref rb), .val (.int (2 : Int32))] [])) t → Steps p.tables e below (s₁.setTop (entryFrame m #[(.ref rb), (.int (2 : Int32))] 2)) t := fun t k => castTop (ef_rm_cfa m rb) k
  have pre2 : ∀ t, Steps p.tables e below (s₁.setTop (mkF m 8 #[.val (.ref rb), .val (.int (2 : Int32))] [(.int (((((2 : Int32) - (2 : Int32)).toUInt32 >>> ((31 : Int32) &&& 31).toUInt32).toInt32).toInt8.toInt32))])) t → Steps p.tables e below (s₁.setTop (entryFrame m #[(.ref rb), (.int (2 : Int32))] 2)) t := by
    intro t k
    refine pre0 t ?_
    refine XS.iloadN X0.here hx rfl (hb hby d19_0) rfl ?_
    show Steps p.tables e below (s₁.setTop (mkF m 1 #[.val (.ref rb), .val (.int (2 : Int32))] [(.int (2 : Int32))])) _
    refine XS.aloadN X0.here hx rfl (hb hby d19_1) rfl rfl ?_
    show Steps p.tables e below (s₁.setTop (mkF m 2 #[.val (.ref rb), .val (.int (2 : Int32))] [(.ref rb), (.int (2 : Int32))])) _
    obtain ⟨c1, a1, q1, s1, m1, i1, u1⟩ := id VB0
    refine X0.arraylength hx (by rw [e0]; exact a1.1) (State.isArrayOf_alike hZ.alike a1.2.1) (g := (mkF m 2 #[.val (.ref rb), .val (.int (2 : Int32))] [(.ref rb), (.int (2 : Int32))])) rfl rfl (hb hby d19_2) _ ?_
    rw [len_of s1 m1]
    show Steps p.tables e below (s₁.setTop (mkF m 3 #[.val (.ref rb), .val (.int (2 : Int32))] [(.int (2 : Int32)), (.int (2 : Int32))])) _
    refine XS.isub X0.here hx rfl (hb hby d19_3) rfl ?_
    show Steps p.tables e below (s₁.setTop (mkF m 4 #[.val (.ref rb), .val (.int (2 : Int32))] [(.int ((2 : Int32) - (2 : Int32)))])) _
    refine XS.bipush X0.here hx rfl (hb hby d19_4) ?_
    show Steps p.tables e below (s₁.setTop (mkF m 6 #[.val (.ref rb), .val (.int (2 : Int32))] [(.int (31 : Int32)), (.int ((2 : Int32) - (2 : Int32)))])) _
    refine XS.iushr X0.here hx rfl (hb hby d19_6) rfl ?_
    show Steps p.tables e below (s₁.setTop (mkF m 7 #[.val (.ref rb), .val (.int (2 : Int32))] [(.int ((((2 : Int32) - (2 : Int32)).toUInt32 >>> ((31 : Int32) &&& 31).toUInt32).toInt32))])) _
    refine XS.i2b X0.here hx rfl (hb hby d19_7) rfl ?_
    show Steps p.tables e below (s₁.setTop (mkF m 8 #[.val (.ref rb), .val (.int (2 : Int32))] [(.int (((((2 : Int32) - (2 : Int32)).toUInt32 >>> ((31 : Int32) &&& 31).toUInt32).toInt32).toInt8.toInt32))])) _
    exact k
  obtain ⟨fs, hr, hrun, hended, hW, hsame⟩ := X0.leave (v := some (.int (nar .byte (((((2 : Int32) - (2 : Int32)).toUInt32 >>> ((31 : Int32) &&& 31).toUInt32).toInt32).toInt8.toInt32)))) (fun h => by rw [Bd.returns] at h; cases h)
  refine ⟨_, _, pre2 _ ?_, hrun, hended, _, _, rfl, ?_, ⟨_, rfl⟩, hW, hsame.mono (by decide) (by decide)⟩
  · exact retN X0 hx (t := .byte) Bd.returns (by simp) (hb hby d19_8) hr
  · show Q_rm_cfa Z rb kb xv0 xv1 h0 n0 _ s₁.heap _
    rw [e0]
    exact ⟨congrArg (fun z => some (Value.int z)) (by decide), N0, rfl⟩
theorem d3_0 : decode jdk_42_method_149_code 0 = .ok (.aload_n 0, 1) := by decide +kernel
theorem d3_1 : decode jdk_42_method_149_code 1 = .ok (.invokespecial 1, 3) := by decide +kernel
theorem d3_4 : decode jdk_42_method_149_code 4 = .ok (.iload_n 3, 1) := by decide +kernel
theorem d3_5 : decode jdk_42_method_149_code 5 = .ok (.ifCond .ne 22, 3) := by decide +kernel
theorem d3_27 : decode jdk_42_method_149_code 27 = .ok (.getstatic 38, 3) := by decide +kernel
theorem d3_30 : decode jdk_42_method_149_code 30 = .ok (.ifCond .eq 28, 3) := by decide +kernel
theorem d3_33 : decode jdk_42_method_149_code 33 = .ok (.aload_n 1, 1) := by decide +kernel
theorem d3_34 : decode jdk_42_method_149_code 34 = .ok (.iload_n 2, 1) := by decide +kernel
theorem d3_35 : decode jdk_42_method_149_code 35 = .ok (.iload_n 3, 1) := by decide +kernel
theorem d3_36 : decode jdk_42_method_149_code 36 = .ok (.invokestatic 177, 3) := by decide +kernel
theorem pd4 : parseMethodDescriptor "([CII)[B" = some ⟨[(.array .char), .int, .int], some (.array .byte)⟩ := by decide +kernel
theorem d3_39 : decode jdk_42_method_149_code 39 = .ok (.astore 5, 2) := by decide +kernel
theorem d3_41 : decode jdk_42_method_149_code 41 = .ok (.aload_n 0, 1) := by decide +kernel
theorem d3_42 : decode jdk_42_method_149_code 42 = .ok (.aload 5, 2) := by decide +kernel
theorem d3_44 : decode jdk_42_method_149_code 44 = .ok (.iload_n 3, 1) := by decide +kernel
theorem d3_45 : decode jdk_42_method_149_code 45 = .ok (.invokestatic 47, 3) := by decide +kernel
theorem pd5 : parseMethodDescriptor "([BI)B" = some ⟨[(.array .byte), .int], some .byte⟩ := by decide +kernel
theorem d3_48 : decode jdk_42_method_149_code 48 = .ok (.putfield 15, 3) := by decide +kernel
theorem d3_51 : decode jdk_42_method_149_code 51 = .ok (.aload_n 0, 1) := by decide +kernel
theorem d3_52 : decode jdk_42_method_149_code 52 = .ok (.aload 5, 2) := by decide +kernel
theorem d3_54 : decode jdk_42_method_149_code 54 = .ok (.putfield 9, 3) := by decide +kernel
theorem d3_57 : decode jdk_42_method_149_code 57 = .ok (.return_, 1) := by decide +kernel
theorem ef_rm_sc2 (m : MethodId) (ra : Addr) (rb : Addr) : entryFrame m #[(.ref ra), (.ref rb), (.int (0 : Int32)), (.int (2 : Int32)), .null] 6 = mkF m 0 #[.val (.ref ra), .val (.ref rb), .val (.int (0 : Int32)), .val (.int (2 : Int32)), .val .null, .unset] [] := by first | (simp [entryFrame, mkF, argsToLocals, Value.category]; done) | rfl
def Q_rm_sc2 (Z : State) (ra : Addr) (rb : Addr) (ka : ClassId) (xcs : Int32) (xc0 : Int32) (xc1 : Int32) (h0 : Heap) (n0 : Nat) (v : Option Value) (h : Heap) (L : List Loc) : Prop := ∃ ry : Addr, ∃ ky : ClassId, v = none ∧ Fr n0 L ∧ Keep h0 h [ra] ∧ Exa Z h ra "java/lang/String" ∧ Fld Z h ra "java/lang/String" "value" "[B" (.ref ry) ∧ Fld Z h ra "java/lang/String" "coder" "B" (.int (nar .byte (0 : Int32))) ∧ Arv Z h ry ky .byte (2 : Int32) [(.int (nar .byte (xc0.toInt8.toInt32))), (.int (nar .byte (xc1.toInt8.toInt32)))] (.int (0 : Int32))
set_option maxRecDepth 65536 in
set_option maxHeartbeats 40000000 in
theorem rm_sc2 (l : Launch) (Z : State) (a0 : Array Value) (hw : ∀ d ∈ tables_1, d.before a0 Z = true) (ws : List Jvm.Cond) (ra : Addr) (rb : Addr) (ka : ClassId) (xcs : Int32) (xc0 : Int32) (xc1 : Int32) (h0 : Heap) (n0 : Nat) (Z0 : n0 ≤ h0.size) (E_ra : Exa Z h0 ra "java/lang/String") (g_ra : n0 ≤ ra) (F_value_ra : Fld Z h0 ra "java/lang/String" "value" "[B" .null) (F_coder_ra : Fld Z h0 ra "java/lang/String" "coder" "B" (.int (0 : Int32))) (VA : Arv Z h0 rb ka .char (2 : Int32) [(.int xc0), (.int xc1)] (.int (0 : Int32))) (SC : Sta Z h0 "java/lang/String" "COMPACT_STRINGS" "Z" (.int xcs)) (hcs : ¬ (xcs = (0 : Int32))) (hne : rb ≠ ra) (hd0 : ¬ ((255 : Int32) < xc0)) (hd1 : ¬ ((255 : Int32) < xc1)) :
    MetFree l (⟨"java/lang/String", "<init>", "([CIILjava/lang/Void;)V"⟩ : MethodName) (head1 (Jvm.Cond.code (⟨"java/lang/String", "<init>", "([CIILjava/lang/Void;)V"⟩ : MethodName) jdk_42_method_149_code 6 none :: ws) ({ frames := 2, cells := 1, slots := 2, locals := 35 } : Room)) (fun a U => a = #[(.ref ra), (.ref rb), (.int (0 : Int32)), (.int (2 : Int32)), .null] ∧ Z.Warmed39 U.vm ∧ U.heap = h0) (fun _ _ _ _ _ => True) (fun _ U o U' => ∃ v L, o = .returned v ∧ Q_rm_sc2 Z ra rb ka xcs xc0 xc1 h0 n0 v U'.heap L ∧ FrameEnd U o U' L ({ frames := 2, cells := 1, slots := 2, locals := 35 } : Room).cells ({ frames := 2, cells := 1, slots := 2, locals := 35 } : Room).slots) := by
  refine MetFree.of_bodySF (plainFor_of_name pn1) hisR ?_
  intro p e s m args below meth c s₁ Bd hml0 hP hK
  obtain ⟨rfl, hZ, hh⟩ := hP
  have hx := Bd.exec
  have hby := Bd.bytes
  have hml : c.maxLocals = 6 := hml0
  have hown : s.vm.findClass "java/lang/String" = some m.cls := findClass_of_methodNamed Bd.named
  have hnm := (name_of_methodNamed Bd.named Bd.method).1
  have X0 : Stand p l e ({ frames := 2, cells := 1, slots := 2, locals := 35 } : Room) s m #[(.ref ra), (.ref rb), (.int (0 : Int32)), (.int (2 : Int32)), .null] below meth c s₁ [] 0 0 := Stand.of_body Bd
  have e0 : s₁.heap = h0 := by rw [← hh, Bd.state]; rfl
  have N0 := Fr.nil n0
  have pre0 : ∀ t, Steps p.tables e below (s₁.setTop (mkF m 0 #[.val (.ref ra), .val (.ref rb), .val (.int (0 : Int32)), .val (.int (2 : Int32)), .val .null, .unset] [])) t → Steps p.tables e below (s₁.setTop (entryFrame m #[(.ref ra), (.ref rb), (.int (0 : Int32)), (.int (2 : Int32)), .null] 6)) t := fun t k => castTop (ef_rm_sc2 m ra rb) k
  have pre1 : ∀ t, Steps p.tables e below (s₁.setTop (mkF m 1 #[.val (.ref ra), .val (.ref rb), .val (.int (0 : Int32)), .val (.int (2 : Int32)), .val .null, .unset] [(.ref ra)])) t → Steps p.tables e below (s₁.setTop (entryFrame m #[(.ref ra), (.ref rb), (.int (0 : Int32)), (.int (2 : Int32)), .null] 6)) t := by
    intro t k
    refine pre0 t ?_
    refine XS.aloadN X0.here hx rfl (hb hby d3_0) rfl rfl ?_
    show Steps p.tables e below (s₁.setTop (mkF m 1 #[.val (.ref ra), .val (.ref rb), .val (.int (0 : Int32)), .val (.int (2 : Int32)), .val .null, .unset] [(.ref ra)])) _
    exact k
  obtain ⟨T2, X2, e2, st2⟩ := initO X0 hx hZ hown (hw _ (List.mem_of_getElem? (i := 15) rfl)) (hw _ (List.mem_of_getElem? (i := 16) rfl)) (hw _ (List.mem_of_getElem? (i := 17) rfl)) e0 (g := (mkF m 1 #[.val (.ref ra), .val (.ref rb), .val (.int (0 : Int32)), .val (.int (2 : Int32)), .val .null, .unset] [(.ref ra)])) rfl (by rw [hml]; rfl) rfl (hb hby d3_1) (by decide) (W := 0) (by show 2 * 0 + _ ≤ _; exact Nat.le_of_eq rfl) (by decide)
  have pre3 : ∀ t, Steps p.tables e below (T2.setTop (mkF m 4 #[.val (.ref ra), .val (.ref rb), .val (.int (0 : Int32)), .val (.int (2 : Int32)), .val .null, .unset] [])) t → Steps p.tables e below (s₁.setTop (entryFrame m #[(.ref ra), (.ref rb), (.int (0 : Int32)), (.int (2 : Int32)), .null] 6)) t := fun t k => pre1 t (st2 t k)
  have pre5 : ∀ t, Steps p.tables e below (T2.setTop (mkF m 27 #[.val (.ref ra), .val (.ref rb), .val (.int (0 : Int32)), .val (.int (2 : Int32)), .val .null, .unset] [])) t → Steps p.tables e below (s₁.setTop (entryFrame m #[(.ref ra), (.ref rb), (.int (0 : Int32)), (.int (2 : Int32)), .null] 6)) t := by
    intro t k
    refine pre3 t ?_
    refine XS.iloadN X2.here hx rfl (hb hby d3_4) rfl ?_
    show Steps p.tables e below (T2.setTop (mkF m 5 #[.val (.ref ra), .val (.ref rb), .val (.int (0 : Int32)), .val (.int (2 : Int32)), .val .null, .unset] [(.int (2 : Int32))])) _
    refine XS.ifYes X2.here hx rfl (pc0 := 5) (pc' := 27) rfl (hb hby d3_5) rfl ((if0 _ _).trans (feq (show ¬ ((2 : Int32) = (0 : Int32)) from by decide)).2) (by decide) (by decide) ?_
    show Steps p.tables e below (T2.setTop (mkF m 27 #[.val (.ref ra), .val (.ref rb), .val (.int (0 : Int32)), .val (.int (2 : Int32)), .val .null, .unset] [])) _
    exact k
  obtain ⟨T4, X4, e4, st4⟩ := getS2 X2 hx hZ hown (host := "") (Or.inl (hw _ (List.mem_of_getElem? (i := 88) rfl))) Via.refl e2 SC (g := (mkF m 27 #[.val (.ref ra), .val (.ref rb), .val (.int (0 : Int32)), .val (.int (2 : Int32)), .val .null, .unset] [])) rfl (hb hby d3_27)
  have pre6 : ∀ t, Steps p.tables e below (T4.setTop (mkF m 30 #[.val (.ref ra), .val (.ref rb), .val (.int (0 : Int32)), .val (.int (2 : Int32)), .val .null, .unset] [(.int xcs)])) t → Steps p.tables e below (s₁.setTop (entryFrame m #[(.ref ra), (.ref rb), (.int (0 : Int32)), (.int (2 : Int32)), .null] 6)) t := fun t k => pre5 t (st4 t k)
  have pre7 : ∀ t, Steps p.tables e below (T4.setTop (mkF m 36 #[.val (.ref ra), .val (.ref rb), .val (.int (0 : Int32)), .val (.int (2 : Int32)), .val .null, .unset] [(.int (2 : Int32)), (.int (0 : Int32)), (.ref rb)])) t → Steps p.tables e below (s₁.setTop (entryFrame m #[(.ref ra), (.ref rb), (.int (0 : Int32)), (.int (2 : Int32)), .null] 6)) t := by
    intro t k
    refine pre6 t ?_
    refine XS.ifNo X4.here hx rfl (hb hby d3_30) rfl ((if0 _ _).trans (feq (show ¬ (xcs = (0 : Int32)) from hcs)).1) ?_
    show Steps p.tables e below (T4.setTop (mkF m 33 #[.val (.ref ra), .val (.ref rb), .val (.int (0 : Int32)), .val (.int (2 : Int32)), .val .null, .unset] [])) _
    refine XS.aloadN X4.here hx rfl (hb hby d3_33) rfl rfl ?_
    show Steps p.tables e below (T4.setTop (mkF m 34 #[.val (.ref ra), .val (.ref rb), .val (.int (0 : Int32)), .val (.int (2 : Int32)), .val .null, .unset] [(.ref rb)])) _
    refine XS.iloadN X4.here hx rfl (hb hby d3_34) rfl ?_
    show Steps p.tables e below (T4.setTop (mkF m 35 #[.val (.ref ra), .val (.ref rb), .val (.int (0 : Int32)), .val (.int (2 : Int32)), .val .null, .unset] [(.int (0 : Int32)), (.ref rb)])) _
    refine XS.iloadN X4.here hx rfl (hb hby d3_35) rfl ?_
    show Steps p.tables e below (T4.setTop (mkF m 36 #[.val (.ref ra), .val (.ref rb), .val (.int (0 : Int32)), .val (.int (2 : Int32)), .val .null, .unset] [(.int (2 : Int32)), (.int (0 : Int32)), (.ref rb)])) _
    exact k
  obtain ⟨_, _, ⟨T8, L8, k8, n8⟩, -, X8, ⟨Lc8, hQ8, l8, y8, z8⟩, st8⟩ := Jvm.LawKit.callS X4 hx (y := (⟨"java/lang/StringUTF16", "compress", "([CII)[B"⟩ : MethodName)) hown (mvT hZ (hw _ (List.mem_of_getElem? (i := 105) rfl))) (mvT hZ (hw _ (List.mem_of_getElem? (i := 106) rfl))) (mvT hZ (hw _ (List.mem_of_getElem? (i := 107) rfl))) (mvT hZ (hw _ (List.mem_of_getElem? (i := 108) rfl))) (by decide) (backOf (W := 0) (rm_cmb l Z a0 hw [] rb ka xc0 xc1 h0 n0 Z0 VA (hd0) (hd1)) hZ (hw _ (List.mem_of_getElem? (i := 108) rfl)) (hw _ (List.mem_of_getElem? (i := 107) rfl)) (by decide) (by decide)) (g := (mkF m 36 #[.val (.ref ra), .val (.ref rb), .val (.int (0 : Int32)), .val (.int (2 : Int32)), .val .null, .unset] [(.int (2 : Int32)), (.int (0 : Int32)), (.ref rb)])) rfl (by rw [hml]; rfl) (argsL := [(.ref rb), (.int (0 : Int32)), (.int (2 : Int32))]) (rest := []) (lenOf pd4 rfl) rfl (by show 2 * 0 + _ ≤ _; exact Nat.le_of_eq rfl) (hb hby d3_36) (fun _ _ => ⟨rfl, e4, (by decide : 0 + 1 ≤ _), (by decide : 0 + 2 ≤ _)⟩)
  dsimp only [Pt.U, Pt.locs, Pt.cells, Pt.slots] at X8 l8 y8 z8 st8 hQ8
  subst y8 z8
  obtain ⟨kb_8, b8, rfl, M8, g_b8, zs8, kp8, f8_0⟩ := hQ8
  have sz_b8 : h0.size ≤ b8 := Nat.le_trans (Keep.refl h0 [ra]).1 zs8
  have K8 : Keep h0 T8.heap [ra] := (Keep.refl h0 [ra]).trans kp8 all0
  have zz8 : n0 ≤ T8.heap.size := Nat.le_trans Z0 K8.1
  have N8 : Fr n0 L8 := by rw [l8]; exact Fr.app N0 M8
  clear l8
  have X8 : Stand p l e _ _ m _ below meth c T8 _ 1 2 := X8
  have pre9 : ∀ t, Steps p.tables e below (T8.setTop (mkF m 39 #[.val (.ref ra), .val (.ref rb), .val (.int (0 : Int32)), .val (.int (2 : Int32)), .val .null, .unset] [(.ref b8)])) t → Steps p.tables e below (s₁.setTop (entryFrame m #[(.ref ra), (.ref rb), (.int (0 : Int32)), (.int (2 : Int32)), .null] 6)) t := fun t k => pre7 t (st8 t k)
  have pre10 : ∀ t, Steps p.tables e below (T8.setTop (mkF m 45 #[.val (.ref ra), .val (.ref rb), .val (.int (0 : Int32)), .val (.int (2 : Int32)), .val .null, .val (.ref b8)] [(.int (2 : Int32)), (.ref b8), (.ref ra)])) t → Steps p.tables e below (s₁.setTop (entryFrame m #[(.ref ra), (.ref rb), (.int (0 : Int32)), (.int (2 : Int32)), .null] 6)) t := by
    intro t k
    refine pre9 t ?_
    refine XS.astore X8.here hx rfl (hb hby d3_39) rfl rfl (l' := #[.val (.ref ra), .val (.ref rb), .val (.int (0 : Int32)), .val (.int (2 : Int32)), .val .null, .val (.ref b8)]) rfl ?_
    show Steps p.tables e below (T8.setTop (mkF m 41 #[.val (.ref ra), .val (.ref rb), .val (.int (0 : Int32)), .val (.int (2 : Int32)), .val .null, .val (.ref b8)] [])) _
    refine XS.aloadN X8.here hx rfl (hb hby d3_41) rfl rfl ?_
    show Steps p.tables e below (T8.setTop (mkF m 42 #[.val (.ref ra), .val (.ref rb), .val (.int (0 : Int32)), .val (.int (2 : Int32)), .val .null, .val (.ref b8)] [(.ref ra)])) _
    refine XS.aload X8.here hx rfl (hb hby d3_42) rfl rfl ?_
    show Steps p.tables e below (T8.setTop (mkF m 44 #[.val (.ref ra), .val (.ref rb), .val (.int (0 : Int32)), .val (.int (2 : Int32)), .val .null, .val (.ref b8)] [(.ref b8), (.ref ra)])) _
    refine XS.iloadN X8.here hx rfl (hb hby d3_44) rfl ?_
    show Steps p.tables e below (T8.setTop (mkF m 45 #[.val (.ref ra), .val (.ref rb), .val (.int (0 : Int32)), .val (.int (2 : Int32)), .val .null, .val (.ref b8)] [(.int (2 : Int32)), (.ref b8), (.ref ra)])) _
    exact k
  obtain ⟨_, _, ⟨T11, L11, k11, n11⟩, -, X11, ⟨Lc11, hQ11, l11, y11, z11⟩, st11⟩ := Jvm.LawKit.callS X8 hx (y := (⟨"java/lang/StringUTF16", "coderFromArrayLen", "([BI)B"⟩ : MethodName)) hown (mvT hZ (hw _ (List.mem_of_getElem? (i := 112) rfl))) (mvT hZ (hw _ (List.mem_of_getElem? (i := 113) rfl))) (mvT hZ (hw _ (List.mem_of_getElem? (i := 107) rfl))) (mvT hZ (hw _ (List.mem_of_getElem? (i := 114) rfl))) (by decide) (backOf (W := 1) (rm_cfa l Z a0 hw [] b8 kb_8 (nar .byte (xc0.toInt8.toInt32)) (nar .byte (xc1.toInt8.toInt32)) T8.heap n0 zz8 f8_0) hZ (hw _ (List.mem_of_getElem? (i := 114) rfl)) (hw _ (List.mem_of_getElem? (i := 107) rfl)) (by decide) (by decide)) (g := (mkF m 45 #[.val (.ref ra), .val (.ref rb), .val (.int (0 : Int32)), .val (.int (2 : Int32)), .val .null, .val (.ref b8)] [(.int (2 : Int32)), (.ref b8), (.ref ra)])) rfl (by rw [hml]; rfl) (argsL := [(.ref b8), (.int (2 : Int32))]) (rest := [(.ref ra)]) (lenOf pd5 rfl) rfl (by show 2 * 0 + _ ≤ _; exact Nat.le_of_eq rfl) (hb hby d3_45) (fun _ _ => ⟨rfl, rfl, (by decide : 1 + 0 ≤ _), (by decide : 2 + 0 ≤ _)⟩)
  dsimp only [Pt.U, Pt.locs, Pt.cells, Pt.slots] at X11 l11 y11 z11 st11 hQ11
  subst y11 z11
  obtain ⟨rfl, M11, e11⟩ := hQ11
  have N11 : Fr n0 L11 := by rw [l11]; exact Fr.app N8 M11
  clear l11
  have X11 : Stand p l e _ _ m _ below meth c T11 _ 1 2 := X11
  have pre12 : ∀ t, Steps p.tables e below (T11.setTop (mkF m 48 #[.val (.ref ra), .val (.ref rb), .val (.int (0 : Int32)), .val (.int (2 : Int32)), .val .null, .val (.ref b8)] [(.int (0 : Int32)), (.ref ra)])) t → Steps p.tables e below (s₁.setTop (entryFrame m #[(.ref ra), (.ref rb), (.int (0 : Int32)), (.int (2 : Int32)), .null] 6)) t := fun t k => pre10 t (st11 t k)
  have f13 := (E_ra.keep kp8)
  have f14 := (F_coder_ra.keep kp8 nin0)
  obtain ⟨T15, h15, X15, e15, W15, st15⟩ := putFN X11 hx hZ hown (hw _ (List.mem_of_getElem? (i := 25) rfl)) Via.refl e11 f14 f13 (Or.inr ⟨(hw _ (List.mem_of_getElem? (i := 21) rfl)), rfl, hnm⟩) (hw _ (List.mem_of_getElem? (i := 5) rfl)) (ty := .byte) (v' := (.int (nar .byte (0 : Int32)))) (by decide) rfl (fits_nar_byte _) (g := (mkF m 48 #[.val (.ref ra), .val (.ref rb), .val (.int (0 : Int32)), .val (.int (2 : Int32)), .val .null, .val (.ref b8)] [(.int (0 : Int32)), (.ref ra)])) rfl rfl (hb hby d3_48)
  have K15 : Keep h0 h15 [ra] := K8.wr W15 (Or.inl (by simp))
  have z15 : n0 ≤ h15.size := Nat.le_trans Z0 K15.1
  have N15 := Fr.snoc X15 N11 g_ra
  have Fw15 := f14.same W15
  have pre16 : ∀ t, Steps p.tables e below (T15.setTop (mkF m 51 #[.val (.ref ra), .val (.ref rb), .val (.int (0 : Int32)), .val (.int (2 : Int32)), .val .null, .val (.ref b8)] [])) t → Steps p.tables e below (s₁.setTop (entryFrame m #[(.ref ra), (.ref rb), (.int (0 : Int32)), (.int (2 : Int32)), .null] 6)) t := fun t k => pre12 t (st15 t k)
  have pre17 : ∀ t, Steps p.tables e below (T15.setTop (mkF m 54 #[.val (.ref ra), .val (.ref rb), .val (.int (0 : Int32)), .val (.int (2 : Int32)), .val .null, .val (.ref b8)] [(.ref b8), (.ref ra)])) t → Steps p.tables e below (s₁.setTop (entryFrame m #[(.ref ra), (.ref rb), (.int (0 : Int32)), (.int (2 : Int32)), .null] 6)) t := by
    intro t k
    refine pre16 t ?_
    refine XS.aloadN X15.here hx rfl (hb hby d3_51) rfl rfl ?_
    show Steps p.tables e below (T15.setTop (mkF m 52 #[.val (.ref ra), .val (.ref rb), .val (.int (0 : Int32)), .val (.int (2 : Int32)), .val .null, .val (.ref b8)] [(.ref ra)])) _
    refine XS.aload X15.here hx rfl (hb hby d3_52) rfl rfl ?_
    show Steps p.tables e below (T15.setTop (mkF m 54 #[.val (.ref ra), .val (.ref rb), .val (.int (0 : Int32)), .val (.int (2 : Int32)), .val .null, .val (.ref b8)] [(.ref b8), (.ref ra)])) _
    exact k
  have f18 := (f13.wr W15)
  have f19 := ((F_value_ra.keep kp8 nin0).other W15 (Or.inr (slot_ne (Or.inr (hw _ (List.mem_of_getElem? (i := 20) rfl))) (Or.inr (hw _ (List.mem_of_getElem? (i := 21) rfl))) (by decide) (t := (.array .byte)) (t' := .byte) (by decide) (by decide))))
  obtain ⟨T20, h20, X20, e20, W20, st20⟩ := putF X15 hx hZ hown (host := "") (Or.inl (hw _ (List.mem_of_getElem? (i := 24) rfl))) Via.refl e15 f19 f18 (Or.inr ⟨(hw _ (List.mem_of_getElem? (i := 20) rfl)), rfl, hnm⟩) (hw _ (List.mem_of_getElem? (i := 5) rfl)) (ty := (.array .byte)) (by decide) rfl rfl (g := (mkF m 54 #[.val (.ref ra), .val (.ref rb), .val (.int (0 : Int32)), .val (.int (2 : Int32)), .val .null, .val (.ref b8)] [(.ref b8), (.ref ra)])) rfl rfl (hb hby d3_54)
  have K20 : Keep h0 h20 [ra] := K15.wr W20 (Or.inl (by simp))
  have z20 : n0 ≤ h20.size := Nat.le_trans Z0 K20.1
  have N20 := Fr.snoc X20 N15 g_ra
  have Fw20 := f19.same W20
  have pre21 : ∀ t, Steps p.tables e below (T20.setTop (mkF m 57 #[.val (.ref ra), .val (.ref rb), .val (.int (0 : Int32)), .val (.int (2 : Int32)), .val .null, .val (.ref b8)] [])) t → Steps p.tables e below (s₁.setTop (entryFrame m #[(.ref ra), (.ref rb), (.int (0 : Int32)), (.int (2 : Int32)), .null] 6)) t := fun t k => pre17 t (st20 t k)
  obtain ⟨fs, hr, hrun, hended, hW, hsame⟩ := X20.leave (v := none) (fun _ => rfl)
  refine ⟨_, _, pre21 _ ?_, hrun, hended, _, _, rfl, ?_, ⟨_, rfl⟩, hW, hsame.mono (by decide) (by decide)⟩
  · exact X20.returnOut hx Bd.returns (hb hby d3_57) hr
  · show Q_rm_sc2 Z ra rb ka xcs xc0 xc1 h0 n0 _ T20.heap _
    rw [e20]
    exact ⟨b8, kb_8, rfl, N20, K20, (f18.wr W20), Fw20, (Fw15.other W20 (Or.inr (slot_ne (Or.inr (hw _ (List.mem_of_getElem? (i := 21) rfl))) (Or.inr (hw _ (List.mem_of_getElem? (i := 20) rfl))) (by decide) (t := .byte) (t' := (.array .byte)) (by decide) (by decide)))), ((f8_0.other W15 (Ne.symm (Nat.ne_of_lt (Nat.lt_of_lt_of_le E_ra.lt zs8)))).other W20 (Ne.symm (Nat.ne_of_lt (Nat.lt_of_lt_of_le E_ra.lt zs8))))⟩
theorem d2_0 : decode jdk_42_method_3_code 0 = .ok (.aload_n 0, 1) := by decide +kernel
theorem d2_1 : decode jdk_42_method_3_code 1 = .ok (.aload_n 1, 1) := by decide +kernel
theorem d2_2 : decode jdk_42_method_3_code 2 = .ok (.iconst 0, 1) := by decide +kernel
theorem d2_3 : decode jdk_42_method_3_code 3 = .ok (.aload_n 1, 1) := by decide +kernel
theorem d2_4 : decode jdk_42_method_3_code 4 = .ok (.arraylength, 1) := by decide +kernel
theorem d2_5 : decode jdk_42_method_3_code 5 = .ok (.aconst_null, 1) := by decide +kernel
theorem d2_6 : decode jdk_42_method_3_code 6 = .ok (.invokespecial 27, 3) := by decide +kernel
theorem pd6 : parseMethodDescriptor "([CIILjava/lang/Void;)V" = some ⟨[(.array .char), .int, .int, (.object "java/lang/Void")], none⟩ := by decide +kernel
theorem d2_9 : decode jdk_42_method_3_code 9 = .ok (.return_, 1) := by decide +kernel
theorem ef_rm_sn2 (m : MethodId) (ra : Addr) (rb : Addr) : entryFrame m #[(.ref ra), (.ref rb)] 2 = mkF m 0 #[.val (.ref ra), .val (.ref rb)] [] := by first | (simp [entryFrame, mkF, argsToLocals, Value.category]; done) | rfl
def Q_rm_sn2 (Z : State) (ra : Addr) (rb : Addr) (ka : ClassId) (xcs : Int32) (xc0 : Int32) (xc1 : Int32) (h0 : Heap) (n0 : Nat) (v : Option Value) (h : Heap) (L : List Loc) : Prop := ∃ ry : Addr, ∃ ky : ClassId, v = none ∧ Fr n0 L ∧ Keep h0 h [ra] ∧ Exa Z h ra "java/lang/String" ∧ Fld Z h ra "java/lang/String" "value" "[B" (.ref ry) ∧ Fld Z h ra "java/lang/String" "coder" "B" (.int (nar .byte (0 : Int32))) ∧ Arv Z h ry ky .byte (2 : Int32) [(.int (nar .byte (xc0.toInt8.toInt32))), (.int (nar .byte (xc1.toInt8.toInt32)))] (.int (0 : Int32))
set_option maxRecDepth 65536 in
set_option maxHeartbeats 40000000 in
theorem rm_sn2 (l : Launch) (Z : State) (a0 : Array Value) (hw : ∀ d ∈ tables_1, d.before a0 Z = true) (ws : List Jvm.Cond) (ra : Addr) (rb : Addr) (ka : ClassId) (xcs : Int32) (xc0 : Int32) (xc1 : Int32) (h0 : Heap) (n0 : Nat) (Z0 : n0 ≤ h0.size) (E_ra : Exa Z h0 ra "java/lang/String") (g_ra : n0 ≤ ra) (F_value_ra : Fld Z h0 ra "java/lang/String" "value" "[B" .null) (F_coder_ra : Fld Z h0 ra "java/lang/String" "coder" "B" (.int (0 : Int32))) (VA : Arv Z h0 rb ka .char (2 : Int32) [(.int xc0), (.int xc1)] (.int (0 : Int32))) (SC : Sta Z h0 "java/lang/String" "COMPACT_STRINGS" "Z" (.int xcs)) (hcs : ¬ (xcs = (0 : Int32))) (hne : rb ≠ ra) (hd0 : ¬ ((255 : Int32) < xc0)) (hd1 : ¬ ((255 : Int32) < xc1)) :
    MetFree l (⟨"java/lang/String", "<init>", "([C)V"⟩ : MethodName) (head1 (Jvm.Cond.code (⟨"java/lang/String", "<init>", "([C)V"⟩ : MethodName) jdk_42_method_3_code 2 none :: ws) ({ frames := 3, cells := 1, slots := 2, locals := 52 } : Room)) (fun a U => a = #[(.ref ra), (.ref rb)] ∧ Z.Warmed39 U.vm ∧ U.heap = h0) (fun _ _ _ _ _ => True) (fun _ U o U' => ∃ v L, o = .returned v ∧ Q_rm_sn2 Z ra rb ka xcs xc0 xc1 h0 n0 v U'.heap L ∧ FrameEnd U o U' L ({ frames := 3, cells := 1, slots := 2, locals := 52 } : Room).cells ({ frames := 3, cells := 1, slots := 2, locals := 52 } : Room).slots) := by
  refine MetFree.of_bodySF (plainFor_of_name pn1) hisR ?_
  intro p e s m args below meth c s₁ Bd hml0 hP hK
  obtain ⟨rfl, hZ, hh⟩ := hP
  have hx := Bd.exec
  have hby := Bd.bytes
  have hml : c.maxLocals = 2 := hml0
  have hown : s.vm.findClass "java/lang/String" = some m.cls := findClass_of_methodNamed Bd.named
  have hnm := (name_of_methodNamed Bd.named Bd.method).1
  have X0 : Stand p l e ({ frames := 3, cells := 1, slots := 2, locals := 52 } : Room) s m #[(.ref ra), (.ref rb)] below meth c s₁ [] 0 0 := Stand.of_body Bd
  have e0 : s₁.heap = h0 := by rw [← hh, Bd.state]; rfl
  have N0 := Fr.nil n0
  have pre0 : ∀ t, Steps p.tables e below (s₁.setTop (mkF m 0 #[.val (.ref ra), .val (.ref rb)] [])) t → Steps p.tables e below (s₁.setTop (entryFrame m #[(.ref ra), (.ref rb)] 2)) t := fun t k => castTop (ef_rm_sn2 m ra rb) k
  have pre2 : ∀ t, Steps p.tables e below (s₁.setTop (mkF m 6 #[.val (.ref ra), .val (.ref rb)] [.null, (.int (2 : Int32)), (.int (0 : Int32)), (.ref rb), (.ref ra)])) t → Steps p.tables e below (s₁.setTop (entryFrame m #[(.ref ra), (.ref rb)] 2)) t := by
    intro t k
    refine pre0 t ?_
    refine XS.aloadN X0.here hx rfl (hb hby d2_0) rfl rfl ?_
    show Steps p.tables e below (s₁.setTop (mkF m 1 #[.val (.ref ra), .val (.ref rb)] [(.ref ra)])) _
    refine XS.aloadN X0.here hx rfl (hb hby d2_1) rfl rfl ?_
    show Steps p.tables e below (s₁.setTop (mkF m 2 #[.val (.ref ra), .val (.ref rb)] [(.ref rb), (.ref ra)])) _
    refine XS.iconst X0.here hx rfl (hb hby d2_2) ?_
    show Steps p.tables e below (s₁.setTop (mkF m 3 #[.val (.ref ra), .val (.ref rb)] [(.int (0 : Int32)), (.ref rb), (.ref ra)])) _
    refine XS.aloadN X0.here hx rfl (hb hby d2_3) rfl rfl ?_
    show Steps p.tables e below (s₁.setTop (mkF m 4 #[.val (.ref ra), .val (.ref rb)] [(.ref rb), (.int (0 : Int32)), (.ref rb), (.ref ra)])) _
    obtain ⟨c1, a1, q1, s1, m1, i1, u1⟩ := id VA
    refine X0.arraylength hx (by rw [e0]; exact a1.1) (State.isArrayOf_alike hZ.alike a1.2.1) (g := (mkF m 4 #[.val (.ref ra), .val (.ref rb)] [(.ref rb), (.int (0 : Int32)), (.ref rb), (.ref ra)])) rfl rfl (hb hby d2_4) _ ?_
    rw [len_of s1 m1]
    show Steps p.tables e below (s₁.setTop (mkF m 5 #[.val (.ref ra), .val (.ref rb)] [(.int (2 : Int32)), (.int (0 : Int32)), (.ref rb), (.ref ra)])) _
    refine XS.aconstNull X0.here hx rfl (hb hby d2_5) ?_
    show Steps p.tables e below (s₁.setTop (mkF m 6 #[.val (.ref ra), .val (.ref rb)] [.null, (.int (2 : Int32)), (.int (0 : Int32)), (.ref rb), (.ref ra)])) _
    exact k
  obtain ⟨_, _, ⟨T3, L3, k3, n3⟩, -, X3, ⟨Lc3, hQ3, l3, y3, z3⟩, st3⟩ := X0.specialBack hx (y := (⟨"java/lang/String", "<init>", "([CIILjava/lang/Void;)V"⟩ : MethodName)) rfl hown (mvT hZ (hw _ (List.mem_of_getElem? (i := 11) rfl))) (mvT hZ (hw _ (List.mem_of_getElem? (i := 12) rfl))) (mvT hZ (hw _ (List.mem_of_getElem? (i := 14) rfl))) (by decide) (backOf (W := 0) (rm_sc2 l Z a0 hw [] ra rb ka xcs xc0 xc1 h0 n0 Z0 E_ra (g_ra) F_value_ra F_coder_ra VA SC (hcs) (hne) (hd0) (hd1)) hZ (hw _ (List.mem_of_getElem? (i := 14) rfl)) (hw _ (List.mem_of_getElem? (i := 6) rfl)) (by decide) (by decide)) (g := (mkF m 6 #[.val (.ref ra), .val (.ref rb)] [.null, (.int (2 : Int32)), (.int (0 : Int32)), (.ref rb), (.ref ra)])) rfl (by rw [hml]; rfl) (Steps.refl _) (a := ra) (argsL := [(.ref rb), (.int (0 : Int32)), (.int (2 : Int32)), .null]) (rest := []) (lenOf pd6 rfl) rfl (by show 2 * 0 + _ ≤ _; exact Nat.le_of_eq rfl) (hb hby d2_6) (fun _ _ => ⟨rfl, e0, (by decide : 0 + 1 ≤ _), (by decide : 0 + 2 ≤ _)⟩)
  dsimp only [Pt.U, Pt.locs, Pt.cells, Pt.slots] at X3 l3 y3 z3 st3 hQ3
  subst y3 z3
  obtain ⟨ry_3, ky_3, rfl, M3, kp3, f3_0, f3_1, f3_2, f3_3⟩ := hQ3
  have K3 : Keep h0 T3.heap [ra] := (Keep.refl h0 [ra]).trans kp3 (allS (P := fun x => x ∈ [ra] ∨ h0.size ≤ x) (Or.inl (by simp)) all0)
  have zz3 : n0 ≤ T3.heap.size := Nat.le_trans Z0 K3.1
  have N3 : Fr n0 L3 := by rw [l3]; exact Fr.app N0 M3
  clear l3
  have X3 : Stand p l e _ _ m _ below meth c T3 _ 1 2 := X3
  have pre4 : ∀ t, Steps p.tables e below (T3.setTop (mkF m 9 #[.val (.ref ra), .val (.ref rb)] [])) t → Steps p.tables e below (s₁.setTop (entryFrame m #[(.ref ra), (.ref rb)] 2)) t := fun t k => pre2 t (st3.trans k)
  obtain ⟨fs, hr, hrun, hended, hW, hsame⟩ := X3.leave (v := none) (fun _ => rfl)
  refine ⟨_, _, pre4 _ ?_, hrun, hended, _, _, rfl, ?_, ⟨_, rfl⟩, hW, hsame.mono (by decide) (by decide)⟩
  · exact X3.returnOut hx Bd.returns (hb hby d2_9) hr
  · show Q_rm_sn2 Z ra rb ka xcs xc0 xc1 h0 n0 _ T3.heap _
    exact ⟨ry_3, ky_3, rfl, N3, K3, f3_0, f3_1, f3_2, f3_3⟩
theorem d12_0 : decode jdk_43_method_13_code 0 = .ok (.aload_n 0, 1) := by decide +kernel
theorem d12_1 : decode jdk_43_method_13_code 1 = .ok (.arraylength, 1) := by decide +kernel
theorem d12_2 : decode jdk_43_method_13_code 2 = .ok (.aload_n 1, 1) := by decide +kernel
theorem d12_3 : decode jdk_43_method_13_code 3 = .ok (.arraylength, 1) := by decide +kernel
theorem d12_4 : decode jdk_43_method_13_code 4 = .ok (.if_icmp .ne 30, 3) := by decide +kernel
theorem d12_7 : decode jdk_43_method_13_code 7 = .ok (.iconst 0, 1) := by decide +kernel
theorem d12_8 : decode jdk_43_method_13_code 8 = .ok (.istore_n 2, 1) := by decide +kernel
theorem d12_9 : decode jdk_43_method_13_code 9 = .ok (.iload_n 2, 1) := by decide +kernel
theorem d12_10 : decode jdk_43_method_13_code 10 = .ok (.aload_n 0, 1) := by decide +kernel
theorem d12_11 : decode jdk_43_method_13_code 11 = .ok (.arraylength, 1) := by decide +kernel
theorem d12_12 : decode jdk_43_method_13_code 12 = .ok (.if_icmp .ge 20, 3) := by decide +kernel
theorem d12_15 : decode jdk_43_method_13_code 15 = .ok (.aload_n 0, 1) := by decide +kernel
theorem d12_16 : decode jdk_43_method_13_code 16 = .ok (.iload_n 2, 1) := by decide +kernel
theorem d12_17 : decode jdk_43_method_13_code 17 = .ok (.baload, 1) := by decide +kernel
theorem d12_18 : decode jdk_43_method_13_code 18 = .ok (.aload_n 1, 1) := by decide +kernel
theorem d12_19 : decode jdk_43_method_13_code 19 = .ok (.iload_n 2, 1) := by decide +kernel
theorem d12_20 : decode jdk_43_method_13_code 20 = .ok (.baload, 1) := by decide +kernel
theorem d12_21 : decode jdk_43_method_13_code 21 = .ok (.if_icmp .eq 5, 3) := by decide +kernel
theorem d12_26 : decode jdk_43_method_13_code 26 = .ok (.iinc 2 1, 3) := by decide +kernel
theorem d12_29 : decode jdk_43_method_13_code 29 = .ok (.goto (-20), 3) := by decide +kernel
theorem d12_32 : decode jdk_43_method_13_code 32 = .ok (.iconst 1, 1) := by decide +kernel
theorem d12_33 : decode jdk_43_method_13_code 33 = .ok (.ireturn, 1) := by decide +kernel
theorem d12_24 : decode jdk_43_method_13_code 24 = .ok (.iconst 0, 1) := by decide +kernel
theorem d12_25 : decode jdk_43_method_13_code 25 = .ok (.ireturn, 1) := by decide +kernel
theorem d12_34 : decode jdk_43_method_13_code 34 = .ok (.iconst 0, 1) := by decide +kernel
theorem d12_35 : decode jdk_43_method_13_code 35 = .ok (.ireturn, 1) := by decide +kernel
def F_rm_leq (xn : Int32) (xm : Int32) (l1 : List Int32) (l2 : List Int32) : Int32 := (if xn = xm then (if (0 : Int32) < xn then (if (own_at l1 (0 : Int32)) = (own_at l2 (0 : Int32)) then (if (1 : Int32) < xn then (if (own_at l1 (1 : Int32)) = (own_at l2 (1 : Int32)) then (1 : Int32) else (0 : Int32)) else (1 : Int32)) else (0 : Int32)) else (1 : Int32)) else (0 : Int32))
theorem ef_rm_leq (m : MethodId) (ra : Addr) (rb : Addr) : entryFrame m #[(.ref ra), (.ref rb)] 3 = mkF m 0 #[.val (.ref ra), .val (.ref rb), .unset] [] := by first | (simp [entryFrame, mkF, argsToLocals, Value.category]; done) | rfl
def Q_rm_leq (Z : State) (ra : Addr) (rb : Addr) (ka : ClassId) (kb : ClassId) (xn : Int32) (xm : Int32) (l1 : List Int32) (l2 : List Int32) (h0 : Heap) (n0 : Nat) (v : Option Value) (h : Heap) (L : List Loc) : Prop := v = some (.int (F_rm_leq xn xm l1 l2)) ∧ Fr n0 L ∧ h = h0
set_option maxRecDepth 65536 in
set_option maxHeartbeats 40000000 in
theorem rm_leq (l : Launch) (Z : State) (a0 : Array Value) (hw : ∀ d ∈ tables_1, d.before a0 Z = true) (ws : List Jvm.Cond) (ra : Addr) (rb : Addr) (ka : ClassId) (kb : ClassId) (xn : Int32) (xm : Int32) (l1 : List Int32) (l2 : List Int32) (h0 : Heap) (n0 : Nat) (Z0 : n0 ≤ h0.size) (VA : Arv Z h0 ra ka .byte xn (l1.map Value.int) (.int (0 : Int32))) (VB0 : Arv Z h0 rb kb .byte xm (l2.map Value.int) (.int (0 : Int32))) (hmx : ¬ ((2 : Int32) < xn)) :
    MetFree l (⟨"java/lang/StringLatin1", "equals", "([B[B)Z"⟩ : MethodName) (head1 (Jvm.Cond.code (⟨"java/lang/StringLatin1", "equals", "([B[B)Z"⟩ : MethodName) jdk_43_method_13_code 3 (some .boolean) :: ws) ({ frames := 0, cells := 0, slots := 0, locals := 0 } : Room)) (fun a U => a = #[(.ref ra), (.ref rb)] ∧ Z.Warmed39 U.vm ∧ U.heap = h0) (fun _ _ _ _ _ => True) (fun _ U o U' => ∃ v L, o = .returned v ∧ Q_rm_leq Z ra rb ka kb xn xm l1 l2 h0 n0 v U'.heap L ∧ FrameEnd U o U' L ({ frames := 0, cells := 0, slots := 0, locals := 0 } : Room).cells ({ frames := 0, cells := 0, slots := 0, locals := 0 } : Room).slots) := by
  refine MetFree.of_bodySF (plainFor_of_name pn0) hisR ?_
  intro p e s m args below meth c s₁ Bd hml0 hP hK
  obtain ⟨rfl, hZ, hh⟩ := hP
  have hx := Bd.exec
  have hby := Bd.bytes
  have hml : c.maxLocals = 3 := hml0
  have hown : s.vm.findClass "java/lang/StringLatin1" = some m.cls := findClass_of_methodNamed Bd.named
  have hnm := (name_of_methodNamed Bd.named Bd.method).1
  have X0 : Stand p l e ({ frames := 0, cells := 0, slots := 0, locals := 0 } : Room) s m #[(.ref ra), (.ref rb)] below meth c s₁ [] 0 0 := Stand.of_body Bd
  have e0 : s₁.heap = h0 := by rw [← hh, Bd.state]; rfl
  have N0 := Fr.nil n0
  have pre0 : ∀ t, Steps p.tables e below (s₁.setTop (mkF m 0 #[.val (.ref ra), .val (.ref rb), .unset] [])) t → Steps p.tables e below (s₁.setTop (entryFrame m #[(.ref ra), (.ref rb)] 3)) t := fun t k => castTop (ef_rm_leq m ra rb) k
  have pre3 : ∀ t, Steps p.tables e below (s₁.setTop (mkF m 4 #[.val (.ref ra), .val (.ref rb), .unset] [(.int xm), (.int xn)])) t → Steps p.tables e below (s₁.setTop (entryFrame m #[(.ref ra), (.ref rb)] 3)) t := by
    intro t k
    refine pre0 t ?_
    refine XS.aloadN X0.here hx rfl (hb hby d12_0) rfl rfl ?_
    show Steps p.tables e below (s₁.setTop (mkF m 1 #[.val (.ref ra), .val (.ref rb), .unset] [(.ref ra)])) _
    obtain ⟨c1, a1, q1, s1, m1, i1, u1⟩ := id VA
    refine X0.arraylength hx (by rw [e0]; exact a1.1) (State.isArrayOf_alike hZ.alike a1.2.1) (g := (mkF m 1 #[.val (.ref ra), .val (.ref rb), .unset] [(.ref ra)])) rfl rfl (hb hby d12_1) _ ?_
    rw [len_of s1 m1]
    show Steps p.tables e below (s₁.setTop (mkF m 2 #[.val (.ref ra), .val (.ref rb), .unset] [(.int xn)])) _
    refine XS.aloadN X0.here hx rfl (hb hby d12_2) rfl rfl ?_
    show Steps p.tables e below (s₁.setTop (mkF m 3 #[.val (.ref ra), .val (.ref rb), .unset] [(.ref rb), (.int xn)])) _
    obtain ⟨c2, a2, q2, s2, m2, i2, u2⟩ := id VB0
    refine X0.arraylength hx (by rw [e0]; exact a2.1) (State.isArrayOf_alike hZ.alike a2.2.1) (g := (mkF m 3 #[.val (.ref ra), .val (.ref rb), .unset] [(.ref rb), (.int xn)])) rfl rfl (hb hby d12_3) _ ?_
    rw [len_of s2 m2]
    show Steps p.tables e below (s₁.setTop (mkF m 4 #[.val (.ref ra), .val (.ref rb), .unset] [(.int xm), (.int xn)])) _
    exact k
  by_cases hc4 : xn = xm
  · have pre5 : ∀ t, Steps p.tables e below (s₁.setTop (mkF m 12 #[.val (.ref ra), .val (.ref rb), .val (.int (0 : Int32))] [(.int xn), (.int (0 : Int32))])) t → Steps p.tables e below (s₁.setTop (entryFrame m #[(.ref ra), (.ref rb)] 3)) t := by
      intro t k
      refine pre3 t ?_
      refine XS.icmpNo X0.here hx rfl (hb hby d12_4) rfl (teq hc4).2 ?_
      show Steps p.tables e below (s₁.setTop (mkF m 7 #[.val (.ref ra), .val (.ref rb), .unset] [])) _
      refine XS.iconst X0.here hx rfl (hb hby d12_7) ?_
      show Steps p.tables e below (s₁.setTop (mkF m 8 #[.val (.ref ra), .val (.ref rb), .unset] [(.int (0 : Int32))])) _
      refine XS.istoreN X0.here hx rfl (hb hby d12_8) rfl (l' := #[.val (.ref ra), .val (.ref rb), .val (.int (0 : Int32))]) rfl ?_
      show Steps p.tables e below (s₁.setTop (mkF m 9 #[.val (.ref ra), .val (.ref rb), .val (.int (0 : Int32))] [])) _
      refine XS.iloadN X0.here hx rfl (hb hby d12_9) rfl ?_
      show Steps p.tables e below (s₁.setTop (mkF m 10 #[.val (.ref ra), .val (.ref rb), .val (.int (0 : Int32))] [(.int (0 : Int32))])) _
      refine XS.aloadN X0.here hx rfl (hb hby d12_10) rfl rfl ?_
      show Steps p.tables e below (s₁.setTop (mkF m 11 #[.val (.ref ra), .val (.ref rb), .val (.int (0 : Int32))] [(.ref ra), (.int (0 : Int32))])) _
      obtain ⟨c4, a4, q4, s4, m4, i4, u4⟩ := id VA
      refine X0.arraylength hx (by rw [e0]; exact a4.1) (State.isArrayOf_alike hZ.alike a4.2.1) (g := (mkF m 11 #[.val (.ref ra), .val (.ref rb), .val (.int (0 : Int32))] [(.ref ra), (.int (0 : Int32))])) rfl rfl (hb hby d12_11) _ ?_
      rw [len_of s4 m4]
      show Steps p.tables e below (s₁.setTop (mkF m 12 #[.val (.ref ra), .val (.ref rb), .val (.int (0 : Int32))] [(.int xn), (.int (0 : Int32))])) _
      exact k
    by_cases hc12 : (0 : Int32) < xn
    · have pre8 : ∀ t, Steps p.tables e below (s₁.setTop (mkF m 21 #[.val (.ref ra), .val (.ref rb), .val (.int (0 : Int32))] [(.int (own_at l2 (0 : Int32))), (.int (own_at l1 (0 : Int32)))])) t → Steps p.tables e below (s₁.setTop (entryFrame m #[(.ref ra), (.ref rb)] 3)) t := by
        intro t k
        refine pre5 t ?_
        refine XS.icmpNo X0.here hx rfl (hb hby d12_12) rfl (tlt hc12).2.1 ?_
        show Steps p.tables e below (s₁.setTop (mkF m 15 #[.val (.ref ra), .val (.ref rb), .val (.int (0 : Int32))] [])) _
        refine XS.aloadN X0.here hx rfl (hb hby d12_15) rfl rfl ?_
        show Steps p.tables e below (s₁.setTop (mkF m 16 #[.val (.ref ra), .val (.ref rb), .val (.int (0 : Int32))] [(.ref ra)])) _
        refine XS.iloadN X0.here hx rfl (hb hby d12_16) rfl ?_
        show Steps p.tables e below (s₁.setTop (mkF m 17 #[.val (.ref ra), .val (.ref rb), .val (.int (0 : Int32))] [(.int (0 : Int32)), (.ref ra)])) _
        obtain ⟨c6, a6, q6, s6, m6, i6, u6⟩ := id VA
        have hin6 := inb_of (j := (0 : Int32)) s6 ⟨by decide, hc12⟩
        refine X0.baloadBytes hx (j := (0 : Int32)) (v := (.int (own_at l1 (0 : Int32)))) (by rw [e0]; exact a6.1) (State.isArrayOf_alike hZ.alike a6.2.1) a6.2.2 hin6 (i6.at hin6 (own_getD l1 _)) (g := (mkF m 17 #[.val (.ref ra), .val (.ref rb), .val (.int (0 : Int32))] [(.int (0 : Int32)), (.ref ra)])) rfl rfl (hb hby d12_17) _ ?_
        show Steps p.tables e below (s₁.setTop (mkF m 18 #[.val (.ref ra), .val (.ref rb), .val (.int (0 : Int32))] [(.int (own_at l1 (0 : Int32)))])) _
        refine XS.aloadN X0.here hx rfl (hb hby d12_18) rfl rfl ?_
        show Steps p.tables e below (s₁.setTop (mkF m 19 #[.val (.ref ra), .val (.ref rb), .val (.int (0 : Int32))] [(.ref rb), (.int (own_at l1 (0 : Int32)))])) _
        refine XS.iloadN X0.here hx rfl (hb hby d12_19) rfl ?_
        show Steps p.tables e below (s₁.setTop (mkF m 20 #[.val (.ref ra), .val (.ref rb), .val (.int (0 : Int32))] [(.int (0 : Int32)), (.ref rb), (.int (own_at l1 (0 : Int32)))])) _
        obtain ⟨c7, a7, q7, s7, m7, i7, u7⟩ := id VB0
        have hin7 := inb_of (j := (0 : Int32)) s7 ⟨by decide, by rw [← hc4]; exact hc12⟩
        refine X0.baloadBytes hx (j := (0 : Int32)) (v := (.int (own_at l2 (0 : Int32)))) (by rw [e0]; exact a7.1) (State.isArrayOf_alike hZ.alike a7.2.1) a7.2.2 hin7 (i7.at hin7 (own_getD l2 _)) (g := (mkF m 20 #[.val (.ref ra), .val (.ref rb), .val (.int (0 : Int32))] [(.int (0 : Int32)), (.ref rb), (.int (own_at l1 (0 : Int32)))])) rfl rfl (hb hby d12_20) _ ?_
        show Steps p.tables e below (s₁.setTop (mkF m 21 #[.val (.ref ra), .val (.ref rb), .val (.int (0 : Int32))] [(.int (own_at l2 (0 : Int32))), (.int (own_at l1 (0 : Int32)))])) _
        exact k
      by_cases hc21 : (own_at l1 (0 : Int32)) = (own_at l2 (0 : Int32))
      · have pre10 : ∀ t, Steps p.tables e below (s₁.setTop (mkF m 12 #[.val (.ref ra), .val (.ref rb), .val (.int (1 : Int32))] [(.int xn), (.int (1 : Int32))])) t → Steps p.tables e below (s₁.setTop (entryFrame m #[(.ref ra), (.ref rb)] 3)) t := by
          intro t k
          refine pre8 t ?_
          refine XS.icmpYes X0.here hx rfl (pc0 := 21) (pc' := 26) rfl (hb hby d12_21) rfl (teq hc21).1 (by decide) (by decide) ?_
          show Steps p.tables e below (s₁.setTop (mkF m 26 #[.val (.ref ra), .val (.ref rb), .val (.int (0 : Int32))] [])) _
          refine XS.iinc X0.here hx rfl (hb hby d12_26) rfl (l' := #[.val (.ref ra), .val (.ref rb), .val (.int (1 : Int32))]) rfl ?_
          show Steps p.tables e below (s₁.setTop (mkF m 29 #[.val (.ref ra), .val (.ref rb), .val (.int (1 : Int32))] [])) _
          refine XS.goto X0.here hx rfl (pc0 := 29) (pc' := 9) rfl (hb hby d12_29) (by decide) (by decide) ?_
          show Steps p.tables e below (s₁.setTop (mkF m 9 #[.val (.ref ra), .val (.ref rb), .val (.int (1 : Int32))] [])) _
          refine XS.iloadN X0.here hx rfl (hb hby d12_9) rfl ?_
          show Steps p.tables e below (s₁.setTop (mkF m 10 #[.val (.ref ra), .val (.ref rb), .val (.int (1 : Int32))] [(.int (1 : Int32))])) _
          refine XS.aloadN X0.here hx rfl (hb hby d12_10) rfl rfl ?_
          show Steps p.tables e below (s₁.setTop (mkF m 11 #[.val (.ref ra), .val (.ref rb), .val (.int (1 : Int32))] [(.ref ra), (.int (1 : Int32))])) _
          obtain ⟨c9, a9, q9, s9, m9, i9, u9⟩ := id VA
          refine X0.arraylength hx (by rw [e0]; exact a9.1) (State.isArrayOf_alike hZ.alike a9.2.1) (g := (mkF m 11 #[.val (.ref ra), .val (.ref rb), .val (.int (1 : Int32))] [(.ref ra), (.int (1 : Int32))])) rfl rfl (hb hby d12_11) _ ?_
          rw [len_of s9 m9]
          show Steps p.tables e below (s₁.setTop (mkF m 12 #[.val (.ref ra), .val (.ref rb), .val (.int (1 : Int32))] [(.int xn), (.int (1 : Int32))])) _
          exact k
        by_cases hc12_2 : (1 : Int32) < xn
        · have pre13 : ∀ t, Steps p.tables e below (s₁.setTop (mkF m 21 #[.val (.ref ra), .val (.ref rb), .val (.int (1 : Int32))] [(.int (own_at l2 (1 : Int32))), (.int (own_at l1 (1 : Int32)))])) t → Steps p.tables e below (s₁.setTop (entryFrame m #[(.ref ra), (.ref rb)] 3)) t := by
            intro t k
            refine pre10 t ?_
            refine XS.icmpNo X0.here hx rfl (hb hby d12_12) rfl (tlt hc12_2).2.1 ?_
            show Steps p.tables e below (s₁.setTop (mkF m 15 #[.val (.ref ra), .val (.ref rb), .val (.int (1 : Int32))] [])) _
            refine XS.aloadN X0.here hx rfl (hb hby d12_15) rfl rfl ?_
            show Steps p.tables e below (s₁.setTop (mkF m 16 #[.val (.ref ra), .val (.ref rb), .val (.int (1 : Int32))] [(.ref ra)])) _
            refine XS.iloadN X0.here hx rfl (hb hby d12_16) rfl ?_
            show Steps p.tables e below (s₁.setTop (mkF m 17 #[.val (.ref ra), .val (.ref rb), .val (.int (1 : Int32))] [(.int (1 : Int32)), (.ref ra)])) _
            obtain ⟨c11, a11, q11, s11, m11, i11, u11⟩ := id VA
            have hin11 := inb_of (j := (1 : Int32)) s11 ⟨by decide, hc12_2⟩
            refine X0.baloadBytes hx (j := (1 : Int32)) (v := (.int (own_at l1 (1 : Int32)))) (by rw [e0]; exact a11.1) (State.isArrayOf_alike hZ.alike a11.2.1) a11.2.2 hin11 (i11.at hin11 (own_getD l1 _)) (g := (mkF m 17 #[.val (.ref ra), .val (.ref rb), .val (.int (1 : Int32))] [(.int (1 : Int32)), (.ref ra)])) rfl rfl (hb hby d12_17) _ ?_
            show Steps p.tables e below (s₁.setTop (mkF m 18 #[.val (.ref ra), .val (.ref rb), .val (.int (1 : Int32))] [(.int (own_at l1 (1 : Int32)))])) _
            refine XS.aloadN X0.here hx rfl (hb hby d12_18) rfl rfl ?_
            show Steps p.tables e below (s₁.setTop (mkF m 19 #[.val (.ref ra), .val (.ref rb), .val (.int (1 : Int32))] [(.ref rb), (.int (own_at l1 (1 : Int32)))])) _
            refine XS.iloadN X0.here hx rfl (hb hby d12_19) rfl ?_
            show Steps p.tables e below (s₁.setTop (mkF m 20 #[.val (.ref ra), .val (.ref rb), .val (.int (1 : Int32))] [(.int (1 : Int32)), (.ref rb), (.int (own_at l1 (1 : Int32)))])) _
            obtain ⟨c12, a12, q12, s12, m12, i12, u12⟩ := id VB0
            have hin12 := inb_of (j := (1 : Int32)) s12 ⟨by decide, by rw [← hc4]; exact hc12_2⟩
            refine X0.baloadBytes hx (j := (1 : Int32)) (v := (.int (own_at l2 (1 : Int32)))) (by rw [e0]; exact a12.1) (State.isArrayOf_alike hZ.alike a12.2.1) a12.2.2 hin12 (i12.at hin12 (own_getD l2 _)) (g := (mkF m 20 #[.val (.ref ra), .val (.ref rb), .val (.int (1 : Int32))] [(.int (1 : Int32)), (.ref rb), (.int (own_at l1 (1 : Int32)))])) rfl rfl (hb hby d12_20) _ ?_
            show Steps p.tables e below (s₁.setTop (mkF m 21 #[.val (.ref ra), .val (.ref rb), .val (.int (1 : Int32))] [(.int (own_at l2 (1 : Int32))), (.int (own_at l1 (1 : Int32)))])) _
            exact k
          by_cases hc21_2 : (own_at l1 (1 : Int32)) = (own_at l2 (1 : Int32))
          · have pre15 : ∀ t, Steps p.tables e below (s₁.setTop (mkF m 33 #[.val (.ref ra), .val (.ref rb), .val (.int (2 : Int32))] [(.int (1 : Int32))])) t → Steps p.tables e below (s₁.setTop (entryFrame m #[(.ref ra), (.ref rb)] 3)) t := by
              intro t k
              refine pre13 t ?_
              refine XS.icmpYes X0.here hx rfl (pc0 := 21) (pc' := 26) rfl (hb hby d12_21) rfl (teq hc21_2).1 (by decide) (by decide) ?_
              show Steps p.tables e below (s₁.setTop (mkF m 26 #[.val (.ref ra), .val (.ref rb), .val (.int (1 : Int32))] [])) _
              refine XS.iinc X0.here hx rfl (hb hby d12_26) rfl (l' := #[.val (.ref ra), .val (.ref rb), .val (.int (2 : Int32))]) rfl ?_
              show Steps p.tables e below (s₁.setTop (mkF m 29 #[.val (.ref ra), .val (.ref rb), .val (.int (2 : Int32))] [])) _
              refine XS.goto X0.here hx rfl (pc0 := 29) (pc' := 9) rfl (hb hby d12_29) (by decide) (by decide) ?_
              show Steps p.tables e below (s₁.setTop (mkF m 9 #[.val (.ref ra), .val (.ref rb), .val (.int (2 : Int32))] [])) _
              refine XS.iloadN X0.here hx rfl (hb hby d12_9) rfl ?_
              show Steps p.tables e below (s₁.setTop (mkF m 10 #[.val (.ref ra), .val (.ref rb), .val (.int (2 : Int32))] [(.int (2 : Int32))])) _
              refine XS.aloadN X0.here hx rfl (hb hby d12_10) rfl rfl ?_
              show Steps p.tables e below (s₁.setTop (mkF m 11 #[.val (.ref ra), .val (.ref rb), .val (.int (2 : Int32))] [(.ref ra), (.int (2 : Int32))])) _
              obtain ⟨c14, a14, q14, s14, m14, i14, u14⟩ := id VA
              refine X0.arraylength hx (by rw [e0]; exact a14.1) (State.isArrayOf_alike hZ.alike a14.2.1) (g := (mkF m 11 #[.val (.ref ra), .val (.ref rb), .val (.int (2 : Int32))] [(.ref ra), (.int (2 : Int32))])) rfl rfl (hb hby d12_11) _ ?_
              rw [len_of s14 m14]
              show Steps p.tables e below (s₁.setTop (mkF m 12 #[.val (.ref ra), .val (.ref rb), .val (.int (2 : Int32))] [(.int xn), (.int (2 : Int32))])) _
              refine XS.icmpYes X0.here hx rfl (pc0 := 12) (pc' := 32) rfl (hb hby d12_12) rfl (flt (show ¬ ((2 : Int32) < xn) from hmx)).2.1 (by decide) (by decide) ?_
              show Steps p.tables e below (s₁.setTop (mkF m 32 #[.val (.ref ra), .val (.ref rb), .val (.int (2 : Int32))] [])) _
              refine XS.iconst X0.here hx rfl (hb hby d12_32) ?_
              show Steps p.tables e below (s₁.setTop (mkF m 33 #[.val (.ref ra), .val (.ref rb), .val (.int (2 : Int32))] [(.int (1 : Int32))])) _
              exact k
            obtain ⟨fs, hr, hrun, hended, hW, hsame⟩ := X0.leave (v := some (.int (1 : Int32))) (fun h => by rw [Bd.returns] at h; cases h)
            refine ⟨_, _, pre15 _ ?_, hrun, hended, _, _, rfl, ?_, ⟨_, rfl⟩, hW, hsame.mono (by decide) (by decide)⟩
            · exact retN X0 hx (t := .boolean) Bd.returns (by simp) (hb hby d12_33) hr
            · show Q_rm_leq Z ra rb ka kb xn xm l1 l2 h0 n0 _ s₁.heap _
              rw [e0]
              exact ⟨congrArg (fun z => some (Value.int z)) (show (1 : Int32) = (F_rm_leq xn xm l1 l2) from by rw [F_rm_leq, if_pos hc4, if_pos hc12, if_pos hc21, if_pos hc12_2, if_pos hc21_2]), N0, rfl⟩
          · have pre16 : ∀ t, Steps p.tables e below (s₁.setTop (mkF m 25 #[.val (.ref ra), .val (.ref rb), .val (.int (1 : Int32))] [(.int (0 : Int32))])) t → Steps p.tables e below (s₁.setTop (entryFrame m #[(.ref ra), (.ref rb)] 3)) t := by
              intro t k
              refine pre13 t ?_
              refine XS.icmpNo X0.here hx rfl (hb hby d12_21) rfl (feq hc21_2).1 ?_
              show Steps p.tables e below (s₁.setTop (mkF m 24 #[.val (.ref ra), .val (.ref rb), .val (.int (1 : Int32))] [])) _
              refine XS.iconst X0.here hx rfl (hb hby d12_24) ?_
              show Steps p.tables e below (s₁.setTop (mkF m 25 #[.val (.ref ra), .val (.ref rb), .val (.int (1 : Int32))] [(.int (0 : Int32))])) _
              exact k
            obtain ⟨fs, hr, hrun, hended, hW, hsame⟩ := X0.leave (v := some (.int (0 : Int32))) (fun h => by rw [Bd.returns] at h; cases h)
            refine ⟨_, _, pre16 _ ?_, hrun, hended, _, _, rfl, ?_, ⟨_, rfl⟩, hW, hsame.mono (by decide) (by decide)⟩
            · exact retN X0 hx (t := .boolean) Bd.returns (by simp) (hb hby d12_25) hr
            · show Q_rm_leq Z ra rb ka kb xn xm l1 l2 h0 n0 _ s₁.heap _
              rw [e0]
              exact ⟨congrArg (fun z => some (Value.int z)) (show (0 : Int32) = (F_rm_leq xn xm l1 l2) from by rw [F_rm_leq, if_pos hc4, if_pos hc12, if_pos hc21, if_pos hc12_2, if_neg hc21_2]), N0, rfl⟩
        · have pre17 : ∀ t, Steps p.tables e below (s₁.setTop (mkF m 33 #[.val (.ref ra), .val (.ref rb), .val (.int (1 : Int32))] [(.int (1 : Int32))])) t → Steps p.tables e below (s₁.setTop (entryFrame m #[(.ref ra), (.ref rb)] 3)) t := by
            intro t k
            refine pre10 t ?_
            refine XS.icmpYes X0.here hx rfl (pc0 := 12) (pc' := 32) rfl (hb hby d12_12) rfl (flt hc12_2).2.1 (by decide) (by decide) ?_
            show Steps p.tables e below (s₁.setTop (mkF m 32 #[.val (.ref ra), .val (.ref rb), .val (.int (1 : Int32))] [])) _
            refine XS.iconst X0.here hx rfl (hb hby d12_32) ?_
            show Steps p.tables e below (s₁.setTop (mkF m 33 #[.val (.ref ra), .val (.ref rb), .val (.int (1 : Int32))] [(.int (1 : Int32))])) _
            exact k
          obtain ⟨fs, hr, hrun, hended, hW, hsame⟩ := X0.leave (v := some (.int (1 : Int32))) (fun h => by rw [Bd.returns] at h; cases h)
          refine ⟨_, _, pre17 _ ?_, hrun, hended, _, _, rfl, ?_, ⟨_, rfl⟩, hW, hsame.mono (by decide) (by decide)⟩
          · exact retN X0 hx (t := .boolean) Bd.returns (by simp) (hb hby d12_33) hr
          · show Q_rm_leq Z ra rb ka kb xn xm l1 l2 h0 n0 _ s₁.heap _
            rw [e0]
            exact ⟨congrArg (fun z => some (Value.int z)) (show (1 : Int32) = (F_rm_leq xn xm l1 l2) from by rw [F_rm_leq, if_pos hc4, if_pos hc12, if_pos hc21, if_neg hc12_2]), N0, rfl⟩
      · have pre18 : ∀ t, Steps p.tables e below (s₁.setTop (mkF m 25 #[.val (.ref ra), .val (.ref rb), .val (.int (0 : Int32))] [(.int (0 : Int32))])) t → Steps p.tables e below (s₁.setTop (entryFrame m #[(.ref ra), (.ref rb)] 3)) t := by
          intro t k
          refine pre8 t ?_
          refine XS.icmpNo X0.here hx rfl (hb hby d12_21) rfl (feq hc21).1 ?_
          show Steps p.tables e below (s₁.setTop (mkF m 24 #[.val (.ref ra), .val (.ref rb), .val (.int (0 : Int32))] [])) _
          refine XS.iconst X0.here hx rfl (hb hby d12_24) ?_
          show Steps p.tables e below (s₁.setTop (mkF m 25 #[.val (.ref ra), .val (.ref rb), .val (.int (0 : Int32))] [(.int (0 : Int32))])) _
          exact k
        obtain ⟨fs, hr, hrun, hended, hW, hsame⟩ := X0.leave (v := some (.int (0 : Int32))) (fun h => by rw [Bd.returns] at h; cases h)
        refine ⟨_, _, pre18 _ ?_, hrun, hended, _, _, rfl, ?_, ⟨_, rfl⟩, hW, hsame.mono (by decide) (by decide)⟩
        · exact retN X0 hx (t := .boolean) Bd.returns (by simp) (hb hby d12_25) hr
        · show Q_rm_leq Z ra rb ka kb xn xm l1 l2 h0 n0 _ s₁.heap _
          rw [e0]
          exact ⟨congrArg (fun z => some (Value.int z)) (show (0 : Int32) = (F_rm_leq xn xm l1 l2) from by rw [F_rm_leq, if_pos hc4, if_pos hc12, if_neg hc21]), N0, rfl⟩
    · have pre19 : ∀ t, Steps p.tables e below (s₁.setTop (mkF m 33 #[.val (.ref ra), .val (.ref rb), .val (.int (0 : Int32))] [(.int (1 : Int32))])) t → Steps p.tables e below (s₁.setTop (entryFrame m #[(.ref ra), (.ref rb)] 3)) t := by
        intro t k
        refine pre5 t ?_
        refine XS.icmpYes X0.here hx rfl (pc0 := 12) (pc' := 32) rfl (hb hby d12_12) rfl (flt hc12).2.1 (by decide) (by decide) ?_
        show Steps p.tables e below (s₁.setTop (mkF m 32 #[.val (.ref ra), .val (.ref rb), .val (.int (0 : Int32))] [])) _
        refine XS.iconst X0.here hx rfl (hb hby d12_32) ?_
        show Steps p.tables e below (s₁.setTop (mkF m 33 #[.val (.ref ra), .val (.ref rb), .val (.int (0 : Int32))] [(.int (1 : Int32))])) _
        exact k
      obtain ⟨fs, hr, hrun, hended, hW, hsame⟩ := X0.leave (v := some (.int (1 : Int32))) (fun h => by rw [Bd.returns] at h; cases h)
      refine ⟨_, _, pre19 _ ?_, hrun, hended, _, _, rfl, ?_, ⟨_, rfl⟩, hW, hsame.mono (by decide) (by decide)⟩
      · exact retN X0 hx (t := .boolean) Bd.returns (by simp) (hb hby d12_33) hr
      · show Q_rm_leq Z ra rb ka kb xn xm l1 l2 h0 n0 _ s₁.heap _
        rw [e0]
        exact ⟨congrArg (fun z => some (Value.int z)) (show (1 : Int32) = (F_rm_leq xn xm l1 l2) from by rw [F_rm_leq, if_pos hc4, if_neg hc12]), N0, rfl⟩
  · have pre20 : ∀ t, Steps p.tables e below (s₁.setTop (mkF m 35 #[.val (.ref ra), .val (.ref rb), .unset] [(.int (0 : Int32))])) t → Steps p.tables e below (s₁.setTop (entryFrame m #[(.ref ra), (.ref rb)] 3)) t := by
      intro t k
      refine pre3 t ?_
      refine XS.icmpYes X0.here hx rfl (pc0 := 4) (pc' := 34) rfl (hb hby d12_4) rfl (feq hc4).2 (by decide) (by decide) ?_
      show Steps p.tables e below (s₁.setTop (mkF m 34 #[.val (.ref ra), .val (.ref rb), .unset] [])) _
      refine XS.iconst X0.here hx rfl (hb hby d12_34) ?_
      show Steps p.tables e below (s₁.setTop (mkF m 35 #[.val (.ref ra), .val (.ref rb), .unset] [(.int (0 : Int32))])) _
      exact k
    obtain ⟨fs, hr, hrun, hended, hW, hsame⟩ := X0.leave (v := some (.int (0 : Int32))) (fun h => by rw [Bd.returns] at h; cases h)
    refine ⟨_, _, pre20 _ ?_, hrun, hended, _, _, rfl, ?_, ⟨_, rfl⟩, hW, hsame.mono (by decide) (by decide)⟩
    · exact retN X0 hx (t := .boolean) Bd.returns (by simp) (hb hby d12_35) hr
    · show Q_rm_leq Z ra rb ka kb xn xm l1 l2 h0 n0 _ s₁.heap _
      rw [e0]
      exact ⟨congrArg (fun z => some (Value.int z)) (show (0 : Int32) = (F_rm_leq xn xm l1 l2) from by rw [F_rm_leq, if_neg hc4]), N0, rfl⟩
theorem d11_0 : decode jdk_42_method_66_code 0 = .ok (.aload_n 0, 1) := by decide +kernel
theorem d11_1 : decode jdk_42_method_66_code 1 = .ok (.aload_n 1, 1) := by decide +kernel
theorem d11_2 : decode jdk_42_method_66_code 2 = .ok (.if_acmp .ne 5, 3) := by decide +kernel
theorem d11_7 : decode jdk_42_method_66_code 7 = .ok (.aload_n 1, 1) := by decide +kernel
theorem d11_8 : decode jdk_42_method_66_code 8 = .ok (.instanceof 10, 3) := by decide +kernel
theorem d11_11 : decode jdk_42_method_66_code 11 = .ok (.ifCond .eq 43, 3) := by decide +kernel
theorem d11_14 : decode jdk_42_method_66_code 14 = .ok (.aload_n 1, 1) := by decide +kernel
theorem d11_15 : decode jdk_42_method_66_code 15 = .ok (.checkcast 10, 3) := by decide +kernel
theorem d11_18 : decode jdk_42_method_66_code 18 = .ok (.astore_n 2, 1) := by decide +kernel
theorem d11_19 : decode jdk_42_method_66_code 19 = .ok (.getstatic 38, 3) := by decide +kernel
theorem d11_22 : decode jdk_42_method_66_code 22 = .ok (.ifCond .eq 14, 3) := by decide +kernel
theorem d11_25 : decode jdk_42_method_66_code 25 = .ok (.aload_n 0, 1) := by decide +kernel
theorem d11_26 : decode jdk_42_method_66_code 26 = .ok (.getfield 15, 3) := by decide +kernel
theorem d11_29 : decode jdk_42_method_66_code 29 = .ok (.aload_n 2, 1) := by decide +kernel
theorem d11_30 : decode jdk_42_method_66_code 30 = .ok (.getfield 15, 3) := by decide +kernel
theorem d11_33 : decode jdk_42_method_66_code 33 = .ok (.if_icmp .ne 21, 3) := by decide +kernel
theorem d11_36 : decode jdk_42_method_66_code 36 = .ok (.aload_n 0, 1) := by decide +kernel
theorem d11_37 : decode jdk_42_method_66_code 37 = .ok (.getfield 9, 3) := by decide +kernel
theorem d11_40 : decode jdk_42_method_66_code 40 = .ok (.aload_n 2, 1) := by decide +kernel
theorem d11_41 : decode jdk_42_method_66_code 41 = .ok (.getfield 9, 3) := by decide +kernel
theorem d11_44 : decode jdk_42_method_66_code 44 = .ok (.invokestatic 541, 3) := by decide +kernel
theorem pd7 : parseMethodDescriptor "([B[B)Z" = some ⟨[(.array .byte), (.array .byte)], some .boolean⟩ := by decide +kernel
theorem d11_47 : decode jdk_42_method_66_code 47 = .ok (.ifCond .eq 7, 3) := by decide +kernel
theorem d11_54 : decode jdk_42_method_66_code 54 = .ok (.iconst 0, 1) := by decide +kernel
theorem d11_55 : decode jdk_42_method_66_code 55 = .ok (.ireturn, 1) := by decide +kernel
theorem d11_50 : decode jdk_42_method_66_code 50 = .ok (.iconst 1, 1) := by decide +kernel
theorem d11_51 : decode jdk_42_method_66_code 51 = .ok (.goto 4, 3) := by decide +kernel
def F_rm_seq (xcs : Int32) (xn : Int32) (xm : Int32) (l1 : List Int32) (l2 : List Int32) : Int32 := (if (F_rm_leq xn xm l1 l2) = (0 : Int32) then (0 : Int32) else (1 : Int32))
theorem ef_rm_seq (m : MethodId) (ra : Addr) (rb : Addr) : entryFrame m #[(.ref ra), (.ref rb)] 3 = mkF m 0 #[.val (.ref ra), .val (.ref rb), .unset] [] := by first | (simp [entryFrame, mkF, argsToLocals, Value.category]; done) | rfl
def Q_rm_seq (Z : State) (ra : Addr) (rb : Addr) (xcs : Int32) (ya : Addr) (yb : Addr) (ka : ClassId) (kb : ClassId) (xn : Int32) (xm : Int32) (l1 : List Int32) (l2 : List Int32) (h0 : Heap) (n0 : Nat) (v : Option Value) (h : Heap) (L : List Loc) : Prop := v = some (.int (F_rm_seq xcs xn xm l1 l2)) ∧ Fr n0 L ∧ h = h0
set_option maxRecDepth 65536 in
set_option maxHeartbeats 40000000 in
theorem rm_seq (l : Launch) (Z : State) (a0 : Array Value) (hw : ∀ d ∈ tables_1, d.before a0 Z = true) (ws : List Jvm.Cond) (ra : Addr) (rb : Addr) (xcs : Int32) (ya : Addr) (yb : Addr) (ka : ClassId) (kb : ClassId) (xn : Int32) (xm : Int32) (l1 : List Int32) (l2 : List Int32) (h0 : Heap) (n0 : Nat) (Z0 : n0 ≤ h0.size) (SC : Sta Z h0 "java/lang/String" "COMPACT_STRINGS" "Z" (.int xcs)) (FVa : Fld Z h0 ra "java/lang/String" "value" "[B" (.ref ya)) (FCa : Fld Z h0 ra "java/lang/String" "coder" "B" (.int (0 : Int32))) (FVb : Fld Z h0 rb "java/lang/String" "value" "[B" (.ref yb)) (FCb : Fld Z h0 rb "java/lang/String" "coder" "B" (.int (0 : Int32))) (VA : Arv Z h0 ya ka .byte xn (l1.map Value.int) (.int (0 : Int32))) (VB0 : Arv Z h0 yb kb .byte xm (l2.map Value.int) (.int (0 : Int32))) (Eb : Exa Z h0 rb "java/lang/String") (hcs : ¬ (xcs = (0 : Int32))) (hne : ¬ (ra = rb)) (hmx : ¬ ((2 : Int32) < xn)) :
    MetFree l (⟨"java/lang/String", "equals", "(Ljava/lang/Object;)Z"⟩ : MethodName) (head1 (Jvm.Cond.code (⟨"java/lang/String", "equals", "(Ljava/lang/Object;)Z"⟩ : MethodName) jdk_42_method_66_code 3 (some .boolean) :: ws) ({ frames := 1, cells := 0, slots := 0, locals := 14 } : Room)) (fun a U => a = #[(.ref ra), (.ref rb)] ∧ Z.Warmed39 U.vm ∧ U.heap = h0) (fun _ _ _ _ _ => True) (fun _ U o U' => ∃ v L, o = .returned v ∧ Q_rm_seq Z ra rb xcs ya yb ka kb xn xm l1 l2 h0 n0 v U'.heap L ∧ FrameEnd U o U' L ({ frames := 1, cells := 0, slots := 0, locals := 14 } : Room).cells ({ frames := 1, cells := 0, slots := 0, locals := 14 } : Room).slots) := by
  refine MetFree.of_bodySF (plainFor_of_name pn1) hisR ?_
  intro p e s m args below meth c s₁ Bd hml0 hP hK
  obtain ⟨rfl, hZ, hh⟩ := hP
  have hx := Bd.exec
  have hby := Bd.bytes
  have hml : c.maxLocals = 3 := hml0
  have hown : s.vm.findClass "java/lang/String" = some m.cls := findClass_of_methodNamed Bd.named
  have hnm := (name_of_methodNamed Bd.named Bd.method).1
  have X0 : Stand p l e ({ frames := 1, cells := 0, slots := 0, locals := 14 } : Room) s m #[(.ref ra), (.ref rb)] below meth c s₁ [] 0 0 := Stand.of_body Bd
  have e0 : s₁.heap = h0 := by rw [← hh, Bd.state]; rfl
  have N0 := Fr.nil n0
  have pre0 : ∀ t, Steps p.tables e below (s₁.setTop (mkF m 0 #[.val (.ref ra), .val (.ref rb), .unset] [])) t → Steps p.tables e below (s₁.setTop (entryFrame m #[(.ref ra), (.ref rb)] 3)) t := fun t k => castTop (ef_rm_seq m ra rb) k
  have pre1 : ∀ t, Steps p.tables e below (s₁.setTop (mkF m 8 #[.val (.ref ra), .val (.ref rb), .unset] [(.ref rb)])) t → Steps p.tables e below (s₁.setTop (entryFrame m #[(.ref ra), (.ref rb)] 3)) t := by
    intro t k
    refine pre0 t ?_
    refine XS.aloadN X0.here hx rfl (hb hby d11_0) rfl rfl ?_
    show Steps p.tables e below (s₁.setTop (mkF m 1 #[.val (.ref ra), .val (.ref rb), .unset] [(.ref ra)])) _
    refine XS.aloadN X0.here hx rfl (hb hby d11_1) rfl rfl ?_
    show Steps p.tables e below (s₁.setTop (mkF m 2 #[.val (.ref ra), .val (.ref rb), .unset] [(.ref rb), (.ref ra)])) _
    refine Jvm.RoadKit.acmp (g := (mkF m 2 #[.val (.ref ra), .val (.ref rb), .unset] [(.ref rb), (.ref ra)])) X0 hx rfl rfl rfl (pc0 := 2) (pc' := 7) (same := false) rfl (hb hby d11_2) rfl (decide_eq_false fun q => hne (Value.ref.inj q)) (by decide) (by decide) ?_
    show Steps p.tables e below (s₁.setTop (mkF m 7 #[.val (.ref ra), .val (.ref rb), .unset] [])) _
    refine XS.aloadN X0.here hx rfl (hb hby d11_7) rfl rfl ?_
    show Steps p.tables e below (s₁.setTop (mkF m 8 #[.val (.ref ra), .val (.ref rb), .unset] [(.ref rb)])) _
    exact k
  obtain ⟨T2, X2, e2, st2⟩ := instY X0 hx hZ hown (hw _ (List.mem_of_getElem? (i := 87) rfl)) e0 (Ins.self Eb) (g := (mkF m 8 #[.val (.ref ra), .val (.ref rb), .unset] [(.ref rb)])) rfl rfl (hb hby d11_8)
  have pre3 : ∀ t, Steps p.tables e below (T2.setTop (mkF m 11 #[.val (.ref ra), .val (.ref rb), .unset] [(.int (1 : Int32))])) t → Steps p.tables e below (s₁.setTop (entryFrame m #[(.ref ra), (.ref rb)] 3)) t := fun t k => pre1 t (st2 t k)
  have pre4 : ∀ t, Steps p.tables e below (T2.setTop (mkF m 15 #[.val (.ref ra), .val (.ref rb), .unset] [(.ref rb)])) t → Steps p.tables e below (s₁.setTop (entryFrame m #[(.ref ra), (.ref rb)] 3)) t := by
    intro t k
    refine pre3 t ?_
    refine XS.ifNo X2.here hx rfl (hb hby d11_11) rfl ((if0 _ _).trans (feq (show ¬ ((1 : Int32) = (0 : Int32)) from by decide)).1) ?_
    show Steps p.tables e below (T2.setTop (mkF m 14 #[.val (.ref ra), .val (.ref rb), .unset] [])) _
    refine XS.aloadN X2.here hx rfl (hb hby d11_14) rfl rfl ?_
    show Steps p.tables e below (T2.setTop (mkF m 15 #[.val (.ref ra), .val (.ref rb), .unset] [(.ref rb)])) _
    exact k
  obtain ⟨T5, X5, e5, st5⟩ := castY X2 hx hZ hown (hw _ (List.mem_of_getElem? (i := 87) rfl)) e2 (Ins.self Eb) (g := (mkF m 15 #[.val (.ref ra), .val (.ref rb), .unset] [(.ref rb)])) rfl rfl (hb hby d11_15)
  have pre6 : ∀ t, Steps p.tables e below (T5.setTop (mkF m 18 #[.val (.ref ra), .val (.ref rb), .unset] [(.ref rb)])) t → Steps p.tables e below (s₁.setTop (entryFrame m #[(.ref ra), (.ref rb)] 3)) t := fun t k => pre4 t (st5 t k)
  have pre8 : ∀ t, Steps p.tables e below (T5.setTop (mkF m 19 #[.val (.ref ra), .val (.ref rb), .val (.ref rb)] [])) t → Steps p.tables e below (s₁.setTop (entryFrame m #[(.ref ra), (.ref rb)] 3)) t := by
    intro t k
    refine pre6 t ?_
    refine XS.astoreN X5.here hx rfl (hb hby d11_18) rfl rfl (l' := #[.val (.ref ra), .val (.ref rb), .val (.ref rb)]) rfl ?_
    show Steps p.tables e below (T5.setTop (mkF m 19 #[.val (.ref ra), .val (.ref rb), .val (.ref rb)] [])) _
    exact k
  obtain ⟨T7, X7, e7, st7⟩ := getS2 X5 hx hZ hown (host := "") (Or.inl (hw _ (List.mem_of_getElem? (i := 88) rfl))) Via.refl e5 SC (g := (mkF m 19 #[.val (.ref ra), .val (.ref rb), .val (.ref rb)] [])) rfl (hb hby d11_19)
  have pre9 : ∀ t, Steps p.tables e below (T7.setTop (mkF m 22 #[.val (.ref ra), .val (.ref rb), .val (.ref rb)] [(.int xcs)])) t → Steps p.tables e below (s₁.setTop (entryFrame m #[(.ref ra), (.ref rb)] 3)) t := fun t k => pre8 t (st7 t k)
  have pre10 : ∀ t, Steps p.tables e below (T7.setTop (mkF m 26 #[.val (.ref ra), .val (.ref rb), .val (.ref rb)] [(.ref ra)])) t → Steps p.tables e below (s₁.setTop (entryFrame m #[(.ref ra), (.ref rb)] 3)) t := by
    intro t k
    refine pre9 t ?_
    refine XS.ifNo X7.here hx rfl (hb hby d11_22) rfl ((if0 _ _).trans (feq (show ¬ (xcs = (0 : Int32)) from hcs)).1) ?_
    show Steps p.tables e below (T7.setTop (mkF m 25 #[.val (.ref ra), .val (.ref rb), .val (.ref rb)] [])) _
    refine XS.aloadN X7.here hx rfl (hb hby d11_25) rfl rfl ?_
    show Steps p.tables e below (T7.setTop (mkF m 26 #[.val (.ref ra), .val (.ref rb), .val (.ref rb)] [(.ref ra)])) _
    exact k
  obtain ⟨T11, X11, e11, st11⟩ := getF X7 hx hZ hown (host := "") (Or.inl (hw _ (List.mem_of_getElem? (i := 25) rfl))) Via.refl e7 FCa (g := (mkF m 26 #[.val (.ref ra), .val (.ref rb), .val (.ref rb)] [(.ref ra)])) rfl rfl (hb hby d11_26)
  have pre12 : ∀ t, Steps p.tables e below (T11.setTop (mkF m 29 #[.val (.ref ra), .val (.ref rb), .val (.ref rb)] [(.int (0 : Int32))])) t → Steps p.tables e below (s₁.setTop (entryFrame m #[(.ref ra), (.ref rb)] 3)) t := fun t k => pre10 t (st11 t k)
  have pre13 : ∀ t, Steps p.tables e below (T11.setTop (mkF m 30 #[.val (.ref ra), .val (.ref rb), .val (.ref rb)] [(.ref rb), (.int (0 : Int32))])) t → Steps p.tables e below (s₁.setTop (entryFrame m #[(.ref ra), (.ref rb)] 3)) t := by
    intro t k
    refine pre12 t ?_
    refine XS.aloadN X11.here hx rfl (hb hby d11_29) rfl rfl ?_
    show Steps p.tables e below (T11.setTop (mkF m 30 #[.val (.ref ra), .val (.ref rb), .val (.ref rb)] [(.ref rb), (.int (0 : Int32))])) _
    exact k
  obtain ⟨T14, X14, e14, st14⟩ := getF X11 hx hZ hown (host := "") (Or.inl (hw _ (List.mem_of_getElem? (i := 25) rfl))) Via.refl e11 FCb (g := (mkF m 30 #[.val (.ref ra), .val (.ref rb), .val (.ref rb)] [(.ref rb), (.int (0 : Int32))])) rfl rfl (hb hby d11_30)
  have pre15 : ∀ t, Steps p.tables e below (T14.setTop (mkF m 33 #[.val (.ref ra), .val (.ref rb), .val (.ref rb)] [(.int (0 : Int32)), (.int (0 : Int32))])) t → Steps p.tables e below (s₁.setTop (entryFrame m #[(.ref ra), (.ref rb)] 3)) t := fun t k => pre13 t (st14 t k)
  have pre16 : ∀ t, Steps p.tables e below (T14.setTop (mkF m 37 #[.val (.ref ra), .val (.ref rb), .val (.ref rb)] [(.ref ra)])) t → Steps p.tables e below (s₁.setTop (entryFrame m #[(.ref ra), (.ref rb)] 3)) t := by
    intro t k
    refine pre15 t ?_
    refine XS.icmpNo X14.here hx rfl (hb hby d11_33) rfl (teq (show (0 : Int32) = (0 : Int32) from rfl)).2 ?_
    show Steps p.tables e below (T14.setTop (mkF m 36 #[.val (.ref ra), .val (.ref rb), .val (.ref rb)] [])) _
    refine XS.aloadN X14.here hx rfl (hb hby d11_36) rfl rfl ?_
    show Steps p.tables e below (T14.setTop (mkF m 37 #[.val (.ref ra), .val (.ref rb), .val (.ref rb)] [(.ref ra)])) _
    exact k
  obtain ⟨T17, X17, e17, st17⟩ := getF X14 hx hZ hown (host := "") (Or.inl (hw _ (List.mem_of_getElem? (i := 24) rfl))) Via.refl e14 FVa (g := (mkF m 37 #[.val (.ref ra), .val (.ref rb), .val (.ref rb)] [(.ref ra)])) rfl rfl (hb hby d11_37)
  have pre18 : ∀ t, Steps p.tables e below (T17.setTop (mkF m 40 #[.val (.ref ra), .val (.ref rb), .val (.ref rb)] [(.ref ya)])) t → Steps p.tables e below (s₁.setTop (entryFrame m #[(.ref ra), (.ref rb)] 3)) t := fun t k => pre16 t (st17 t k)
  have pre19 : ∀ t, Steps p.tables e below (T17.setTop (mkF m 41 #[.val (.ref ra), .val (.ref rb), .val (.ref rb)] [(.ref rb), (.ref ya)])) t → Steps p.tables e below (s₁.setTop (entryFrame m #[(.ref ra), (.ref rb)] 3)) t := by
    intro t k
    refine pre18 t ?_
    refine XS.aloadN X17.here hx rfl (hb hby d11_40) rfl rfl ?_
    show Steps p.tables e below (T17.setTop (mkF m 41 #[.val (.ref ra), .val (.ref rb), .val (.ref rb)] [(.ref rb), (.ref ya)])) _
    exact k
  obtain ⟨T20, X20, e20, st20⟩ := getF X17 hx hZ hown (host := "") (Or.inl (hw _ (List.mem_of_getElem? (i := 24) rfl))) Via.refl e17 FVb (g := (mkF m 41 #[.val (.ref ra), .val (.ref rb), .val (.ref rb)] [(.ref rb), (.ref ya)])) rfl rfl (hb hby d11_41)
  have pre21 : ∀ t, Steps p.tables e below (T20.setTop (mkF m 44 #[.val (.ref ra), .val (.ref rb), .val (.ref rb)] [(.ref yb), (.ref ya)])) t → Steps p.tables e below (s₁.setTop (entryFrame m #[(.ref ra), (.ref rb)] 3)) t := fun t k => pre19 t (st20 t k)
  obtain ⟨_, _, ⟨T22, L22, k22, n22⟩, -, X22, ⟨Lc22, hQ22, l22, y22, z22⟩, st22⟩ := Jvm.LawKit.callS X20 hx (y := (⟨"java/lang/StringLatin1", "equals", "([B[B)Z"⟩ : MethodName)) hown (mvT hZ (hw _ (List.mem_of_getElem? (i := 89) rfl))) (mvT hZ (hw _ (List.mem_of_getElem? (i := 90) rfl))) (mvT hZ (hw _ (List.mem_of_getElem? (i := 91) rfl))) (mvT hZ (hw _ (List.mem_of_getElem? (i := 92) rfl))) (by decide) (backOf (W := 0) (rm_leq l Z a0 hw [] ya yb ka kb xn xm l1 l2 h0 n0 Z0 VA VB0 (hmx)) hZ (hw _ (List.mem_of_getElem? (i := 92) rfl)) (hw _ (List.mem_of_getElem? (i := 91) rfl)) (by decide) (by decide)) (g := (mkF m 44 #[.val (.ref ra), .val (.ref rb), .val (.ref rb)] [(.ref yb), (.ref ya)])) rfl (by rw [hml]; rfl) (argsL := [(.ref ya), (.ref yb)]) (rest := []) (lenOf pd7 rfl) rfl (by show 2 * 0 + _ ≤ _; exact Nat.le_of_eq rfl) (hb hby d11_44) (fun _ _ => ⟨rfl, e20, (by decide : 0 + 0 ≤ _), (by decide : 0 + 0 ≤ _)⟩)
  dsimp only [Pt.U, Pt.locs, Pt.cells, Pt.slots] at X22 l22 y22 z22 st22 hQ22
  subst y22 z22
  obtain ⟨rfl, M22, e22⟩ := hQ22
  have N22 : Fr n0 L22 := by rw [l22]; exact Fr.app N0 M22
  clear l22
  have X22 : Stand p l e _ _ m _ below meth c T22 _ 0 0 := X22
  have pre23 : ∀ t, Steps p.tables e below (T22.setTop (mkF m 47 #[.val (.ref ra), .val (.ref rb), .val (.ref rb)] [(.int (F_rm_leq xn xm l1 l2))])) t → Steps p.tables e below (s₁.setTop (entryFrame m #[(.ref ra), (.ref rb)] 3)) t := fun t k => pre21 t (st22 t k)
  by_cases hc47 : (F_rm_leq xn xm l1 l2) = (0 : Int32)
  · have pre24 : ∀ t, Steps p.tables e below (T22.setTop (mkF m 55 #[.val (.ref ra), .val (.ref rb), .val (.ref rb)] [(.int (0 : Int32))])) t → Steps p.tables e below (s₁.setTop (entryFrame m #[(.ref ra), (.ref rb)] 3)) t := by
      intro t k
      refine pre23 t ?_
      refine XS.ifYes X22.here hx rfl (pc0 := 47) (pc' := 54) rfl (hb hby d11_47) rfl ((if0 _ _).trans (teq hc47).1) (by decide) (by decide) ?_
      show Steps p.tables e below (T22.setTop (mkF m 54 #[.val (.ref ra), .val (.ref rb), .val (.ref rb)] [])) _
      refine XS.iconst X22.here hx rfl (hb hby d11_54) ?_
      show Steps p.tables e below (T22.setTop (mkF m 55 #[.val (.ref ra), .val (.ref rb), .val (.ref rb)] [(.int (0 : Int32))])) _
      exact k
    obtain ⟨fs, hr, hrun, hended, hW, hsame⟩ := X22.leave (v := some (.int (0 : Int32))) (fun h => by rw [Bd.returns] at h; cases h)
    refine ⟨_, _, pre24 _ ?_, hrun, hended, _, _, rfl, ?_, ⟨_, rfl⟩, hW, hsame.mono (by decide) (by decide)⟩
    · exact retN X22 hx (t := .boolean) Bd.returns (by simp) (hb hby d11_55) hr
    · show Q_rm_seq Z ra rb xcs ya yb ka kb xn xm l1 l2 h0 n0 _ T22.heap _
      rw [e22]
      exact ⟨congrArg (fun z => some (Value.int z)) (show (0 : Int32) = (F_rm_seq xcs xn xm l1 l2) from by rw [F_rm_seq, if_pos hc47]), N22, rfl⟩
  · have pre25 : ∀ t, Steps p.tables e below (T22.setTop (mkF m 55 #[.val (.ref ra), .val (.ref rb), .val (.ref rb)] [(.int (1 : Int32))])) t → Steps p.tables e below (s₁.setTop (entryFrame m #[(.ref ra), (.ref rb)] 3)) t := by
      intro t k
      refine pre23 t ?_
      refine XS.ifNo X22.here hx rfl (hb hby d11_47) rfl ((if0 _ _).trans (feq hc47).1) ?_
      show Steps p.tables e below (T22.setTop (mkF m 50 #[.val (.ref ra), .val (.ref rb), .val (.ref rb)] [])) _
      refine XS.iconst X22.here hx rfl (hb hby d11_50) ?_
      show Steps p.tables e below (T22.setTop (mkF m 51 #[.val (.ref ra), .val (.ref rb), .val (.ref rb)] [(.int (1 : Int32))])) _
      refine XS.goto X22.here hx rfl (pc0 := 51) (pc' := 55) rfl (hb hby d11_51) (by decide) (by decide) ?_
      show Steps p.tables e below (T22.setTop (mkF m 55 #[.val (.ref ra), .val (.ref rb), .val (.ref rb)] [(.int (1 : Int32))])) _
      exact k
    obtain ⟨fs, hr, hrun, hended, hW, hsame⟩ := X22.leave (v := some (.int (1 : Int32))) (fun h => by rw [Bd.returns] at h; cases h)
    refine ⟨_, _, pre25 _ ?_, hrun, hended, _, _, rfl, ?_, ⟨_, rfl⟩, hW, hsame.mono (by decide) (by decide)⟩
    · exact retN X22 hx (t := .boolean) Bd.returns (by simp) (hb hby d11_55) hr
    · show Q_rm_seq Z ra rb xcs ya yb ka kb xn xm l1 l2 h0 n0 _ T22.heap _
      rw [e22]
      exact ⟨congrArg (fun z => some (Value.int z)) (show (1 : Int32) = (F_rm_seq xcs xn xm l1 l2) from by rw [F_rm_seq, if_neg hc47]), N22, rfl⟩
theorem d10_0 : decode prog_60_method_5_code 0 = .ok (.aload_n 0, 1) := by decide +kernel
theorem d10_1 : decode prog_60_method_5_code 1 = .ok (.getfield 22, 3) := by decide +kernel
theorem d10_4 : decode prog_60_method_5_code 4 = .ok (.aload_n 1, 1) := by decide +kernel
theorem d10_5 : decode prog_60_method_5_code 5 = .ok (.invokevirtual 66, 3) := by decide +kernel
theorem pd8 : parseMethodDescriptor "(Ljava/lang/Object;)Z" = some ⟨[(.object "java/lang/Object")], some .boolean⟩ := by decide +kernel
theorem d10_8 : decode prog_60_method_5_code 8 = .ok (.ifCond .eq 18, 3) := by decide +kernel
theorem d10_26 : decode prog_60_method_5_code 26 = .ok (.iconst 0, 1) := by decide +kernel
theorem d10_27 : decode prog_60_method_5_code 27 = .ok (.ireturn, 1) := by decide +kernel
theorem d10_11 : decode prog_60_method_5_code 11 = .ok (.aload_n 0, 1) := by decide +kernel
theorem d10_12 : decode prog_60_method_5_code 12 = .ok (.getfield 25, 3) := by decide +kernel
theorem d10_15 : decode prog_60_method_5_code 15 = .ok (.aload_n 2, 1) := by decide +kernel
theorem d10_16 : decode prog_60_method_5_code 16 = .ok (.invokevirtual 66, 3) := by decide +kernel
theorem d10_19 : decode prog_60_method_5_code 19 = .ok (.ifCond .eq 7, 3) := by decide +kernel
theorem d10_22 : decode prog_60_method_5_code 22 = .ok (.iconst 1, 1) := by decide +kernel
theorem d10_23 : decode prog_60_method_5_code 23 = .ok (.goto 4, 3) := by decide +kernel
theorem pn3 : plainName "com/example/feuillet/feuillet/input/Element" = true := by first | (simp [plainName, overriddenIn]; done) | decide +kernel
def F_rm_is (xcs : Int32) (xns : Int32) (xms : Int32) (l1s : List Int32) (l2s : List Int32) (xnn : Int32) (xmn : Int32) (l1n : List Int32) (l2n : List Int32) : Int32 := (if (F_rm_seq xcs xns xms l1s l2s) = (0 : Int32) then (0 : Int32) else (if (F_rm_seq xcs xnn xmn l1n l2n) = (0 : Int32) then (0 : Int32) else (1 : Int32)))
theorem ef_rm_is (m : MethodId) (re : Addr) (rbs : Addr) (rbn : Addr) : entryFrame m #[(.ref re), (.ref rbs), (.ref rbn)] 3 = mkF m 0 #[.val (.ref re), .val (.ref rbs), .val (.ref rbn)] [] := by first | (simp [entryFrame, mkF, argsToLocals, Value.category]; done) | rfl
def Q_rm_is (Z : State) (re : Addr) (rbs : Addr) (rbn : Addr) (xcs : Int32) (ras : Addr) (yas : Addr) (ybs : Addr) (kas : ClassId) (kbs : ClassId) (xns : Int32) (xms : Int32) (l1s : List Int32) (l2s : List Int32) (ran : Addr) (yan : Addr) (ybn : Addr) (kan : ClassId) (kbn : ClassId) (xnn : Int32) (xmn : Int32) (l1n : List Int32) (l2n : List Int32) (h0 : Heap) (n0 : Nat) (v : Option Value) (h : Heap) (L : List Loc) : Prop := v = some (.int (F_rm_is xcs xns xms l1s l2s xnn xmn l1n l2n)) ∧ Fr n0 L ∧ h = h0
set_option maxRecDepth 65536 in
set_option maxHeartbeats 40000000 in
theorem rm_is (l : Launch) (Z : State) (a0 : Array Value) (hw : ∀ d ∈ tables_1, d.before a0 Z = true) (ws : List Jvm.Cond) (re : Addr) (rbs : Addr) (rbn : Addr) (xcs : Int32) (ras : Addr) (yas : Addr) (ybs : Addr) (kas : ClassId) (kbs : ClassId) (xns : Int32) (xms : Int32) (l1s : List Int32) (l2s : List Int32) (ran : Addr) (yan : Addr) (ybn : Addr) (kan : ClassId) (kbn : ClassId) (xnn : Int32) (xmn : Int32) (l1n : List Int32) (l2n : List Int32) (h0 : Heap) (n0 : Nat) (Z0 : n0 ≤ h0.size) (SC : Sta Z h0 "java/lang/String" "COMPACT_STRINGS" "Z" (.int xcs)) (FNS : Fld Z h0 re "com/example/feuillet/feuillet/input/Element" "namespace" "Ljava/lang/String;" (.ref ras)) (FNN : Fld Z h0 re "com/example/feuillet/feuillet/input/Element" "name" "Ljava/lang/String;" (.ref ran)) (FVas : Fld Z h0 ras "java/lang/String" "value" "[B" (.ref yas)) (FCas : Fld Z h0 ras "java/lang/String" "coder" "B" (.int (0 : Int32))) (FVbs : Fld Z h0 rbs "java/lang/String" "value" "[B" (.ref ybs)) (FCbs : Fld Z h0 rbs "java/lang/String" "coder" "B" (.int (0 : Int32))) (VAs : Arv Z h0 yas kas .byte xns (l1s.map Value.int) (.int (0 : Int32))) (VBs : Arv Z h0 ybs kbs .byte xms (l2s.map Value.int) (.int (0 : Int32))) (Eas : Exa Z h0 ras "java/lang/String") (Ebs : Exa Z h0 rbs "java/lang/String") (hneras : ¬ (ras = rbs)) (hmxras : ¬ ((2 : Int32) < xns)) (FVan : Fld Z h0 ran "java/lang/String" "value" "[B" (.ref yan)) (FCan : Fld Z h0 ran "java/lang/String" "coder" "B" (.int (0 : Int32))) (FVbn : Fld Z h0 rbn "java/lang/String" "value" "[B" (.ref ybn)) (FCbn : Fld Z h0 rbn "java/lang/String" "coder" "B" (.int (0 : Int32))) (VAn : Arv Z h0 yan kan .byte xnn (l1n.map Value.int) (.int (0 : Int32))) (VBn : Arv Z h0 ybn kbn .byte xmn (l2n.map Value.int) (.int (0 : Int32))) (Ean : Exa Z h0 ran "java/lang/String") (Ebn : Exa Z h0 rbn "java/lang/String") (hneran : ¬ (ran = rbn)) (hmxran : ¬ ((2 : Int32) < xnn)) (hcs : ¬ (xcs = (0 : Int32))) :
    MetFree l (⟨"com/example/feuillet/feuillet/input/Element", "is", "(Ljava/lang/String;Ljava/lang/String;)Z"⟩ : MethodName) (head1 (Jvm.Cond.code (⟨"com/example/feuillet/feuillet/input/Element", "is", "(Ljava/lang/String;Ljava/lang/String;)Z"⟩ : MethodName) prog_60_method_5_code 3 (some .boolean) :: ws) ({ frames := 2, cells := 0, slots := 0, locals := 28 } : Room)) (fun a U => a = #[(.ref re), (.ref rbs), (.ref rbn)] ∧ Z.Warmed39 U.vm ∧ U.heap = h0) (fun _ _ _ _ _ => True) (fun _ U o U' => ∃ v L, o = .returned v ∧ Q_rm_is Z re rbs rbn xcs ras yas ybs kas kbs xns xms l1s l2s ran yan ybn kan kbn xnn xmn l1n l2n h0 n0 v U'.heap L ∧ FrameEnd U o U' L ({ frames := 2, cells := 0, slots := 0, locals := 28 } : Room).cells ({ frames := 2, cells := 0, slots := 0, locals := 28 } : Room).slots) := by
  refine MetFree.of_bodySF (plainFor_of_name pn3) hisR ?_
  intro p e s m args below meth c s₁ Bd hml0 hP hK
  obtain ⟨rfl, hZ, hh⟩ := hP
  have hx := Bd.exec
  have hby := Bd.bytes
  have hml : c.maxLocals = 3 := hml0
  have hown : s.vm.findClass "com/example/feuillet/feuillet/input/Element" = some m.cls := findClass_of_methodNamed Bd.named
  have hnm := (name_of_methodNamed Bd.named Bd.method).1
  have X0 : Stand p l e ({ frames := 2, cells := 0, slots := 0, locals := 28 } : Room) s m #[(.ref re), (.ref rbs), (.ref rbn)] below meth c s₁ [] 0 0 := Stand.of_body Bd
  have e0 : s₁.heap = h0 := by rw [← hh, Bd.state]; rfl
  have N0 := Fr.nil n0
  have pre0 : ∀ t, Steps p.tables e below (s₁.setTop (mkF m 0 #[.val (.ref re), .val (.ref rbs), .val (.ref rbn)] [])) t → Steps p.tables e below (s₁.setTop (entryFrame m #[(.ref re), (.ref rbs), (.ref rbn)] 3)) t := fun t k => castTop (ef_rm_is m re rbs rbn) k
  have pre1 : ∀ t, Steps p.tables e below (s₁.setTop (mkF m 1 #[.val (.ref re), .val (.ref rbs), .val (.ref rbn)] [(.ref re)])) t → Steps p.tables e below (s₁.setTop (entryFrame m #[(.ref re), (.ref rbs), (.ref rbn)] 3)) t := by
    intro t k
    refine pre0 t ?_
    refine XS.aloadN X0.here hx rfl (hb hby d10_0) rfl rfl ?_
    show Steps p.tables e below (s₁.setTop (mkF m 1 #[.val (.ref re), .val (.ref rbs), .val (.ref rbn)] [(.ref re)])) _
    exact k
  obtain ⟨T2, X2, e2, st2⟩ := getF X0 hx hZ hown (host := "") (Or.inl (hw _ (List.mem_of_getElem? (i := 62) rfl))) Via.refl e0 FNS (g := (mkF m 1 #[.val (.ref re), .val (.ref rbs), .val (.ref rbn)] [(.ref re)])) rfl rfl (hb hby d10_1)
  have pre3 : ∀ t, Steps p.tables e below (T2.setTop (mkF m 4 #[.val (.ref re), .val (.ref rbs), .val (.ref rbn)] [(.ref ras)])) t → Steps p.tables e below (s₁.setTop (entryFrame m #[(.ref re), (.ref rbs), (.ref rbn)] 3)) t := fun t k => pre1 t (st2 t k)
  have pre4 : ∀ t, Steps p.tables e below (T2.setTop (mkF m 5 #[.val (.ref re), .val (.ref rbs), .val (.ref rbn)] [(.ref rbs), (.ref ras)])) t → Steps p.tables e below (s₁.setTop (entryFrame m #[(.ref re), (.ref rbs), (.ref rbn)] 3)) t := by
    intro t k
    refine pre3 t ?_
    refine XS.aloadN X2.here hx rfl (hb hby d10_4) rfl rfl ?_
    show Steps p.tables e below (T2.setTop (mkF m 5 #[.val (.ref re), .val (.ref rbs), .val (.ref rbn)] [(.ref rbs), (.ref ras)])) _
    exact k
  obtain ⟨cq5, kq5, q5a, q5b, q5c⟩ := isOf hZ e2 Eas
  obtain ⟨_, _, ⟨T5, L5, k5, n5⟩, -, X5, ⟨Lc5, hQ5, l5, y5, z5⟩, st5⟩ := X2.virtualBack hx (y := (⟨"java/lang/String", "equals", "(Ljava/lang/Object;)Z"⟩ : MethodName)) (z := (⟨"java/lang/String", "equals", "(Ljava/lang/Object;)Z"⟩ : MethodName)) hown (mvT hZ (hw _ (List.mem_of_getElem? (i := 82) rfl))) (mvT hZ (hw _ (List.mem_of_getElem? (i := 83) rfl))) (notFace_of_selects (args := #[]) (mvT hZ (hw _ (List.mem_of_getElem? (i := 85) rfl)))) (mvT hZ (hw _ (List.mem_of_getElem? (i := 85) rfl))) (mvT hZ (hw _ (List.mem_of_getElem? (i := 84) rfl))) (by decide) (backOf (W := 0) (rm_seq l Z a0 hw [] ras rbs xcs yas ybs kas kbs xns xms l1s l2s h0 n0 Z0 SC FVas FCas FVbs FCbs VAs VBs Ebs (hcs) (hneras) (hmxras)) hZ (hw _ (List.mem_of_getElem? (i := 86) rfl)) (hw _ (List.mem_of_getElem? (i := 6) rfl)) (by decide) (by decide)) q5a q5c (g := (mkF m 5 #[.val (.ref re), .val (.ref rbs), .val (.ref rbn)] [(.ref rbs), (.ref ras)])) rfl (by rw [hml]; rfl) (Steps.refl _) (argsL := [(.ref rbs)]) (rest := []) (lenOf pd8 rfl) rfl (by show 2 * 0 + _ ≤ _; exact Nat.le_of_eq rfl) (hb hby d10_5) (fun _ _ => ⟨rfl, e2, (by decide : 0 + 0 ≤ _), (by decide : 0 + 0 ≤ _)⟩)
  dsimp only [Pt.U, Pt.locs, Pt.cells, Pt.slots] at X5 l5 y5 z5 st5 hQ5
  subst y5 z5
  obtain ⟨rfl, M5, e5⟩ := hQ5
  have N5 : Fr n0 L5 := by rw [l5]; exact Fr.app N0 M5
  clear l5
  have X5 : Stand p l e _ _ m _ below meth c T5 _ 0 0 := X5
  have pre6 : ∀ t, Steps p.tables e below (T5.setTop (mkF m 8 #[.val (.ref re), .val (.ref rbs), .val (.ref rbn)] [(.int (F_rm_seq xcs xns xms l1s l2s))])) t → Steps p.tables e below (s₁.setTop (entryFrame m #[(.ref re), (.ref rbs), (.ref rbn)] 3)) t := fun t k => pre4 t (st5.trans k)
  by_cases hc8 : (F_rm_seq xcs xns xms l1s l2s) = (0 : Int32)
  · have pre7 : ∀ t, Steps p.tables e below (T5.setTop (mkF m 27 #[.val (.ref re), .val (.ref rbs), .val (.ref rbn)] [(.int (0 : Int32))])) t → Steps p.tables e below (s₁.setTop (entryFrame m #[(.ref re), (.ref rbs), (.ref rbn)] 3)) t := by
      intro t k
      refine pre6 t ?_
      refine XS.ifYes X5.here hx rfl (pc0 := 8) (pc' := 26) rfl (hb hby d10_8) rfl ((if0 _ _).trans (teq hc8).1) (by decide) (by decide) ?_
      show Steps p.tables e below (T5.setTop (mkF m 26 #[.val (.ref re), .val (.ref rbs), .val (.ref rbn)] [])) _
      refine XS.iconst X5.here hx rfl (hb hby d10_26) ?_
      show Steps p.tables e below (T5.setTop (mkF m 27 #[.val (.ref re), .val (.ref rbs), .val (.ref rbn)] [(.int (0 : Int32))])) _
      exact k
    obtain ⟨fs, hr, hrun, hended, hW, hsame⟩ := X5.leave (v := some (.int (0 : Int32))) (fun h => by rw [Bd.returns] at h; cases h)
    refine ⟨_, _, pre7 _ ?_, hrun, hended, _, _, rfl, ?_, ⟨_, rfl⟩, hW, hsame.mono (by decide) (by decide)⟩
    · exact retN X5 hx (t := .boolean) Bd.returns (by simp) (hb hby d10_27) hr
    · show Q_rm_is Z re rbs rbn xcs ras yas ybs kas kbs xns xms l1s l2s ran yan ybn kan kbn xnn xmn l1n l2n h0 n0 _ T5.heap _
      rw [e5]
      exact ⟨congrArg (fun z => some (Value.int z)) (show (0 : Int32) = (F_rm_is xcs xns xms l1s l2s xnn xmn l1n l2n) from by rw [F_rm_is, if_pos hc8]), N5, rfl⟩
  · have pre8 : ∀ t, Steps p.tables e below (T5.setTop (mkF m 12 #[.val (.ref re), .val (.ref rbs), .val (.ref rbn)] [(.ref re)])) t → Steps p.tables e below (s₁.setTop (entryFrame m #[(.ref re), (.ref rbs), (.ref rbn)] 3)) t := by
      intro t k
      refine pre6 t ?_
      refine XS.ifNo X5.here hx rfl (hb hby d10_8) rfl ((if0 _ _).trans (feq hc8).1) ?_
      show Steps p.tables e below (T5.setTop (mkF m 11 #[.val (.ref re), .val (.ref rbs), .val (.ref rbn)] [])) _
      refine XS.aloadN X5.here hx rfl (hb hby d10_11) rfl rfl ?_
      show Steps p.tables e below (T5.setTop (mkF m 12 #[.val (.ref re), .val (.ref rbs), .val (.ref rbn)] [(.ref re)])) _
      exact k
    obtain ⟨T9, X9, e9, st9⟩ := getF X5 hx hZ hown (host := "") (Or.inl (hw _ (List.mem_of_getElem? (i := 64) rfl))) Via.refl e5 FNN (g := (mkF m 12 #[.val (.ref re), .val (.ref rbs), .val (.ref rbn)] [(.ref re)])) rfl rfl (hb hby d10_12)
    have pre10 : ∀ t, Steps p.tables e below (T9.setTop (mkF m 15 #[.val (.ref re), .val (.ref rbs), .val (.ref rbn)] [(.ref ran)])) t → Steps p.tables e below (s₁.setTop (entryFrame m #[(.ref re), (.ref rbs), (.ref rbn)] 3)) t := fun t k => pre8 t (st9 t k)
    have pre11 : ∀ t, Steps p.tables e below (T9.setTop (mkF m 16 #[.val (.ref re), .val (.ref rbs), .val (.ref rbn)] [(.ref rbn), (.ref ran)])) t → Steps p.tables e below (s₁.setTop (entryFrame m #[(.ref re), (.ref rbs), (.ref rbn)] 3)) t := by
      intro t k
      refine pre10 t ?_
      refine XS.aloadN X9.here hx rfl (hb hby d10_15) rfl rfl ?_
      show Steps p.tables e below (T9.setTop (mkF m 16 #[.val (.ref re), .val (.ref rbs), .val (.ref rbn)] [(.ref rbn), (.ref ran)])) _
      exact k
    obtain ⟨cq12, kq12, q12a, q12b, q12c⟩ := isOf hZ e9 Ean
    obtain ⟨_, _, ⟨T12, L12, k12, n12⟩, -, X12, ⟨Lc12, hQ12, l12, y12, z12⟩, st12⟩ := X9.virtualBack hx (y := (⟨"java/lang/String", "equals", "(Ljava/lang/Object;)Z"⟩ : MethodName)) (z := (⟨"java/lang/String", "equals", "(Ljava/lang/Object;)Z"⟩ : MethodName)) hown (mvT hZ (hw _ (List.mem_of_getElem? (i := 82) rfl))) (mvT hZ (hw _ (List.mem_of_getElem? (i := 83) rfl))) (notFace_of_selects (args := #[]) (mvT hZ (hw _ (List.mem_of_getElem? (i := 85) rfl)))) (mvT hZ (hw _ (List.mem_of_getElem? (i := 85) rfl))) (mvT hZ (hw _ (List.mem_of_getElem? (i := 84) rfl))) (by decide) (backOf (W := 0) (rm_seq l Z a0 hw [] ran rbn xcs yan ybn kan kbn xnn xmn l1n l2n h0 n0 Z0 SC FVan FCan FVbn FCbn VAn VBn Ebn (hcs) (hneran) (hmxran)) hZ (hw _ (List.mem_of_getElem? (i := 86) rfl)) (hw _ (List.mem_of_getElem? (i := 6) rfl)) (by decide) (by decide)) q12a q12c (g := (mkF m 16 #[.val (.ref re), .val (.ref rbs), .val (.ref rbn)] [(.ref rbn), (.ref ran)])) rfl (by rw [hml]; rfl) (Steps.refl _) (argsL := [(.ref rbn)]) (rest := []) (lenOf pd8 rfl) rfl (by show 2 * 0 + _ ≤ _; exact Nat.le_of_eq rfl) (hb hby d10_16) (fun _ _ => ⟨rfl, e9, (by decide : 0 + 0 ≤ _), (by decide : 0 + 0 ≤ _)⟩)
    dsimp only [Pt.U, Pt.locs, Pt.cells, Pt.slots] at X12 l12 y12 z12 st12 hQ12
    subst y12 z12
    obtain ⟨rfl, M12, e12⟩ := hQ12
    have N12 : Fr n0 L12 := by rw [l12]; exact Fr.app N5 M12
    clear l12
    have X12 : Stand p l e _ _ m _ below meth c T12 _ 0 0 := X12
    have pre13 : ∀ t, Steps p.tables e below (T12.setTop (mkF m 19 #[.val (.ref re), .val (.ref rbs), .val (.ref rbn)] [(.int (F_rm_seq xcs xnn xmn l1n l2n))])) t → Steps p.tables e below (s₁.setTop (entryFrame m #[(.ref re), (.ref rbs), (.ref rbn)] 3)) t := fun t k => pre11 t (st12.trans k)
    by_cases hc19 : (F_rm_seq xcs xnn xmn l1n l2n) = (0 : Int32)
    · have pre14 : ∀ t, Steps p.tables e below (T12.setTop (mkF m 27 #[.val (.ref re), .val (.ref rbs), .val (.ref rbn)] [(.int (0 : Int32))])) t → Steps p.tables e below (s₁.setTop (entryFrame m #[(.ref re), (.ref rbs), (.ref rbn)] 3)) t := by
        intro t k
        refine pre13 t ?_
        refine XS.ifYes X12.here hx rfl (pc0 := 19) (pc' := 26) rfl (hb hby d10_19) rfl ((if0 _ _).trans (teq hc19).1) (by decide) (by decide) ?_
        show Steps p.tables e below (T12.setTop (mkF m 26 #[.val (.ref re), .val (.ref rbs), .val (.ref rbn)] [])) _
        refine XS.iconst X12.here hx rfl (hb hby d10_26) ?_
        show Steps p.tables e below (T12.setTop (mkF m 27 #[.val (.ref re), .val (.ref rbs), .val (.ref rbn)] [(.int (0 : Int32))])) _
        exact k
      obtain ⟨fs, hr, hrun, hended, hW, hsame⟩ := X12.leave (v := some (.int (0 : Int32))) (fun h => by rw [Bd.returns] at h; cases h)
      refine ⟨_, _, pre14 _ ?_, hrun, hended, _, _, rfl, ?_, ⟨_, rfl⟩, hW, hsame.mono (by decide) (by decide)⟩
      · exact retN X12 hx (t := .boolean) Bd.returns (by simp) (hb hby d10_27) hr
      · show Q_rm_is Z re rbs rbn xcs ras yas ybs kas kbs xns xms l1s l2s ran yan ybn kan kbn xnn xmn l1n l2n h0 n0 _ T12.heap _
        rw [e12]
        exact ⟨congrArg (fun z => some (Value.int z)) (show (0 : Int32) = (F_rm_is xcs xns xms l1s l2s xnn xmn l1n l2n) from by rw [F_rm_is, if_neg hc8, if_pos hc19]), N12, rfl⟩
    · have pre15 : ∀ t, Steps p.tables e below (T12.setTop (mkF m 27 #[.val (.ref re), .val (.ref rbs), .val (.ref rbn)] [(.int (1 : Int32))])) t → Steps p.tables e below (s₁.setTop (entryFrame m #[(.ref re), (.ref rbs), (.ref rbn)] 3)) t := by
        intro t k
        refine pre13 t ?_
        refine XS.ifNo X12.here hx rfl (hb hby d10_19) rfl ((if0 _ _).trans (feq hc19).1) ?_
        show Steps p.tables e below (T12.setTop (mkF m 22 #[.val (.ref re), .val (.ref rbs), .val (.ref rbn)] [])) _
        refine XS.iconst X12.here hx rfl (hb hby d10_22) ?_
        show Steps p.tables e below (T12.setTop (mkF m 23 #[.val (.ref re), .val (.ref rbs), .val (.ref rbn)] [(.int (1 : Int32))])) _
        refine XS.goto X12.here hx rfl (pc0 := 23) (pc' := 27) rfl (hb hby d10_23) (by decide) (by decide) ?_
        show Steps p.tables e below (T12.setTop (mkF m 27 #[.val (.ref re), .val (.ref rbs), .val (.ref rbn)] [(.int (1 : Int32))])) _
        exact k
      obtain ⟨fs, hr, hrun, hended, hW, hsame⟩ := X12.leave (v := some (.int (1 : Int32))) (fun h => by rw [Bd.returns] at h; cases h)
      refine ⟨_, _, pre15 _ ?_, hrun, hended, _, _, rfl, ?_, ⟨_, rfl⟩, hW, hsame.mono (by decide) (by decide)⟩
      · exact retN X12 hx (t := .boolean) Bd.returns (by simp) (hb hby d10_27) hr
      · show Q_rm_is Z re rbs rbn xcs ras yas ybs kas kbs xns xms l1s l2s ran yan ybn kan kbn xnn xmn l1n l2n h0 n0 _ T12.heap _
        rw [e12]
        exact ⟨congrArg (fun z => some (Value.int z)) (show (1 : Int32) = (F_rm_is xcs xns xms l1s l2s xnn xmn l1n l2n) from by rw [F_rm_is, if_neg hc8, if_neg hc19]), N12, rfl⟩
theorem d9_0 : decode method_3_code 0 = .ok (.iload_n 0, 1) := by decide +kernel
theorem d9_1 : decode method_3_code 1 = .ok (.iload_n 3, 1) := by decide +kernel
theorem d9_2 : decode method_3_code 2 = .ok (.if_icmp .eq 5, 3) := by decide +kernel
theorem d9_7 : decode method_3_code 7 = .ok (.iload_n 0, 1) := by decide +kernel
theorem d9_8 : decode method_3_code 8 = .ok (.iconst 1, 1) := by decide +kernel
theorem d9_9 : decode method_3_code 9 = .ok (.if_icmp .lt 11, 3) := by decide +kernel
theorem d9_20 : decode method_3_code 20 = .ok (.iload_n 0, 1) := by decide +kernel
theorem d9_21 : decode method_3_code 21 = .ok (.iconst 2, 1) := by decide +kernel
theorem d9_22 : decode method_3_code 22 = .ok (.if_icmp .lt 11, 3) := by decide +kernel
theorem d9_33 : decode method_3_code 33 = .ok (.iconst 1, 1) := by decide +kernel
theorem d9_34 : decode method_3_code 34 = .ok (.ireturn, 1) := by decide +kernel
theorem d9_25 : decode method_3_code 25 = .ok (.iload_n 2, 1) := by decide +kernel
theorem d9_26 : decode method_3_code 26 = .ok (.iload 5, 2) := by decide +kernel
theorem d9_28 : decode method_3_code 28 = .ok (.if_icmp .eq 5, 3) := by decide +kernel
theorem d9_31 : decode method_3_code 31 = .ok (.iconst 0, 1) := by decide +kernel
theorem d9_32 : decode method_3_code 32 = .ok (.ireturn, 1) := by decide +kernel
theorem d9_12 : decode method_3_code 12 = .ok (.iload_n 1, 1) := by decide +kernel
theorem d9_13 : decode method_3_code 13 = .ok (.iload 4, 2) := by decide +kernel
theorem d9_15 : decode method_3_code 15 = .ok (.if_icmp .eq 5, 3) := by decide +kernel
theorem d9_18 : decode method_3_code 18 = .ok (.iconst 0, 1) := by decide +kernel
theorem d9_19 : decode method_3_code 19 = .ok (.ireturn, 1) := by decide +kernel
theorem d9_5 : decode method_3_code 5 = .ok (.iconst 0, 1) := by decide +kernel
theorem d9_6 : decode method_3_code 6 = .ok (.ireturn, 1) := by decide +kernel
theorem pn4 : plainName "com/example/feuillet/feuillet/input/ElementIsPinLaw" = true := by first | (simp [plainName, overriddenIn]; done) | decide +kernel
def F_rm_same (xla : Int32) (xa0 : Int32) (xa1 : Int32) (xlb : Int32) (xb0 : Int32) (xb1 : Int32) : Int32 := (if xla = xlb then (if xla < (1 : Int32) then (if xla < (2 : Int32) then (1 : Int32) else (if xa1 = xb1 then (1 : Int32) else (0 : Int32))) else (if xa0 = xb0 then (if xla < (2 : Int32) then (1 : Int32) else (if xa1 = xb1 then (1 : Int32) else (0 : Int32))) else (0 : Int32))) else (0 : Int32))
theorem ef_rm_same (m : MethodId) (xla : Int32) (xa0 : Int32) (xa1 : Int32) (xlb : Int32) (xb0 : Int32) (xb1 : Int32) : entryFrame m #[(.int xla), (.int xa0), (.int xa1), (.int xlb), (.int xb0), (.int xb1)] 6 = mkF m 0 #[.val (.int xla), .val (.int xa0), .val (.int xa1), .val (.int xlb), .val (.int xb0), .val (.int xb1)] [] := by first | (simp [entryFrame, mkF, argsToLocals, Value.category]; done) | rfl
def Q_rm_same (Z : State) (xla : Int32) (xa0 : Int32) (xa1 : Int32) (xlb : Int32) (xb0 : Int32) (xb1 : Int32) (h0 : Heap) (n0 : Nat) (v : Option Value) (h : Heap) (L : List Loc) : Prop := v = some (.int (F_rm_same xla xa0 xa1 xlb xb0 xb1)) ∧ Fr n0 L ∧ h = h0
set_option maxRecDepth 65536 in
set_option maxHeartbeats 40000000 in
theorem rm_same (l : Launch) (Z : State) (a0 : Array Value) (hw : ∀ d ∈ tables_1, d.before a0 Z = true) (ws : List Jvm.Cond) (xla : Int32) (xa0 : Int32) (xa1 : Int32) (xlb : Int32) (xb0 : Int32) (xb1 : Int32) (h0 : Heap) (n0 : Nat) (Z0 : n0 ≤ h0.size) :
    MetFree l (⟨"com/example/feuillet/feuillet/input/ElementIsPinLaw", "same", "(ICCICC)Z"⟩ : MethodName) (head1 (Jvm.Cond.code (⟨"com/example/feuillet/feuillet/input/ElementIsPinLaw", "same", "(ICCICC)Z"⟩ : MethodName) method_3_code 6 (some .boolean) :: ws) ({ frames := 0, cells := 0, slots := 0, locals := 0 } : Room)) (fun a U => a = #[(.int xla), (.int xa0), (.int xa1), (.int xlb), (.int xb0), (.int xb1)] ∧ Z.Warmed39 U.vm ∧ U.heap = h0) (fun _ _ _ _ _ => True) (fun _ U o U' => ∃ v L, o = .returned v ∧ Q_rm_same Z xla xa0 xa1 xlb xb0 xb1 h0 n0 v U'.heap L ∧ FrameEnd U o U' L ({ frames := 0, cells := 0, slots := 0, locals := 0 } : Room).cells ({ frames := 0, cells := 0, slots := 0, locals := 0 } : Room).slots) := by
  refine MetFree.of_bodySF (plainFor_of_name pn4) hisR ?_
  intro p e s m args below meth c s₁ Bd hml0 hP hK
  obtain ⟨rfl, hZ, hh⟩ := hP
  have hx := Bd.exec
  have hby := Bd.bytes
  have hml : c.maxLocals = 6 := hml0
  have hown : s.vm.findClass "com/example/feuillet/feuillet/input/ElementIsPinLaw" = some m.cls := findClass_of_methodNamed Bd.named
  have hnm := (name_of_methodNamed Bd.named Bd.method).1
  have X0 : Stand p l e ({ frames := 0, cells := 0, slots := 0, locals := 0 } : Room) s m #[(.int xla), (.int xa0), (.int xa1), (.int xlb), (.int xb0), (.int xb1)] below meth c s₁ [] 0 0 := Stand.of_body Bd
  have e0 : s₁.heap = h0 := by rw [← hh, Bd.state]; rfl
  have N0 := Fr.nil n0
  have pre0 : ∀ t, Steps p.tables e below (s₁.setTop (mkF m 0 #[.val (.int xla), .val (.int xa0), .val (.int xa1), .val (.int xlb), .val (.int xb0), .val (.int xb1)] [])) t → Steps p.tables e below (s₁.setTop (entryFrame m #[(.int xla), (.int xa0), (.int xa1), (.int xlb), (.int xb0), (.int xb1)] 6)) t := fun t k => castTop (ef_rm_same m xla xa0 xa1 xlb xb0 xb1) k
  have pre1 : ∀ t, Steps p.tables e below (s₁.setTop (mkF m 2 #[.val (.int xla), .val (.int xa0), .val (.int xa1), .val (.int xlb), .val (.int xb0), .val (.int xb1)] [(.int xlb), (.int xla)])) t → Steps p.tables e below (s₁.setTop (entryFrame m #[(.int xla), (.int xa0), (.int xa1), (.int xlb), (.int xb0), (.int xb1)] 6)) t := by
    intro t k
    refine pre0 t ?_
    refine XS.iloadN X0.here hx rfl (hb hby d9_0) rfl ?_
    show Steps p.tables e below (s₁.setTop (mkF m 1 #[.val (.int xla), .val (.int xa0), .val (.int xa1), .val (.int xlb), .val (.int xb0), .val (.int xb1)] [(.int xla)])) _
    refine XS.iloadN X0.here hx rfl (hb hby d9_1) rfl ?_
    show Steps p.tables e below (s₁.setTop (mkF m 2 #[.val (.int xla), .val (.int xa0), .val (.int xa1), .val (.int xlb), .val (.int xb0), .val (.int xb1)] [(.int xlb), (.int xla)])) _
    exact k
  by_cases hc2 : xla = xlb
  · have pre2 : ∀ t, Steps p.tables e below (s₁.setTop (mkF m 9 #[.val (.int xla), .val (.int xa0), .val (.int xa1), .val (.int xlb), .val (.int xb0), .val (.int xb1)] [(.int (1 : Int32)), (.int xla)])) t → Steps p.tables e below (s₁.setTop (entryFrame m #[(.int xla), (.int xa0), (.int xa1), (.int xlb), (.int xb0), (.int xb1)] 6)) t := by
      intro t k
      refine pre1 t ?_
      refine XS.icmpYes X0.here hx rfl (pc0 := 2) (pc' := 7) rfl (hb hby d9_2) rfl (teq hc2).1 (by decide) (by decide) ?_
      show Steps p.tables e below (s₁.setTop (mkF m 7 #[.val (.int xla), .val (.int xa0), .val (.int xa1), .val (.int xlb), .val (.int xb0), .val (.int xb1)] [])) _
      refine XS.iloadN X0.here hx rfl (hb hby d9_7) rfl ?_
      show Steps p.tables e below (s₁.setTop (mkF m 8 #[.val (.int xla), .val (.int xa0), .val (.int xa1), .val (.int xlb), .val (.int xb0), .val (.int xb1)] [(.int xla)])) _
      refine XS.iconst X0.here hx rfl (hb hby d9_8) ?_
      show Steps p.tables e below (s₁.setTop (mkF m 9 #[.val (.int xla), .val (.int xa0), .val (.int xa1), .val (.int xlb), .val (.int xb0), .val (.int xb1)] [(.int (1 : Int32)), (.int xla)])) _
      exact k
    by_cases hc9 : xla < (1 : Int32)
    · have pre3 : ∀ t, Steps p.tables e below (s₁.setTop (mkF m 22 #[.val (.int xla), .val (.int xa0), .val (.int xa1), .val (.int xlb), .val (.int xb0), .val (.int xb1)] [(.int (2 : Int32)), (.int xla)])) t → Steps p.tables e below (s₁.setTop (entryFrame m #[(.int xla), (.int xa0), (.int xa1), (.int xlb), (.int xb0), (.int xb1)] 6)) t := by
        intro t k
        refine pre2 t ?_
        refine XS.icmpYes X0.here hx rfl (pc0 := 9) (pc' := 20) rfl (hb hby d9_9) rfl (tlt hc9).1 (by decide) (by decide) ?_
        show Steps p.tables e below (s₁.setTop (mkF m 20 #[.val (.int xla), .val (.int xa0), .val (.int xa1), .val (.int xlb), .val (.int xb0), .val (.int xb1)] [])) _
        refine XS.iloadN X0.here hx rfl (hb hby d9_20) rfl ?_
        show Steps p.tables e below (s₁.setTop (mkF m 21 #[.val (.int xla), .val (.int xa0), .val (.int xa1), .val (.int xlb), .val (.int xb0), .val (.int xb1)] [(.int xla)])) _
        refine XS.iconst X0.here hx rfl (hb hby d9_21) ?_
        show Steps p.tables e below (s₁.setTop (mkF m 22 #[.val (.int xla), .val (.int xa0), .val (.int xa1), .val (.int xlb), .val (.int xb0), .val (.int xb1)] [(.int (2 : Int32)), (.int xla)])) _
        exact k
      by_cases hc22 : xla < (2 : Int32)
      · have pre4 : ∀ t, Steps p.tables e below (s₁.setTop (mkF m 34 #[.val (.int xla), .val (.int xa0), .val (.int xa1), .val (.int xlb), .val (.int xb0), .val (.int xb1)] [(.int (1 : Int32))])) t → Steps p.tables e below (s₁.setTop (entryFrame m #[(.int xla), (.int xa0), (.int xa1), (.int xlb), (.int xb0), (.int xb1)] 6)) t := by
          intro t k
          refine pre3 t ?_
          refine XS.icmpYes X0.here hx rfl (pc0 := 22) (pc' := 33) rfl (hb hby d9_22) rfl (tlt hc22).1 (by decide) (by decide) ?_
          show Steps p.tables e below (s₁.setTop (mkF m 33 #[.val (.int xla), .val (.int xa0), .val (.int xa1), .val (.int xlb), .val (.int xb0), .val (.int xb1)] [])) _
          refine XS.iconst X0.here hx rfl (hb hby d9_33) ?_
          show Steps p.tables e below (s₁.setTop (mkF m 34 #[.val (.int xla), .val (.int xa0), .val (.int xa1), .val (.int xlb), .val (.int xb0), .val (.int xb1)] [(.int (1 : Int32))])) _
          exact k
        obtain ⟨fs, hr, hrun, hended, hW, hsame⟩ := X0.leave (v := some (.int (1 : Int32))) (fun h => by rw [Bd.returns] at h; cases h)
        refine ⟨_, _, pre4 _ ?_, hrun, hended, _, _, rfl, ?_, ⟨_, rfl⟩, hW, hsame.mono (by decide) (by decide)⟩
        · exact retN X0 hx (t := .boolean) Bd.returns (by simp) (hb hby d9_34) hr
        · show Q_rm_same Z xla xa0 xa1 xlb xb0 xb1 h0 n0 _ s₁.heap _
          rw [e0]
          exact ⟨congrArg (fun z => some (Value.int z)) (show (1 : Int32) = (F_rm_same xla xa0 xa1 xlb xb0 xb1) from by rw [F_rm_same, if_pos hc2, if_pos hc9, if_pos hc22]), N0, rfl⟩
      · have pre5 : ∀ t, Steps p.tables e below (s₁.setTop (mkF m 28 #[.val (.int xla), .val (.int xa0), .val (.int xa1), .val (.int xlb), .val (.int xb0), .val (.int xb1)] [(.int xb1), (.int xa1)])) t → Steps p.tables e below (s₁.setTop (entryFrame m #[(.int xla), (.int xa0), (.int xa1), (.int xlb), (.int xb0), (.int xb1)] 6)) t := by
          intro t k
          refine pre3 t ?_
          refine XS.icmpNo X0.here hx rfl (hb hby d9_22) rfl (flt hc22).1 ?_
          show Steps p.tables e below (s₁.setTop (mkF m 25 #[.val (.int xla), .val (.int xa0), .val (.int xa1), .val (.int xlb), .val (.int xb0), .val (.int xb1)] [])) _
          refine XS.iloadN X0.here hx rfl (hb hby d9_25) rfl ?_
          show Steps p.tables e below (s₁.setTop (mkF m 26 #[.val (.int xla), .val (.int xa0), .val (.int xa1), .val (.int xlb), .val (.int xb0), .val (.int xb1)] [(.int xa1)])) _
          refine XS.iload X0.here hx rfl (hb hby d9_26) rfl ?_
          show Steps p.tables e below (s₁.setTop (mkF m 28 #[.val (.int xla), .val (.int xa0), .val (.int xa1), .val (.int xlb), .val (.int xb0), .val (.int xb1)] [(.int xb1), (.int xa1)])) _
          exact k
        by_cases hc28 : xa1 = xb1
        · have pre6 : ∀ t, Steps p.tables e below (s₁.setTop (mkF m 34 #[.val (.int xla), .val (.int xa0), .val (.int xa1), .val (.int xlb), .val (.int xb0), .val (.int xb1)] [(.int (1 : Int32))])) t → Steps p.tables e below (s₁.setTop (entryFrame m #[(.int xla), (.int xa0), (.int xa1), (.int xlb), (.int xb0), (.int xb1)] 6)) t := by
            intro t k
            refine pre5 t ?_
            refine XS.icmpYes X0.here hx rfl (pc0 := 28) (pc' := 33) rfl (hb hby d9_28) rfl (teq hc28).1 (by decide) (by decide) ?_
            show Steps p.tables e below (s₁.setTop (mkF m 33 #[.val (.int xla), .val (.int xa0), .val (.int xa1), .val (.int xlb), .val (.int xb0), .val (.int xb1)] [])) _
            refine XS.iconst X0.here hx rfl (hb hby d9_33) ?_
            show Steps p.tables e below (s₁.setTop (mkF m 34 #[.val (.int xla), .val (.int xa0), .val (.int xa1), .val (.int xlb), .val (.int xb0), .val (.int xb1)] [(.int (1 : Int32))])) _
            exact k
          obtain ⟨fs, hr, hrun, hended, hW, hsame⟩ := X0.leave (v := some (.int (1 : Int32))) (fun h => by rw [Bd.returns] at h; cases h)
          refine ⟨_, _, pre6 _ ?_, hrun, hended, _, _, rfl, ?_, ⟨_, rfl⟩, hW, hsame.mono (by decide) (by decide)⟩
          · exact retN X0 hx (t := .boolean) Bd.returns (by simp) (hb hby d9_34) hr
          · show Q_rm_same Z xla xa0 xa1 xlb xb0 xb1 h0 n0 _ s₁.heap _
            rw [e0]
            exact ⟨congrArg (fun z => some (Value.int z)) (show (1 : Int32) = (F_rm_same xla xa0 xa1 xlb xb0 xb1) from by rw [F_rm_same, if_pos hc2, if_pos hc9, if_neg hc22, if_pos hc28]), N0, rfl⟩
        · have pre7 : ∀ t, Steps p.tables e below (s₁.setTop (mkF m 32 #[.val (.int xla), .val (.int xa0), .val (.int xa1), .val (.int xlb), .val (.int xb0), .val (.int xb1)] [(.int (0 : Int32))])) t → Steps p.tables e below (s₁.setTop (entryFrame m #[(.int xla), (.int xa0), (.int xa1), (.int xlb), (.int xb0), (.int xb1)] 6)) t := by
            intro t k
            refine pre5 t ?_
            refine XS.icmpNo X0.here hx rfl (hb hby d9_28) rfl (feq hc28).1 ?_
            show Steps p.tables e below (s₁.setTop (mkF m 31 #[.val (.int xla), .val (.int xa0), .val (.int xa1), .val (.int xlb), .val (.int xb0), .val (.int xb1)] [])) _
            refine XS.iconst X0.here hx rfl (hb hby d9_31) ?_
            show Steps p.tables e below (s₁.setTop (mkF m 32 #[.val (.int xla), .val (.int xa0), .val (.int xa1), .val (.int xlb), .val (.int xb0), .val (.int xb1)] [(.int (0 : Int32))])) _
            exact k
          obtain ⟨fs, hr, hrun, hended, hW, hsame⟩ := X0.leave (v := some (.int (0 : Int32))) (fun h => by rw [Bd.returns] at h; cases h)
          refine ⟨_, _, pre7 _ ?_, hrun, hended, _, _, rfl, ?_, ⟨_, rfl⟩, hW, hsame.mono (by decide) (by decide)⟩
          · exact retN X0 hx (t := .boolean) Bd.returns (by simp) (hb hby d9_32) hr
          · show Q_rm_same Z xla xa0 xa1 xlb xb0 xb1 h0 n0 _ s₁.heap _
            rw [e0]
            exact ⟨congrArg (fun z => some (Value.int z)) (show (0 : Int32) = (F_rm_same xla xa0 xa1 xlb xb0 xb1) from by rw [F_rm_same, if_pos hc2, if_pos hc9, if_neg hc22, if_neg hc28]), N0, rfl⟩
    · have pre8 : ∀ t, Steps p.tables e below (s₁.setTop (mkF m 15 #[.val (.int xla), .val (.int xa0), .val (.int xa1), .val (.int xlb), .val (.int xb0), .val (.int xb1)] [(.int xb0), (.int xa0)])) t → Steps p.tables e below (s₁.setTop (entryFrame m #[(.int xla), (.int xa0), (.int xa1), (.int xlb), (.int xb0), (.int xb1)] 6)) t := by
        intro t k
        refine pre2 t ?_
        refine XS.icmpNo X0.here hx rfl (hb hby d9_9) rfl (flt hc9).1 ?_
        show Steps p.tables e below (s₁.setTop (mkF m 12 #[.val (.int xla), .val (.int xa0), .val (.int xa1), .val (.int xlb), .val (.int xb0), .val (.int xb1)] [])) _
        refine XS.iloadN X0.here hx rfl (hb hby d9_12) rfl ?_
        show Steps p.tables e below (s₁.setTop (mkF m 13 #[.val (.int xla), .val (.int xa0), .val (.int xa1), .val (.int xlb), .val (.int xb0), .val (.int xb1)] [(.int xa0)])) _
        refine XS.iload X0.here hx rfl (hb hby d9_13) rfl ?_
        show Steps p.tables e below (s₁.setTop (mkF m 15 #[.val (.int xla), .val (.int xa0), .val (.int xa1), .val (.int xlb), .val (.int xb0), .val (.int xb1)] [(.int xb0), (.int xa0)])) _
        exact k
      by_cases hc15 : xa0 = xb0
      · have pre9 : ∀ t, Steps p.tables e below (s₁.setTop (mkF m 22 #[.val (.int xla), .val (.int xa0), .val (.int xa1), .val (.int xlb), .val (.int xb0), .val (.int xb1)] [(.int (2 : Int32)), (.int xla)])) t → Steps p.tables e below (s₁.setTop (entryFrame m #[(.int xla), (.int xa0), (.int xa1), (.int xlb), (.int xb0), (.int xb1)] 6)) t := by
          intro t k
          refine pre8 t ?_
          refine XS.icmpYes X0.here hx rfl (pc0 := 15) (pc' := 20) rfl (hb hby d9_15) rfl (teq hc15).1 (by decide) (by decide) ?_
          show Steps p.tables e below (s₁.setTop (mkF m 20 #[.val (.int xla), .val (.int xa0), .val (.int xa1), .val (.int xlb), .val (.int xb0), .val (.int xb1)] [])) _
          refine XS.iloadN X0.here hx rfl (hb hby d9_20) rfl ?_
          show Steps p.tables e below (s₁.setTop (mkF m 21 #[.val (.int xla), .val (.int xa0), .val (.int xa1), .val (.int xlb), .val (.int xb0), .val (.int xb1)] [(.int xla)])) _
          refine XS.iconst X0.here hx rfl (hb hby d9_21) ?_
          show Steps p.tables e below (s₁.setTop (mkF m 22 #[.val (.int xla), .val (.int xa0), .val (.int xa1), .val (.int xlb), .val (.int xb0), .val (.int xb1)] [(.int (2 : Int32)), (.int xla)])) _
          exact k
        by_cases hc22 : xla < (2 : Int32)
        · have pre10 : ∀ t, Steps p.tables e below (s₁.setTop (mkF m 34 #[.val (.int xla), .val (.int xa0), .val (.int xa1), .val (.int xlb), .val (.int xb0), .val (.int xb1)] [(.int (1 : Int32))])) t → Steps p.tables e below (s₁.setTop (entryFrame m #[(.int xla), (.int xa0), (.int xa1), (.int xlb), (.int xb0), (.int xb1)] 6)) t := by
            intro t k
            refine pre9 t ?_
            refine XS.icmpYes X0.here hx rfl (pc0 := 22) (pc' := 33) rfl (hb hby d9_22) rfl (tlt hc22).1 (by decide) (by decide) ?_
            show Steps p.tables e below (s₁.setTop (mkF m 33 #[.val (.int xla), .val (.int xa0), .val (.int xa1), .val (.int xlb), .val (.int xb0), .val (.int xb1)] [])) _
            refine XS.iconst X0.here hx rfl (hb hby d9_33) ?_
            show Steps p.tables e below (s₁.setTop (mkF m 34 #[.val (.int xla), .val (.int xa0), .val (.int xa1), .val (.int xlb), .val (.int xb0), .val (.int xb1)] [(.int (1 : Int32))])) _
            exact k
          obtain ⟨fs, hr, hrun, hended, hW, hsame⟩ := X0.leave (v := some (.int (1 : Int32))) (fun h => by rw [Bd.returns] at h; cases h)
          refine ⟨_, _, pre10 _ ?_, hrun, hended, _, _, rfl, ?_, ⟨_, rfl⟩, hW, hsame.mono (by decide) (by decide)⟩
          · exact retN X0 hx (t := .boolean) Bd.returns (by simp) (hb hby d9_34) hr
          · show Q_rm_same Z xla xa0 xa1 xlb xb0 xb1 h0 n0 _ s₁.heap _
            rw [e0]
            exact ⟨congrArg (fun z => some (Value.int z)) (show (1 : Int32) = (F_rm_same xla xa0 xa1 xlb xb0 xb1) from by rw [F_rm_same, if_pos hc2, if_neg hc9, if_pos hc15, if_pos hc22]), N0, rfl⟩
        · have pre11 : ∀ t, Steps p.tables e below (s₁.setTop (mkF m 28 #[.val (.int xla), .val (.int xa0), .val (.int xa1), .val (.int xlb), .val (.int xb0), .val (.int xb1)] [(.int xb1), (.int xa1)])) t → Steps p.tables e below (s₁.setTop (entryFrame m #[(.int xla), (.int xa0), (.int xa1), (.int xlb), (.int xb0), (.int xb1)] 6)) t := by
            intro t k
            refine pre9 t ?_
            refine XS.icmpNo X0.here hx rfl (hb hby d9_22) rfl (flt hc22).1 ?_
            show Steps p.tables e below (s₁.setTop (mkF m 25 #[.val (.int xla), .val (.int xa0), .val (.int xa1), .val (.int xlb), .val (.int xb0), .val (.int xb1)] [])) _
            refine XS.iloadN X0.here hx rfl (hb hby d9_25) rfl ?_
            show Steps p.tables e below (s₁.setTop (mkF m 26 #[.val (.int xla), .val (.int xa0), .val (.int xa1), .val (.int xlb), .val (.int xb0), .val (.int xb1)] [(.int xa1)])) _
            refine XS.iload X0.here hx rfl (hb hby d9_26) rfl ?_
            show Steps p.tables e below (s₁.setTop (mkF m 28 #[.val (.int xla), .val (.int xa0), .val (.int xa1), .val (.int xlb), .val (.int xb0), .val (.int xb1)] [(.int xb1), (.int xa1)])) _
            exact k
          by_cases hc28 : xa1 = xb1
          · have pre12 : ∀ t, Steps p.tables e below (s₁.setTop (mkF m 34 #[.val (.int xla), .val (.int xa0), .val (.int xa1), .val (.int xlb), .val (.int xb0), .val (.int xb1)] [(.int (1 : Int32))])) t → Steps p.tables e below (s₁.setTop (entryFrame m #[(.int xla), (.int xa0), (.int xa1), (.int xlb), (.int xb0), (.int xb1)] 6)) t := by
              intro t k
              refine pre11 t ?_
              refine XS.icmpYes X0.here hx rfl (pc0 := 28) (pc' := 33) rfl (hb hby d9_28) rfl (teq hc28).1 (by decide) (by decide) ?_
              show Steps p.tables e below (s₁.setTop (mkF m 33 #[.val (.int xla), .val (.int xa0), .val (.int xa1), .val (.int xlb), .val (.int xb0), .val (.int xb1)] [])) _
              refine XS.iconst X0.here hx rfl (hb hby d9_33) ?_
              show Steps p.tables e below (s₁.setTop (mkF m 34 #[.val (.int xla), .val (.int xa0), .val (.int xa1), .val (.int xlb), .val (.int xb0), .val (.int xb1)] [(.int (1 : Int32))])) _
              exact k
            obtain ⟨fs, hr, hrun, hended, hW, hsame⟩ := X0.leave (v := some (.int (1 : Int32))) (fun h => by rw [Bd.returns] at h; cases h)
            refine ⟨_, _, pre12 _ ?_, hrun, hended, _, _, rfl, ?_, ⟨_, rfl⟩, hW, hsame.mono (by decide) (by decide)⟩
            · exact retN X0 hx (t := .boolean) Bd.returns (by simp) (hb hby d9_34) hr
            · show Q_rm_same Z xla xa0 xa1 xlb xb0 xb1 h0 n0 _ s₁.heap _
              rw [e0]
              exact ⟨congrArg (fun z => some (Value.int z)) (show (1 : Int32) = (F_rm_same xla xa0 xa1 xlb xb0 xb1) from by rw [F_rm_same, if_pos hc2, if_neg hc9, if_pos hc15, if_neg hc22, if_pos hc28]), N0, rfl⟩
          · have pre13 : ∀ t, Steps p.tables e below (s₁.setTop (mkF m 32 #[.val (.int xla), .val (.int xa0), .val (.int xa1), .val (.int xlb), .val (.int xb0), .val (.int xb1)] [(.int (0 : Int32))])) t → Steps p.tables e below (s₁.setTop (entryFrame m #[(.int xla), (.int xa0), (.int xa1), (.int xlb), (.int xb0), (.int xb1)] 6)) t := by
              intro t k
              refine pre11 t ?_
              refine XS.icmpNo X0.here hx rfl (hb hby d9_28) rfl (feq hc28).1 ?_
              show Steps p.tables e below (s₁.setTop (mkF m 31 #[.val (.int xla), .val (.int xa0), .val (.int xa1), .val (.int xlb), .val (.int xb0), .val (.int xb1)] [])) _
              refine XS.iconst X0.here hx rfl (hb hby d9_31) ?_
              show Steps p.tables e below (s₁.setTop (mkF m 32 #[.val (.int xla), .val (.int xa0), .val (.int xa1), .val (.int xlb), .val (.int xb0), .val (.int xb1)] [(.int (0 : Int32))])) _
              exact k
            obtain ⟨fs, hr, hrun, hended, hW, hsame⟩ := X0.leave (v := some (.int (0 : Int32))) (fun h => by rw [Bd.returns] at h; cases h)
            refine ⟨_, _, pre13 _ ?_, hrun, hended, _, _, rfl, ?_, ⟨_, rfl⟩, hW, hsame.mono (by decide) (by decide)⟩
            · exact retN X0 hx (t := .boolean) Bd.returns (by simp) (hb hby d9_32) hr
            · show Q_rm_same Z xla xa0 xa1 xlb xb0 xb1 h0 n0 _ s₁.heap _
              rw [e0]
              exact ⟨congrArg (fun z => some (Value.int z)) (show (0 : Int32) = (F_rm_same xla xa0 xa1 xlb xb0 xb1) from by rw [F_rm_same, if_pos hc2, if_neg hc9, if_pos hc15, if_neg hc22, if_neg hc28]), N0, rfl⟩
      · have pre14 : ∀ t, Steps p.tables e below (s₁.setTop (mkF m 19 #[.val (.int xla), .val (.int xa0), .val (.int xa1), .val (.int xlb), .val (.int xb0), .val (.int xb1)] [(.int (0 : Int32))])) t → Steps p.tables e below (s₁.setTop (entryFrame m #[(.int xla), (.int xa0), (.int xa1), (.int xlb), (.int xb0), (.int xb1)] 6)) t := by
          intro t k
          refine pre8 t ?_
          refine XS.icmpNo X0.here hx rfl (hb hby d9_15) rfl (feq hc15).1 ?_
          show Steps p.tables e below (s₁.setTop (mkF m 18 #[.val (.int xla), .val (.int xa0), .val (.int xa1), .val (.int xlb), .val (.int xb0), .val (.int xb1)] [])) _
          refine XS.iconst X0.here hx rfl (hb hby d9_18) ?_
          show Steps p.tables e below (s₁.setTop (mkF m 19 #[.val (.int xla), .val (.int xa0), .val (.int xa1), .val (.int xlb), .val (.int xb0), .val (.int xb1)] [(.int (0 : Int32))])) _
          exact k
        obtain ⟨fs, hr, hrun, hended, hW, hsame⟩ := X0.leave (v := some (.int (0 : Int32))) (fun h => by rw [Bd.returns] at h; cases h)
        refine ⟨_, _, pre14 _ ?_, hrun, hended, _, _, rfl, ?_, ⟨_, rfl⟩, hW, hsame.mono (by decide) (by decide)⟩
        · exact retN X0 hx (t := .boolean) Bd.returns (by simp) (hb hby d9_19) hr
        · show Q_rm_same Z xla xa0 xa1 xlb xb0 xb1 h0 n0 _ s₁.heap _
          rw [e0]
          exact ⟨congrArg (fun z => some (Value.int z)) (show (0 : Int32) = (F_rm_same xla xa0 xa1 xlb xb0 xb1) from by rw [F_rm_same, if_pos hc2, if_neg hc9, if_neg hc15]), N0, rfl⟩
  · have pre15 : ∀ t, Steps p.tables e below (s₁.setTop (mkF m 6 #[.val (.int xla), .val (.int xa0), .val (.int xa1), .val (.int xlb), .val (.int xb0), .val (.int xb1)] [(.int (0 : Int32))])) t → Steps p.tables e below (s₁.setTop (entryFrame m #[(.int xla), (.int xa0), (.int xa1), (.int xlb), (.int xb0), (.int xb1)] 6)) t := by
      intro t k
      refine pre1 t ?_
      refine XS.icmpNo X0.here hx rfl (hb hby d9_2) rfl (feq hc2).1 ?_
      show Steps p.tables e below (s₁.setTop (mkF m 5 #[.val (.int xla), .val (.int xa0), .val (.int xa1), .val (.int xlb), .val (.int xb0), .val (.int xb1)] [])) _
      refine XS.iconst X0.here hx rfl (hb hby d9_5) ?_
      show Steps p.tables e below (s₁.setTop (mkF m 6 #[.val (.int xla), .val (.int xa0), .val (.int xa1), .val (.int xlb), .val (.int xb0), .val (.int xb1)] [(.int (0 : Int32))])) _
      exact k
    obtain ⟨fs, hr, hrun, hended, hW, hsame⟩ := X0.leave (v := some (.int (0 : Int32))) (fun h => by rw [Bd.returns] at h; cases h)
    refine ⟨_, _, pre15 _ ?_, hrun, hended, _, _, rfl, ?_, ⟨_, rfl⟩, hW, hsame.mono (by decide) (by decide)⟩
    · exact retN X0 hx (t := .boolean) Bd.returns (by simp) (hb hby d9_6) hr
    · show Q_rm_same Z xla xa0 xa1 xlb xb0 xb1 h0 n0 _ s₁.heap _
      rw [e0]
      exact ⟨congrArg (fun z => some (Value.int z)) (show (0 : Int32) = (F_rm_same xla xa0 xa1 xlb xb0 xb1) from by rw [F_rm_same, if_neg hc2]), N0, rfl⟩
theorem own_backSH {p : Program} {l : Launch} {e : Env} {R : Room} {s : State} {args : Array Value} {below : List Frame} {Z : State} {a0 : Array Value} {EL : List (String × Nat)} {h : Heap} {vm0 : Vm} {y : MethodName} {bytes : ByteArray} {maxL : Nat} {ret : Option FieldType} {rm : Room} {len W : Nat} {as' : Array Value} {Q : Option Value → Heap → List Loc → Prop} {xs : List Addr}
    (hM : MetFree l y (head1 [Cond.code y bytes maxL ret] rm) (fun a U => a = as' ∧ Z.Warmed39 U.vm ∧ U.heap = h ∧ CHv Z EL U.vm h ∧ ∀ x ∈ xs, Safe Z EL U.vm h x) (fun _ _ _ _ _ => True) (fun _ U o U' => ∃ v L, o = .returned v ∧ Q v U'.heap L ∧ CHr Z EL U.vm U.heap U'.vm U'.heap ∧ ReturnedEndW U o U' L rm.cells rm.slots))
    (hZ : Z.Warmed39 vm0) (wc : (Cond.code y bytes maxL ret).before a0 Z = true) (wz : (Cond.initialized y.cls).before a0 Z = true) (hf : rm.frames + 1 ≤ R.frames) (hl : W + (maxL + 11) + rm.locals ≤ R.locals) (hEL : EW Z a0 EL) (H : CHv Z EL vm0 h) (hlt : ∀ x ∈ xs, x < h.size) (hs : ∀ x ∈ xs, Safe Z EL vm0 h x) :
    BackS l R p e below (s.setVm vm0) args y len W (fun A a => a = as' ∧ A.U.heap = h ∧ A.cells + rm.cells ≤ R.cells ∧ A.slots + rm.slots ≤ R.slots)
      (fun A _ v B => ∃ L, Q v B.U.heap L ∧ B.locs = A.locs ++ L ∧ B.cells = A.cells + rm.cells ∧ B.slots = A.slots + rm.slots ∧ CHr Z EL vm0 h B.U.vm B.U.heap) := by
  refine BackS.of_freeW (bytes := bytes) (maxL := maxL) (ret := ret) (E := fun _ first o t L k n => k = rm.cells ∧ n = rm.slots ∧ (∃ v, o = .returned v ∧ Q v t.heap L) ∧ CHr Z EL first.vm first.heap t.vm t.heap) hM hf hl ?_ ?_ (fun _ _ _ _ _ _ _ _ _ => trivial) ?_ ?_
  · intro m meth c A a Y hp
    have hU : Z.Warmed39 A.U.vm := wtrans (s := s.setVm vm0) hZ Y.warmed
    refine ⟨?_, mv hU wc, mv hU wz, hp.2.2.1, hp.2.2.2⟩
    show (Cond.and _ .tt).before a A.U = true
    rw [Cond.before_and, mv hU wc]
    rfl
  · intro m meth c A a g mk Y hp
    have hr := CHv.at Y hZ hEL H
    exact ⟨hp.1, wtrans (s := s.setVm vm0) hZ Y.warmed, hp.2.1, hr.1, fun x hx => hr.safe (hlt x hx) (hs x hx)⟩
  · rintro _ _ _ _ ⟨v, L, h1, h2, h3, h4⟩
    exact ⟨L, _, _, h4, rfl, rfl, ⟨v, h1, h2⟩, h3⟩
  · rintro m meth c A a g mk v t L k n Y hp _ _ ⟨e1, e2, ⟨v', e3, e4⟩, e5⟩
    cases e3
    subst e1 e2
    refine ⟨L, e4, rfl, rfl, rfl, (CHv.at Y hZ hEL H).trans ?_⟩
    rw [← hp.2.1]
    exact e5
theorem d3_8 : decode jdk_42_method_149_code 8 = .ok (.aload_n 0, 1) := by decide +kernel
theorem d3_9 : decode jdk_42_method_149_code 9 = .ok (.ldc 7, 2) := by decide +kernel
theorem d3_11 : decode jdk_42_method_149_code 11 = .ok (.getfield 9, 3) := by decide +kernel
theorem d3_14 : decode jdk_42_method_149_code 14 = .ok (.putfield 9, 3) := by decide +kernel
theorem d3_17 : decode jdk_42_method_149_code 17 = .ok (.aload_n 0, 1) := by decide +kernel
theorem d3_18 : decode jdk_42_method_149_code 18 = .ok (.ldc 7, 2) := by decide +kernel
theorem d3_20 : decode jdk_42_method_149_code 20 = .ok (.getfield 15, 3) := by decide +kernel
theorem d3_23 : decode jdk_42_method_149_code 23 = .ok (.putfield 15, 3) := by decide +kernel
theorem d3_26 : decode jdk_42_method_149_code 26 = .ok (.return_, 1) := by decide +kernel
theorem ef_rm_sc0 (m : MethodId) (ra : Addr) (rb : Addr) : entryFrame m #[(.ref ra), (.ref rb), (.int (0 : Int32)), (.int (0 : Int32)), .null] 6 = mkF m 0 #[.val (.ref ra), .val (.ref rb), .val (.int (0 : Int32)), .val (.int (0 : Int32)), .val .null, .unset] [] := by first | (simp [entryFrame, mkF, argsToLocals, Value.category]; done) | rfl
def Q_rm_sc0 (Z : State) (ra : Addr) (rb : Addr) (h0 : Heap) (n0 : Nat) (v : Option Value) (h : Heap) (L : List Loc) : Prop := ∃ ry : Addr, ∃ ky : ClassId, v = none ∧ Fr n0 L ∧ Keep h0 h [ra] ∧ Exa Z h ra "java/lang/String" ∧ Fld Z h ra "java/lang/String" "value" "[B" (.ref ry) ∧ Fld Z h ra "java/lang/String" "coder" "B" (.int (0 : Int32)) ∧ Arv Z h ry ky .byte (0 : Int32) [] (.int (0 : Int32))
set_option maxRecDepth 65536 in
set_option maxHeartbeats 40000000 in
theorem rm_sc0 (l : Launch) (Z : State) (a0 : Array Value) (hw : ∀ d ∈ tables_1, d.before a0 Z = true) (ws : List Jvm.Cond) (ra : Addr) (rb : Addr) (h0 : Heap) (n0 : Nat) (Z0 : n0 ≤ h0.size) (E_ra : Exa Z h0 ra "java/lang/String") (g_ra : n0 ≤ ra) (F_value_ra : Fld Z h0 ra "java/lang/String" "value" "[B" .null) (F_coder_ra : Fld Z h0 ra "java/lang/String" "coder" "B" (.int (0 : Int32))) :
    MetFree l (⟨"java/lang/String", "<init>", "([CIILjava/lang/Void;)V"⟩ : MethodName) (head1 (Jvm.Cond.code (⟨"java/lang/String", "<init>", "([CIILjava/lang/Void;)V"⟩ : MethodName) jdk_42_method_149_code 6 none :: ws) ({ frames := 1, cells := 4, slots := 8, locals := 12 } : Room)) (fun a U => a = #[(.ref ra), (.ref rb), (.int (0 : Int32)), (.int (0 : Int32)), .null] ∧ Z.Warmed39 U.vm ∧ U.heap = h0 ∧ CHv Z own_EL U.vm h0 ∧ ∀ x ∈ [ra], Safe Z own_EL U.vm h0 x) (fun _ _ _ _ _ => True) (fun _ U o U' => ∃ v L, o = .returned v ∧ Q_rm_sc0 Z ra rb h0 n0 v U'.heap L ∧ CHr Z own_EL U.vm U.heap U'.vm U'.heap ∧ ReturnedEndW U o U' L ({ frames := 1, cells := 4, slots := 8, locals := 12 } : Room).cells ({ frames := 1, cells := 4, slots := 8, locals := 12 } : Room).slots) := by
  refine MetFree.of_bodySF (plainFor_of_name pn1) hisR ?_
  intro p e s m args below meth c s₁ Bd hml0 hP hK
  obtain ⟨rfl, hZ, hh, HC0, HZ0⟩ := hP
  have hx := Bd.exec
  have hby := Bd.bytes
  have hml : c.maxLocals = 6 := hml0
  have hown : s.vm.findClass "java/lang/String" = some m.cls := findClass_of_methodNamed Bd.named
  have hnm := (name_of_methodNamed Bd.named Bd.method).1
  have X0 : Stand p l e ({ frames := 1, cells := 4, slots := 8, locals := 12 } : Room) (s.setVm s.vm) m #[(.ref ra), (.ref rb), (.int (0 : Int32)), (.int (0 : Int32)), .null] below meth c s₁ [] 0 0 := Stand.of_body Bd
  have hS0 : s.Since s.vm 0 := State.WarmedH.since (State.WarmedH.refl s) 0
  have hk0 : 0 ≤ h0.size := Nat.zero_le _
  have hEL : EW Z a0 own_EL := EW.cons (hw _ (List.mem_of_getElem? (i := 59) rfl)) (by decide) (EW.cons (hw _ (List.mem_of_getElem? (i := 18) rfl)) (by decide) EW.nil)
  have wS : ∀ d ∈ Bundle.stringAtoms, d.before a0 Z = true := fun d hd => hw d ((by decide +kernel : ∀ d ∈ Bundle.stringAtoms, d ∈ tables_1) d hd)
  have hown : (s.setVm s.vm).vm.findClass "java/lang/String" = some m.cls := hown
  have hZ : Z.Warmed39 (s.setVm s.vm).vm := hZ
  have e0 : s₁.heap = h0 := by rw [← hh, Bd.state]; rfl
  have N0 := Fr.nil n0
  have pre0 : ∀ t, Steps p.tables e below (s₁.setTop (mkF m 0 #[.val (.ref ra), .val (.ref rb), .val (.int (0 : Int32)), .val (.int (0 : Int32)), .val .null, .unset] [])) t → Steps p.tables e below (s₁.setTop (entryFrame m #[(.ref ra), (.ref rb), (.int (0 : Int32)), (.int (0 : Int32)), .null] 6)) t := fun t k => castTop (ef_rm_sc0 m ra rb) k
  have pre1 : ∀ t, Steps p.tables e below (s₁.setTop (mkF m 1 #[.val (.ref ra), .val (.ref rb), .val (.int (0 : Int32)), .val (.int (0 : Int32)), .val .null, .unset] [(.ref ra)])) t → Steps p.tables e below (s₁.setTop (entryFrame m #[(.ref ra), (.ref rb), (.int (0 : Int32)), (.int (0 : Int32)), .null] 6)) t := by
    intro t k
    refine pre0 t ?_
    refine XS.aloadN X0.here hx rfl (hb hby d3_0) rfl rfl ?_
    show Steps p.tables e below (s₁.setTop (mkF m 1 #[.val (.ref ra), .val (.ref rb), .val (.int (0 : Int32)), .val (.int (0 : Int32)), .val .null, .unset] [(.ref ra)])) _
    exact k
  obtain ⟨T2, X2, e2, st2⟩ := initO X0 hx hZ hown (hw _ (List.mem_of_getElem? (i := 15) rfl)) (hw _ (List.mem_of_getElem? (i := 16) rfl)) (hw _ (List.mem_of_getElem? (i := 17) rfl)) e0 (g := (mkF m 1 #[.val (.ref ra), .val (.ref rb), .val (.int (0 : Int32)), .val (.int (0 : Int32)), .val .null, .unset] [(.ref ra)])) rfl (by rw [hml]; rfl) rfl (hb hby d3_1) (by decide) (W := 0) (by show 2 * 0 + _ ≤ _; exact Nat.le_of_eq rfl) (by decide)
  have pre3 : ∀ t, Steps p.tables e below (T2.setTop (mkF m 4 #[.val (.ref ra), .val (.ref rb), .val (.int (0 : Int32)), .val (.int (0 : Int32)), .val .null, .unset] [])) t → Steps p.tables e below (s₁.setTop (entryFrame m #[(.ref ra), (.ref rb), (.int (0 : Int32)), (.int (0 : Int32)), .null] 6)) t := fun t k => pre1 t (st2 t k)
  have pre4 : ∀ t, Steps p.tables e below (T2.setTop (mkF m 9 #[.val (.ref ra), .val (.ref rb), .val (.int (0 : Int32)), .val (.int (0 : Int32)), .val .null, .unset] [(.ref ra)])) t → Steps p.tables e below (s₁.setTop (entryFrame m #[(.ref ra), (.ref rb), (.int (0 : Int32)), (.int (0 : Int32)), .null] 6)) t := by
    intro t k
    refine pre3 t ?_
    refine XS.iloadN X2.here hx rfl (hb hby d3_4) rfl ?_
    show Steps p.tables e below (T2.setTop (mkF m 5 #[.val (.ref ra), .val (.ref rb), .val (.int (0 : Int32)), .val (.int (0 : Int32)), .val .null, .unset] [(.int (0 : Int32))])) _
    refine XS.ifNo X2.here hx rfl (hb hby d3_5) rfl ((if0 _ _).trans (teq (show (0 : Int32) = (0 : Int32) from rfl)).2) ?_
    show Steps p.tables e below (T2.setTop (mkF m 8 #[.val (.ref ra), .val (.ref rb), .val (.int (0 : Int32)), .val (.int (0 : Int32)), .val .null, .unset] [])) _
    refine XS.aloadN X2.here hx rfl (hb hby d3_8) rfl rfl ?_
    show Steps p.tables e below (T2.setTop (mkF m 9 #[.val (.ref ra), .val (.ref rb), .val (.int (0 : Int32)), .val (.int (0 : Int32)), .val .null, .unset] [(.ref ra)])) _
    exact k
  obtain ⟨a5, T5, h5, k5, b5, kb5, X5, e5, E5, hS5, hk5, hZ, hown, Ea5, Fc5, Fv5, Va5, -, -, CR5, -, nb5, st5⟩ := ldcCH X2 hx hZ hown (hw _ (List.mem_of_getElem? (i := 18) rfl)) wS e2 hS0 hk0 hEL (by simp [own_EL]) HC0 (vs := []) (z := (0 : Int32)) ⟨by decide, by first | rfl | decide⟩ (by decide) rfl (g := (mkF m 9 #[.val (.ref ra), .val (.ref rb), .val (.int (0 : Int32)), .val (.int (0 : Int32)), .val .null, .unset] [(.ref ra)])) rfl (hb hby d3_9) (n := 0) (by decide) (by decide) (by decide) (by decide)
  have sf5_ra := CHr.safe CR5 E_ra.lt (HZ0 ra (by simp))
  have K5 : Keep h0 h5 [ra] := (Keep.refl h0 [ra]).ext E5
  have z5 : n0 ≤ h5.size := Nat.le_trans Z0 K5.1
  have RC5 := CHr.trans (CHr.refl HC0) CR5
  have X5 : Stand p l e _ _ m _ below meth c T5 _ 2 4 := X5
  have pre6 : ∀ t, Steps p.tables e below (T5.setTop (mkF m 11 #[.val (.ref ra), .val (.ref rb), .val (.int (0 : Int32)), .val (.int (0 : Int32)), .val .null, .unset] [(.ref a5), (.ref ra)])) t → Steps p.tables e below (s₁.setTop (entryFrame m #[(.ref ra), (.ref rb), (.int (0 : Int32)), (.int (0 : Int32)), .null] 6)) t := fun t k => pre4 t (st5 t k)
  obtain ⟨T7, X7, e7, st7⟩ := getF X5 hx hZ hown (host := "") (Or.inl (hw _ (List.mem_of_getElem? (i := 24) rfl))) Via.refl e5 Fv5 (g := (mkF m 11 #[.val (.ref ra), .val (.ref rb), .val (.int (0 : Int32)), .val (.int (0 : Int32)), .val .null, .unset] [(.ref a5), (.ref ra)])) rfl rfl (hb hby d3_11)
  have pre8 : ∀ t, Steps p.tables e below (T7.setTop (mkF m 14 #[.val (.ref ra), .val (.ref rb), .val (.int (0 : Int32)), .val (.int (0 : Int32)), .val .null, .unset] [(.ref b5), (.ref ra)])) t → Steps p.tables e below (s₁.setTop (entryFrame m #[(.ref ra), (.ref rb), (.int (0 : Int32)), (.int (0 : Int32)), .null] 6)) t := fun t k => pre6 t (st7 t k)
  have f9 := (E_ra.ext E5)
  have f10 := (F_value_ra.ext E5)
  obtain ⟨T11, h11, X11, e11, W11, st11⟩ := putF X7 hx hZ hown (host := "") (Or.inl (hw _ (List.mem_of_getElem? (i := 24) rfl))) Via.refl e7 f10 f9 (Or.inr ⟨(hw _ (List.mem_of_getElem? (i := 20) rfl)), rfl, hnm⟩) (hw _ (List.mem_of_getElem? (i := 5) rfl)) (ty := (.array .byte)) (by decide) rfl rfl (g := (mkF m 14 #[.val (.ref ra), .val (.ref rb), .val (.int (0 : Int32)), .val (.int (0 : Int32)), .val .null, .unset] [(.ref b5), (.ref ra)])) rfl rfl (hb hby d3_14)
  have so11 := sf5_ra
  have sf11_ra := Safe.wr W11 so11 CR5.1 sf5_ra
  have RC11 := CHr.trans RC5 (CHr.wr W11 so11 CR5.1)
  have HC11 := CHv.wr W11 so11 CR5.1
  have hk11 := Nat.le_trans hk5 (Keep.of_wr W11).1
  have K11 : Keep h0 h11 [ra] := K5.wr W11 (Or.inl (by simp))
  have z11 : n0 ≤ h11.size := Nat.le_trans Z0 K11.1
  have N11 := Fr.snoc X11 N0 g_ra
  have Fw11 := f10.same W11
  have pre12 : ∀ t, Steps p.tables e below (T11.setTop (mkF m 17 #[.val (.ref ra), .val (.ref rb), .val (.int (0 : Int32)), .val (.int (0 : Int32)), .val .null, .unset] [])) t → Steps p.tables e below (s₁.setTop (entryFrame m #[(.ref ra), (.ref rb), (.int (0 : Int32)), (.int (0 : Int32)), .null] 6)) t := fun t k => pre8 t (st11 t k)
  have pre13 : ∀ t, Steps p.tables e below (T11.setTop (mkF m 18 #[.val (.ref ra), .val (.ref rb), .val (.int (0 : Int32)), .val (.int (0 : Int32)), .val .null, .unset] [(.ref ra)])) t → Steps p.tables e below (s₁.setTop (entryFrame m #[(.ref ra), (.ref rb), (.int (0 : Int32)), (.int (0 : Int32)), .null] 6)) t := by
    intro t k
    refine pre12 t ?_
    refine XS.aloadN X11.here hx rfl (hb hby d3_17) rfl rfl ?_
    show Steps p.tables e below (T11.setTop (mkF m 18 #[.val (.ref ra), .val (.ref rb), .val (.int (0 : Int32)), .val (.int (0 : Int32)), .val .null, .unset] [(.ref ra)])) _
    exact k
  obtain ⟨a14, T14, h14, k14, b14, kb14, X14, e14, E14, hS14, hk14, hZ, hown, Ea14, Fc14, Fv14, Va14, -, -, CR14, -, nb14, st14⟩ := ldcCH X11 hx hZ hown (hw _ (List.mem_of_getElem? (i := 18) rfl)) wS e11 hS5 hk11 hEL (by simp [own_EL]) HC11 (vs := []) (z := (0 : Int32)) ⟨by decide, by first | rfl | decide⟩ (by decide) rfl (g := (mkF m 18 #[.val (.ref ra), .val (.ref rb), .val (.int (0 : Int32)), .val (.int (0 : Int32)), .val .null, .unset] [(.ref ra)])) rfl (hb hby d3_18) (n := 0) (by decide) (by decide) (by decide) (by decide)
  have sf14_ra := CHr.safe CR14 (f9.wr W11).lt sf11_ra
  have K14 : Keep h0 h14 [ra] := K11.ext E14
  have z14 : n0 ≤ h14.size := Nat.le_trans Z0 K14.1
  have RC14 := CHr.trans RC11 CR14
  have X14 : Stand p l e _ _ m _ below meth c T14 _ 4 8 := X14
  have pre15 : ∀ t, Steps p.tables e below (T14.setTop (mkF m 20 #[.val (.ref ra), .val (.ref rb), .val (.int (0 : Int32)), .val (.int (0 : Int32)), .val .null, .unset] [(.ref a14), (.ref ra)])) t → Steps p.tables e below (s₁.setTop (entryFrame m #[(.ref ra), (.ref rb), (.int (0 : Int32)), (.int (0 : Int32)), .null] 6)) t := fun t k => pre13 t (st14 t k)
  obtain ⟨T16, X16, e16, st16⟩ := getF X14 hx hZ hown (host := "") (Or.inl (hw _ (List.mem_of_getElem? (i := 25) rfl))) Via.refl e14 Fc14 (g := (mkF m 20 #[.val (.ref ra), .val (.ref rb), .val (.int (0 : Int32)), .val (.int (0 : Int32)), .val .null, .unset] [(.ref a14), (.ref ra)])) rfl rfl (hb hby d3_20)
  have pre17 : ∀ t, Steps p.tables e below (T16.setTop (mkF m 23 #[.val (.ref ra), .val (.ref rb), .val (.int (0 : Int32)), .val (.int (0 : Int32)), .val .null, .unset] [(.int (0 : Int32)), (.ref ra)])) t → Steps p.tables e below (s₁.setTop (entryFrame m #[(.ref ra), (.ref rb), (.int (0 : Int32)), (.int (0 : Int32)), .null] 6)) t := fun t k => pre15 t (st16 t k)
  have f18 := ((f9.wr W11).ext E14)
  have f19 := (((F_coder_ra.ext E5).other W11 (Or.inr (slot_ne (Or.inr (hw _ (List.mem_of_getElem? (i := 21) rfl))) (Or.inr (hw _ (List.mem_of_getElem? (i := 20) rfl))) (by decide) (t := .byte) (t' := (.array .byte)) (by decide) (by decide)))).ext E14)
  obtain ⟨T20, h20, X20, e20, W20, st20⟩ := putFN X16 hx hZ hown (hw _ (List.mem_of_getElem? (i := 25) rfl)) Via.refl e16 f19 f18 (Or.inr ⟨(hw _ (List.mem_of_getElem? (i := 21) rfl)), rfl, hnm⟩) (hw _ (List.mem_of_getElem? (i := 5) rfl)) (ty := .byte) (v' := (.int (nar .byte (0 : Int32)))) (by decide) rfl (fits_nar_byte _) (g := (mkF m 23 #[.val (.ref ra), .val (.ref rb), .val (.int (0 : Int32)), .val (.int (0 : Int32)), .val .null, .unset] [(.int (0 : Int32)), (.ref ra)])) rfl rfl (hb hby d3_23)
  have so20 := sf14_ra
  have sf20_ra := Safe.wr W20 so20 CR14.1 sf14_ra
  have RC20 := CHr.trans RC14 (CHr.wr W20 so20 CR14.1)
  have HC20 := CHv.wr W20 so20 CR14.1
  have hk20 := Nat.le_trans hk14 (Keep.of_wr W20).1
  have K20 : Keep h0 h20 [ra] := K14.wr W20 (Or.inl (by simp))
  have z20 : n0 ≤ h20.size := Nat.le_trans Z0 K20.1
  have N20 := Fr.snoc X20 N11 g_ra
  have Fw20 := f19.same W20
  have pre21 : ∀ t, Steps p.tables e below (T20.setTop (mkF m 26 #[.val (.ref ra), .val (.ref rb), .val (.int (0 : Int32)), .val (.int (0 : Int32)), .val .null, .unset] [])) t → Steps p.tables e below (s₁.setTop (entryFrame m #[(.ref ra), (.ref rb), (.int (0 : Int32)), (.int (0 : Int32)), .null] 6)) t := fun t k => pre17 t (st20 t k)
  obtain ⟨fs, hr, hrun, hended, hRW⟩ := X20.leaveW hS14 (Nat.le_trans hk20 (Nat.le_of_eq (congrArg Array.size (show _ = h20 from e20)).symm)) (v := none) (fun _ => rfl)
  have RE := CHr.trans RC20 (CHv.at X20 hZ hEL HC20)
  refine ⟨_, _, pre21 _ ?_, hrun, hended, _, _, rfl, ?_, (by rw [hh]; show CHr Z own_EL s.vm h0 T20.vm T20.heap; rw [show T20.heap = h20 from e20]; exact RE), hRW.1, hRW.2.1, hRW.2.2.1, hRW.2.2.2.mono (by decide) (by decide)⟩
  · exact X20.returnOut hx Bd.returns (hb hby d3_26) hr
  · show Q_rm_sc0 Z ra rb h0 n0 _ T20.heap _
    rw [e20]
    exact ⟨b5, kb5, rfl, N20, K20, (f18.wr W20), ((Fw11.ext E14).other W20 (Or.inr (slot_ne (Or.inr (hw _ (List.mem_of_getElem? (i := 20) rfl))) (Or.inr (hw _ (List.mem_of_getElem? (i := 21) rfl))) (by decide) (t := (.array .byte)) (t' := .byte) (by decide) (by decide)))), Fw20, (((Va5.other W11 (Ne.symm (nb5 _ sf5_ra).2)).ext E14).other W20 (Ne.symm (nb5 _ sf5_ra).2))⟩
theorem ef_rm_sn0 (m : MethodId) (ra : Addr) (rb : Addr) : entryFrame m #[(.ref ra), (.ref rb)] 2 = mkF m 0 #[.val (.ref ra), .val (.ref rb)] [] := by first | (simp [entryFrame, mkF, argsToLocals, Value.category]; done) | rfl
def Q_rm_sn0 (Z : State) (ra : Addr) (rb : Addr) (ka : ClassId) (h0 : Heap) (n0 : Nat) (v : Option Value) (h : Heap) (L : List Loc) : Prop := ∃ ry : Addr, ∃ ky : ClassId, v = none ∧ Fr n0 L ∧ Keep h0 h [ra] ∧ Exa Z h ra "java/lang/String" ∧ Fld Z h ra "java/lang/String" "value" "[B" (.ref ry) ∧ Fld Z h ra "java/lang/String" "coder" "B" (.int (0 : Int32)) ∧ Arv Z h ry ky .byte (0 : Int32) [] (.int (0 : Int32))
set_option maxRecDepth 65536 in
set_option maxHeartbeats 40000000 in
theorem rm_sn0 (l : Launch) (Z : State) (a0 : Array Value) (hw : ∀ d ∈ tables_1, d.before a0 Z = true) (ws : List Jvm.Cond) (ra : Addr) (rb : Addr) (ka : ClassId) (h0 : Heap) (n0 : Nat) (Z0 : n0 ≤ h0.size) (E_ra : Exa Z h0 ra "java/lang/String") (g_ra : n0 ≤ ra) (F_value_ra : Fld Z h0 ra "java/lang/String" "value" "[B" .null) (F_coder_ra : Fld Z h0 ra "java/lang/String" "coder" "B" (.int (0 : Int32))) (VA : Arv Z h0 rb ka .char (0 : Int32) [] (.int (0 : Int32))) :
    MetFree l (⟨"java/lang/String", "<init>", "([C)V"⟩ : MethodName) (head1 (Jvm.Cond.code (⟨"java/lang/String", "<init>", "([C)V"⟩ : MethodName) jdk_42_method_3_code 2 none :: ws) ({ frames := 2, cells := 4, slots := 8, locals := 29 } : Room)) (fun a U => a = #[(.ref ra), (.ref rb)] ∧ Z.Warmed39 U.vm ∧ U.heap = h0 ∧ CHv Z own_EL U.vm h0 ∧ ∀ x ∈ [ra], Safe Z own_EL U.vm h0 x) (fun _ _ _ _ _ => True) (fun _ U o U' => ∃ v L, o = .returned v ∧ Q_rm_sn0 Z ra rb ka h0 n0 v U'.heap L ∧ CHr Z own_EL U.vm U.heap U'.vm U'.heap ∧ ReturnedEndW U o U' L ({ frames := 2, cells := 4, slots := 8, locals := 29 } : Room).cells ({ frames := 2, cells := 4, slots := 8, locals := 29 } : Room).slots) := by
  refine MetFree.of_bodySF (plainFor_of_name pn1) hisR ?_
  intro p e s m args below meth c s₁ Bd hml0 hP hK
  obtain ⟨rfl, hZ, hh, HC0, HZ0⟩ := hP
  have hx := Bd.exec
  have hby := Bd.bytes
  have hml : c.maxLocals = 2 := hml0
  have hown : s.vm.findClass "java/lang/String" = some m.cls := findClass_of_methodNamed Bd.named
  have hnm := (name_of_methodNamed Bd.named Bd.method).1
  have X0 : Stand p l e ({ frames := 2, cells := 4, slots := 8, locals := 29 } : Room) (s.setVm s.vm) m #[(.ref ra), (.ref rb)] below meth c s₁ [] 0 0 := Stand.of_body Bd
  have hS0 : s.Since s.vm 0 := State.WarmedH.since (State.WarmedH.refl s) 0
  have hk0 : 0 ≤ h0.size := Nat.zero_le _
  have hEL : EW Z a0 own_EL := EW.cons (hw _ (List.mem_of_getElem? (i := 59) rfl)) (by decide) (EW.cons (hw _ (List.mem_of_getElem? (i := 18) rfl)) (by decide) EW.nil)
  have wS : ∀ d ∈ Bundle.stringAtoms, d.before a0 Z = true := fun d hd => hw d ((by decide +kernel : ∀ d ∈ Bundle.stringAtoms, d ∈ tables_1) d hd)
  have hown : (s.setVm s.vm).vm.findClass "java/lang/String" = some m.cls := hown
  have hZ : Z.Warmed39 (s.setVm s.vm).vm := hZ
  have e0 : s₁.heap = h0 := by rw [← hh, Bd.state]; rfl
  have N0 := Fr.nil n0
  have pre0 : ∀ t, Steps p.tables e below (s₁.setTop (mkF m 0 #[.val (.ref ra), .val (.ref rb)] [])) t → Steps p.tables e below (s₁.setTop (entryFrame m #[(.ref ra), (.ref rb)] 2)) t := fun t k => castTop (ef_rm_sn0 m ra rb) k
  have pre2 : ∀ t, Steps p.tables e below (s₁.setTop (mkF m 6 #[.val (.ref ra), .val (.ref rb)] [.null, (.int (0 : Int32)), (.int (0 : Int32)), (.ref rb), (.ref ra)])) t → Steps p.tables e below (s₁.setTop (entryFrame m #[(.ref ra), (.ref rb)] 2)) t := by
    intro t k
    refine pre0 t ?_
    refine XS.aloadN X0.here hx rfl (hb hby d2_0) rfl rfl ?_
    show Steps p.tables e below (s₁.setTop (mkF m 1 #[.val (.ref ra), .val (.ref rb)] [(.ref ra)])) _
    refine XS.aloadN X0.here hx rfl (hb hby d2_1) rfl rfl ?_
    show Steps p.tables e below (s₁.setTop (mkF m 2 #[.val (.ref ra), .val (.ref rb)] [(.ref rb), (.ref ra)])) _
    refine XS.iconst X0.here hx rfl (hb hby d2_2) ?_
    show Steps p.tables e below (s₁.setTop (mkF m 3 #[.val (.ref ra), .val (.ref rb)] [(.int (0 : Int32)), (.ref rb), (.ref ra)])) _
    refine XS.aloadN X0.here hx rfl (hb hby d2_3) rfl rfl ?_
    show Steps p.tables e below (s₁.setTop (mkF m 4 #[.val (.ref ra), .val (.ref rb)] [(.ref rb), (.int (0 : Int32)), (.ref rb), (.ref ra)])) _
    obtain ⟨c1, a1, q1, s1, m1, i1, u1⟩ := id VA
    refine X0.arraylength hx (by rw [e0]; exact a1.1) (State.isArrayOf_alike hZ.alike a1.2.1) (g := (mkF m 4 #[.val (.ref ra), .val (.ref rb)] [(.ref rb), (.int (0 : Int32)), (.ref rb), (.ref ra)])) rfl rfl (hb hby d2_4) _ ?_
    rw [len_of s1 m1]
    show Steps p.tables e below (s₁.setTop (mkF m 5 #[.val (.ref ra), .val (.ref rb)] [(.int (0 : Int32)), (.int (0 : Int32)), (.ref rb), (.ref ra)])) _
    refine XS.aconstNull X0.here hx rfl (hb hby d2_5) ?_
    show Steps p.tables e below (s₁.setTop (mkF m 6 #[.val (.ref ra), .val (.ref rb)] [.null, (.int (0 : Int32)), (.int (0 : Int32)), (.ref rb), (.ref ra)])) _
    exact k
  obtain ⟨_, _, ⟨T3, L3, k3, n3⟩, -, X3, hs3, gz3, ⟨Lc3, hQ3, l3, y3, z3, CR3⟩, st3⟩ := X0.specialBackS hx (y := (⟨"java/lang/String", "<init>", "([CIILjava/lang/Void;)V"⟩ : MethodName)) rfl hown (mvT hZ (hw _ (List.mem_of_getElem? (i := 11) rfl))) (mvT hZ (hw _ (List.mem_of_getElem? (i := 12) rfl))) (mvT hZ (hw _ (List.mem_of_getElem? (i := 14) rfl))) (by decide) (own_backSH (W := 0) (rm_sc0 l Z a0 hw [] ra rb h0 n0 Z0 E_ra (g_ra) F_value_ra F_coder_ra) hZ (hw _ (List.mem_of_getElem? (i := 14) rfl)) (hw _ (List.mem_of_getElem? (i := 6) rfl)) (by decide) (by decide) hEL HC0 (allS (P := fun x => x < _) E_ra.lt all0) (allS (P := fun x => Safe Z own_EL _ _ x) (HZ0 ra (by simp)) all0)) (g := (mkF m 6 #[.val (.ref ra), .val (.ref rb)] [.null, (.int (0 : Int32)), (.int (0 : Int32)), (.ref rb), (.ref ra)])) rfl (by rw [hml]; rfl) (Steps.refl _) (a := ra) (argsL := [(.ref rb), (.int (0 : Int32)), (.int (0 : Int32)), .null]) (rest := []) (lenOf pd6 rfl) rfl (by show 2 * 0 + _ ≤ _; exact Nat.le_of_eq rfl) (hb hby d2_6) (fun _ _ => ⟨rfl, e0, (by decide : 0 + 4 ≤ _), (by decide : 0 + 8 ≤ _)⟩)
  dsimp only [Pt.U, Pt.locs, Pt.cells, Pt.slots] at X3 l3 y3 z3 st3 hQ3 hs3 gz3 CR3
  subst y3 z3
  obtain ⟨X3, hS3, hZ, hown⟩ := rebS hS0 (Nat.le_trans hk0 (Nat.le_of_eq (congrArg Array.size (show _ = h0 from e0)).symm)) X3 hs3 gz3 hZ hown
  have hk3 := Nat.le_refl T3.heap.size
  have sf3_ra := CHr.safe CR3 E_ra.lt (HZ0 ra (by simp))
  have RC3 := CHr.trans (CHr.refl HC0) CR3
  obtain ⟨ry_3, ky_3, rfl, M3, kp3, f3_0, f3_1, f3_2, f3_3⟩ := hQ3
  have K3 : Keep h0 T3.heap [ra] := (Keep.refl h0 [ra]).trans kp3 (allS (P := fun x => x ∈ [ra] ∨ h0.size ≤ x) (Or.inl (by simp)) all0)
  have zz3 : n0 ≤ T3.heap.size := Nat.le_trans Z0 K3.1
  have N3 : Fr n0 L3 := by rw [l3]; exact Fr.app N0 M3
  clear l3
  have X3 : Stand p l e _ _ m _ below meth c T3 _ 4 8 := X3
  have pre4 : ∀ t, Steps p.tables e below (T3.setTop (mkF m 9 #[.val (.ref ra), .val (.ref rb)] [])) t → Steps p.tables e below (s₁.setTop (entryFrame m #[(.ref ra), (.ref rb)] 2)) t := fun t k => pre2 t (st3.trans k)
  obtain ⟨fs, hr, hrun, hended, hRW⟩ := X3.leaveW hS3 (Nat.le_trans hk3 (Nat.le_of_eq (congrArg Array.size (show _ = T3.heap from rfl)).symm)) (v := none) (fun _ => rfl)
  have RE := CHr.trans RC3 (CHv.at X3 hZ hEL CR3.1)
  refine ⟨_, _, pre4 _ ?_, hrun, hended, _, _, rfl, ?_, (by rw [hh]; show CHr Z own_EL s.vm h0 T3.vm T3.heap; rw [show T3.heap = T3.heap from rfl]; exact RE), hRW.1, hRW.2.1, hRW.2.2.1, hRW.2.2.2.mono (by decide) (by decide)⟩
  · exact X3.returnOut hx Bd.returns (hb hby d2_9) hr
  · show Q_rm_sn0 Z ra rb ka h0 n0 _ T3.heap _
    exact ⟨ry_3, ky_3, rfl, N3, K3, f3_0, f3_1, f3_2, f3_3⟩
def own_lst (n a b : Int32) : List Int32 := if n = (0 : Int32) then [] else (if n = (1 : Int32) then [(nar .byte (a.toInt8.toInt32))] else [(nar .byte ((nar .char a).toInt8.toInt32)), (nar .byte ((nar .char b).toInt8.toInt32))])
theorem d1_0 : decode method_2_code 0 = .ok (.iload_n 0, 1) := by decide +kernel
theorem d1_1 : decode method_2_code 1 = .ok (.ifCond .ne 14, 3) := by decide +kernel
theorem d1_4 : decode method_2_code 4 = .ok (.new 7, 3) := by decide +kernel
theorem d1_7 : decode method_2_code 7 = .ok (.dup, 1) := by decide +kernel
theorem d1_8 : decode method_2_code 8 = .ok (.iconst 0, 1) := by decide +kernel
theorem d1_9 : decode method_2_code 9 = .ok (.newarray .char, 2) := by decide +kernel
theorem d1_11 : decode method_2_code 11 = .ok (.invokespecial 9, 3) := by decide +kernel
theorem pd9 : parseMethodDescriptor "([C)V" = some ⟨[(.array .char)], none⟩ := by decide +kernel
theorem d1_14 : decode method_2_code 14 = .ok (.areturn, 1) := by decide +kernel
theorem d1_15 : decode method_2_code 15 = .ok (.iload_n 0, 1) := by decide +kernel
theorem d1_16 : decode method_2_code 16 = .ok (.iconst 1, 1) := by decide +kernel
theorem d1_17 : decode method_2_code 17 = .ok (.if_icmp .ne 8, 3) := by decide +kernel
theorem d1_20 : decode method_2_code 20 = .ok (.iload_n 1, 1) := by decide +kernel
theorem d1_21 : decode method_2_code 21 = .ok (.invokestatic 12, 3) := by decide +kernel
theorem pd10 : parseMethodDescriptor "(C)Ljava/lang/String;" = some ⟨[.char], some (.object "java/lang/String")⟩ := by decide +kernel
theorem d1_24 : decode method_2_code 24 = .ok (.areturn, 1) := by decide +kernel
theorem d1_25 : decode method_2_code 25 = .ok (.new 7, 3) := by decide +kernel
theorem d1_28 : decode method_2_code 28 = .ok (.dup, 1) := by decide +kernel
theorem d1_29 : decode method_2_code 29 = .ok (.iconst 2, 1) := by decide +kernel
theorem d1_30 : decode method_2_code 30 = .ok (.newarray .char, 2) := by decide +kernel
theorem d1_32 : decode method_2_code 32 = .ok (.dup, 1) := by decide +kernel
theorem d1_33 : decode method_2_code 33 = .ok (.iconst 0, 1) := by decide +kernel
theorem d1_34 : decode method_2_code 34 = .ok (.iload_n 1, 1) := by decide +kernel
theorem d1_35 : decode method_2_code 35 = .ok (.castore, 1) := by decide +kernel
theorem d1_36 : decode method_2_code 36 = .ok (.dup, 1) := by decide +kernel
theorem d1_37 : decode method_2_code 37 = .ok (.iconst 1, 1) := by decide +kernel
theorem d1_38 : decode method_2_code 38 = .ok (.iload_n 2, 1) := by decide +kernel
theorem d1_39 : decode method_2_code 39 = .ok (.castore, 1) := by decide +kernel
theorem d1_40 : decode method_2_code 40 = .ok (.invokespecial 9, 3) := by decide +kernel
theorem d1_43 : decode method_2_code 43 = .ok (.areturn, 1) := by decide +kernel
theorem ef_rm_str (m : MethodId) (xn : Int32) (xc0 : Int32) (xc1 : Int32) : entryFrame m #[(.int xn), (.int xc0), (.int xc1)] 3 = mkF m 0 #[.val (.int xn), .val (.int xc0), .val (.int xc1)] [] := by first | (simp [entryFrame, mkF, argsToLocals, Value.category]; done) | rfl
def Q_rm_str (Z : State) (xn : Int32) (xc0 : Int32) (xc1 : Int32) (xcs : Int32) (h0 : Heap) (n0 : Nat) (v : Option Value) (h : Heap) (L : List Loc) : Prop := ∃ ry : Addr, ∃ ky : ClassId, ∃ bo : Addr, v = some (.ref bo) ∧ Fr n0 L ∧ n0 ≤ bo ∧ h0.size ≤ bo ∧ Keep h0 h ([] : List Addr) ∧ Exa Z h bo "java/lang/String" ∧ Fld Z h bo "java/lang/String" "value" "[B" (.ref ry) ∧ Fld Z h bo "java/lang/String" "coder" "B" (.int (0 : Int32)) ∧ Arv Z h ry ky .byte xn ((own_lst xn xc0 xc1).map Value.int) (.int (0 : Int32))
set_option maxRecDepth 65536 in
set_option maxHeartbeats 40000000 in
theorem rm_str (l : Launch) (Z : State) (a0 : Array Value) (hw : ∀ d ∈ tables_1, d.before a0 Z = true) (ws : List Jvm.Cond) (xn : Int32) (xc0 : Int32) (xc1 : Int32) (xcs : Int32) (h0 : Heap) (n0 : Nat) (Z0 : n0 ≤ h0.size) (SC : Sta Z h0 "java/lang/String" "COMPACT_STRINGS" "Z" (.int xcs)) (hcs : ¬ (xcs = (0 : Int32))) (hc0 : ¬ ((255 : Int32) < xc0)) (hd0 : ¬ ((255 : Int32) < (nar .char xc0))) (hd1 : ¬ ((255 : Int32) < (nar .char xc1))) (hln : ¬ (xn = (0 : Int32)) → ¬ (xn = (1 : Int32)) → xn = (2 : Int32)) :
    MetFree l (⟨"com/example/feuillet/feuillet/input/ElementIsPinLaw", "str", "(ICC)Ljava/lang/String;"⟩ : MethodName) (head1 (Jvm.Cond.code (⟨"com/example/feuillet/feuillet/input/ElementIsPinLaw", "str", "(ICC)Ljava/lang/String;"⟩ : MethodName) method_2_code 3 (some (.object "java/lang/String")) :: ws) ({ frames := 4, cells := 6, slots := 12, locals := 66 } : Room)) (fun a U => a = #[(.int xn), (.int xc0), (.int xc1)] ∧ Z.Warmed39 U.vm ∧ U.heap = h0 ∧ CHv Z own_EL U.vm h0) (fun _ _ _ _ _ => True) (fun _ U o U' => ∃ v L, o = .returned v ∧ Q_rm_str Z xn xc0 xc1 xcs h0 n0 v U'.heap L ∧ CHr Z own_EL U.vm U.heap U'.vm U'.heap ∧ ReturnedEndW U o U' L ({ frames := 4, cells := 6, slots := 12, locals := 66 } : Room).cells ({ frames := 4, cells := 6, slots := 12, locals := 66 } : Room).slots) := by
  refine MetFree.of_bodySF (plainFor_of_name pn4) hisR ?_
  intro p e s m args below meth c s₁ Bd hml0 hP hK
  obtain ⟨rfl, hZ, hh, HC0⟩ := hP
  have hx := Bd.exec
  have hby := Bd.bytes
  have hml : c.maxLocals = 3 := hml0
  have hown : s.vm.findClass "com/example/feuillet/feuillet/input/ElementIsPinLaw" = some m.cls := findClass_of_methodNamed Bd.named
  have hnm := (name_of_methodNamed Bd.named Bd.method).1
  have X0 : Stand p l e ({ frames := 4, cells := 6, slots := 12, locals := 66 } : Room) (s.setVm s.vm) m #[(.int xn), (.int xc0), (.int xc1)] below meth c s₁ [] 0 0 := Stand.of_body Bd
  have hS0 : s.Since s.vm 0 := State.WarmedH.since (State.WarmedH.refl s) 0
  have hk0 : 0 ≤ h0.size := Nat.zero_le _
  have hEL : EW Z a0 own_EL := EW.cons (hw _ (List.mem_of_getElem? (i := 59) rfl)) (by decide) (EW.cons (hw _ (List.mem_of_getElem? (i := 18) rfl)) (by decide) EW.nil)
  have wS : ∀ d ∈ Bundle.stringAtoms, d.before a0 Z = true := fun d hd => hw d ((by decide +kernel : ∀ d ∈ Bundle.stringAtoms, d ∈ tables_1) d hd)
  have hown : (s.setVm s.vm).vm.findClass "com/example/feuillet/feuillet/input/ElementIsPinLaw" = some m.cls := hown
  have hZ : Z.Warmed39 (s.setVm s.vm).vm := hZ
  have e0 : s₁.heap = h0 := by rw [← hh, Bd.state]; rfl
  have N0 := Fr.nil n0
  have pre0 : ∀ t, Steps p.tables e below (s₁.setTop (mkF m 0 #[.val (.int xn), .val (.int xc0), .val (.int xc1)] [])) t → Steps p.tables e below (s₁.setTop (entryFrame m #[(.int xn), (.int xc0), (.int xc1)] 3)) t := fun t k => castTop (ef_rm_str m xn xc0 xc1) k
  have pre1 : ∀ t, Steps p.tables e below (s₁.setTop (mkF m 1 #[.val (.int xn), .val (.int xc0), .val (.int xc1)] [(.int xn)])) t → Steps p.tables e below (s₁.setTop (entryFrame m #[(.int xn), (.int xc0), (.int xc1)] 3)) t := by
    intro t k
    refine pre0 t ?_
    refine XS.iloadN X0.here hx rfl (hb hby d1_0) rfl ?_
    show Steps p.tables e below (s₁.setTop (mkF m 1 #[.val (.int xn), .val (.int xc0), .val (.int xc1)] [(.int xn)])) _
    exact k
  by_cases hc1 : xn = (0 : Int32)
  · have pre2 : ∀ t, Steps p.tables e below (s₁.setTop (mkF m 4 #[.val (.int xn), .val (.int xc0), .val (.int xc1)] [])) t → Steps p.tables e below (s₁.setTop (entryFrame m #[(.int xn), (.int xc0), (.int xc1)] 3)) t := by
      intro t k
      refine pre1 t ?_
      refine XS.ifNo X0.here hx rfl (hb hby d1_1) rfl ((if0 _ _).trans (teq hc1).2) ?_
      show Steps p.tables e below (s₁.setTop (mkF m 4 #[.val (.int xn), .val (.int xc0), .val (.int xc1)] [])) _
      exact k
    obtain ⟨T3, h3, X3, e3, E3, A3, D3, -, st3⟩ := newO X0 hx hZ hown (hw _ (List.mem_of_getElem? (i := 4) rfl)) (hw _ (List.mem_of_getElem? (i := 5) rfl)) (hw _ (List.mem_of_getElem? (i := 6) rfl)) e0 (g := (mkF m 4 #[.val (.int xn), .val (.int xc0), .val (.int xc1)] [])) rfl (hb hby d1_4) (by decide) (by decide)
    obtain ⟨b3, g3⟩ : ∃ z, z = h0.size := ⟨_, rfl⟩
    rw [← g3] at A3 D3 st3
    have g_b3 : n0 ≤ b3 := Nat.le_trans Z0 (Nat.le_of_eq g3.symm)
    have sz_b3 : h0.size ≤ b3 := Nat.le_trans (Keep.refl h0 ([] : List Addr)).1 (Nat.le_of_eq g3.symm)
    have sf3_b3 := Safe.ext E3 HC0 (Safe.new (Nat.le_of_eq g3.symm))
    have RC3 := CHr.trans (CHr.refl HC0) (CHr.ext E3 HC0)
    have HC3 := CHv.ext E3 HC0
    have hk3 := Nat.le_trans hk0 E3.1
    have K3 : Keep h0 h3 ([] : List Addr) := (Keep.refl h0 ([] : List Addr)).ext E3
    have z3 : n0 ≤ h3.size := Nat.le_trans Z0 K3.1
    have F_value_b3 : Fld Z h3 b3 "java/lang/String" "value" "[B" .null := D3 (Or.inr (hw _ (List.mem_of_getElem? (i := 20) rfl))) (ty := (.array .byte)) (by decide)
    have F_coder_b3 : Fld Z h3 b3 "java/lang/String" "coder" "B" (.int (0 : Int32)) := D3 (Or.inr (hw _ (List.mem_of_getElem? (i := 21) rfl))) (ty := .byte) (by decide)
    have X3 : Stand p l e _ _ m _ below meth c T3 _ 1 4 := X3
    have pre4 : ∀ t, Steps p.tables e below (T3.setTop (mkF m 7 #[.val (.int xn), .val (.int xc0), .val (.int xc1)] [(.ref b3)])) t → Steps p.tables e below (s₁.setTop (entryFrame m #[(.int xn), (.int xc0), (.int xc1)] 3)) t := fun t k => pre2 t (st3 t k)
    have pre5 : ∀ t, Steps p.tables e below (T3.setTop (mkF m 9 #[.val (.int xn), .val (.int xc0), .val (.int xc1)] [(.int (0 : Int32)), (.ref b3), (.ref b3)])) t → Steps p.tables e below (s₁.setTop (entryFrame m #[(.int xn), (.int xc0), (.int xc1)] 3)) t := by
      intro t k
      refine pre4 t ?_
      refine XS.dup X3.here hx rfl (hb hby d1_7) rfl rfl ?_
      show Steps p.tables e below (T3.setTop (mkF m 8 #[.val (.int xn), .val (.int xc0), .val (.int xc1)] [(.ref b3), (.ref b3)])) _
      refine XS.iconst X3.here hx rfl (hb hby d1_8) ?_
      show Steps p.tables e below (T3.setTop (mkF m 9 #[.val (.int xn), .val (.int xc0), .val (.int xc1)] [(.int (0 : Int32)), (.ref b3), (.ref b3)])) _
      exact k
    obtain ⟨T6, h6, k6, X6, e6, E6, A6, st6⟩ := newP X3 hx hZ (hw _ (List.mem_of_getElem? (i := 7) rfl)) e3 (g := (mkF m 9 #[.val (.int xn), .val (.int xc0), .val (.int xc1)] [(.int (0 : Int32)), (.ref b3), (.ref b3)])) rfl (hb hby d1_9) rfl (by decide) (cap := 0) (by decide) (by decide) (by decide) (by decide)
    obtain ⟨b6, g6⟩ : ∃ z, z = h3.size := ⟨_, rfl⟩
    rw [← g6] at A6 st6
    have g_b6 : n0 ≤ b6 := Nat.le_trans z3 (Nat.le_of_eq g6.symm)
    have sz_b6 : h0.size ≤ b6 := Nat.le_trans K3.1 (Nat.le_of_eq g6.symm)
    have sf6_b3 := Safe.ext E6 HC3 sf3_b3
    have sf6_b6 := Safe.ext E6 HC3 (Safe.new (Nat.le_of_eq g6.symm))
    have RC6 := CHr.trans RC3 (CHr.ext E6 HC3)
    have HC6 := CHv.ext E6 HC3
    have hk6 := Nat.le_trans hk3 E6.1
    have K6 : Keep h0 h6 ([] : List Addr) := K3.ext E6
    have z6 : n0 ≤ h6.size := Nat.le_trans Z0 K6.1
    have V_b6 : Arv Z h6 b6 k6 .char (0 : Int32) [] (.int (0 : Int32)) := (Arv.new A6 (by decide)).pad (pad_rep [] (.int (0 : Int32)) 0)
    have X6 : Stand p l e _ _ m _ below meth c T6 _ 2 4 := X6
    have pre7 : ∀ t, Steps p.tables e below (T6.setTop (mkF m 11 #[.val (.int xn), .val (.int xc0), .val (.int xc1)] [(.ref b6), (.ref b3), (.ref b3)])) t → Steps p.tables e below (s₁.setTop (entryFrame m #[(.int xn), (.int xc0), (.int xc1)] 3)) t := fun t k => pre5 t (st6 t k)
    have f8 := (A3.ext E6)
    have f9 := (F_value_b3.ext E6)
    have f10 := (F_coder_b3.ext E6)
    obtain ⟨_, _, ⟨T11, L11, k11, n11⟩, -, X11, hs11, gz11, ⟨Lc11, hQ11, l11, y11, z11, CR11⟩, st11⟩ := X6.specialBackS hx (y := (⟨"java/lang/String", "<init>", "([C)V"⟩ : MethodName)) rfl hown (mvT hZ (hw _ (List.mem_of_getElem? (i := 8) rfl))) (mvT hZ (hw _ (List.mem_of_getElem? (i := 9) rfl))) (mvT hZ (hw _ (List.mem_of_getElem? (i := 10) rfl))) (by decide) (own_backSH (W := 1) (rm_sn0 l Z a0 hw [] b3 b6 k6 h6 n0 z6 f8 (g_b3) f9 f10 V_b6) hZ (hw _ (List.mem_of_getElem? (i := 10) rfl)) (hw _ (List.mem_of_getElem? (i := 6) rfl)) (by decide) (by decide) hEL HC6 (allS (P := fun x => x < _) f8.lt all0) (allS (P := fun x => Safe Z own_EL _ _ x) sf6_b3 all0)) (g := (mkF m 11 #[.val (.int xn), .val (.int xc0), .val (.int xc1)] [(.ref b6), (.ref b3), (.ref b3)])) rfl (by rw [hml]; rfl) (Steps.refl _) (a := b3) (argsL := [(.ref b6)]) (rest := [(.ref b3)]) (lenOf pd9 rfl) rfl (by show 2 * 0 + _ ≤ _; exact Nat.le_of_eq rfl) (hb hby d1_11) (fun _ _ => ⟨rfl, e6, (by decide : 2 + 4 ≤ _), (by decide : 4 + 8 ≤ _)⟩)
    dsimp only [Pt.U, Pt.locs, Pt.cells, Pt.slots] at X11 l11 y11 z11 st11 hQ11 hs11 gz11 CR11
    subst y11 z11
    obtain ⟨X11, hS11, hZ, hown⟩ := rebS hS0 (Nat.le_trans hk6 (Nat.le_of_eq (congrArg Array.size (show _ = h6 from e6)).symm)) X11 hs11 gz11 hZ hown
    have hk11 := Nat.le_refl T11.heap.size
    have sf11_b3 := CHr.safe CR11 f8.lt sf6_b3
    have sf11_b6 := CHr.safe CR11 V_b6.lt sf6_b6
    have RC11 := CHr.trans RC6 CR11
    obtain ⟨ry_11, ky_11, rfl, M11, kp11, f11_0, f11_1, f11_2, f11_3⟩ := hQ11
    have K11 : Keep h0 T11.heap ([] : List Addr) := K6.trans kp11 (allS (P := fun x => x ∈ ([] : List Addr) ∨ h0.size ≤ x) (Or.inr sz_b3) all0)
    have zz11 : n0 ≤ T11.heap.size := Nat.le_trans Z0 K11.1
    have N11 : Fr n0 L11 := by rw [l11]; exact Fr.app N0 M11
    clear l11
    have X11 : Stand p l e _ _ m _ below meth c T11 _ 6 12 := X11
    have pre12 : ∀ t, Steps p.tables e below (T11.setTop (mkF m 14 #[.val (.int xn), .val (.int xc0), .val (.int xc1)] [(.ref b3)])) t → Steps p.tables e below (s₁.setTop (entryFrame m #[(.int xn), (.int xc0), (.int xc1)] 3)) t := fun t k => pre7 t (st11.trans k)
    obtain ⟨fs, hr, hrun, hended, hRW⟩ := X11.leaveW hS11 (Nat.le_trans hk11 (Nat.le_of_eq (congrArg Array.size (show _ = T11.heap from rfl)).symm)) (v := some (.ref b3)) (fun h => by rw [Bd.returns] at h; cases h)
    have RE := CHr.trans RC11 (CHv.at X11 hZ hEL CR11.1)
    refine ⟨_, _, pre12 _ ?_, hrun, hended, _, _, rfl, ?_, (by rw [hh]; show CHr Z own_EL s.vm h0 T11.vm T11.heap; rw [show T11.heap = T11.heap from rfl]; exact RE), hRW.1, hRW.2.1, hRW.2.2.1, hRW.2.2.2.mono (by decide) (by decide)⟩
    · exact retOut X11 hx Bd.returns rfl (Or.inr (Or.inr (Or.inr (Or.inr ⟨rfl, rfl, rfl⟩)))) (hb hby d1_14) hr
    · show Q_rm_str Z xn xc0 xc1 xcs h0 n0 _ T11.heap _
      exact ⟨ry_11, ky_11, b3, rfl, N11, g_b3, sz_b3, K11, f11_0, f11_1, f11_2, (by rw [own_lst, if_pos hc1, hc1]; exact f11_3)⟩
  · have pre13 : ∀ t, Steps p.tables e below (s₁.setTop (mkF m 17 #[.val (.int xn), .val (.int xc0), .val (.int xc1)] [(.int (1 : Int32)), (.int xn)])) t → Steps p.tables e below (s₁.setTop (entryFrame m #[(.int xn), (.int xc0), (.int xc1)] 3)) t := by
      intro t k
      refine pre1 t ?_
      refine XS.ifYes X0.here hx rfl (pc0 := 1) (pc' := 15) rfl (hb hby d1_1) rfl ((if0 _ _).trans (feq hc1).2) (by decide) (by decide) ?_
      show Steps p.tables e below (s₁.setTop (mkF m 15 #[.val (.int xn), .val (.int xc0), .val (.int xc1)] [])) _
      refine XS.iloadN X0.here hx rfl (hb hby d1_15) rfl ?_
      show Steps p.tables e below (s₁.setTop (mkF m 16 #[.val (.int xn), .val (.int xc0), .val (.int xc1)] [(.int xn)])) _
      refine XS.iconst X0.here hx rfl (hb hby d1_16) ?_
      show Steps p.tables e below (s₁.setTop (mkF m 17 #[.val (.int xn), .val (.int xc0), .val (.int xc1)] [(.int (1 : Int32)), (.int xn)])) _
      exact k
    by_cases hc17 : xn = (1 : Int32)
    · have pre14 : ∀ t, Steps p.tables e below (s₁.setTop (mkF m 21 #[.val (.int xn), .val (.int xc0), .val (.int xc1)] [(.int xc0)])) t → Steps p.tables e below (s₁.setTop (entryFrame m #[(.int xn), (.int xc0), (.int xc1)] 3)) t := by
        intro t k
        refine pre13 t ?_
        refine XS.icmpNo X0.here hx rfl (hb hby d1_17) rfl (teq hc17).2 ?_
        show Steps p.tables e below (s₁.setTop (mkF m 20 #[.val (.int xn), .val (.int xc0), .val (.int xc1)] [])) _
        refine XS.iloadN X0.here hx rfl (hb hby d1_20) rfl ?_
        show Steps p.tables e below (s₁.setTop (mkF m 21 #[.val (.int xn), .val (.int xc0), .val (.int xc1)] [(.int xc0)])) _
        exact k
      obtain ⟨_, _, ⟨T15, L15, k15, n15⟩, -, X15, ⟨Lc15, hQ15, l15, y15, z15⟩, st15⟩ := Jvm.LawKit.callS X0 hx (y := (⟨"java/lang/String", "valueOf", "(C)Ljava/lang/String;"⟩ : MethodName)) hown (mvT hZ (hw _ (List.mem_of_getElem? (i := 93) rfl))) (mvT hZ (hw _ (List.mem_of_getElem? (i := 94) rfl))) (mvT hZ (hw _ (List.mem_of_getElem? (i := 6) rfl))) (mvT hZ (hw _ (List.mem_of_getElem? (i := 95) rfl))) (by decide) (backOf (W := 0) (rm_sval l Z a0 hw [] xc0 xcs h0 n0 Z0 SC (hcs) (hc0)) hZ (hw _ (List.mem_of_getElem? (i := 95) rfl)) (hw _ (List.mem_of_getElem? (i := 6) rfl)) (by decide) (by decide)) (g := (mkF m 21 #[.val (.int xn), .val (.int xc0), .val (.int xc1)] [(.int xc0)])) rfl (by rw [hml]; rfl) (argsL := [(.int xc0)]) (rest := []) (lenOf pd10 rfl) rfl (by show 2 * 0 + _ ≤ _; exact Nat.le_of_eq rfl) (hb hby d1_21) (fun _ _ => ⟨rfl, e0, (by decide : 0 + 2 ≤ _), (by decide : 0 + 5 ≤ _)⟩)
      dsimp only [Pt.U, Pt.locs, Pt.cells, Pt.slots] at X15 l15 y15 z15 st15 hQ15
      subst y15 z15
      obtain ⟨ry_15, ky_15, b15, rfl, M15, g_b15, zs15, kp15, f15_0, f15_1, f15_2, f15_3⟩ := hQ15
      have sz_b15 : h0.size ≤ b15 := Nat.le_trans (Keep.refl h0 ([] : List Addr)).1 zs15
      have hs15 : ∀ x ∈ ([] : List Addr), Safe Z own_EL s.vm h0 x := all0
      have RC15 := CHr.trans (CHr.refl HC0) (CHr.keep kp15 hs15 HC0)
      have HC15 := CHv.keep kp15 hs15 HC0
      have hk15 := Nat.le_trans hk0 kp15.1
      have K15 : Keep h0 T15.heap ([] : List Addr) := (Keep.refl h0 ([] : List Addr)).trans kp15 all0
      have zz15 : n0 ≤ T15.heap.size := Nat.le_trans Z0 K15.1
      have N15 : Fr n0 L15 := by rw [l15]; exact Fr.app N0 M15
      clear l15
      have X15 : Stand p l e _ _ m _ below meth c T15 _ 2 5 := X15
      have pre16 : ∀ t, Steps p.tables e below (T15.setTop (mkF m 24 #[.val (.int xn), .val (.int xc0), .val (.int xc1)] [(.ref b15)])) t → Steps p.tables e below (s₁.setTop (entryFrame m #[(.int xn), (.int xc0), (.int xc1)] 3)) t := fun t k => pre14 t (st15 t k)
      obtain ⟨fs, hr, hrun, hended, hRW⟩ := X15.leaveW hS0 (Nat.le_trans hk15 (Nat.le_of_eq (congrArg Array.size (show _ = T15.heap from rfl)).symm)) (v := some (.ref b15)) (fun h => by rw [Bd.returns] at h; cases h)
      have RE := CHr.trans RC15 (CHv.at X15 hZ hEL HC15)
      refine ⟨_, _, pre16 _ ?_, hrun, hended, _, _, rfl, ?_, (by rw [hh]; show CHr Z own_EL s.vm h0 T15.vm T15.heap; rw [show T15.heap = T15.heap from rfl]; exact RE), hRW.1, hRW.2.1, hRW.2.2.1, hRW.2.2.2.mono (by decide) (by decide)⟩
      · exact retOut X15 hx Bd.returns rfl (Or.inr (Or.inr (Or.inr (Or.inr ⟨rfl, rfl, rfl⟩)))) (hb hby d1_24) hr
      · show Q_rm_str Z xn xc0 xc1 xcs h0 n0 _ T15.heap _
        exact ⟨ry_15, ky_15, b15, rfl, N15, g_b15, sz_b15, K15, f15_0, f15_1, f15_2, (by rw [own_lst, if_neg hc1, if_pos hc17, hc17]; exact f15_3)⟩
    · have pre17 : ∀ t, Steps p.tables e below (s₁.setTop (mkF m 25 #[.val (.int xn), .val (.int xc0), .val (.int xc1)] [])) t → Steps p.tables e below (s₁.setTop (entryFrame m #[(.int xn), (.int xc0), (.int xc1)] 3)) t := by
        intro t k
        refine pre13 t ?_
        refine XS.icmpYes X0.here hx rfl (pc0 := 17) (pc' := 25) rfl (hb hby d1_17) rfl (feq hc17).2 (by decide) (by decide) ?_
        show Steps p.tables e below (s₁.setTop (mkF m 25 #[.val (.int xn), .val (.int xc0), .val (.int xc1)] [])) _
        exact k
      obtain ⟨T18, h18, X18, e18, E18, A18, D18, -, st18⟩ := newO X0 hx hZ hown (hw _ (List.mem_of_getElem? (i := 4) rfl)) (hw _ (List.mem_of_getElem? (i := 5) rfl)) (hw _ (List.mem_of_getElem? (i := 6) rfl)) e0 (g := (mkF m 25 #[.val (.int xn), .val (.int xc0), .val (.int xc1)] [])) rfl (hb hby d1_25) (by decide) (by decide)
      obtain ⟨b18, g18⟩ : ∃ z, z = h0.size := ⟨_, rfl⟩
      rw [← g18] at A18 D18 st18
      have g_b18 : n0 ≤ b18 := Nat.le_trans Z0 (Nat.le_of_eq g18.symm)
      have sz_b18 : h0.size ≤ b18 := Nat.le_trans (Keep.refl h0 ([] : List Addr)).1 (Nat.le_of_eq g18.symm)
      have sf18_b18 := Safe.ext E18 HC0 (Safe.new (Nat.le_of_eq g18.symm))
      have RC18 := CHr.trans (CHr.refl HC0) (CHr.ext E18 HC0)
      have HC18 := CHv.ext E18 HC0
      have hk18 := Nat.le_trans hk0 E18.1
      have K18 : Keep h0 h18 ([] : List Addr) := (Keep.refl h0 ([] : List Addr)).ext E18
      have z18 : n0 ≤ h18.size := Nat.le_trans Z0 K18.1
      have F_value_b18 : Fld Z h18 b18 "java/lang/String" "value" "[B" .null := D18 (Or.inr (hw _ (List.mem_of_getElem? (i := 20) rfl))) (ty := (.array .byte)) (by decide)
      have F_coder_b18 : Fld Z h18 b18 "java/lang/String" "coder" "B" (.int (0 : Int32)) := D18 (Or.inr (hw _ (List.mem_of_getElem? (i := 21) rfl))) (ty := .byte) (by decide)
      have X18 : Stand p l e _ _ m _ below meth c T18 _ 1 4 := X18
      have pre19 : ∀ t, Steps p.tables e below (T18.setTop (mkF m 28 #[.val (.int xn), .val (.int xc0), .val (.int xc1)] [(.ref b18)])) t → Steps p.tables e below (s₁.setTop (entryFrame m #[(.int xn), (.int xc0), (.int xc1)] 3)) t := fun t k => pre17 t (st18 t k)
      have pre20 : ∀ t, Steps p.tables e below (T18.setTop (mkF m 30 #[.val (.int xn), .val (.int xc0), .val (.int xc1)] [(.int (2 : Int32)), (.ref b18), (.ref b18)])) t → Steps p.tables e below (s₁.setTop (entryFrame m #[(.int xn), (.int xc0), (.int xc1)] 3)) t := by
        intro t k
        refine pre19 t ?_
        refine XS.dup X18.here hx rfl (hb hby d1_28) rfl rfl ?_
        show Steps p.tables e below (T18.setTop (mkF m 29 #[.val (.int xn), .val (.int xc0), .val (.int xc1)] [(.ref b18), (.ref b18)])) _
        refine XS.iconst X18.here hx rfl (hb hby d1_29) ?_
        show Steps p.tables e below (T18.setTop (mkF m 30 #[.val (.int xn), .val (.int xc0), .val (.int xc1)] [(.int (2 : Int32)), (.ref b18), (.ref b18)])) _
        exact k
      obtain ⟨T21, h21, k21, X21, e21, E21, A21, st21⟩ := newP X18 hx hZ (hw _ (List.mem_of_getElem? (i := 7) rfl)) e18 (g := (mkF m 30 #[.val (.int xn), .val (.int xc0), .val (.int xc1)] [(.int (2 : Int32)), (.ref b18), (.ref b18)])) rfl (hb hby d1_30) rfl (by decide) (cap := 2) (by decide) (by decide) (by decide) (by decide)
      obtain ⟨b21, g21⟩ : ∃ z, z = h18.size := ⟨_, rfl⟩
      rw [← g21] at A21 st21
      have g_b21 : n0 ≤ b21 := Nat.le_trans z18 (Nat.le_of_eq g21.symm)
      have sz_b21 : h0.size ≤ b21 := Nat.le_trans K18.1 (Nat.le_of_eq g21.symm)
      have sf21_b18 := Safe.ext E21 HC18 sf18_b18
      have sf21_b21 := Safe.ext E21 HC18 (Safe.new (Nat.le_of_eq g21.symm))
      have RC21 := CHr.trans RC18 (CHr.ext E21 HC18)
      have HC21 := CHv.ext E21 HC18
      have hk21 := Nat.le_trans hk18 E21.1
      have K21 : Keep h0 h21 ([] : List Addr) := K18.ext E21
      have z21 : n0 ≤ h21.size := Nat.le_trans Z0 K21.1
      have V_b21 : Arv Z h21 b21 k21 .char (2 : Int32) [(.int (0 : Int32)), (.int (0 : Int32))] (.int (0 : Int32)) := (Arv.new A21 (by decide)).pad (pad_rep [] (.int (0 : Int32)) 2)
      have X21 : Stand p l e _ _ m _ below meth c T21 _ 2 6 := X21
      have pre22 : ∀ t, Steps p.tables e below (T21.setTop (mkF m 32 #[.val (.int xn), .val (.int xc0), .val (.int xc1)] [(.ref b21), (.ref b18), (.ref b18)])) t → Steps p.tables e below (s₁.setTop (entryFrame m #[(.int xn), (.int xc0), (.int xc1)] 3)) t := fun t k => pre20 t (st21 t k)
      have pre23 : ∀ t, Steps p.tables e below (T21.setTop (mkF m 35 #[.val (.int xn), .val (.int xc0), .val (.int xc1)] [(.int xc0), (.int (0 : Int32)), (.ref b21), (.ref b21), (.ref b18), (.ref b18)])) t → Steps p.tables e below (s₁.setTop (entryFrame m #[(.int xn), (.int xc0), (.int xc1)] 3)) t := by
        intro t k
        refine pre22 t ?_
        refine XS.dup X21.here hx rfl (hb hby d1_32) rfl rfl ?_
        show Steps p.tables e below (T21.setTop (mkF m 33 #[.val (.int xn), .val (.int xc0), .val (.int xc1)] [(.ref b21), (.ref b21), (.ref b18), (.ref b18)])) _
        refine XS.iconst X21.here hx rfl (hb hby d1_33) ?_
        show Steps p.tables e below (T21.setTop (mkF m 34 #[.val (.int xn), .val (.int xc0), .val (.int xc1)] [(.int (0 : Int32)), (.ref b21), (.ref b21), (.ref b18), (.ref b18)])) _
        refine XS.iloadN X21.here hx rfl (hb hby d1_34) rfl ?_
        show Steps p.tables e below (T21.setTop (mkF m 35 #[.val (.int xn), .val (.int xc0), .val (.int xc1)] [(.int xc0), (.int (0 : Int32)), (.ref b21), (.ref b21), (.ref b18), (.ref b18)])) _
        exact k
      obtain ⟨c24, a24, q24, s24, m24, i24, u24⟩ := id V_b21
      obtain ⟨T25, h25, X25, e25, W25, st25⟩ := stC X21 hx hZ e21 a24 (j := (0 : Int32)) (inb_of s24 ⟨by decide, by decide⟩) (g := (mkF m 35 #[.val (.int xn), .val (.int xc0), .val (.int xc1)] [(.int xc0), (.int (0 : Int32)), (.ref b21), (.ref b21), (.ref b18), (.ref b18)])) rfl rfl (hb hby d1_35)
      have so25 := sf21_b21
      have sf25_b18 := Safe.wr W25 so25 HC21 sf21_b18
      have sf25_b21 := Safe.wr W25 so25 HC21 sf21_b21
      have RC25 := CHr.trans RC21 (CHr.wr W25 so25 HC21)
      have HC25 := CHv.wr W25 so25 HC21
      have hk25 := Nat.le_trans hk21 (Keep.of_wr W25).1
      have K25 : Keep h0 h25 ([] : List Addr) := K21.wr W25 (Or.inr sz_b21)
      have z25 : n0 ≤ h25.size := Nat.le_trans Z0 K25.1
      have N25 := Fr.snoc X25 N0 g_b21
      have V25 : Arv Z h25 b21 k21 .char (2 : Int32) [(.int (nar .char xc0)), (.int (0 : Int32))] (.int (0 : Int32)) := Arv.set a24 q24 s24 m24 i24 u24 (fits_nar_char _) W25 0 rfl (Nat.le_of_ble_eq_true rfl)
      have pre26 : ∀ t, Steps p.tables e below (T25.setTop (mkF m 36 #[.val (.int xn), .val (.int xc0), .val (.int xc1)] [(.ref b21), (.ref b18), (.ref b18)])) t → Steps p.tables e below (s₁.setTop (entryFrame m #[(.int xn), (.int xc0), (.int xc1)] 3)) t := fun t k => pre23 t (st25 t k)
      have pre27 : ∀ t, Steps p.tables e below (T25.setTop (mkF m 39 #[.val (.int xn), .val (.int xc0), .val (.int xc1)] [(.int xc1), (.int (1 : Int32)), (.ref b21), (.ref b21), (.ref b18), (.ref b18)])) t → Steps p.tables e below (s₁.setTop (entryFrame m #[(.int xn), (.int xc0), (.int xc1)] 3)) t := by
        intro t k
        refine pre26 t ?_
        refine XS.dup X25.here hx rfl (hb hby d1_36) rfl rfl ?_
        show Steps p.tables e below (T25.setTop (mkF m 37 #[.val (.int xn), .val (.int xc0), .val (.int xc1)] [(.ref b21), (.ref b21), (.ref b18), (.ref b18)])) _
        refine XS.iconst X25.here hx rfl (hb hby d1_37) ?_
        show Steps p.tables e below (T25.setTop (mkF m 38 #[.val (.int xn), .val (.int xc0), .val (.int xc1)] [(.int (1 : Int32)), (.ref b21), (.ref b21), (.ref b18), (.ref b18)])) _
        refine XS.iloadN X25.here hx rfl (hb hby d1_38) rfl ?_
        show Steps p.tables e below (T25.setTop (mkF m 39 #[.val (.int xn), .val (.int xc0), .val (.int xc1)] [(.int xc1), (.int (1 : Int32)), (.ref b21), (.ref b21), (.ref b18), (.ref b18)])) _
        exact k
      obtain ⟨c28, a28, q28, s28, m28, i28, u28⟩ := id V25
      obtain ⟨T29, h29, X29, e29, W29, st29⟩ := stC X25 hx hZ e25 a28 (j := (1 : Int32)) (inb_of s28 ⟨by decide, by decide⟩) (g := (mkF m 39 #[.val (.int xn), .val (.int xc0), .val (.int xc1)] [(.int xc1), (.int (1 : Int32)), (.ref b21), (.ref b21), (.ref b18), (.ref b18)])) rfl rfl (hb hby d1_39)
      have so29 := sf25_b21
      have sf29_b18 := Safe.wr W29 so29 HC25 sf25_b18
      have sf29_b21 := Safe.wr W29 so29 HC25 sf25_b21
      have RC29 := CHr.trans RC25 (CHr.wr W29 so29 HC25)
      have HC29 := CHv.wr W29 so29 HC25
      have hk29 := Nat.le_trans hk25 (Keep.of_wr W29).1
      have K29 : Keep h0 h29 ([] : List Addr) := K25.wr W29 (Or.inr sz_b21)
      have z29 : n0 ≤ h29.size := Nat.le_trans Z0 K29.1
      have N29 := Fr.snoc X29 N25 g_b21
      have V29 : Arv Z h29 b21 k21 .char (2 : Int32) [(.int (nar .char xc0)), (.int (nar .char xc1))] (.int (0 : Int32)) := Arv.set a28 q28 s28 m28 i28 u28 (fits_nar_char _) W29 1 rfl (Nat.le_of_ble_eq_true rfl)
      have pre30 : ∀ t, Steps p.tables e below (T29.setTop (mkF m 40 #[.val (.int xn), .val (.int xc0), .val (.int xc1)] [(.ref b21), (.ref b18), (.ref b18)])) t → Steps p.tables e below (s₁.setTop (entryFrame m #[(.int xn), (.int xc0), (.int xc1)] 3)) t := fun t k => pre27 t (st29 t k)
      have f31 := (((A18.ext E21).wr W25).wr W29)
      have f32 := (((F_value_b18.ext E21).other W25 (Or.inl (Nat.ne_of_lt (Nat.lt_of_lt_of_le A18.lt (Nat.le_of_eq g21.symm))))).other W29 (Or.inl (Nat.ne_of_lt (Nat.lt_of_lt_of_le A18.lt (Nat.le_of_eq g21.symm)))))
      have f33 := (((F_coder_b18.ext E21).other W25 (Or.inl (Nat.ne_of_lt (Nat.lt_of_lt_of_le A18.lt (Nat.le_of_eq g21.symm))))).other W29 (Or.inl (Nat.ne_of_lt (Nat.lt_of_lt_of_le A18.lt (Nat.le_of_eq g21.symm)))))
      have f34 := ((((SC.ext E18).ext E21).wr W25).wr W29)
      obtain ⟨_, _, ⟨T35, L35, k35, n35⟩, -, X35, ⟨Lc35, hQ35, l35, y35, z35⟩, st35⟩ := X29.specialBack hx (y := (⟨"java/lang/String", "<init>", "([C)V"⟩ : MethodName)) rfl hown (mvT hZ (hw _ (List.mem_of_getElem? (i := 8) rfl))) (mvT hZ (hw _ (List.mem_of_getElem? (i := 9) rfl))) (mvT hZ (hw _ (List.mem_of_getElem? (i := 10) rfl))) (by decide) (backOf (W := 1) (rm_sn2 l Z a0 hw [] b18 b21 k21 xcs (nar .char xc0) (nar .char xc1) h29 n0 z29 f31 (g_b18) f32 f33 V29 f34 (hcs) ((Ne.symm (Nat.ne_of_lt (Nat.lt_of_lt_of_le A18.lt (Nat.le_of_eq g21.symm))))) (hd0) (hd1)) hZ (hw _ (List.mem_of_getElem? (i := 10) rfl)) (hw _ (List.mem_of_getElem? (i := 6) rfl)) (by decide) (by decide)) (g := (mkF m 40 #[.val (.int xn), .val (.int xc0), .val (.int xc1)] [(.ref b21), (.ref b18), (.ref b18)])) rfl (by rw [hml]; rfl) (Steps.refl _) (a := b18) (argsL := [(.ref b21)]) (rest := [(.ref b18)]) (lenOf pd9 rfl) rfl (by show 2 * 0 + _ ≤ _; exact Nat.le_of_eq rfl) (hb hby d1_40) (fun _ _ => ⟨rfl, e29, (by decide : 2 + 1 ≤ _), (by decide : 6 + 2 ≤ _)⟩)
      dsimp only [Pt.U, Pt.locs, Pt.cells, Pt.slots] at X35 l35 y35 z35 st35 hQ35
      subst y35 z35
      obtain ⟨ry_35, ky_35, rfl, M35, kp35, f35_0, f35_1, f35_2, f35_3⟩ := hQ35
      have hs35 : ∀ x ∈ [b18], Safe Z own_EL s.vm h29 x := (allS sf29_b18 all0)
      have sf35_b18 := Safe.keep kp35 hs35 HC29 sf29_b18
      have sf35_b21 := Safe.keep kp35 hs35 HC29 sf29_b21
      have RC35 := CHr.trans RC29 (CHr.keep kp35 hs35 HC29)
      have HC35 := CHv.keep kp35 hs35 HC29
      have hk35 := Nat.le_trans hk29 kp35.1
      have K35 : Keep h0 T35.heap ([] : List Addr) := K29.trans kp35 (allS (P := fun x => x ∈ ([] : List Addr) ∨ h0.size ≤ x) (Or.inr sz_b18) all0)
      have zz35 : n0 ≤ T35.heap.size := Nat.le_trans Z0 K35.1
      have N35 : Fr n0 L35 := by rw [l35]; exact Fr.app N29 M35
      clear l35
      have X35 : Stand p l e _ _ m _ below meth c T35 _ 3 8 := X35
      have pre36 : ∀ t, Steps p.tables e below (T35.setTop (mkF m 43 #[.val (.int xn), .val (.int xc0), .val (.int xc1)] [(.ref b18)])) t → Steps p.tables e below (s₁.setTop (entryFrame m #[(.int xn), (.int xc0), (.int xc1)] 3)) t := fun t k => pre30 t (st35.trans k)
      obtain ⟨fs, hr, hrun, hended, hRW⟩ := X35.leaveW hS0 (Nat.le_trans hk35 (Nat.le_of_eq (congrArg Array.size (show _ = T35.heap from rfl)).symm)) (v := some (.ref b18)) (fun h => by rw [Bd.returns] at h; cases h)
      have RE := CHr.trans RC35 (CHv.at X35 hZ hEL HC35)
      refine ⟨_, _, pre36 _ ?_, hrun, hended, _, _, rfl, ?_, (by rw [hh]; show CHr Z own_EL s.vm h0 T35.vm T35.heap; rw [show T35.heap = T35.heap from rfl]; exact RE), hRW.1, hRW.2.1, hRW.2.2.1, hRW.2.2.2.mono (by decide) (by decide)⟩
      · exact retOut X35 hx Bd.returns rfl (Or.inr (Or.inr (Or.inr (Or.inr ⟨rfl, rfl, rfl⟩)))) (hb hby d1_43) hr
      · show Q_rm_str Z xn xc0 xc1 xcs h0 n0 _ T35.heap _
        exact ⟨ry_35, ky_35, b18, rfl, N35, g_b18, sz_b18, K35, f35_0, f35_1, f35_2, (by rw [own_lst, if_neg hc1, if_neg hc17, hln hc1 hc17]; exact f35_3)⟩
theorem d8_0 : decode jdk_22_method_1_code 0 = .ok (.aload_n 0, 1) := by decide +kernel
theorem d8_1 : decode jdk_22_method_1_code 1 = .ok (.invokespecial 1, 3) := by decide +kernel
theorem d8_4 : decode jdk_22_method_1_code 4 = .ok (.return_, 1) := by decide +kernel
theorem pn5 : plainName "java/util/AbstractCollection" = true := by first | (simp [plainName, overriddenIn]; done) | decide +kernel
theorem ef_rm_ac (m : MethodId) (ra : Addr) : entryFrame m #[(.ref ra)] 1 = mkF m 0 #[.val (.ref ra)] [] := by first | (simp [entryFrame, mkF, argsToLocals, Value.category]; done) | rfl
def Q_rm_ac (Z : State) (ra : Addr) (h0 : Heap) (n0 : Nat) (v : Option Value) (h : Heap) (L : List Loc) : Prop := v = none ∧ Fr n0 L ∧ h = h0
set_option maxRecDepth 65536 in
set_option maxHeartbeats 40000000 in
theorem rm_ac (l : Launch) (Z : State) (a0 : Array Value) (hw : ∀ d ∈ tables_1, d.before a0 Z = true) (ws : List Jvm.Cond) (ra : Addr) (h0 : Heap) (n0 : Nat) (Z0 : n0 ≤ h0.size) :
    MetFree l (⟨"java/util/AbstractCollection", "<init>", "()V"⟩ : MethodName) (head1 (Jvm.Cond.code (⟨"java/util/AbstractCollection", "<init>", "()V"⟩ : MethodName) jdk_22_method_1_code 1 none :: ws) ({ frames := 1, cells := 0, slots := 0, locals := 12 } : Room)) (fun a U => a = #[(.ref ra)] ∧ Z.Warmed39 U.vm ∧ U.heap = h0) (fun _ _ _ _ _ => True) (fun _ U o U' => ∃ v L, o = .returned v ∧ Q_rm_ac Z ra h0 n0 v U'.heap L ∧ FrameEnd U o U' L ({ frames := 1, cells := 0, slots := 0, locals := 12 } : Room).cells ({ frames := 1, cells := 0, slots := 0, locals := 12 } : Room).slots) := by
  refine MetFree.of_bodySF (plainFor_of_name pn5) hisR ?_
  intro p e s m args below meth c s₁ Bd hml0 hP hK
  obtain ⟨rfl, hZ, hh⟩ := hP
  have hx := Bd.exec
  have hby := Bd.bytes
  have hml : c.maxLocals = 1 := hml0
  have hown : s.vm.findClass "java/util/AbstractCollection" = some m.cls := findClass_of_methodNamed Bd.named
  have hnm := (name_of_methodNamed Bd.named Bd.method).1
  have X0 : Stand p l e ({ frames := 1, cells := 0, slots := 0, locals := 12 } : Room) s m #[(.ref ra)] below meth c s₁ [] 0 0 := Stand.of_body Bd
  have e0 : s₁.heap = h0 := by rw [← hh, Bd.state]; rfl
  have N0 := Fr.nil n0
  have pre0 : ∀ t, Steps p.tables e below (s₁.setTop (mkF m 0 #[.val (.ref ra)] [])) t → Steps p.tables e below (s₁.setTop (entryFrame m #[(.ref ra)] 1)) t := fun t k => castTop (ef_rm_ac m ra) k
  have pre1 : ∀ t, Steps p.tables e below (s₁.setTop (mkF m 1 #[.val (.ref ra)] [(.ref ra)])) t → Steps p.tables e below (s₁.setTop (entryFrame m #[(.ref ra)] 1)) t := by
    intro t k
    refine pre0 t ?_
    refine XS.aloadN X0.here hx rfl (hb hby d8_0) rfl rfl ?_
    show Steps p.tables e below (s₁.setTop (mkF m 1 #[.val (.ref ra)] [(.ref ra)])) _
    exact k
  obtain ⟨T2, X2, e2, st2⟩ := initO X0 hx hZ hown (hw _ (List.mem_of_getElem? (i := 51) rfl)) (hw _ (List.mem_of_getElem? (i := 16) rfl)) (hw _ (List.mem_of_getElem? (i := 17) rfl)) e0 (g := (mkF m 1 #[.val (.ref ra)] [(.ref ra)])) rfl (by rw [hml]; rfl) rfl (hb hby d8_1) (by decide) (W := 0) (by show 2 * 0 + _ ≤ _; exact Nat.le_of_eq rfl) (by decide)
  have pre3 : ∀ t, Steps p.tables e below (T2.setTop (mkF m 4 #[.val (.ref ra)] [])) t → Steps p.tables e below (s₁.setTop (entryFrame m #[(.ref ra)] 1)) t := fun t k => pre1 t (st2 t k)
  obtain ⟨fs, hr, hrun, hended, hW, hsame⟩ := X2.leave (v := none) (fun _ => rfl)
  refine ⟨_, _, pre3 _ ?_, hrun, hended, _, _, rfl, ?_, ⟨_, rfl⟩, hW, hsame.mono (by decide) (by decide)⟩
  · exact X2.returnOut hx Bd.returns (hb hby d8_4) hr
  · show Q_rm_ac Z ra h0 n0 _ T2.heap _
    rw [e2]
    exact ⟨rfl, N0, rfl⟩
theorem d7_0 : decode jdk_39_method_1_code 0 = .ok (.aload_n 0, 1) := by decide +kernel
theorem d7_1 : decode jdk_39_method_1_code 1 = .ok (.invokespecial 1, 3) := by decide +kernel
theorem pd11 : parseMethodDescriptor "()V" = some ⟨[], none⟩ := by decide +kernel
theorem d7_4 : decode jdk_39_method_1_code 4 = .ok (.aload_n 0, 1) := by decide +kernel
theorem d7_5 : decode jdk_39_method_1_code 5 = .ok (.iconst 0, 1) := by decide +kernel
theorem d7_6 : decode jdk_39_method_1_code 6 = .ok (.putfield 7, 3) := by decide +kernel
theorem d7_9 : decode jdk_39_method_1_code 9 = .ok (.return_, 1) := by decide +kernel
theorem pn6 : plainName "java/util/AbstractList" = true := by first | (simp [plainName, overriddenIn]; done) | decide +kernel
theorem ef_rm_abl (m : MethodId) (ra : Addr) : entryFrame m #[(.ref ra)] 1 = mkF m 0 #[.val (.ref ra)] [] := by first | (simp [entryFrame, mkF, argsToLocals, Value.category]; done) | rfl
def Q_rm_abl (Z : State) (ra : Addr) (h0 : Heap) (n0 : Nat) (v : Option Value) (h : Heap) (L : List Loc) : Prop := v = none ∧ Fr n0 L ∧ Keep h0 h [ra] ∧ Exa Z h ra "java/util/ArrayList" ∧ Fld Z h ra "java/util/AbstractList" "modCount" "I" (.int (0 : Int32)) ∧ Fld Z h ra "java/util/ArrayList" "elementData" "[Ljava/lang/Object;" .null
set_option maxRecDepth 65536 in
set_option maxHeartbeats 40000000 in
theorem rm_abl (l : Launch) (Z : State) (a0 : Array Value) (hw : ∀ d ∈ tables_1, d.before a0 Z = true) (ws : List Jvm.Cond) (ra : Addr) (h0 : Heap) (n0 : Nat) (Z0 : n0 ≤ h0.size) (E_ra : Exa Z h0 ra "java/util/ArrayList") (g_ra : n0 ≤ ra) (F_modCount_ra : Fld Z h0 ra "java/util/AbstractList" "modCount" "I" (.int (0 : Int32))) (F_elementData_ra : Fld Z h0 ra "java/util/ArrayList" "elementData" "[Ljava/lang/Object;" .null) :
    MetFree l (⟨"java/util/AbstractList", "<init>", "()V"⟩ : MethodName) (head1 (Jvm.Cond.code (⟨"java/util/AbstractList", "<init>", "()V"⟩ : MethodName) jdk_39_method_1_code 1 none :: ws) ({ frames := 2, cells := 0, slots := 0, locals := 24 } : Room)) (fun a U => a = #[(.ref ra)] ∧ Z.Warmed39 U.vm ∧ U.heap = h0) (fun _ _ _ _ _ => True) (fun _ U o U' => ∃ v L, o = .returned v ∧ Q_rm_abl Z ra h0 n0 v U'.heap L ∧ FrameEnd U o U' L ({ frames := 2, cells := 0, slots := 0, locals := 24 } : Room).cells ({ frames := 2, cells := 0, slots := 0, locals := 24 } : Room).slots) := by
  refine MetFree.of_bodySF (plainFor_of_name pn6) hisR ?_
  intro p e s m args below meth c s₁ Bd hml0 hP hK
  obtain ⟨rfl, hZ, hh⟩ := hP
  have hx := Bd.exec
  have hby := Bd.bytes
  have hml : c.maxLocals = 1 := hml0
  have hown : s.vm.findClass "java/util/AbstractList" = some m.cls := findClass_of_methodNamed Bd.named
  have hnm := (name_of_methodNamed Bd.named Bd.method).1
  have X0 : Stand p l e ({ frames := 2, cells := 0, slots := 0, locals := 24 } : Room) s m #[(.ref ra)] below meth c s₁ [] 0 0 := Stand.of_body Bd
  have e0 : s₁.heap = h0 := by rw [← hh, Bd.state]; rfl
  have N0 := Fr.nil n0
  have pre0 : ∀ t, Steps p.tables e below (s₁.setTop (mkF m 0 #[.val (.ref ra)] [])) t → Steps p.tables e below (s₁.setTop (entryFrame m #[(.ref ra)] 1)) t := fun t k => castTop (ef_rm_abl m ra) k
  have pre1 : ∀ t, Steps p.tables e below (s₁.setTop (mkF m 1 #[.val (.ref ra)] [(.ref ra)])) t → Steps p.tables e below (s₁.setTop (entryFrame m #[(.ref ra)] 1)) t := by
    intro t k
    refine pre0 t ?_
    refine XS.aloadN X0.here hx rfl (hb hby d7_0) rfl rfl ?_
    show Steps p.tables e below (s₁.setTop (mkF m 1 #[.val (.ref ra)] [(.ref ra)])) _
    exact k
  obtain ⟨_, _, ⟨T2, L2, k2, n2⟩, -, X2, ⟨Lc2, hQ2, l2, y2, z2⟩, st2⟩ := X0.specialBack hx (y := (⟨"java/util/AbstractCollection", "<init>", "()V"⟩ : MethodName)) rfl hown (mvT hZ (hw _ (List.mem_of_getElem? (i := 45) rfl))) (mvT hZ (hw _ (List.mem_of_getElem? (i := 46) rfl))) (mvT hZ (hw _ (List.mem_of_getElem? (i := 50) rfl))) (by decide) (backOf (W := 0) (rm_ac l Z a0 hw [] ra h0 n0 Z0 ) hZ (hw _ (List.mem_of_getElem? (i := 50) rfl)) (hw _ (List.mem_of_getElem? (i := 49) rfl)) (by decide) (by decide)) (g := (mkF m 1 #[.val (.ref ra)] [(.ref ra)])) rfl (by rw [hml]; rfl) (Steps.refl _) (a := ra) (argsL := []) (rest := []) (lenOf pd11 rfl) rfl (by show 2 * 0 + _ ≤ _; exact Nat.le_of_eq rfl) (hb hby d7_1) (fun _ _ => ⟨rfl, e0, (by decide : 0 + 0 ≤ _), (by decide : 0 + 0 ≤ _)⟩)
  dsimp only [Pt.U, Pt.locs, Pt.cells, Pt.slots] at X2 l2 y2 z2 st2 hQ2
  subst y2 z2
  obtain ⟨rfl, M2, e2⟩ := hQ2
  have N2 : Fr n0 L2 := by rw [l2]; exact Fr.app N0 M2
  clear l2
  have X2 : Stand p l e _ _ m _ below meth c T2 _ 0 0 := X2
  have pre3 : ∀ t, Steps p.tables e below (T2.setTop (mkF m 4 #[.val (.ref ra)] [])) t → Steps p.tables e below (s₁.setTop (entryFrame m #[(.ref ra)] 1)) t := fun t k => pre1 t (st2.trans k)
  have pre4 : ∀ t, Steps p.tables e below (T2.setTop (mkF m 6 #[.val (.ref ra)] [(.int (0 : Int32)), (.ref ra)])) t → Steps p.tables e below (s₁.setTop (entryFrame m #[(.ref ra)] 1)) t := by
    intro t k
    refine pre3 t ?_
    refine XS.aloadN X2.here hx rfl (hb hby d7_4) rfl rfl ?_
    show Steps p.tables e below (T2.setTop (mkF m 5 #[.val (.ref ra)] [(.ref ra)])) _
    refine XS.iconst X2.here hx rfl (hb hby d7_5) ?_
    show Steps p.tables e below (T2.setTop (mkF m 6 #[.val (.ref ra)] [(.int (0 : Int32)), (.ref ra)])) _
    exact k
  obtain ⟨T5, h5, X5, e5, W5, st5⟩ := putF X2 hx hZ hown (host := "") (Or.inl (hw _ (List.mem_of_getElem? (i := 52) rfl))) Via.refl e2 F_modCount_ra E_ra (Or.inl (hw _ (List.mem_of_getElem? (i := 53) rfl))) (hw _ (List.mem_of_getElem? (i := 34) rfl)) (ty := .int) (by decide) rfl rfl (g := (mkF m 6 #[.val (.ref ra)] [(.int (0 : Int32)), (.ref ra)])) rfl rfl (hb hby d7_6)
  have K5 : Keep h0 h5 [ra] := (Keep.refl h0 [ra]).wr W5 (Or.inl (by simp))
  have z5 : n0 ≤ h5.size := Nat.le_trans Z0 K5.1
  have N5 := Fr.snoc X5 N2 g_ra
  have Fw5 := F_modCount_ra.same W5
  have pre6 : ∀ t, Steps p.tables e below (T5.setTop (mkF m 9 #[.val (.ref ra)] [])) t → Steps p.tables e below (s₁.setTop (entryFrame m #[(.ref ra)] 1)) t := fun t k => pre4 t (st5 t k)
  obtain ⟨fs, hr, hrun, hended, hW, hsame⟩ := X5.leave (v := none) (fun _ => rfl)
  refine ⟨_, _, pre6 _ ?_, hrun, hended, _, _, rfl, ?_, ⟨_, rfl⟩, hW, hsame.mono (by decide) (by decide)⟩
  · exact X5.returnOut hx Bd.returns (hb hby d7_9) hr
  · show Q_rm_abl Z ra h0 n0 _ T5.heap _
    rw [e5]
    exact ⟨rfl, N5, K5, (E_ra.wr W5), Fw5, (F_elementData_ra.other W5 (Or.inr (slot_ne (Or.inl (hw _ (List.mem_of_getElem? (i := 56) rfl))) (Or.inl (hw _ (List.mem_of_getElem? (i := 53) rfl))) (by decide) (t := (.array (.object "java/lang/Object"))) (t' := .int) (by decide) (by decide))))⟩
theorem d6_0 : decode jdk_38_method_2_code 0 = .ok (.aload_n 0, 1) := by decide +kernel
theorem d6_1 : decode jdk_38_method_2_code 1 = .ok (.invokespecial 1, 3) := by decide +kernel
theorem d6_4 : decode jdk_38_method_2_code 4 = .ok (.aload_n 0, 1) := by decide +kernel
theorem d6_5 : decode jdk_38_method_2_code 5 = .ok (.getstatic 39, 3) := by decide +kernel
theorem d6_8 : decode jdk_38_method_2_code 8 = .ok (.putfield 9, 3) := by decide +kernel
theorem d6_11 : decode jdk_38_method_2_code 11 = .ok (.return_, 1) := by decide +kernel
theorem pn7 : plainName "java/util/ArrayList" = true := by first | (simp [plainName, overriddenIn]; done) | decide +kernel
theorem ef_rm_al (m : MethodId) (ra : Addr) : entryFrame m #[(.ref ra)] 1 = mkF m 0 #[.val (.ref ra)] [] := by first | (simp [entryFrame, mkF, argsToLocals, Value.category]; done) | rfl
def Q_rm_al (Z : State) (ra : Addr) (wl : Addr) (h0 : Heap) (n0 : Nat) (v : Option Value) (h : Heap) (L : List Loc) : Prop := v = none ∧ Fr n0 L ∧ Keep h0 h [ra] ∧ Exa Z h ra "java/util/ArrayList" ∧ Fld Z h ra "java/util/AbstractList" "modCount" "I" (.int (0 : Int32)) ∧ Fld Z h ra "java/util/ArrayList" "elementData" "[Ljava/lang/Object;" (.ref wl)
set_option maxRecDepth 65536 in
set_option maxHeartbeats 40000000 in
theorem rm_al (l : Launch) (Z : State) (a0 : Array Value) (hw : ∀ d ∈ tables_1, d.before a0 Z = true) (ws : List Jvm.Cond) (ra : Addr) (wl : Addr) (h0 : Heap) (n0 : Nat) (Z0 : n0 ≤ h0.size) (E_ra : Exa Z h0 ra "java/util/ArrayList") (g_ra : n0 ≤ ra) (F_modCount_ra : Fld Z h0 ra "java/util/AbstractList" "modCount" "I" (.int (0 : Int32))) (F_elementData_ra : Fld Z h0 ra "java/util/ArrayList" "elementData" "[Ljava/lang/Object;" .null) (SD : Sta Z h0 "java/util/ArrayList" "DEFAULTCAPACITY_EMPTY_ELEMENTDATA" "[Ljava/lang/Object;" (.ref wl)) :
    MetFree l (⟨"java/util/ArrayList", "<init>", "()V"⟩ : MethodName) (head1 (Jvm.Cond.code (⟨"java/util/ArrayList", "<init>", "()V"⟩ : MethodName) jdk_38_method_2_code 1 none :: ws) ({ frames := 3, cells := 0, slots := 0, locals := 36 } : Room)) (fun a U => a = #[(.ref ra)] ∧ Z.Warmed39 U.vm ∧ U.heap = h0) (fun _ _ _ _ _ => True) (fun _ U o U' => ∃ v L, o = .returned v ∧ Q_rm_al Z ra wl h0 n0 v U'.heap L ∧ FrameEnd U o U' L ({ frames := 3, cells := 0, slots := 0, locals := 36 } : Room).cells ({ frames := 3, cells := 0, slots := 0, locals := 36 } : Room).slots) := by
  refine MetFree.of_bodySF (plainFor_of_name pn7) hisR ?_
  intro p e s m args below meth c s₁ Bd hml0 hP hK
  obtain ⟨rfl, hZ, hh⟩ := hP
  have hx := Bd.exec
  have hby := Bd.bytes
  have hml : c.maxLocals = 1 := hml0
  have hown : s.vm.findClass "java/util/ArrayList" = some m.cls := findClass_of_methodNamed Bd.named
  have hnm := (name_of_methodNamed Bd.named Bd.method).1
  have X0 : Stand p l e ({ frames := 3, cells := 0, slots := 0, locals := 36 } : Room) s m #[(.ref ra)] below meth c s₁ [] 0 0 := Stand.of_body Bd
  have e0 : s₁.heap = h0 := by rw [← hh, Bd.state]; rfl
  have N0 := Fr.nil n0
  have pre0 : ∀ t, Steps p.tables e below (s₁.setTop (mkF m 0 #[.val (.ref ra)] [])) t → Steps p.tables e below (s₁.setTop (entryFrame m #[(.ref ra)] 1)) t := fun t k => castTop (ef_rm_al m ra) k
  have pre1 : ∀ t, Steps p.tables e below (s₁.setTop (mkF m 1 #[.val (.ref ra)] [(.ref ra)])) t → Steps p.tables e below (s₁.setTop (entryFrame m #[(.ref ra)] 1)) t := by
    intro t k
    refine pre0 t ?_
    refine XS.aloadN X0.here hx rfl (hb hby d6_0) rfl rfl ?_
    show Steps p.tables e below (s₁.setTop (mkF m 1 #[.val (.ref ra)] [(.ref ra)])) _
    exact k
  obtain ⟨_, _, ⟨T2, L2, k2, n2⟩, -, X2, ⟨Lc2, hQ2, l2, y2, z2⟩, st2⟩ := X0.specialBack hx (y := (⟨"java/util/AbstractList", "<init>", "()V"⟩ : MethodName)) rfl hown (mvT hZ (hw _ (List.mem_of_getElem? (i := 39) rfl))) (mvT hZ (hw _ (List.mem_of_getElem? (i := 40) rfl))) (mvT hZ (hw _ (List.mem_of_getElem? (i := 44) rfl))) (by decide) (backOf (W := 0) (rm_abl l Z a0 hw [] ra h0 n0 Z0 E_ra (g_ra) F_modCount_ra F_elementData_ra) hZ (hw _ (List.mem_of_getElem? (i := 44) rfl)) (hw _ (List.mem_of_getElem? (i := 43) rfl)) (by decide) (by decide)) (g := (mkF m 1 #[.val (.ref ra)] [(.ref ra)])) rfl (by rw [hml]; rfl) (Steps.refl _) (a := ra) (argsL := []) (rest := []) (lenOf pd11 rfl) rfl (by show 2 * 0 + _ ≤ _; exact Nat.le_of_eq rfl) (hb hby d6_1) (fun _ _ => ⟨rfl, e0, (by decide : 0 + 0 ≤ _), (by decide : 0 + 0 ≤ _)⟩)
  dsimp only [Pt.U, Pt.locs, Pt.cells, Pt.slots] at X2 l2 y2 z2 st2 hQ2
  subst y2 z2
  obtain ⟨rfl, M2, kp2, f2_0, f2_1, f2_2⟩ := hQ2
  have K2 : Keep h0 T2.heap [ra] := (Keep.refl h0 [ra]).trans kp2 (allS (P := fun x => x ∈ [ra] ∨ h0.size ≤ x) (Or.inl (by simp)) all0)
  have zz2 : n0 ≤ T2.heap.size := Nat.le_trans Z0 K2.1
  have N2 : Fr n0 L2 := by rw [l2]; exact Fr.app N0 M2
  clear l2
  have X2 : Stand p l e _ _ m _ below meth c T2 _ 0 0 := X2
  have pre3 : ∀ t, Steps p.tables e below (T2.setTop (mkF m 4 #[.val (.ref ra)] [])) t → Steps p.tables e below (s₁.setTop (entryFrame m #[(.ref ra)] 1)) t := fun t k => pre1 t (st2.trans k)
  have f4 := (own_sta_keep SD kp2 E_ra)
  have pre6 : ∀ t, Steps p.tables e below (T2.setTop (mkF m 5 #[.val (.ref ra)] [(.ref ra)])) t → Steps p.tables e below (s₁.setTop (entryFrame m #[(.ref ra)] 1)) t := by
    intro t k
    refine pre3 t ?_
    refine XS.aloadN X2.here hx rfl (hb hby d6_4) rfl rfl ?_
    show Steps p.tables e below (T2.setTop (mkF m 5 #[.val (.ref ra)] [(.ref ra)])) _
    exact k
  obtain ⟨T5, X5, e5, st5⟩ := getS2 X2 hx hZ hown (host := "") (Or.inl (hw _ (List.mem_of_getElem? (i := 54) rfl))) Via.refl rfl f4 (g := (mkF m 5 #[.val (.ref ra)] [(.ref ra)])) rfl (hb hby d6_5)
  have pre7 : ∀ t, Steps p.tables e below (T5.setTop (mkF m 8 #[.val (.ref ra)] [(.ref wl), (.ref ra)])) t → Steps p.tables e below (s₁.setTop (entryFrame m #[(.ref ra)] 1)) t := fun t k => pre6 t (st5 t k)
  obtain ⟨T8, h8, X8, e8, W8, st8⟩ := putF X5 hx hZ hown (host := "") (Or.inl (hw _ (List.mem_of_getElem? (i := 55) rfl))) Via.refl e5 f2_2 f2_0 (Or.inl (hw _ (List.mem_of_getElem? (i := 56) rfl))) (hw _ (List.mem_of_getElem? (i := 34) rfl)) (ty := (.array (.object "java/lang/Object"))) (by decide) rfl rfl (g := (mkF m 8 #[.val (.ref ra)] [(.ref wl), (.ref ra)])) rfl rfl (hb hby d6_8)
  have K8 : Keep h0 h8 [ra] := K2.wr W8 (Or.inl (by simp))
  have z8 : n0 ≤ h8.size := Nat.le_trans Z0 K8.1
  have N8 := Fr.snoc X8 N2 g_ra
  have Fw8 := f2_2.same W8
  have pre9 : ∀ t, Steps p.tables e below (T8.setTop (mkF m 11 #[.val (.ref ra)] [])) t → Steps p.tables e below (s₁.setTop (entryFrame m #[(.ref ra)] 1)) t := fun t k => pre7 t (st8 t k)
  obtain ⟨fs, hr, hrun, hended, hW, hsame⟩ := X8.leave (v := none) (fun _ => rfl)
  refine ⟨_, _, pre9 _ ?_, hrun, hended, _, _, rfl, ?_, ⟨_, rfl⟩, hW, hsame.mono (by decide) (by decide)⟩
  · exact X8.returnOut hx Bd.returns (hb hby d6_11) hr
  · show Q_rm_al Z ra wl h0 n0 _ T8.heap _
    rw [e8]
    exact ⟨rfl, N8, K8, (f2_0.wr W8), (f2_1.other W8 (Or.inr (slot_ne (Or.inl (hw _ (List.mem_of_getElem? (i := 53) rfl))) (Or.inl (hw _ (List.mem_of_getElem? (i := 56) rfl))) (by decide) (t := .int) (t' := (.array (.object "java/lang/Object"))) (by decide) (by decide)))), Fw8⟩
theorem d5_0 : decode prog_60_method_1_code 0 = .ok (.aload_n 0, 1) := by decide +kernel
theorem d5_1 : decode prog_60_method_1_code 1 = .ok (.invokespecial 1, 3) := by decide +kernel
theorem d5_4 : decode prog_60_method_1_code 4 = .ok (.aload_n 0, 1) := by decide +kernel
theorem d5_5 : decode prog_60_method_1_code 5 = .ok (.new 7, 3) := by decide +kernel
theorem d5_8 : decode prog_60_method_1_code 8 = .ok (.dup, 1) := by decide +kernel
theorem d5_9 : decode prog_60_method_1_code 9 = .ok (.invokespecial 9, 3) := by decide +kernel
theorem d5_12 : decode prog_60_method_1_code 12 = .ok (.putfield 10, 3) := by decide +kernel
theorem d5_15 : decode prog_60_method_1_code 15 = .ok (.aload_n 0, 1) := by decide +kernel
theorem d5_16 : decode prog_60_method_1_code 16 = .ok (.ldc 16, 2) := by decide +kernel
theorem d5_18 : decode prog_60_method_1_code 18 = .ok (.putfield 18, 3) := by decide +kernel
theorem d5_21 : decode prog_60_method_1_code 21 = .ok (.aload_n 0, 1) := by decide +kernel
theorem d5_22 : decode prog_60_method_1_code 22 = .ok (.aload_n 1, 1) := by decide +kernel
theorem d5_23 : decode prog_60_method_1_code 23 = .ok (.putfield 22, 3) := by decide +kernel
theorem d5_26 : decode prog_60_method_1_code 26 = .ok (.aload_n 0, 1) := by decide +kernel
theorem d5_27 : decode prog_60_method_1_code 27 = .ok (.aload_n 2, 1) := by decide +kernel
theorem d5_28 : decode prog_60_method_1_code 28 = .ok (.putfield 25, 3) := by decide +kernel
theorem d5_31 : decode prog_60_method_1_code 31 = .ok (.aload_n 0, 1) := by decide +kernel
theorem d5_32 : decode prog_60_method_1_code 32 = .ok (.aload_n 3, 1) := by decide +kernel
theorem d5_33 : decode prog_60_method_1_code 33 = .ok (.putfield 28, 3) := by decide +kernel
theorem d5_36 : decode prog_60_method_1_code 36 = .ok (.aload_n 0, 1) := by decide +kernel
theorem d5_37 : decode prog_60_method_1_code 37 = .ok (.iload 4, 2) := by decide +kernel
theorem d5_39 : decode prog_60_method_1_code 39 = .ok (.putfield 32, 3) := by decide +kernel
theorem d5_42 : decode prog_60_method_1_code 42 = .ok (.aload_n 0, 1) := by decide +kernel
theorem d5_43 : decode prog_60_method_1_code 43 = .ok (.iload 5, 2) := by decide +kernel
theorem d5_45 : decode prog_60_method_1_code 45 = .ok (.putfield 36, 3) := by decide +kernel
theorem d5_48 : decode prog_60_method_1_code 48 = .ok (.aload_n 0, 1) := by decide +kernel
theorem d5_49 : decode prog_60_method_1_code 49 = .ok (.iload 6, 2) := by decide +kernel
theorem d5_51 : decode prog_60_method_1_code 51 = .ok (.putfield 39, 3) := by decide +kernel
theorem d5_54 : decode prog_60_method_1_code 54 = .ok (.return_, 1) := by decide +kernel
theorem ef_rm_el (m : MethodId) (ra : Addr) (ras : Addr) (ran : Addr) : entryFrame m #[(.ref ra), (.ref ras), (.ref ran), .null, (.int (1 : Int32)), (.int (1 : Int32)), (.int (0 : Int32))] 7 = mkF m 0 #[.val (.ref ra), .val (.ref ras), .val (.ref ran), .val .null, .val (.int (1 : Int32)), .val (.int (1 : Int32)), .val (.int (0 : Int32))] [] := by first | (simp [entryFrame, mkF, argsToLocals, Value.category]; done) | rfl
def Q_rm_el (Z : State) (ra : Addr) (ras : Addr) (ran : Addr) (wl : Addr) (h0 : Heap) (n0 : Nat) (v : Option Value) (h : Heap) (L : List Loc) : Prop := v = none ∧ Fr n0 L ∧ Keep h0 h [ra] ∧ Exa Z h ra "com/example/feuillet/feuillet/input/Element" ∧ Fld Z h ra "com/example/feuillet/feuillet/input/Element" "namespace" "Ljava/lang/String;" (.ref ras) ∧ Fld Z h ra "com/example/feuillet/feuillet/input/Element" "name" "Ljava/lang/String;" (.ref ran)
set_option maxRecDepth 65536 in
set_option maxHeartbeats 40000000 in
theorem rm_el (l : Launch) (Z : State) (a0 : Array Value) (hw : ∀ d ∈ tables_1, d.before a0 Z = true) (ws : List Jvm.Cond) (ra : Addr) (ras : Addr) (ran : Addr) (wl : Addr) (h0 : Heap) (n0 : Nat) (Z0 : n0 ≤ h0.size) (E_ra : Exa Z h0 ra "com/example/feuillet/feuillet/input/Element") (g_ra : n0 ≤ ra) (F_children_ra : Fld Z h0 ra "com/example/feuillet/feuillet/input/Element" "children" "Ljava/util/List;" .null) (F_text_ra : Fld Z h0 ra "com/example/feuillet/feuillet/input/Element" "text" "Ljava/lang/String;" .null) (F_namespace_ra : Fld Z h0 ra "com/example/feuillet/feuillet/input/Element" "namespace" "Ljava/lang/String;" .null) (F_name_ra : Fld Z h0 ra "com/example/feuillet/feuillet/input/Element" "name" "Ljava/lang/String;" .null) (F_attributes_ra : Fld Z h0 ra "com/example/feuillet/feuillet/input/Element" "attributes" "Ljava/util/Map;" .null) (F_line_ra : Fld Z h0 ra "com/example/feuillet/feuillet/input/Element" "line" "I" (.int (0 : Int32))) (F_column_ra : Fld Z h0 ra "com/example/feuillet/feuillet/input/Element" "column" "I" (.int (0 : Int32))) (F_keepsText_ra : Fld Z h0 ra "com/example/feuillet/feuillet/input/Element" "keepsText" "Z" (.int (0 : Int32))) (SD : Sta Z h0 "java/util/ArrayList" "DEFAULTCAPACITY_EMPTY_ELEMENTDATA" "[Ljava/lang/Object;" (.ref wl)) :
    MetFree l (⟨"com/example/feuillet/feuillet/input/Element", "<init>", "(Ljava/lang/String;Ljava/lang/String;Ljava/util/Map;IIZ)V"⟩ : MethodName) (head1 (Jvm.Cond.code (⟨"com/example/feuillet/feuillet/input/Element", "<init>", "(Ljava/lang/String;Ljava/lang/String;Ljava/util/Map;IIZ)V"⟩ : MethodName) prog_60_method_1_code 7 none :: ws) ({ frames := 4, cells := 3, slots := 7, locals := 50 } : Room)) (fun a U => a = #[(.ref ra), (.ref ras), (.ref ran), .null, (.int (1 : Int32)), (.int (1 : Int32)), (.int (0 : Int32))] ∧ Z.Warmed39 U.vm ∧ U.heap = h0 ∧ CHv Z own_EL U.vm h0) (fun _ _ _ _ _ => True) (fun _ U o U' => ∃ v L, o = .returned v ∧ Q_rm_el Z ra ras ran wl h0 n0 v U'.heap L ∧ CHr Z own_EL U.vm U.heap U'.vm U'.heap ∧ ReturnedEndW U o U' L ({ frames := 4, cells := 3, slots := 7, locals := 50 } : Room).cells ({ frames := 4, cells := 3, slots := 7, locals := 50 } : Room).slots) := by
  refine MetFree.of_bodySF (plainFor_of_name pn3) hisR ?_
  intro p e s m args below meth c s₁ Bd hml0 hP hK
  obtain ⟨rfl, hZ, hh, HC0⟩ := hP
  have hx := Bd.exec
  have hby := Bd.bytes
  have hml : c.maxLocals = 7 := hml0
  have hown : s.vm.findClass "com/example/feuillet/feuillet/input/Element" = some m.cls := findClass_of_methodNamed Bd.named
  have hnm := (name_of_methodNamed Bd.named Bd.method).1
  have X0 : Stand p l e ({ frames := 4, cells := 3, slots := 7, locals := 50 } : Room) (s.setVm s.vm) m #[(.ref ra), (.ref ras), (.ref ran), .null, (.int (1 : Int32)), (.int (1 : Int32)), (.int (0 : Int32))] below meth c s₁ [] 0 0 := Stand.of_body Bd
  have hS0 : s.Since s.vm 0 := State.WarmedH.since (State.WarmedH.refl s) 0
  have hk0 : 0 ≤ h0.size := Nat.zero_le _
  have hEL : EW Z a0 own_EL := EW.cons (hw _ (List.mem_of_getElem? (i := 59) rfl)) (by decide) (EW.cons (hw _ (List.mem_of_getElem? (i := 18) rfl)) (by decide) EW.nil)
  have wS : ∀ d ∈ Bundle.stringAtoms, d.before a0 Z = true := fun d hd => hw d ((by decide +kernel : ∀ d ∈ Bundle.stringAtoms, d ∈ tables_1) d hd)
  have hown : (s.setVm s.vm).vm.findClass "com/example/feuillet/feuillet/input/Element" = some m.cls := hown
  have hZ : Z.Warmed39 (s.setVm s.vm).vm := hZ
  have e0 : s₁.heap = h0 := by rw [← hh, Bd.state]; rfl
  have N0 := Fr.nil n0
  have pre0 : ∀ t, Steps p.tables e below (s₁.setTop (mkF m 0 #[.val (.ref ra), .val (.ref ras), .val (.ref ran), .val .null, .val (.int (1 : Int32)), .val (.int (1 : Int32)), .val (.int (0 : Int32))] [])) t → Steps p.tables e below (s₁.setTop (entryFrame m #[(.ref ra), (.ref ras), (.ref ran), .null, (.int (1 : Int32)), (.int (1 : Int32)), (.int (0 : Int32))] 7)) t := fun t k => castTop (ef_rm_el m ra ras ran) k
  have pre1 : ∀ t, Steps p.tables e below (s₁.setTop (mkF m 1 #[.val (.ref ra), .val (.ref ras), .val (.ref ran), .val .null, .val (.int (1 : Int32)), .val (.int (1 : Int32)), .val (.int (0 : Int32))] [(.ref ra)])) t → Steps p.tables e below (s₁.setTop (entryFrame m #[(.ref ra), (.ref ras), (.ref ran), .null, (.int (1 : Int32)), (.int (1 : Int32)), (.int (0 : Int32))] 7)) t := by
    intro t k
    refine pre0 t ?_
    refine XS.aloadN X0.here hx rfl (hb hby d5_0) rfl rfl ?_
    show Steps p.tables e below (s₁.setTop (mkF m 1 #[.val (.ref ra), .val (.ref ras), .val (.ref ran), .val .null, .val (.int (1 : Int32)), .val (.int (1 : Int32)), .val (.int (0 : Int32))] [(.ref ra)])) _
    exact k
  obtain ⟨T2, X2, e2, st2⟩ := initO X0 hx hZ hown (hw _ (List.mem_of_getElem? (i := 32) rfl)) (hw _ (List.mem_of_getElem? (i := 16) rfl)) (hw _ (List.mem_of_getElem? (i := 17) rfl)) e0 (g := (mkF m 1 #[.val (.ref ra), .val (.ref ras), .val (.ref ran), .val .null, .val (.int (1 : Int32)), .val (.int (1 : Int32)), .val (.int (0 : Int32))] [(.ref ra)])) rfl (by rw [hml]; rfl) rfl (hb hby d5_1) (by decide) (W := 0) (by show 2 * 0 + _ ≤ _; exact Nat.le_of_eq rfl) (by decide)
  have pre3 : ∀ t, Steps p.tables e below (T2.setTop (mkF m 4 #[.val (.ref ra), .val (.ref ras), .val (.ref ran), .val .null, .val (.int (1 : Int32)), .val (.int (1 : Int32)), .val (.int (0 : Int32))] [])) t → Steps p.tables e below (s₁.setTop (entryFrame m #[(.ref ra), (.ref ras), (.ref ran), .null, (.int (1 : Int32)), (.int (1 : Int32)), (.int (0 : Int32))] 7)) t := fun t k => pre1 t (st2 t k)
  have pre4 : ∀ t, Steps p.tables e below (T2.setTop (mkF m 5 #[.val (.ref ra), .val (.ref ras), .val (.ref ran), .val .null, .val (.int (1 : Int32)), .val (.int (1 : Int32)), .val (.int (0 : Int32))] [(.ref ra)])) t → Steps p.tables e below (s₁.setTop (entryFrame m #[(.ref ra), (.ref ras), (.ref ran), .null, (.int (1 : Int32)), (.int (1 : Int32)), (.int (0 : Int32))] 7)) t := by
    intro t k
    refine pre3 t ?_
    refine XS.aloadN X2.here hx rfl (hb hby d5_4) rfl rfl ?_
    show Steps p.tables e below (T2.setTop (mkF m 5 #[.val (.ref ra), .val (.ref ras), .val (.ref ran), .val .null, .val (.int (1 : Int32)), .val (.int (1 : Int32)), .val (.int (0 : Int32))] [(.ref ra)])) _
    exact k
  obtain ⟨T5, h5, X5, e5, E5, A5, D5, -, st5⟩ := newO X2 hx hZ hown (hw _ (List.mem_of_getElem? (i := 33) rfl)) (hw _ (List.mem_of_getElem? (i := 34) rfl)) (hw _ (List.mem_of_getElem? (i := 35) rfl)) e2 (g := (mkF m 5 #[.val (.ref ra), .val (.ref ras), .val (.ref ran), .val .null, .val (.int (1 : Int32)), .val (.int (1 : Int32)), .val (.int (0 : Int32))] [(.ref ra)])) rfl (hb hby d5_5) (by decide) (by decide)
  obtain ⟨b5, g5⟩ : ∃ z, z = h0.size := ⟨_, rfl⟩
  rw [← g5] at A5 D5 st5
  have g_b5 : n0 ≤ b5 := Nat.le_trans Z0 (Nat.le_of_eq g5.symm)
  have sz_b5 : h0.size ≤ b5 := Nat.le_trans (Keep.refl h0 [ra]).1 (Nat.le_of_eq g5.symm)
  have sf5_b5 := Safe.ext E5 HC0 (Safe.new (Nat.le_of_eq g5.symm))
  have RC5 := CHr.trans (CHr.refl HC0) (CHr.ext E5 HC0)
  have HC5 := CHv.ext E5 HC0
  have hk5 := Nat.le_trans hk0 E5.1
  have K5 : Keep h0 h5 [ra] := (Keep.refl h0 [ra]).ext E5
  have z5 : n0 ≤ h5.size := Nat.le_trans Z0 K5.1
  have F_modCount_b5 : Fld Z h5 b5 "java/util/AbstractList" "modCount" "I" (.int (0 : Int32)) := D5 (Or.inl (hw _ (List.mem_of_getElem? (i := 53) rfl))) (ty := .int) (by decide)
  have F_elementData_b5 : Fld Z h5 b5 "java/util/ArrayList" "elementData" "[Ljava/lang/Object;" .null := D5 (Or.inl (hw _ (List.mem_of_getElem? (i := 56) rfl))) (ty := (.array (.object "java/lang/Object"))) (by decide)
  have X5 : Stand p l e _ _ m _ below meth c T5 _ 1 3 := X5
  have pre6 : ∀ t, Steps p.tables e below (T5.setTop (mkF m 8 #[.val (.ref ra), .val (.ref ras), .val (.ref ran), .val .null, .val (.int (1 : Int32)), .val (.int (1 : Int32)), .val (.int (0 : Int32))] [(.ref b5), (.ref ra)])) t → Steps p.tables e below (s₁.setTop (entryFrame m #[(.ref ra), (.ref ras), (.ref ran), .null, (.int (1 : Int32)), (.int (1 : Int32)), (.int (0 : Int32))] 7)) t := fun t k => pre4 t (st5 t k)
  have pre7 : ∀ t, Steps p.tables e below (T5.setTop (mkF m 9 #[.val (.ref ra), .val (.ref ras), .val (.ref ran), .val .null, .val (.int (1 : Int32)), .val (.int (1 : Int32)), .val (.int (0 : Int32))] [(.ref b5), (.ref b5), (.ref ra)])) t → Steps p.tables e below (s₁.setTop (entryFrame m #[(.ref ra), (.ref ras), (.ref ran), .null, (.int (1 : Int32)), (.int (1 : Int32)), (.int (0 : Int32))] 7)) t := by
    intro t k
    refine pre6 t ?_
    refine XS.dup X5.here hx rfl (hb hby d5_8) rfl rfl ?_
    show Steps p.tables e below (T5.setTop (mkF m 9 #[.val (.ref ra), .val (.ref ras), .val (.ref ran), .val .null, .val (.int (1 : Int32)), .val (.int (1 : Int32)), .val (.int (0 : Int32))] [(.ref b5), (.ref b5), (.ref ra)])) _
    exact k
  have f8 := (SD.ext E5)
  obtain ⟨_, _, ⟨T9, L9, k9, n9⟩, -, X9, ⟨Lc9, hQ9, l9, y9, z9⟩, st9⟩ := X5.specialBack hx (y := (⟨"java/util/ArrayList", "<init>", "()V"⟩ : MethodName)) rfl hown (mvT hZ (hw _ (List.mem_of_getElem? (i := 36) rfl))) (mvT hZ (hw _ (List.mem_of_getElem? (i := 37) rfl))) (mvT hZ (hw _ (List.mem_of_getElem? (i := 38) rfl))) (by decide) (backOf (W := 2) (rm_al l Z a0 hw [] b5 wl h5 n0 z5 A5 (g_b5) F_modCount_b5 F_elementData_b5 f8) hZ (hw _ (List.mem_of_getElem? (i := 38) rfl)) (hw _ (List.mem_of_getElem? (i := 35) rfl)) (by decide) (by decide)) (g := (mkF m 9 #[.val (.ref ra), .val (.ref ras), .val (.ref ran), .val .null, .val (.int (1 : Int32)), .val (.int (1 : Int32)), .val (.int (0 : Int32))] [(.ref b5), (.ref b5), (.ref ra)])) rfl (by rw [hml]; rfl) (Steps.refl _) (a := b5) (argsL := []) (rest := [(.ref b5), (.ref ra)]) (lenOf pd11 rfl) rfl (by show 2 * 0 + _ ≤ _; exact Nat.le_of_eq rfl) (hb hby d5_9) (fun _ _ => ⟨rfl, e5, (by decide : 1 + 0 ≤ _), (by decide : 3 + 0 ≤ _)⟩)
  dsimp only [Pt.U, Pt.locs, Pt.cells, Pt.slots] at X9 l9 y9 z9 st9 hQ9
  subst y9 z9
  obtain ⟨rfl, M9, kp9, f9_0, f9_1, f9_2⟩ := hQ9
  have hs9 : ∀ x ∈ [b5], Safe Z own_EL s.vm h5 x := (allS sf5_b5 all0)
  have sf9_b5 := Safe.keep kp9 hs9 HC5 sf5_b5
  have RC9 := CHr.trans RC5 (CHr.keep kp9 hs9 HC5)
  have HC9 := CHv.keep kp9 hs9 HC5
  have hk9 := Nat.le_trans hk5 kp9.1
  have K9 : Keep h0 T9.heap [ra] := K5.trans kp9 (allS (P := fun x => x ∈ [ra] ∨ h0.size ≤ x) (Or.inr sz_b5) all0)
  have zz9 : n0 ≤ T9.heap.size := Nat.le_trans Z0 K9.1
  have N9 : Fr n0 L9 := by rw [l9]; exact Fr.app N0 M9
  clear l9
  have X9 : Stand p l e _ _ m _ below meth c T9 _ 1 3 := X9
  have pre10 : ∀ t, Steps p.tables e below (T9.setTop (mkF m 12 #[.val (.ref ra), .val (.ref ras), .val (.ref ran), .val .null, .val (.int (1 : Int32)), .val (.int (1 : Int32)), .val (.int (0 : Int32))] [(.ref b5), (.ref ra)])) t → Steps p.tables e below (s₁.setTop (entryFrame m #[(.ref ra), (.ref ras), (.ref ran), .null, (.int (1 : Int32)), (.int (1 : Int32)), (.int (0 : Int32))] 7)) t := fun t k => pre7 t (st9.trans k)
  have f11 := ((E_ra.ext E5).keep kp9)
  have f12 := ((F_children_ra.ext E5).keep kp9 (ninS (Nat.ne_of_lt (Nat.lt_of_lt_of_le E_ra.lt (Nat.le_of_eq g5.symm))) nin0))
  obtain ⟨T13, h13, X13, e13, W13, st13⟩ := putF X9 hx hZ hown (host := "") (Or.inl (hw _ (List.mem_of_getElem? (i := 57) rfl))) Via.refl rfl f12 f11 (Or.inr ⟨(hw _ (List.mem_of_getElem? (i := 58) rfl)), rfl, hnm⟩) (hw _ (List.mem_of_getElem? (i := 27) rfl)) (ty := (.object "java/util/List")) (by decide) rfl rfl (g := (mkF m 12 #[.val (.ref ra), .val (.ref ras), .val (.ref ran), .val .null, .val (.int (1 : Int32)), .val (.int (1 : Int32)), .val (.int (0 : Int32))] [(.ref b5), (.ref ra)])) rfl rfl (hb hby d5_12)
  have so13 := (Safe.exa (EL := own_EL) hZ.alike f11 (by decide) (by decide))
  have sf13_b5 := Safe.wr W13 so13 HC9 sf9_b5
  have RC13 := CHr.trans RC9 (CHr.wr W13 so13 HC9)
  have HC13 := CHv.wr W13 so13 HC9
  have hk13 := Nat.le_trans hk9 (Keep.of_wr W13).1
  have K13 : Keep h0 h13 [ra] := K9.wr W13 (Or.inl (by simp))
  have z13 : n0 ≤ h13.size := Nat.le_trans Z0 K13.1
  have N13 := Fr.snoc X13 N9 g_ra
  have Fw13 := f12.same W13
  have pre14 : ∀ t, Steps p.tables e below (T13.setTop (mkF m 15 #[.val (.ref ra), .val (.ref ras), .val (.ref ran), .val .null, .val (.int (1 : Int32)), .val (.int (1 : Int32)), .val (.int (0 : Int32))] [])) t → Steps p.tables e below (s₁.setTop (entryFrame m #[(.ref ra), (.ref ras), (.ref ran), .null, (.int (1 : Int32)), (.int (1 : Int32)), (.int (0 : Int32))] 7)) t := fun t k => pre10 t (st13 t k)
  have pre15 : ∀ t, Steps p.tables e below (T13.setTop (mkF m 16 #[.val (.ref ra), .val (.ref ras), .val (.ref ran), .val .null, .val (.int (1 : Int32)), .val (.int (1 : Int32)), .val (.int (0 : Int32))] [(.ref ra)])) t → Steps p.tables e below (s₁.setTop (entryFrame m #[(.ref ra), (.ref ras), (.ref ran), .null, (.int (1 : Int32)), (.int (1 : Int32)), (.int (0 : Int32))] 7)) t := by
    intro t k
    refine pre14 t ?_
    refine XS.aloadN X13.here hx rfl (hb hby d5_15) rfl rfl ?_
    show Steps p.tables e below (T13.setTop (mkF m 16 #[.val (.ref ra), .val (.ref ras), .val (.ref ran), .val .null, .val (.int (1 : Int32)), .val (.int (1 : Int32)), .val (.int (0 : Int32))] [(.ref ra)])) _
    exact k
  obtain ⟨a16, T16, h16, k16, b16, kb16, X16, e16, E16, hS16, hk16, hZ, hown, Ea16, Fc16, Fv16, Va16, -, -, CR16, -, nb16, st16⟩ := ldcCH X13 hx hZ hown (hw _ (List.mem_of_getElem? (i := 59) rfl)) wS e13 hS0 hk13 hEL (by simp [own_EL]) HC13 (vs := []) (z := (0 : Int32)) ⟨by decide, by first | rfl | decide⟩ (by decide) rfl (g := (mkF m 16 #[.val (.ref ra), .val (.ref ras), .val (.ref ran), .val .null, .val (.int (1 : Int32)), .val (.int (1 : Int32)), .val (.int (0 : Int32))] [(.ref ra)])) rfl (hb hby d5_16) (n := 0) (by decide) (by decide) (by decide) (by decide)
  have sf16_b5 := CHr.safe CR16 (f9_0.wr W13).lt sf13_b5
  have K16 : Keep h0 h16 [ra] := K13.ext E16
  have z16 : n0 ≤ h16.size := Nat.le_trans Z0 K16.1
  have RC16 := CHr.trans RC13 CR16
  have f17 := ((f11.wr W13).ext E16)
  have X16 : Stand p l e _ _ m _ below meth c T16 _ 3 7 := X16
  have pre18 : ∀ t, Steps p.tables e below (T16.setTop (mkF m 18 #[.val (.ref ra), .val (.ref ras), .val (.ref ran), .val .null, .val (.int (1 : Int32)), .val (.int (1 : Int32)), .val (.int (0 : Int32))] [(.ref a16), (.ref ra)])) t → Steps p.tables e below (s₁.setTop (entryFrame m #[(.ref ra), (.ref ras), (.ref ran), .null, (.int (1 : Int32)), (.int (1 : Int32)), (.int (0 : Int32))] 7)) t := fun t k => pre15 t (st16 t k)
  have f19 := ((((F_text_ra.ext E5).keep kp9 (ninS (Nat.ne_of_lt (Nat.lt_of_lt_of_le E_ra.lt (Nat.le_of_eq g5.symm))) nin0)).other W13 (Or.inr (slot_ne (Or.inl (hw _ (List.mem_of_getElem? (i := 61) rfl))) (Or.inr (hw _ (List.mem_of_getElem? (i := 58) rfl))) (by decide) (t := (.object "java/lang/String")) (t' := (.object "java/util/List")) (by decide) (by decide)))).ext E16)
  obtain ⟨T20, h20, X20, e20, W20, st20⟩ := putF X16 hx hZ hown (host := "") (Or.inl (hw _ (List.mem_of_getElem? (i := 60) rfl))) Via.refl e16 f19 f17 (Or.inl (hw _ (List.mem_of_getElem? (i := 61) rfl))) (hw _ (List.mem_of_getElem? (i := 27) rfl)) (ty := (.object "java/lang/String")) (by decide) rfl rfl (g := (mkF m 18 #[.val (.ref ra), .val (.ref ras), .val (.ref ran), .val .null, .val (.int (1 : Int32)), .val (.int (1 : Int32)), .val (.int (0 : Int32))] [(.ref a16), (.ref ra)])) rfl rfl (hb hby d5_18)
  have so20 := (Safe.exa (EL := own_EL) hZ.alike f17 (by decide) (by decide))
  have sf20_b5 := Safe.wr W20 so20 CR16.1 sf16_b5
  have RC20 := CHr.trans RC16 (CHr.wr W20 so20 CR16.1)
  have HC20 := CHv.wr W20 so20 CR16.1
  have hk20 := Nat.le_trans hk16 (Keep.of_wr W20).1
  have K20 : Keep h0 h20 [ra] := K16.wr W20 (Or.inl (by simp))
  have z20 : n0 ≤ h20.size := Nat.le_trans Z0 K20.1
  have N20 := Fr.snoc X20 N13 g_ra
  have Fw20 := f19.same W20
  have pre21 : ∀ t, Steps p.tables e below (T20.setTop (mkF m 21 #[.val (.ref ra), .val (.ref ras), .val (.ref ran), .val .null, .val (.int (1 : Int32)), .val (.int (1 : Int32)), .val (.int (0 : Int32))] [])) t → Steps p.tables e below (s₁.setTop (entryFrame m #[(.ref ra), (.ref ras), (.ref ran), .null, (.int (1 : Int32)), (.int (1 : Int32)), (.int (0 : Int32))] 7)) t := fun t k => pre18 t (st20 t k)
  have pre22 : ∀ t, Steps p.tables e below (T20.setTop (mkF m 23 #[.val (.ref ra), .val (.ref ras), .val (.ref ran), .val .null, .val (.int (1 : Int32)), .val (.int (1 : Int32)), .val (.int (0 : Int32))] [(.ref ras), (.ref ra)])) t → Steps p.tables e below (s₁.setTop (entryFrame m #[(.ref ra), (.ref ras), (.ref ran), .null, (.int (1 : Int32)), (.int (1 : Int32)), (.int (0 : Int32))] 7)) t := by
    intro t k
    refine pre21 t ?_
    refine XS.aloadN X20.here hx rfl (hb hby d5_21) rfl rfl ?_
    show Steps p.tables e below (T20.setTop (mkF m 22 #[.val (.ref ra), .val (.ref ras), .val (.ref ran), .val .null, .val (.int (1 : Int32)), .val (.int (1 : Int32)), .val (.int (0 : Int32))] [(.ref ra)])) _
    refine XS.aloadN X20.here hx rfl (hb hby d5_22) rfl rfl ?_
    show Steps p.tables e below (T20.setTop (mkF m 23 #[.val (.ref ra), .val (.ref ras), .val (.ref ran), .val .null, .val (.int (1 : Int32)), .val (.int (1 : Int32)), .val (.int (0 : Int32))] [(.ref ras), (.ref ra)])) _
    exact k
  have f23 := (f17.wr W20)
  have f24 := (((((F_namespace_ra.ext E5).keep kp9 (ninS (Nat.ne_of_lt (Nat.lt_of_lt_of_le E_ra.lt (Nat.le_of_eq g5.symm))) nin0)).other W13 (Or.inr (slot_ne (Or.inr (hw _ (List.mem_of_getElem? (i := 63) rfl))) (Or.inr (hw _ (List.mem_of_getElem? (i := 58) rfl))) (by decide) (t := (.object "java/lang/String")) (t' := (.object "java/util/List")) (by decide) (by decide)))).ext E16).other W20 (Or.inr (slot_ne (Or.inr (hw _ (List.mem_of_getElem? (i := 63) rfl))) (Or.inl (hw _ (List.mem_of_getElem? (i := 61) rfl))) (by decide) (t := (.object "java/lang/String")) (t' := (.object "java/lang/String")) (by decide) (by decide))))
  obtain ⟨T25, h25, X25, e25, W25, st25⟩ := putF X20 hx hZ hown (host := "") (Or.inl (hw _ (List.mem_of_getElem? (i := 62) rfl))) Via.refl e20 f24 f23 (Or.inr ⟨(hw _ (List.mem_of_getElem? (i := 63) rfl)), rfl, hnm⟩) (hw _ (List.mem_of_getElem? (i := 27) rfl)) (ty := (.object "java/lang/String")) (by decide) rfl rfl (g := (mkF m 23 #[.val (.ref ra), .val (.ref ras), .val (.ref ran), .val .null, .val (.int (1 : Int32)), .val (.int (1 : Int32)), .val (.int (0 : Int32))] [(.ref ras), (.ref ra)])) rfl rfl (hb hby d5_23)
  have so25 := (Safe.exa (EL := own_EL) hZ.alike f23 (by decide) (by decide))
  have sf25_b5 := Safe.wr W25 so25 HC20 sf20_b5
  have RC25 := CHr.trans RC20 (CHr.wr W25 so25 HC20)
  have HC25 := CHv.wr W25 so25 HC20
  have hk25 := Nat.le_trans hk20 (Keep.of_wr W25).1
  have K25 : Keep h0 h25 [ra] := K20.wr W25 (Or.inl (by simp))
  have z25 : n0 ≤ h25.size := Nat.le_trans Z0 K25.1
  have N25 := Fr.snoc X25 N20 g_ra
  have Fw25 := f24.same W25
  have pre26 : ∀ t, Steps p.tables e below (T25.setTop (mkF m 26 #[.val (.ref ra), .val (.ref ras), .val (.ref ran), .val .null, .val (.int (1 : Int32)), .val (.int (1 : Int32)), .val (.int (0 : Int32))] [])) t → Steps p.tables e below (s₁.setTop (entryFrame m #[(.ref ra), (.ref ras), (.ref ran), .null, (.int (1 : Int32)), (.int (1 : Int32)), (.int (0 : Int32))] 7)) t := fun t k => pre22 t (st25 t k)
  have pre27 : ∀ t, Steps p.tables e below (T25.setTop (mkF m 28 #[.val (.ref ra), .val (.ref ras), .val (.ref ran), .val .null, .val (.int (1 : Int32)), .val (.int (1 : Int32)), .val (.int (0 : Int32))] [(.ref ran), (.ref ra)])) t → Steps p.tables e below (s₁.setTop (entryFrame m #[(.ref ra), (.ref ras), (.ref ran), .null, (.int (1 : Int32)), (.int (1 : Int32)), (.int (0 : Int32))] 7)) t := by
    intro t k
    refine pre26 t ?_
    refine XS.aloadN X25.here hx rfl (hb hby d5_26) rfl rfl ?_
    show Steps p.tables e below (T25.setTop (mkF m 27 #[.val (.ref ra), .val (.ref ras), .val (.ref ran), .val .null, .val (.int (1 : Int32)), .val (.int (1 : Int32)), .val (.int (0 : Int32))] [(.ref ra)])) _
    refine XS.aloadN X25.here hx rfl (hb hby d5_27) rfl rfl ?_
    show Steps p.tables e below (T25.setTop (mkF m 28 #[.val (.ref ra), .val (.ref ras), .val (.ref ran), .val .null, .val (.int (1 : Int32)), .val (.int (1 : Int32)), .val (.int (0 : Int32))] [(.ref ran), (.ref ra)])) _
    exact k
  have f28 := (f23.wr W25)
  have f29 := ((((((F_name_ra.ext E5).keep kp9 (ninS (Nat.ne_of_lt (Nat.lt_of_lt_of_le E_ra.lt (Nat.le_of_eq g5.symm))) nin0)).other W13 (Or.inr (slot_ne (Or.inr (hw _ (List.mem_of_getElem? (i := 65) rfl))) (Or.inr (hw _ (List.mem_of_getElem? (i := 58) rfl))) (by decide) (t := (.object "java/lang/String")) (t' := (.object "java/util/List")) (by decide) (by decide)))).ext E16).other W20 (Or.inr (slot_ne (Or.inr (hw _ (List.mem_of_getElem? (i := 65) rfl))) (Or.inl (hw _ (List.mem_of_getElem? (i := 61) rfl))) (by decide) (t := (.object "java/lang/String")) (t' := (.object "java/lang/String")) (by decide) (by decide)))).other W25 (Or.inr (slot_ne (Or.inr (hw _ (List.mem_of_getElem? (i := 65) rfl))) (Or.inr (hw _ (List.mem_of_getElem? (i := 63) rfl))) (by decide) (t := (.object "java/lang/String")) (t' := (.object "java/lang/String")) (by decide) (by decide))))
  obtain ⟨T30, h30, X30, e30, W30, st30⟩ := putF X25 hx hZ hown (host := "") (Or.inl (hw _ (List.mem_of_getElem? (i := 64) rfl))) Via.refl e25 f29 f28 (Or.inr ⟨(hw _ (List.mem_of_getElem? (i := 65) rfl)), rfl, hnm⟩) (hw _ (List.mem_of_getElem? (i := 27) rfl)) (ty := (.object "java/lang/String")) (by decide) rfl rfl (g := (mkF m 28 #[.val (.ref ra), .val (.ref ras), .val (.ref ran), .val .null, .val (.int (1 : Int32)), .val (.int (1 : Int32)), .val (.int (0 : Int32))] [(.ref ran), (.ref ra)])) rfl rfl (hb hby d5_28)
  have so30 := (Safe.exa (EL := own_EL) hZ.alike f28 (by decide) (by decide))
  have sf30_b5 := Safe.wr W30 so30 HC25 sf25_b5
  have RC30 := CHr.trans RC25 (CHr.wr W30 so30 HC25)
  have HC30 := CHv.wr W30 so30 HC25
  have hk30 := Nat.le_trans hk25 (Keep.of_wr W30).1
  have K30 : Keep h0 h30 [ra] := K25.wr W30 (Or.inl (by simp))
  have z30 : n0 ≤ h30.size := Nat.le_trans Z0 K30.1
  have N30 := Fr.snoc X30 N25 g_ra
  have Fw30 := f29.same W30
  have pre31 : ∀ t, Steps p.tables e below (T30.setTop (mkF m 31 #[.val (.ref ra), .val (.ref ras), .val (.ref ran), .val .null, .val (.int (1 : Int32)), .val (.int (1 : Int32)), .val (.int (0 : Int32))] [])) t → Steps p.tables e below (s₁.setTop (entryFrame m #[(.ref ra), (.ref ras), (.ref ran), .null, (.int (1 : Int32)), (.int (1 : Int32)), (.int (0 : Int32))] 7)) t := fun t k => pre27 t (st30 t k)
  have pre32 : ∀ t, Steps p.tables e below (T30.setTop (mkF m 33 #[.val (.ref ra), .val (.ref ras), .val (.ref ran), .val .null, .val (.int (1 : Int32)), .val (.int (1 : Int32)), .val (.int (0 : Int32))] [.null, (.ref ra)])) t → Steps p.tables e below (s₁.setTop (entryFrame m #[(.ref ra), (.ref ras), (.ref ran), .null, (.int (1 : Int32)), (.int (1 : Int32)), (.int (0 : Int32))] 7)) t := by
    intro t k
    refine pre31 t ?_
    refine XS.aloadN X30.here hx rfl (hb hby d5_31) rfl rfl ?_
    show Steps p.tables e below (T30.setTop (mkF m 32 #[.val (.ref ra), .val (.ref ras), .val (.ref ran), .val .null, .val (.int (1 : Int32)), .val (.int (1 : Int32)), .val (.int (0 : Int32))] [(.ref ra)])) _
    refine XS.aloadN X30.here hx rfl (hb hby d5_32) rfl rfl ?_
    show Steps p.tables e below (T30.setTop (mkF m 33 #[.val (.ref ra), .val (.ref ras), .val (.ref ran), .val .null, .val (.int (1 : Int32)), .val (.int (1 : Int32)), .val (.int (0 : Int32))] [.null, (.ref ra)])) _
    exact k
  have f33 := (f28.wr W30)
  have f34 := (((((((F_attributes_ra.ext E5).keep kp9 (ninS (Nat.ne_of_lt (Nat.lt_of_lt_of_le E_ra.lt (Nat.le_of_eq g5.symm))) nin0)).other W13 (Or.inr (slot_ne (Or.inr (hw _ (List.mem_of_getElem? (i := 67) rfl))) (Or.inr (hw _ (List.mem_of_getElem? (i := 58) rfl))) (by decide) (t := (.object "java/util/Map")) (t' := (.object "java/util/List")) (by decide) (by decide)))).ext E16).other W20 (Or.inr (slot_ne (Or.inr (hw _ (List.mem_of_getElem? (i := 67) rfl))) (Or.inl (hw _ (List.mem_of_getElem? (i := 61) rfl))) (by decide) (t := (.object "java/util/Map")) (t' := (.object "java/lang/String")) (by decide) (by decide)))).other W25 (Or.inr (slot_ne (Or.inr (hw _ (List.mem_of_getElem? (i := 67) rfl))) (Or.inr (hw _ (List.mem_of_getElem? (i := 63) rfl))) (by decide) (t := (.object "java/util/Map")) (t' := (.object "java/lang/String")) (by decide) (by decide)))).other W30 (Or.inr (slot_ne (Or.inr (hw _ (List.mem_of_getElem? (i := 67) rfl))) (Or.inr (hw _ (List.mem_of_getElem? (i := 65) rfl))) (by decide) (t := (.object "java/util/Map")) (t' := (.object "java/lang/String")) (by decide) (by decide))))
  obtain ⟨T35, h35, X35, e35, W35, st35⟩ := putF X30 hx hZ hown (host := "") (Or.inl (hw _ (List.mem_of_getElem? (i := 66) rfl))) Via.refl e30 f34 f33 (Or.inr ⟨(hw _ (List.mem_of_getElem? (i := 67) rfl)), rfl, hnm⟩) (hw _ (List.mem_of_getElem? (i := 27) rfl)) (ty := (.object "java/util/Map")) (by decide) rfl rfl (g := (mkF m 33 #[.val (.ref ra), .val (.ref ras), .val (.ref ran), .val .null, .val (.int (1 : Int32)), .val (.int (1 : Int32)), .val (.int (0 : Int32))] [.null, (.ref ra)])) rfl rfl (hb hby d5_33)
  have so35 := (Safe.exa (EL := own_EL) hZ.alike f33 (by decide) (by decide))
  have sf35_b5 := Safe.wr W35 so35 HC30 sf30_b5
  have RC35 := CHr.trans RC30 (CHr.wr W35 so35 HC30)
  have HC35 := CHv.wr W35 so35 HC30
  have hk35 := Nat.le_trans hk30 (Keep.of_wr W35).1
  have K35 : Keep h0 h35 [ra] := K30.wr W35 (Or.inl (by simp))
  have z35 : n0 ≤ h35.size := Nat.le_trans Z0 K35.1
  have N35 := Fr.snoc X35 N30 g_ra
  have Fw35 := f34.same W35
  have pre36 : ∀ t, Steps p.tables e below (T35.setTop (mkF m 36 #[.val (.ref ra), .val (.ref ras), .val (.ref ran), .val .null, .val (.int (1 : Int32)), .val (.int (1 : Int32)), .val (.int (0 : Int32))] [])) t → Steps p.tables e below (s₁.setTop (entryFrame m #[(.ref ra), (.ref ras), (.ref ran), .null, (.int (1 : Int32)), (.int (1 : Int32)), (.int (0 : Int32))] 7)) t := fun t k => pre32 t (st35 t k)
  have pre37 : ∀ t, Steps p.tables e below (T35.setTop (mkF m 39 #[.val (.ref ra), .val (.ref ras), .val (.ref ran), .val .null, .val (.int (1 : Int32)), .val (.int (1 : Int32)), .val (.int (0 : Int32))] [(.int (1 : Int32)), (.ref ra)])) t → Steps p.tables e below (s₁.setTop (entryFrame m #[(.ref ra), (.ref ras), (.ref ran), .null, (.int (1 : Int32)), (.int (1 : Int32)), (.int (0 : Int32))] 7)) t := by
    intro t k
    refine pre36 t ?_
    refine XS.aloadN X35.here hx rfl (hb hby d5_36) rfl rfl ?_
    show Steps p.tables e below (T35.setTop (mkF m 37 #[.val (.ref ra), .val (.ref ras), .val (.ref ran), .val .null, .val (.int (1 : Int32)), .val (.int (1 : Int32)), .val (.int (0 : Int32))] [(.ref ra)])) _
    refine XS.iload X35.here hx rfl (hb hby d5_37) rfl ?_
    show Steps p.tables e below (T35.setTop (mkF m 39 #[.val (.ref ra), .val (.ref ras), .val (.ref ran), .val .null, .val (.int (1 : Int32)), .val (.int (1 : Int32)), .val (.int (0 : Int32))] [(.int (1 : Int32)), (.ref ra)])) _
    exact k
  have f38 := (f33.wr W35)
  have f39 := ((((((((F_line_ra.ext E5).keep kp9 (ninS (Nat.ne_of_lt (Nat.lt_of_lt_of_le E_ra.lt (Nat.le_of_eq g5.symm))) nin0)).other W13 (Or.inr (slot_ne (Or.inr (hw _ (List.mem_of_getElem? (i := 69) rfl))) (Or.inr (hw _ (List.mem_of_getElem? (i := 58) rfl))) (by decide) (t := .int) (t' := (.object "java/util/List")) (by decide) (by decide)))).ext E16).other W20 (Or.inr (slot_ne (Or.inr (hw _ (List.mem_of_getElem? (i := 69) rfl))) (Or.inl (hw _ (List.mem_of_getElem? (i := 61) rfl))) (by decide) (t := .int) (t' := (.object "java/lang/String")) (by decide) (by decide)))).other W25 (Or.inr (slot_ne (Or.inr (hw _ (List.mem_of_getElem? (i := 69) rfl))) (Or.inr (hw _ (List.mem_of_getElem? (i := 63) rfl))) (by decide) (t := .int) (t' := (.object "java/lang/String")) (by decide) (by decide)))).other W30 (Or.inr (slot_ne (Or.inr (hw _ (List.mem_of_getElem? (i := 69) rfl))) (Or.inr (hw _ (List.mem_of_getElem? (i := 65) rfl))) (by decide) (t := .int) (t' := (.object "java/lang/String")) (by decide) (by decide)))).other W35 (Or.inr (slot_ne (Or.inr (hw _ (List.mem_of_getElem? (i := 69) rfl))) (Or.inr (hw _ (List.mem_of_getElem? (i := 67) rfl))) (by decide) (t := .int) (t' := (.object "java/util/Map")) (by decide) (by decide))))
  obtain ⟨T40, h40, X40, e40, W40, st40⟩ := putF X35 hx hZ hown (host := "") (Or.inl (hw _ (List.mem_of_getElem? (i := 68) rfl))) Via.refl e35 f39 f38 (Or.inr ⟨(hw _ (List.mem_of_getElem? (i := 69) rfl)), rfl, hnm⟩) (hw _ (List.mem_of_getElem? (i := 27) rfl)) (ty := .int) (by decide) rfl rfl (g := (mkF m 39 #[.val (.ref ra), .val (.ref ras), .val (.ref ran), .val .null, .val (.int (1 : Int32)), .val (.int (1 : Int32)), .val (.int (0 : Int32))] [(.int (1 : Int32)), (.ref ra)])) rfl rfl (hb hby d5_39)
  have so40 := (Safe.exa (EL := own_EL) hZ.alike f38 (by decide) (by decide))
  have sf40_b5 := Safe.wr W40 so40 HC35 sf35_b5
  have RC40 := CHr.trans RC35 (CHr.wr W40 so40 HC35)
  have HC40 := CHv.wr W40 so40 HC35
  have hk40 := Nat.le_trans hk35 (Keep.of_wr W40).1
  have K40 : Keep h0 h40 [ra] := K35.wr W40 (Or.inl (by simp))
  have z40 : n0 ≤ h40.size := Nat.le_trans Z0 K40.1
  have N40 := Fr.snoc X40 N35 g_ra
  have Fw40 := f39.same W40
  have pre41 : ∀ t, Steps p.tables e below (T40.setTop (mkF m 42 #[.val (.ref ra), .val (.ref ras), .val (.ref ran), .val .null, .val (.int (1 : Int32)), .val (.int (1 : Int32)), .val (.int (0 : Int32))] [])) t → Steps p.tables e below (s₁.setTop (entryFrame m #[(.ref ra), (.ref ras), (.ref ran), .null, (.int (1 : Int32)), (.int (1 : Int32)), (.int (0 : Int32))] 7)) t := fun t k => pre37 t (st40 t k)
  have pre42 : ∀ t, Steps p.tables e below (T40.setTop (mkF m 45 #[.val (.ref ra), .val (.ref ras), .val (.ref ran), .val .null, .val (.int (1 : Int32)), .val (.int (1 : Int32)), .val (.int (0 : Int32))] [(.int (1 : Int32)), (.ref ra)])) t → Steps p.tables e below (s₁.setTop (entryFrame m #[(.ref ra), (.ref ras), (.ref ran), .null, (.int (1 : Int32)), (.int (1 : Int32)), (.int (0 : Int32))] 7)) t := by
    intro t k
    refine pre41 t ?_
    refine XS.aloadN X40.here hx rfl (hb hby d5_42) rfl rfl ?_
    show Steps p.tables e below (T40.setTop (mkF m 43 #[.val (.ref ra), .val (.ref ras), .val (.ref ran), .val .null, .val (.int (1 : Int32)), .val (.int (1 : Int32)), .val (.int (0 : Int32))] [(.ref ra)])) _
    refine XS.iload X40.here hx rfl (hb hby d5_43) rfl ?_
    show Steps p.tables e below (T40.setTop (mkF m 45 #[.val (.ref ra), .val (.ref ras), .val (.ref ran), .val .null, .val (.int (1 : Int32)), .val (.int (1 : Int32)), .val (.int (0 : Int32))] [(.int (1 : Int32)), (.ref ra)])) _
    exact k
  have f43 := (f38.wr W40)
  have f44 := (((((((((F_column_ra.ext E5).keep kp9 (ninS (Nat.ne_of_lt (Nat.lt_of_lt_of_le E_ra.lt (Nat.le_of_eq g5.symm))) nin0)).other W13 (Or.inr (slot_ne (Or.inr (hw _ (List.mem_of_getElem? (i := 71) rfl))) (Or.inr (hw _ (List.mem_of_getElem? (i := 58) rfl))) (by decide) (t := .int) (t' := (.object "java/util/List")) (by decide) (by decide)))).ext E16).other W20 (Or.inr (slot_ne (Or.inr (hw _ (List.mem_of_getElem? (i := 71) rfl))) (Or.inl (hw _ (List.mem_of_getElem? (i := 61) rfl))) (by decide) (t := .int) (t' := (.object "java/lang/String")) (by decide) (by decide)))).other W25 (Or.inr (slot_ne (Or.inr (hw _ (List.mem_of_getElem? (i := 71) rfl))) (Or.inr (hw _ (List.mem_of_getElem? (i := 63) rfl))) (by decide) (t := .int) (t' := (.object "java/lang/String")) (by decide) (by decide)))).other W30 (Or.inr (slot_ne (Or.inr (hw _ (List.mem_of_getElem? (i := 71) rfl))) (Or.inr (hw _ (List.mem_of_getElem? (i := 65) rfl))) (by decide) (t := .int) (t' := (.object "java/lang/String")) (by decide) (by decide)))).other W35 (Or.inr (slot_ne (Or.inr (hw _ (List.mem_of_getElem? (i := 71) rfl))) (Or.inr (hw _ (List.mem_of_getElem? (i := 67) rfl))) (by decide) (t := .int) (t' := (.object "java/util/Map")) (by decide) (by decide)))).other W40 (Or.inr (slot_ne (Or.inr (hw _ (List.mem_of_getElem? (i := 71) rfl))) (Or.inr (hw _ (List.mem_of_getElem? (i := 69) rfl))) (by decide) (t := .int) (t' := .int) (by decide) (by decide))))
  obtain ⟨T45, h45, X45, e45, W45, st45⟩ := putF X40 hx hZ hown (host := "") (Or.inl (hw _ (List.mem_of_getElem? (i := 70) rfl))) Via.refl e40 f44 f43 (Or.inr ⟨(hw _ (List.mem_of_getElem? (i := 71) rfl)), rfl, hnm⟩) (hw _ (List.mem_of_getElem? (i := 27) rfl)) (ty := .int) (by decide) rfl rfl (g := (mkF m 45 #[.val (.ref ra), .val (.ref ras), .val (.ref ran), .val .null, .val (.int (1 : Int32)), .val (.int (1 : Int32)), .val (.int (0 : Int32))] [(.int (1 : Int32)), (.ref ra)])) rfl rfl (hb hby d5_45)
  have so45 := (Safe.exa (EL := own_EL) hZ.alike f43 (by decide) (by decide))
  have sf45_b5 := Safe.wr W45 so45 HC40 sf40_b5
  have RC45 := CHr.trans RC40 (CHr.wr W45 so45 HC40)
  have HC45 := CHv.wr W45 so45 HC40
  have hk45 := Nat.le_trans hk40 (Keep.of_wr W45).1
  have K45 : Keep h0 h45 [ra] := K40.wr W45 (Or.inl (by simp))
  have z45 : n0 ≤ h45.size := Nat.le_trans Z0 K45.1
  have N45 := Fr.snoc X45 N40 g_ra
  have Fw45 := f44.same W45
  have pre46 : ∀ t, Steps p.tables e below (T45.setTop (mkF m 48 #[.val (.ref ra), .val (.ref ras), .val (.ref ran), .val .null, .val (.int (1 : Int32)), .val (.int (1 : Int32)), .val (.int (0 : Int32))] [])) t → Steps p.tables e below (s₁.setTop (entryFrame m #[(.ref ra), (.ref ras), (.ref ran), .null, (.int (1 : Int32)), (.int (1 : Int32)), (.int (0 : Int32))] 7)) t := fun t k => pre42 t (st45 t k)
  have pre47 : ∀ t, Steps p.tables e below (T45.setTop (mkF m 51 #[.val (.ref ra), .val (.ref ras), .val (.ref ran), .val .null, .val (.int (1 : Int32)), .val (.int (1 : Int32)), .val (.int (0 : Int32))] [(.int (0 : Int32)), (.ref ra)])) t → Steps p.tables e below (s₁.setTop (entryFrame m #[(.ref ra), (.ref ras), (.ref ran), .null, (.int (1 : Int32)), (.int (1 : Int32)), (.int (0 : Int32))] 7)) t := by
    intro t k
    refine pre46 t ?_
    refine XS.aloadN X45.here hx rfl (hb hby d5_48) rfl rfl ?_
    show Steps p.tables e below (T45.setTop (mkF m 49 #[.val (.ref ra), .val (.ref ras), .val (.ref ran), .val .null, .val (.int (1 : Int32)), .val (.int (1 : Int32)), .val (.int (0 : Int32))] [(.ref ra)])) _
    refine XS.iload X45.here hx rfl (hb hby d5_49) rfl ?_
    show Steps p.tables e below (T45.setTop (mkF m 51 #[.val (.ref ra), .val (.ref ras), .val (.ref ran), .val .null, .val (.int (1 : Int32)), .val (.int (1 : Int32)), .val (.int (0 : Int32))] [(.int (0 : Int32)), (.ref ra)])) _
    exact k
  have f48 := (f43.wr W45)
  have f49 := ((((((((((F_keepsText_ra.ext E5).keep kp9 (ninS (Nat.ne_of_lt (Nat.lt_of_lt_of_le E_ra.lt (Nat.le_of_eq g5.symm))) nin0)).other W13 (Or.inr (slot_ne (Or.inr (hw _ (List.mem_of_getElem? (i := 73) rfl))) (Or.inr (hw _ (List.mem_of_getElem? (i := 58) rfl))) (by decide) (t := .boolean) (t' := (.object "java/util/List")) (by decide) (by decide)))).ext E16).other W20 (Or.inr (slot_ne (Or.inr (hw _ (List.mem_of_getElem? (i := 73) rfl))) (Or.inl (hw _ (List.mem_of_getElem? (i := 61) rfl))) (by decide) (t := .boolean) (t' := (.object "java/lang/String")) (by decide) (by decide)))).other W25 (Or.inr (slot_ne (Or.inr (hw _ (List.mem_of_getElem? (i := 73) rfl))) (Or.inr (hw _ (List.mem_of_getElem? (i := 63) rfl))) (by decide) (t := .boolean) (t' := (.object "java/lang/String")) (by decide) (by decide)))).other W30 (Or.inr (slot_ne (Or.inr (hw _ (List.mem_of_getElem? (i := 73) rfl))) (Or.inr (hw _ (List.mem_of_getElem? (i := 65) rfl))) (by decide) (t := .boolean) (t' := (.object "java/lang/String")) (by decide) (by decide)))).other W35 (Or.inr (slot_ne (Or.inr (hw _ (List.mem_of_getElem? (i := 73) rfl))) (Or.inr (hw _ (List.mem_of_getElem? (i := 67) rfl))) (by decide) (t := .boolean) (t' := (.object "java/util/Map")) (by decide) (by decide)))).other W40 (Or.inr (slot_ne (Or.inr (hw _ (List.mem_of_getElem? (i := 73) rfl))) (Or.inr (hw _ (List.mem_of_getElem? (i := 69) rfl))) (by decide) (t := .boolean) (t' := .int) (by decide) (by decide)))).other W45 (Or.inr (slot_ne (Or.inr (hw _ (List.mem_of_getElem? (i := 73) rfl))) (Or.inr (hw _ (List.mem_of_getElem? (i := 71) rfl))) (by decide) (t := .boolean) (t' := .int) (by decide) (by decide))))
  obtain ⟨T50, h50, X50, e50, W50, st50⟩ := putFN X45 hx hZ hown (hw _ (List.mem_of_getElem? (i := 72) rfl)) Via.refl e45 f49 f48 (Or.inr ⟨(hw _ (List.mem_of_getElem? (i := 73) rfl)), rfl, hnm⟩) (hw _ (List.mem_of_getElem? (i := 27) rfl)) (ty := .boolean) (v' := (.int (nar .boolean (0 : Int32)))) (by decide) rfl (fits_nar_bool _) (g := (mkF m 51 #[.val (.ref ra), .val (.ref ras), .val (.ref ran), .val .null, .val (.int (1 : Int32)), .val (.int (1 : Int32)), .val (.int (0 : Int32))] [(.int (0 : Int32)), (.ref ra)])) rfl rfl (hb hby d5_51)
  have so50 := (Safe.exa (EL := own_EL) hZ.alike f48 (by decide) (by decide))
  have sf50_b5 := Safe.wr W50 so50 HC45 sf45_b5
  have RC50 := CHr.trans RC45 (CHr.wr W50 so50 HC45)
  have HC50 := CHv.wr W50 so50 HC45
  have hk50 := Nat.le_trans hk45 (Keep.of_wr W50).1
  have K50 : Keep h0 h50 [ra] := K45.wr W50 (Or.inl (by simp))
  have z50 : n0 ≤ h50.size := Nat.le_trans Z0 K50.1
  have N50 := Fr.snoc X50 N45 g_ra
  have Fw50 := f49.same W50
  have pre51 : ∀ t, Steps p.tables e below (T50.setTop (mkF m 54 #[.val (.ref ra), .val (.ref ras), .val (.ref ran), .val .null, .val (.int (1 : Int32)), .val (.int (1 : Int32)), .val (.int (0 : Int32))] [])) t → Steps p.tables e below (s₁.setTop (entryFrame m #[(.ref ra), (.ref ras), (.ref ran), .null, (.int (1 : Int32)), (.int (1 : Int32)), (.int (0 : Int32))] 7)) t := fun t k => pre47 t (st50 t k)
  obtain ⟨fs, hr, hrun, hended, hRW⟩ := X50.leaveW hS16 (Nat.le_trans hk50 (Nat.le_of_eq (congrArg Array.size (show _ = h50 from e50)).symm)) (v := none) (fun _ => rfl)
  have RE := CHr.trans RC50 (CHv.at X50 hZ hEL HC50)
  refine ⟨_, _, pre51 _ ?_, hrun, hended, _, _, rfl, ?_, (by rw [hh]; show CHr Z own_EL s.vm h0 T50.vm T50.heap; rw [show T50.heap = h50 from e50]; exact RE), hRW.1, hRW.2.1, hRW.2.2.1, hRW.2.2.2.mono (by decide) (by decide)⟩
  · exact X50.returnOut hx Bd.returns (hb hby d5_54) hr
  · show Q_rm_el Z ra ras ran wl h0 n0 _ T50.heap _
    rw [e50]
    exact ⟨rfl, N50, K50, (f48.wr W50), (((((Fw25.other W30 (Or.inr (slot_ne (Or.inr (hw _ (List.mem_of_getElem? (i := 63) rfl))) (Or.inr (hw _ (List.mem_of_getElem? (i := 65) rfl))) (by decide) (t := (.object "java/lang/String")) (t' := (.object "java/lang/String")) (by decide) (by decide)))).other W35 (Or.inr (slot_ne (Or.inr (hw _ (List.mem_of_getElem? (i := 63) rfl))) (Or.inr (hw _ (List.mem_of_getElem? (i := 67) rfl))) (by decide) (t := (.object "java/lang/String")) (t' := (.object "java/util/Map")) (by decide) (by decide)))).other W40 (Or.inr (slot_ne (Or.inr (hw _ (List.mem_of_getElem? (i := 63) rfl))) (Or.inr (hw _ (List.mem_of_getElem? (i := 69) rfl))) (by decide) (t := (.object "java/lang/String")) (t' := .int) (by decide) (by decide)))).other W45 (Or.inr (slot_ne (Or.inr (hw _ (List.mem_of_getElem? (i := 63) rfl))) (Or.inr (hw _ (List.mem_of_getElem? (i := 71) rfl))) (by decide) (t := (.object "java/lang/String")) (t' := .int) (by decide) (by decide)))).other W50 (Or.inr (slot_ne (Or.inr (hw _ (List.mem_of_getElem? (i := 63) rfl))) (Or.inr (hw _ (List.mem_of_getElem? (i := 73) rfl))) (by decide) (t := (.object "java/lang/String")) (t' := .boolean) (by decide) (by decide)))), ((((Fw30.other W35 (Or.inr (slot_ne (Or.inr (hw _ (List.mem_of_getElem? (i := 65) rfl))) (Or.inr (hw _ (List.mem_of_getElem? (i := 67) rfl))) (by decide) (t := (.object "java/lang/String")) (t' := (.object "java/util/Map")) (by decide) (by decide)))).other W40 (Or.inr (slot_ne (Or.inr (hw _ (List.mem_of_getElem? (i := 65) rfl))) (Or.inr (hw _ (List.mem_of_getElem? (i := 69) rfl))) (by decide) (t := (.object "java/lang/String")) (t' := .int) (by decide) (by decide)))).other W45 (Or.inr (slot_ne (Or.inr (hw _ (List.mem_of_getElem? (i := 65) rfl))) (Or.inr (hw _ (List.mem_of_getElem? (i := 71) rfl))) (by decide) (t := (.object "java/lang/String")) (t' := .int) (by decide) (by decide)))).other W50 (Or.inr (slot_ne (Or.inr (hw _ (List.mem_of_getElem? (i := 65) rfl))) (Or.inr (hw _ (List.mem_of_getElem? (i := 73) rfl))) (by decide) (t := (.object "java/lang/String")) (t' := .boolean) (by decide) (by decide))))⟩
def OKc (z : Int32) : Prop := 0 ≤ z.toInt ∧ z.toInt ≤ 255
def OKl (z : Int32) : Prop := z = 0 ∨ z = 1 ∨ z = 2
theorem own_r8 (x : Int32) : OKc ((x &&& (255 : Int32)).toUInt32.toUInt16.toUInt32.toInt32) := by
  have := rng32 x
  have := c_mask x (255 : Int32) 8 (by decide) (by decide +kernel)
  have := rng32 (x &&& (255 : Int32))
  have := c_i2c (x &&& (255 : Int32))
  have := rng32 ((x &&& (255 : Int32)).toUInt32.toUInt16.toUInt32.toInt32)
  constructor <;> omega
theorem own_r3 (x : Int32) : OKl ((x &&& (3 : Int32)) % (3 : Int32)) := by
  have := rng32 x
  have := c_mask x (3 : Int32) 2 (by decide) (by decide +kernel)
  have := rng32 (x &&& (3 : Int32))
  have : (3 : Int32).toInt = 3 := rfl
  have := c_irem (x &&& (3 : Int32)) (3 : Int32) 3 rfl
  have := rng32 ((x &&& (3 : Int32)) % (3 : Int32))
  simp only [OKl, ← Int32.toInt_inj]
  have : (0 : Int32).toInt = 0 := rfl
  have : (1 : Int32).toInt = 1 := rfl
  have : (2 : Int32).toInt = 2 := rfl
  omega
theorem own_if {c : Prop} [Decidable c] {a b : Int32} (ha : OKc a) (hb' : OKc b) : OKc (if c then a else b) := by
  split <;> assumption
theorem own_nc {z : Int32} (q : OKc z) : nar .char z = z := by
  obtain ⟨q1, q2⟩ := q
  have := c_i2c z
  show z.toUInt32.toUInt16.toUInt32.toInt32 = z
  rw [← Int32.toInt_inj]
  omega
theorem own_lt {z : Int32} (q : OKc z) : ¬ ((255 : Int32) < z) := by
  obtain ⟨q1, q2⟩ := q
  rw [Int32.lt_iff_toInt_lt]
  have : (255 : Int32).toInt = 255 := rfl
  omega
theorem own_ltc {z : Int32} (q : OKc z) : ¬ ((255 : Int32) < nar .char z) := by rw [own_nc q]; exact own_lt q
theorem own_l2 {z : Int32} (q : OKl z) (a : ¬ (z = (0 : Int32))) (b : ¬ (z = (1 : Int32))) : z = (2 : Int32) := by
  rcases q with q | q | q
  · exact absurd q a
  · exact absurd q b
  · exact q
theorem own_mx {z : Int32} (q : OKl z) : ¬ ((2 : Int32) < z) := by rcases q with rfl | rfl | rfl <;> decide
theorem own_inj {a b : Int32} (ha : OKc a) (hb' : OKc b) : (nar .byte a.toInt8.toInt32 = nar .byte b.toInt8.toInt32) = (a = b) := by
  obtain ⟨q1, q2⟩ := ha
  obtain ⟨q3, q4⟩ := hb'
  have := c_i2b a
  have := c_i2b b
  have := c_i2b a.toInt8.toInt32
  have := c_i2b b.toInt8.toInt32
  show (a.toInt8.toInt32.toInt8.toInt32 = b.toInt8.toInt32.toInt8.toInt32) = (a = b)
  apply propext
  rw [← Int32.toInt_inj, ← Int32.toInt_inj]
  omega
theorem own_at0 (x : Int32) (xs : List Int32) : own_at (x :: xs) (0 : Int32) = x := rfl
theorem own_at1 (x y : Int32) (xs : List Int32) : own_at (x :: y :: xs) (1 : Int32) = y := rfl
theorem own_lst1 (a b : Int32) : own_lst 1 a b = [nar .byte a.toInt8.toInt32] := by rw [own_lst, if_neg (by decide), if_pos rfl]
theorem own_lst2 {a b : Int32} (ha : OKc a) (hb' : OKc b) : own_lst 2 a b = [nar .byte a.toInt8.toInt32, nar .byte b.toInt8.toInt32] := by rw [own_lst, if_neg (by decide), if_neg (by decide), own_nc ha, own_nc hb']
theorem own_seq {la a b lb c d : Int32} (xcs : Int32) (hla : OKl la) (hlb : OKl lb) (ha : OKc a) (hb' : OKc b) (hc' : OKc c) (hd' : OKc d) :
    F_rm_seq xcs la lb (own_lst la a b) (own_lst lb c d) = F_rm_same la a b lb c d := by
  have e1 : F_rm_leq la lb (own_lst la a b) (own_lst lb c d) = F_rm_same la a b lb c d := by
    by_cases e : la = lb
    · subst e
      rcases hla with rfl | rfl | rfl
      · simp [F_rm_leq, F_rm_same]
      · rw [own_lst1, own_lst1]
        simp only [F_rm_leq, F_rm_same, own_at0, own_inj ha hc', if_true, if_neg (by decide : ¬ ((1 : Int32) < 1)), if_pos (by decide : ((1 : Int32) < 2)), if_pos (by decide : ((0 : Int32) < 1))]
      · rw [own_lst2 ha hb', own_lst2 hc' hd']
        simp only [F_rm_leq, F_rm_same, own_at0, own_at1, own_inj ha hc', own_inj hb' hd', if_true, if_neg (by decide : ¬ ((2 : Int32) < 1)), if_neg (by decide : ¬ ((2 : Int32) < 2)), if_pos (by decide : ((0 : Int32) < 2)), if_pos (by decide : ((1 : Int32) < 2))]
    · rw [F_rm_leq, F_rm_same, if_neg e, if_neg e]
  rw [F_rm_seq, e1]
  have e2 : F_rm_same la a b lb c d = 0 ∨ F_rm_same la a b lb c d = 1 := by
    unfold F_rm_same
    repeat' split
    all_goals simp
  rcases e2 with e2 | e2 <;> rw [e2] <;> rfl
theorem pd12 : parseMethodDescriptor "(ICC)Ljava/lang/String;" = some ⟨[.int, .char, .char], some (.object "java/lang/String")⟩ := by decide +kernel
theorem pd13 : parseMethodDescriptor "(Ljava/lang/String;Ljava/lang/String;Ljava/util/Map;IIZ)V" = some ⟨[(.object "java/lang/String"), (.object "java/lang/String"), (.object "java/util/Map"), .int, .int, .boolean], none⟩ := by decide +kernel
theorem pd14 : parseMethodDescriptor "(ICCICC)Z" = some ⟨[.int, .char, .char, .int, .char, .char], some .boolean⟩ := by decide +kernel
theorem pd15 : parseMethodDescriptor "(Ljava/lang/String;Ljava/lang/String;)Z" = some ⟨[(.object "java/lang/String"), (.object "java/lang/String")], some .boolean⟩ := by decide +kernel
theorem ef_rm0 (m : MethodId) (xp : Int32) (xq : Int32) (xr : Int32) (xs : Int32) (xt : Int32) : entryFrame m #[(.int xp), (.int xq), (.int xr), (.int xs), (.int xt)] maxLocals = mkF m 0 #[.val (.int xp), .val (.int xq), .val (.int xr), .val (.int xs), .val (.int xt), .unset, .unset, .unset, .unset, .unset, .unset, .unset, .unset, .unset, .unset, .unset, .unset, .unset, .unset, .unset, .unset, .unset, .unset] [] := by first | (simp [entryFrame, mkF, argsToLocals, Value.category, maxLocals]; done) | rfl
def Q_rm0 (Z : State) (xp : Int32) (xq : Int32) (xr : Int32) (xs : Int32) (xt : Int32) (xcs : Int32) (wl : Addr) (h0 : Heap) (n0 : Nat) (v : Option Value) (h : Heap) (L : List Loc) : Prop := v = some (.int (1 : Int32)) ∧ Fr n0 L
set_option maxRecDepth 65536 in
set_option maxHeartbeats 40000000 in
theorem rm0 (l : Launch) (Z : State) (a0 : Array Value) (hw : ∀ d ∈ tables_1, d.before a0 Z = true) (ws : List Jvm.Cond) (xp : Int32) (xq : Int32) (xr : Int32) (xs : Int32) (xt : Int32) (xcs : Int32) (wl : Addr) (h0 : Heap) (n0 : Nat) (Z0 : n0 ≤ h0.size) (SC : Sta Z h0 "java/lang/String" "COMPACT_STRINGS" "Z" (.int xcs)) (hcs : ¬ (xcs = (0 : Int32))) (SD : Sta Z h0 "java/util/ArrayList" "DEFAULTCAPACITY_EMPTY_ELEMENTDATA" "[Ljava/lang/Object;" (.ref wl)) :
    MetFree l x (head1 (Jvm.Cond.code x code maxLocals ret :: ws) room_1) (fun a U => a = #[(.int xp), (.int xq), (.int xr), (.int xs), (.int xt)] ∧ Z.Warmed39 U.vm ∧ U.heap = h0 ∧ CHv Z own_EL U.vm h0) (fun _ _ _ _ _ => True) (fun _ U o U' => ∃ v L, o = .returned v ∧ Q_rm0 Z xp xq xr xs xt xcs wl h0 n0 v U'.heap L ∧ CHr Z own_EL U.vm U.heap U'.vm U'.heap ∧ ReturnedEndW U o U' L room_1.cells room_1.slots) := by
  refine MetFree.of_bodySF (plainFor_of_name pn4) hisR ?_
  intro p e s m args below meth c s₁ Bd hml0 hP hK
  obtain ⟨rfl, hZ, hh, HC0⟩ := hP
  have hx := Bd.exec
  have hby := Bd.bytes
  have hml : c.maxLocals = 23 := hml0
  have hown : s.vm.findClass "com/example/feuillet/feuillet/input/ElementIsPinLaw" = some m.cls := findClass_of_methodNamed Bd.named
  have hnm := (name_of_methodNamed Bd.named Bd.method).1
  have X0 : Stand p l e room_1 (s.setVm s.vm) m #[(.int xp), (.int xq), (.int xr), (.int xs), (.int xt)] below meth c s₁ [] 0 0 := Stand.of_body Bd
  have hS0 : s.Since s.vm 0 := State.WarmedH.since (State.WarmedH.refl s) 0
  have hk0 : 0 ≤ h0.size := Nat.zero_le _
  have hEL : EW Z a0 own_EL := EW.cons (hw _ (List.mem_of_getElem? (i := 59) rfl)) (by decide) (EW.cons (hw _ (List.mem_of_getElem? (i := 18) rfl)) (by decide) EW.nil)
  have wS : ∀ d ∈ Bundle.stringAtoms, d.before a0 Z = true := fun d hd => hw d ((by decide +kernel : ∀ d ∈ Bundle.stringAtoms, d ∈ tables_1) d hd)
  have hown : (s.setVm s.vm).vm.findClass "com/example/feuillet/feuillet/input/ElementIsPinLaw" = some m.cls := hown
  have hZ : Z.Warmed39 (s.setVm s.vm).vm := hZ
  have e0 : s₁.heap = h0 := by rw [← hh, Bd.state]; rfl
  have N0 := Fr.nil n0
  have pre0 : ∀ t, Steps p.tables e below (s₁.setTop (mkF m 0 #[.val (.int xp), .val (.int xq), .val (.int xr), .val (.int xs), .val (.int xt), .unset, .unset, .unset, .unset, .unset, .unset, .unset, .unset, .unset, .unset, .unset, .unset, .unset, .unset, .unset, .unset, .unset, .unset] [])) t → Steps p.tables e below (s₁.setTop (entryFrame m #[(.int xp), (.int xq), (.int xr), (.int xs), (.int xt)] maxLocals)) t := fun t k => castTop (ef_rm0 m xp xq xr xs xt) k
  have pre1 : ∀ t, Steps p.tables e below (s₁.setTop (mkF m 8 #[.val (.int xp), .val (.int xq), .val (.int xr), .val (.int xs), .val (.int xt), .val (.int ((xp &&& (255 : Int32)).toUInt32.toUInt16.toUInt32.toInt32)), .unset, .unset, .unset, .unset, .unset, .unset, .unset, .unset, .unset, .unset, .unset, .unset, .unset, .unset, .unset, .unset, .unset] [])) t → Steps p.tables e below (s₁.setTop (entryFrame m #[(.int xp), (.int xq), (.int xr), (.int xs), (.int xt)] maxLocals)) t := by
    intro t k
    refine pre0 t ?_
    refine XS.iloadN X0.here hx rfl (hb hby at_0) rfl ?_
    show Steps p.tables e below (s₁.setTop (mkF m 1 #[.val (.int xp), .val (.int xq), .val (.int xr), .val (.int xs), .val (.int xt), .unset, .unset, .unset, .unset, .unset, .unset, .unset, .unset, .unset, .unset, .unset, .unset, .unset, .unset, .unset, .unset, .unset, .unset] [(.int xp)])) _
    refine XS.sipush X0.here hx rfl (hb hby at_1) ?_
    show Steps p.tables e below (s₁.setTop (mkF m 4 #[.val (.int xp), .val (.int xq), .val (.int xr), .val (.int xs), .val (.int xt), .unset, .unset, .unset, .unset, .unset, .unset, .unset, .unset, .unset, .unset, .unset, .unset, .unset, .unset, .unset, .unset, .unset, .unset] [(.int (255 : Int32)), (.int xp)])) _
    refine XS.iand X0.here hx rfl (hb hby at_4) rfl ?_
    show Steps p.tables e below (s₁.setTop (mkF m 5 #[.val (.int xp), .val (.int xq), .val (.int xr), .val (.int xs), .val (.int xt), .unset, .unset, .unset, .unset, .unset, .unset, .unset, .unset, .unset, .unset, .unset, .unset, .unset, .unset, .unset, .unset, .unset, .unset] [(.int (xp &&& (255 : Int32)))])) _
    refine XS.i2c X0.here hx rfl (hb hby at_5) rfl ?_
    show Steps p.tables e below (s₁.setTop (mkF m 6 #[.val (.int xp), .val (.int xq), .val (.int xr), .val (.int xs), .val (.int xt), .unset, .unset, .unset, .unset, .unset, .unset, .unset, .unset, .unset, .unset, .unset, .unset, .unset, .unset, .unset, .unset, .unset, .unset] [(.int ((xp &&& (255 : Int32)).toUInt32.toUInt16.toUInt32.toInt32))])) _
    refine XS.istore X0.here hx rfl (hb hby at_6) rfl (l' := #[.val (.int xp), .val (.int xq), .val (.int xr), .val (.int xs), .val (.int xt), .val (.int ((xp &&& (255 : Int32)).toUInt32.toUInt16.toUInt32.toInt32)), .unset, .unset, .unset, .unset, .unset, .unset, .unset, .unset, .unset, .unset, .unset, .unset, .unset, .unset, .unset, .unset, .unset]) rfl ?_
    show Steps p.tables e below (s₁.setTop (mkF m 8 #[.val (.int xp), .val (.int xq), .val (.int xr), .val (.int xs), .val (.int xt), .val (.int ((xp &&& (255 : Int32)).toUInt32.toUInt16.toUInt32.toInt32)), .unset, .unset, .unset, .unset, .unset, .unset, .unset, .unset, .unset, .unset, .unset, .unset, .unset, .unset, .unset, .unset, .unset] [])) _
    exact k
  obtain ⟨ja, hja⟩ : ∃ z : Int32, z = ((xp &&& (255 : Int32)).toUInt32.toUInt16.toUInt32.toInt32) := ⟨_, rfl⟩
  rw [← hja] at pre1
  have pre2 : ∀ t, Steps p.tables e below (s₁.setTop (mkF m 19 #[.val (.int xp), .val (.int xq), .val (.int xr), .val (.int xs), .val (.int xt), .val (.int ja), .val (.int ((((xp.toUInt32 >>> ((8 : Int32) &&& 31).toUInt32).toInt32) &&& (255 : Int32)).toUInt32.toUInt16.toUInt32.toInt32)), .unset, .unset, .unset, .unset, .unset, .unset, .unset, .unset, .unset, .unset, .unset, .unset, .unset, .unset, .unset, .unset] [])) t → Steps p.tables e below (s₁.setTop (entryFrame m #[(.int xp), (.int xq), (.int xr), (.int xs), (.int xt)] maxLocals)) t := by
    intro t k
    refine pre1 t ?_
    refine XS.iloadN X0.here hx rfl (hb hby at_8) rfl ?_
    show Steps p.tables e below (s₁.setTop (mkF m 9 #[.val (.int xp), .val (.int xq), .val (.int xr), .val (.int xs), .val (.int xt), .val (.int ja), .unset, .unset, .unset, .unset, .unset, .unset, .unset, .unset, .unset, .unset, .unset, .unset, .unset, .unset, .unset, .unset, .unset] [(.int xp)])) _
    refine XS.bipush X0.here hx rfl (hb hby at_9) ?_
    show Steps p.tables e below (s₁.setTop (mkF m 11 #[.val (.int xp), .val (.int xq), .val (.int xr), .val (.int xs), .val (.int xt), .val (.int ja), .unset, .unset, .unset, .unset, .unset, .unset, .unset, .unset, .unset, .unset, .unset, .unset, .unset, .unset, .unset, .unset, .unset] [(.int (8 : Int32)), (.int xp)])) _
    refine XS.iushr X0.here hx rfl (hb hby at_11) rfl ?_
    show Steps p.tables e below (s₁.setTop (mkF m 12 #[.val (.int xp), .val (.int xq), .val (.int xr), .val (.int xs), .val (.int xt), .val (.int ja), .unset, .unset, .unset, .unset, .unset, .unset, .unset, .unset, .unset, .unset, .unset, .unset, .unset, .unset, .unset, .unset, .unset] [(.int ((xp.toUInt32 >>> ((8 : Int32) &&& 31).toUInt32).toInt32))])) _
    refine XS.sipush X0.here hx rfl (hb hby at_12) ?_
    show Steps p.tables e below (s₁.setTop (mkF m 15 #[.val (.int xp), .val (.int xq), .val (.int xr), .val (.int xs), .val (.int xt), .val (.int ja), .unset, .unset, .unset, .unset, .unset, .unset, .unset, .unset, .unset, .unset, .unset, .unset, .unset, .unset, .unset, .unset, .unset] [(.int (255 : Int32)), (.int ((xp.toUInt32 >>> ((8 : Int32) &&& 31).toUInt32).toInt32))])) _
    refine XS.iand X0.here hx rfl (hb hby at_15) rfl ?_
    show Steps p.tables e below (s₁.setTop (mkF m 16 #[.val (.int xp), .val (.int xq), .val (.int xr), .val (.int xs), .val (.int xt), .val (.int ja), .unset, .unset, .unset, .unset, .unset, .unset, .unset, .unset, .unset, .unset, .unset, .unset, .unset, .unset, .unset, .unset, .unset] [(.int (((xp.toUInt32 >>> ((8 : Int32) &&& 31).toUInt32).toInt32) &&& (255 : Int32)))])) _
    refine XS.i2c X0.here hx rfl (hb hby at_16) rfl ?_
    show Steps p.tables e below (s₁.setTop (mkF m 17 #[.val (.int xp), .val (.int xq), .val (.int xr), .val (.int xs), .val (.int xt), .val (.int ja), .unset, .unset, .unset, .unset, .unset, .unset, .unset, .unset, .unset, .unset, .unset, .unset, .unset, .unset, .unset, .unset, .unset] [(.int ((((xp.toUInt32 >>> ((8 : Int32) &&& 31).toUInt32).toInt32) &&& (255 : Int32)).toUInt32.toUInt16.toUInt32.toInt32))])) _
    refine XS.istore X0.here hx rfl (hb hby at_17) rfl (l' := #[.val (.int xp), .val (.int xq), .val (.int xr), .val (.int xs), .val (.int xt), .val (.int ja), .val (.int ((((xp.toUInt32 >>> ((8 : Int32) &&& 31).toUInt32).toInt32) &&& (255 : Int32)).toUInt32.toUInt16.toUInt32.toInt32)), .unset, .unset, .unset, .unset, .unset, .unset, .unset, .unset, .unset, .unset, .unset, .unset, .unset, .unset, .unset, .unset]) rfl ?_
    show Steps p.tables e below (s₁.setTop (mkF m 19 #[.val (.int xp), .val (.int xq), .val (.int xr), .val (.int xs), .val (.int xt), .val (.int ja), .val (.int ((((xp.toUInt32 >>> ((8 : Int32) &&& 31).toUInt32).toInt32) &&& (255 : Int32)).toUInt32.toUInt16.toUInt32.toInt32)), .unset, .unset, .unset, .unset, .unset, .unset, .unset, .unset, .unset, .unset, .unset, .unset, .unset, .unset, .unset, .unset] [])) _
    exact k
  obtain ⟨jb, hjb⟩ : ∃ z : Int32, z = ((((xp.toUInt32 >>> ((8 : Int32) &&& 31).toUInt32).toInt32) &&& (255 : Int32)).toUInt32.toUInt16.toUInt32.toInt32) := ⟨_, rfl⟩
  rw [← hjb] at pre2
  have pre3 : ∀ t, Steps p.tables e below (s₁.setTop (mkF m 27 #[.val (.int xp), .val (.int xq), .val (.int xr), .val (.int xs), .val (.int xt), .val (.int ja), .val (.int jb), .val (.int ((xq &&& (255 : Int32)).toUInt32.toUInt16.toUInt32.toInt32)), .unset, .unset, .unset, .unset, .unset, .unset, .unset, .unset, .unset, .unset, .unset, .unset, .unset, .unset, .unset] [])) t → Steps p.tables e below (s₁.setTop (entryFrame m #[(.int xp), (.int xq), (.int xr), (.int xs), (.int xt)] maxLocals)) t := by
    intro t k
    refine pre2 t ?_
    refine XS.iloadN X0.here hx rfl (hb hby at_19) rfl ?_
    show Steps p.tables e below (s₁.setTop (mkF m 20 #[.val (.int xp), .val (.int xq), .val (.int xr), .val (.int xs), .val (.int xt), .val (.int ja), .val (.int jb), .unset, .unset, .unset, .unset, .unset, .unset, .unset, .unset, .unset, .unset, .unset, .unset, .unset, .unset, .unset, .unset] [(.int xq)])) _
    refine XS.sipush X0.here hx rfl (hb hby at_20) ?_
    show Steps p.tables e below (s₁.setTop (mkF m 23 #[.val (.int xp), .val (.int xq), .val (.int xr), .val (.int xs), .val (.int xt), .val (.int ja), .val (.int jb), .unset, .unset, .unset, .unset, .unset, .unset, .unset, .unset, .unset, .unset, .unset, .unset, .unset, .unset, .unset, .unset] [(.int (255 : Int32)), (.int xq)])) _
    refine XS.iand X0.here hx rfl (hb hby at_23) rfl ?_
    show Steps p.tables e below (s₁.setTop (mkF m 24 #[.val (.int xp), .val (.int xq), .val (.int xr), .val (.int xs), .val (.int xt), .val (.int ja), .val (.int jb), .unset, .unset, .unset, .unset, .unset, .unset, .unset, .unset, .unset, .unset, .unset, .unset, .unset, .unset, .unset, .unset] [(.int (xq &&& (255 : Int32)))])) _
    refine XS.i2c X0.here hx rfl (hb hby at_24) rfl ?_
    show Steps p.tables e below (s₁.setTop (mkF m 25 #[.val (.int xp), .val (.int xq), .val (.int xr), .val (.int xs), .val (.int xt), .val (.int ja), .val (.int jb), .unset, .unset, .unset, .unset, .unset, .unset, .unset, .unset, .unset, .unset, .unset, .unset, .unset, .unset, .unset, .unset] [(.int ((xq &&& (255 : Int32)).toUInt32.toUInt16.toUInt32.toInt32))])) _
    refine XS.istore X0.here hx rfl (hb hby at_25) rfl (l' := #[.val (.int xp), .val (.int xq), .val (.int xr), .val (.int xs), .val (.int xt), .val (.int ja), .val (.int jb), .val (.int ((xq &&& (255 : Int32)).toUInt32.toUInt16.toUInt32.toInt32)), .unset, .unset, .unset, .unset, .unset, .unset, .unset, .unset, .unset, .unset, .unset, .unset, .unset, .unset, .unset]) rfl ?_
    show Steps p.tables e below (s₁.setTop (mkF m 27 #[.val (.int xp), .val (.int xq), .val (.int xr), .val (.int xs), .val (.int xt), .val (.int ja), .val (.int jb), .val (.int ((xq &&& (255 : Int32)).toUInt32.toUInt16.toUInt32.toInt32)), .unset, .unset, .unset, .unset, .unset, .unset, .unset, .unset, .unset, .unset, .unset, .unset, .unset, .unset, .unset] [])) _
    exact k
  obtain ⟨jc, hjc⟩ : ∃ z : Int32, z = ((xq &&& (255 : Int32)).toUInt32.toUInt16.toUInt32.toInt32) := ⟨_, rfl⟩
  rw [← hjc] at pre3
  have pre4 : ∀ t, Steps p.tables e below (s₁.setTop (mkF m 38 #[.val (.int xp), .val (.int xq), .val (.int xr), .val (.int xs), .val (.int xt), .val (.int ja), .val (.int jb), .val (.int jc), .val (.int ((((xq.toUInt32 >>> ((8 : Int32) &&& 31).toUInt32).toInt32) &&& (255 : Int32)).toUInt32.toUInt16.toUInt32.toInt32)), .unset, .unset, .unset, .unset, .unset, .unset, .unset, .unset, .unset, .unset, .unset, .unset, .unset, .unset] [])) t → Steps p.tables e below (s₁.setTop (entryFrame m #[(.int xp), (.int xq), (.int xr), (.int xs), (.int xt)] maxLocals)) t := by
    intro t k
    refine pre3 t ?_
    refine XS.iloadN X0.here hx rfl (hb hby at_27) rfl ?_
    show Steps p.tables e below (s₁.setTop (mkF m 28 #[.val (.int xp), .val (.int xq), .val (.int xr), .val (.int xs), .val (.int xt), .val (.int ja), .val (.int jb), .val (.int jc), .unset, .unset, .unset, .unset, .unset, .unset, .unset, .unset, .unset, .unset, .unset, .unset, .unset, .unset, .unset] [(.int xq)])) _
    refine XS.bipush X0.here hx rfl (hb hby at_28) ?_
    show Steps p.tables e below (s₁.setTop (mkF m 30 #[.val (.int xp), .val (.int xq), .val (.int xr), .val (.int xs), .val (.int xt), .val (.int ja), .val (.int jb), .val (.int jc), .unset, .unset, .unset, .unset, .unset, .unset, .unset, .unset, .unset, .unset, .unset, .unset, .unset, .unset, .unset] [(.int (8 : Int32)), (.int xq)])) _
    refine XS.iushr X0.here hx rfl (hb hby at_30) rfl ?_
    show Steps p.tables e below (s₁.setTop (mkF m 31 #[.val (.int xp), .val (.int xq), .val (.int xr), .val (.int xs), .val (.int xt), .val (.int ja), .val (.int jb), .val (.int jc), .unset, .unset, .unset, .unset, .unset, .unset, .unset, .unset, .unset, .unset, .unset, .unset, .unset, .unset, .unset] [(.int ((xq.toUInt32 >>> ((8 : Int32) &&& 31).toUInt32).toInt32))])) _
    refine XS.sipush X0.here hx rfl (hb hby at_31) ?_
    show Steps p.tables e below (s₁.setTop (mkF m 34 #[.val (.int xp), .val (.int xq), .val (.int xr), .val (.int xs), .val (.int xt), .val (.int ja), .val (.int jb), .val (.int jc), .unset, .unset, .unset, .unset, .unset, .unset, .unset, .unset, .unset, .unset, .unset, .unset, .unset, .unset, .unset] [(.int (255 : Int32)), (.int ((xq.toUInt32 >>> ((8 : Int32) &&& 31).toUInt32).toInt32))])) _
    refine XS.iand X0.here hx rfl (hb hby at_34) rfl ?_
    show Steps p.tables e below (s₁.setTop (mkF m 35 #[.val (.int xp), .val (.int xq), .val (.int xr), .val (.int xs), .val (.int xt), .val (.int ja), .val (.int jb), .val (.int jc), .unset, .unset, .unset, .unset, .unset, .unset, .unset, .unset, .unset, .unset, .unset, .unset, .unset, .unset, .unset] [(.int (((xq.toUInt32 >>> ((8 : Int32) &&& 31).toUInt32).toInt32) &&& (255 : Int32)))])) _
    refine XS.i2c X0.here hx rfl (hb hby at_35) rfl ?_
    show Steps p.tables e below (s₁.setTop (mkF m 36 #[.val (.int xp), .val (.int xq), .val (.int xr), .val (.int xs), .val (.int xt), .val (.int ja), .val (.int jb), .val (.int jc), .unset, .unset, .unset, .unset, .unset, .unset, .unset, .unset, .unset, .unset, .unset, .unset, .unset, .unset, .unset] [(.int ((((xq.toUInt32 >>> ((8 : Int32) &&& 31).toUInt32).toInt32) &&& (255 : Int32)).toUInt32.toUInt16.toUInt32.toInt32))])) _
    refine XS.istore X0.here hx rfl (hb hby at_36) rfl (l' := #[.val (.int xp), .val (.int xq), .val (.int xr), .val (.int xs), .val (.int xt), .val (.int ja), .val (.int jb), .val (.int jc), .val (.int ((((xq.toUInt32 >>> ((8 : Int32) &&& 31).toUInt32).toInt32) &&& (255 : Int32)).toUInt32.toUInt16.toUInt32.toInt32)), .unset, .unset, .unset, .unset, .unset, .unset, .unset, .unset, .unset, .unset, .unset, .unset, .unset, .unset]) rfl ?_
    show Steps p.tables e below (s₁.setTop (mkF m 38 #[.val (.int xp), .val (.int xq), .val (.int xr), .val (.int xs), .val (.int xt), .val (.int ja), .val (.int jb), .val (.int jc), .val (.int ((((xq.toUInt32 >>> ((8 : Int32) &&& 31).toUInt32).toInt32) &&& (255 : Int32)).toUInt32.toUInt16.toUInt32.toInt32)), .unset, .unset, .unset, .unset, .unset, .unset, .unset, .unset, .unset, .unset, .unset, .unset, .unset, .unset] [])) _
    exact k
  obtain ⟨jd, hjd⟩ : ∃ z : Int32, z = ((((xq.toUInt32 >>> ((8 : Int32) &&& 31).toUInt32).toInt32) &&& (255 : Int32)).toUInt32.toUInt16.toUInt32.toInt32) := ⟨_, rfl⟩
  rw [← hjd] at pre4
  have pre5 : ∀ t, Steps p.tables e below (s₁.setTop (mkF m 41 #[.val (.int xp), .val (.int xq), .val (.int xr), .val (.int xs), .val (.int xt), .val (.int ja), .val (.int jb), .val (.int jc), .val (.int jd), .unset, .unset, .unset, .unset, .unset, .unset, .unset, .unset, .unset, .unset, .unset, .unset, .unset, .unset] [(.int (xr &&& (1 : Int32)))])) t → Steps p.tables e below (s₁.setTop (entryFrame m #[(.int xp), (.int xq), (.int xr), (.int xs), (.int xt)] maxLocals)) t := by
    intro t k
    refine pre4 t ?_
    refine XS.iloadN X0.here hx rfl (hb hby at_38) rfl ?_
    show Steps p.tables e below (s₁.setTop (mkF m 39 #[.val (.int xp), .val (.int xq), .val (.int xr), .val (.int xs), .val (.int xt), .val (.int ja), .val (.int jb), .val (.int jc), .val (.int jd), .unset, .unset, .unset, .unset, .unset, .unset, .unset, .unset, .unset, .unset, .unset, .unset, .unset, .unset] [(.int xr)])) _
    refine XS.iconst X0.here hx rfl (hb hby at_39) ?_
    show Steps p.tables e below (s₁.setTop (mkF m 40 #[.val (.int xp), .val (.int xq), .val (.int xr), .val (.int xs), .val (.int xt), .val (.int ja), .val (.int jb), .val (.int jc), .val (.int jd), .unset, .unset, .unset, .unset, .unset, .unset, .unset, .unset, .unset, .unset, .unset, .unset, .unset, .unset] [(.int (1 : Int32)), (.int xr)])) _
    refine XS.iand X0.here hx rfl (hb hby at_40) rfl ?_
    show Steps p.tables e below (s₁.setTop (mkF m 41 #[.val (.int xp), .val (.int xq), .val (.int xr), .val (.int xs), .val (.int xt), .val (.int ja), .val (.int jb), .val (.int jc), .val (.int jd), .unset, .unset, .unset, .unset, .unset, .unset, .unset, .unset, .unset, .unset, .unset, .unset, .unset, .unset] [(.int (xr &&& (1 : Int32)))])) _
    exact k
  obtain ⟨je, hje⟩ : ∃ z : Int32, z = (if (xr &&& (1 : Int32)) = (0 : Int32) then ((((xr.toUInt32 >>> ((1 : Int32) &&& 31).toUInt32).toInt32) &&& (255 : Int32)).toUInt32.toUInt16.toUInt32.toInt32) else ja) := ⟨_, rfl⟩
  have pre6 : ∀ t, Steps p.tables e below (s₁.setTop (mkF m 57 #[.val (.int xp), .val (.int xq), .val (.int xr), .val (.int xs), .val (.int xt), .val (.int ja), .val (.int jb), .val (.int jc), .val (.int jd), .unset, .unset, .unset, .unset, .unset, .unset, .unset, .unset, .unset, .unset, .unset, .unset, .unset, .unset] [(.int je)])) t → Steps p.tables e below (s₁.setTop (entryFrame m #[(.int xp), (.int xq), (.int xr), (.int xs), (.int xt)] maxLocals)) t := by
    intro t k
    refine pre5 t ?_
    by_cases hc41 : (xr &&& (1 : Int32)) = (0 : Int32)
    · refine XS.ifYes X0.here hx rfl (pc0 := 41) (pc' := 49) rfl (hb hby at_41) rfl ((if0 _ _).trans (teq hc41).1) (by decide) (by decide) ?_
      show Steps p.tables e below (s₁.setTop (mkF m 49 #[.val (.int xp), .val (.int xq), .val (.int xr), .val (.int xs), .val (.int xt), .val (.int ja), .val (.int jb), .val (.int jc), .val (.int jd), .unset, .unset, .unset, .unset, .unset, .unset, .unset, .unset, .unset, .unset, .unset, .unset, .unset, .unset] [])) _
      refine XS.iloadN X0.here hx rfl (hb hby at_49) rfl ?_
      show Steps p.tables e below (s₁.setTop (mkF m 50 #[.val (.int xp), .val (.int xq), .val (.int xr), .val (.int xs), .val (.int xt), .val (.int ja), .val (.int jb), .val (.int jc), .val (.int jd), .unset, .unset, .unset, .unset, .unset, .unset, .unset, .unset, .unset, .unset, .unset, .unset, .unset, .unset] [(.int xr)])) _
      refine XS.iconst X0.here hx rfl (hb hby at_50) ?_
      show Steps p.tables e below (s₁.setTop (mkF m 51 #[.val (.int xp), .val (.int xq), .val (.int xr), .val (.int xs), .val (.int xt), .val (.int ja), .val (.int jb), .val (.int jc), .val (.int jd), .unset, .unset, .unset, .unset, .unset, .unset, .unset, .unset, .unset, .unset, .unset, .unset, .unset, .unset] [(.int (1 : Int32)), (.int xr)])) _
      refine XS.iushr X0.here hx rfl (hb hby at_51) rfl ?_
      show Steps p.tables e below (s₁.setTop (mkF m 52 #[.val (.int xp), .val (.int xq), .val (.int xr), .val (.int xs), .val (.int xt), .val (.int ja), .val (.int jb), .val (.int jc), .val (.int jd), .unset, .unset, .unset, .unset, .unset, .unset, .unset, .unset, .unset, .unset, .unset, .unset, .unset, .unset] [(.int ((xr.toUInt32 >>> ((1 : Int32) &&& 31).toUInt32).toInt32))])) _
      refine XS.sipush X0.here hx rfl (hb hby at_52) ?_
      show Steps p.tables e below (s₁.setTop (mkF m 55 #[.val (.int xp), .val (.int xq), .val (.int xr), .val (.int xs), .val (.int xt), .val (.int ja), .val (.int jb), .val (.int jc), .val (.int jd), .unset, .unset, .unset, .unset, .unset, .unset, .unset, .unset, .unset, .unset, .unset, .unset, .unset, .unset] [(.int (255 : Int32)), (.int ((xr.toUInt32 >>> ((1 : Int32) &&& 31).toUInt32).toInt32))])) _
      refine XS.iand X0.here hx rfl (hb hby at_55) rfl ?_
      show Steps p.tables e below (s₁.setTop (mkF m 56 #[.val (.int xp), .val (.int xq), .val (.int xr), .val (.int xs), .val (.int xt), .val (.int ja), .val (.int jb), .val (.int jc), .val (.int jd), .unset, .unset, .unset, .unset, .unset, .unset, .unset, .unset, .unset, .unset, .unset, .unset, .unset, .unset] [(.int (((xr.toUInt32 >>> ((1 : Int32) &&& 31).toUInt32).toInt32) &&& (255 : Int32)))])) _
      refine XS.i2c X0.here hx rfl (hb hby at_56) rfl ?_
      show Steps p.tables e below (s₁.setTop (mkF m 57 #[.val (.int xp), .val (.int xq), .val (.int xr), .val (.int xs), .val (.int xt), .val (.int ja), .val (.int jb), .val (.int jc), .val (.int jd), .unset, .unset, .unset, .unset, .unset, .unset, .unset, .unset, .unset, .unset, .unset, .unset, .unset, .unset] [(.int ((((xr.toUInt32 >>> ((1 : Int32) &&& 31).toUInt32).toInt32) &&& (255 : Int32)).toUInt32.toUInt16.toUInt32.toInt32))])) _
      rw [show je = ((((xr.toUInt32 >>> ((1 : Int32) &&& 31).toUInt32).toInt32) &&& (255 : Int32)).toUInt32.toUInt16.toUInt32.toInt32) from by rw [hje, if_pos hc41]] at k
      exact k
    · refine XS.ifNo X0.here hx rfl (hb hby at_41) rfl ((if0 _ _).trans (feq hc41).1) ?_
      show Steps p.tables e below (s₁.setTop (mkF m 44 #[.val (.int xp), .val (.int xq), .val (.int xr), .val (.int xs), .val (.int xt), .val (.int ja), .val (.int jb), .val (.int jc), .val (.int jd), .unset, .unset, .unset, .unset, .unset, .unset, .unset, .unset, .unset, .unset, .unset, .unset, .unset, .unset] [])) _
      refine XS.iload X0.here hx rfl (hb hby at_44) rfl ?_
      show Steps p.tables e below (s₁.setTop (mkF m 46 #[.val (.int xp), .val (.int xq), .val (.int xr), .val (.int xs), .val (.int xt), .val (.int ja), .val (.int jb), .val (.int jc), .val (.int jd), .unset, .unset, .unset, .unset, .unset, .unset, .unset, .unset, .unset, .unset, .unset, .unset, .unset, .unset] [(.int ja)])) _
      refine XS.goto X0.here hx rfl (pc0 := 46) (pc' := 57) rfl (hb hby at_46) (by decide) (by decide) ?_
      show Steps p.tables e below (s₁.setTop (mkF m 57 #[.val (.int xp), .val (.int xq), .val (.int xr), .val (.int xs), .val (.int xt), .val (.int ja), .val (.int jb), .val (.int jc), .val (.int jd), .unset, .unset, .unset, .unset, .unset, .unset, .unset, .unset, .unset, .unset, .unset, .unset, .unset, .unset] [(.int ja)])) _
      rw [show je = ja from by rw [hje, if_neg hc41]] at k
      exact k
  have pre7 : ∀ t, Steps p.tables e below (s₁.setTop (mkF m 64 #[.val (.int xp), .val (.int xq), .val (.int xr), .val (.int xs), .val (.int xt), .val (.int ja), .val (.int jb), .val (.int jc), .val (.int jd), .val (.int je), .unset, .unset, .unset, .unset, .unset, .unset, .unset, .unset, .unset, .unset, .unset, .unset, .unset] [(.int (xr &&& (512 : Int32)))])) t → Steps p.tables e below (s₁.setTop (entryFrame m #[(.int xp), (.int xq), (.int xr), (.int xs), (.int xt)] maxLocals)) t := by
    intro t k
    refine pre6 t ?_
    refine XS.istore X0.here hx rfl (hb hby at_57) rfl (l' := #[.val (.int xp), .val (.int xq), .val (.int xr), .val (.int xs), .val (.int xt), .val (.int ja), .val (.int jb), .val (.int jc), .val (.int jd), .val (.int je), .unset, .unset, .unset, .unset, .unset, .unset, .unset, .unset, .unset, .unset, .unset, .unset, .unset]) rfl ?_
    show Steps p.tables e below (s₁.setTop (mkF m 59 #[.val (.int xp), .val (.int xq), .val (.int xr), .val (.int xs), .val (.int xt), .val (.int ja), .val (.int jb), .val (.int jc), .val (.int jd), .val (.int je), .unset, .unset, .unset, .unset, .unset, .unset, .unset, .unset, .unset, .unset, .unset, .unset, .unset] [])) _
    refine XS.iloadN X0.here hx rfl (hb hby at_59) rfl ?_
    show Steps p.tables e below (s₁.setTop (mkF m 60 #[.val (.int xp), .val (.int xq), .val (.int xr), .val (.int xs), .val (.int xt), .val (.int ja), .val (.int jb), .val (.int jc), .val (.int jd), .val (.int je), .unset, .unset, .unset, .unset, .unset, .unset, .unset, .unset, .unset, .unset, .unset, .unset, .unset] [(.int xr)])) _
    refine XS.sipush X0.here hx rfl (hb hby at_60) ?_
    show Steps p.tables e below (s₁.setTop (mkF m 63 #[.val (.int xp), .val (.int xq), .val (.int xr), .val (.int xs), .val (.int xt), .val (.int ja), .val (.int jb), .val (.int jc), .val (.int jd), .val (.int je), .unset, .unset, .unset, .unset, .unset, .unset, .unset, .unset, .unset, .unset, .unset, .unset, .unset] [(.int (512 : Int32)), (.int xr)])) _
    refine XS.iand X0.here hx rfl (hb hby at_63) rfl ?_
    show Steps p.tables e below (s₁.setTop (mkF m 64 #[.val (.int xp), .val (.int xq), .val (.int xr), .val (.int xs), .val (.int xt), .val (.int ja), .val (.int jb), .val (.int jc), .val (.int jd), .val (.int je), .unset, .unset, .unset, .unset, .unset, .unset, .unset, .unset, .unset, .unset, .unset, .unset, .unset] [(.int (xr &&& (512 : Int32)))])) _
    exact k
  obtain ⟨jf, hjf⟩ : ∃ z : Int32, z = (if (xr &&& (512 : Int32)) = (0 : Int32) then ((((xr.toUInt32 >>> ((10 : Int32) &&& 31).toUInt32).toInt32) &&& (255 : Int32)).toUInt32.toUInt16.toUInt32.toInt32) else jb) := ⟨_, rfl⟩
  have pre8 : ∀ t, Steps p.tables e below (s₁.setTop (mkF m 81 #[.val (.int xp), .val (.int xq), .val (.int xr), .val (.int xs), .val (.int xt), .val (.int ja), .val (.int jb), .val (.int jc), .val (.int jd), .val (.int je), .unset, .unset, .unset, .unset, .unset, .unset, .unset, .unset, .unset, .unset, .unset, .unset, .unset] [(.int jf)])) t → Steps p.tables e below (s₁.setTop (entryFrame m #[(.int xp), (.int xq), (.int xr), (.int xs), (.int xt)] maxLocals)) t := by
    intro t k
    refine pre7 t ?_
    by_cases hc64 : (xr &&& (512 : Int32)) = (0 : Int32)
    · refine XS.ifYes X0.here hx rfl (pc0 := 64) (pc' := 72) rfl (hb hby at_64) rfl ((if0 _ _).trans (teq hc64).1) (by decide) (by decide) ?_
      show Steps p.tables e below (s₁.setTop (mkF m 72 #[.val (.int xp), .val (.int xq), .val (.int xr), .val (.int xs), .val (.int xt), .val (.int ja), .val (.int jb), .val (.int jc), .val (.int jd), .val (.int je), .unset, .unset, .unset, .unset, .unset, .unset, .unset, .unset, .unset, .unset, .unset, .unset, .unset] [])) _
      refine XS.iloadN X0.here hx rfl (hb hby at_72) rfl ?_
      show Steps p.tables e below (s₁.setTop (mkF m 73 #[.val (.int xp), .val (.int xq), .val (.int xr), .val (.int xs), .val (.int xt), .val (.int ja), .val (.int jb), .val (.int jc), .val (.int jd), .val (.int je), .unset, .unset, .unset, .unset, .unset, .unset, .unset, .unset, .unset, .unset, .unset, .unset, .unset] [(.int xr)])) _
      refine XS.bipush X0.here hx rfl (hb hby at_73) ?_
      show Steps p.tables e below (s₁.setTop (mkF m 75 #[.val (.int xp), .val (.int xq), .val (.int xr), .val (.int xs), .val (.int xt), .val (.int ja), .val (.int jb), .val (.int jc), .val (.int jd), .val (.int je), .unset, .unset, .unset, .unset, .unset, .unset, .unset, .unset, .unset, .unset, .unset, .unset, .unset] [(.int (10 : Int32)), (.int xr)])) _
      refine XS.iushr X0.here hx rfl (hb hby at_75) rfl ?_
      show Steps p.tables e below (s₁.setTop (mkF m 76 #[.val (.int xp), .val (.int xq), .val (.int xr), .val (.int xs), .val (.int xt), .val (.int ja), .val (.int jb), .val (.int jc), .val (.int jd), .val (.int je), .unset, .unset, .unset, .unset, .unset, .unset, .unset, .unset, .unset, .unset, .unset, .unset, .unset] [(.int ((xr.toUInt32 >>> ((10 : Int32) &&& 31).toUInt32).toInt32))])) _
      refine XS.sipush X0.here hx rfl (hb hby at_76) ?_
      show Steps p.tables e below (s₁.setTop (mkF m 79 #[.val (.int xp), .val (.int xq), .val (.int xr), .val (.int xs), .val (.int xt), .val (.int ja), .val (.int jb), .val (.int jc), .val (.int jd), .val (.int je), .unset, .unset, .unset, .unset, .unset, .unset, .unset, .unset, .unset, .unset, .unset, .unset, .unset] [(.int (255 : Int32)), (.int ((xr.toUInt32 >>> ((10 : Int32) &&& 31).toUInt32).toInt32))])) _
      refine XS.iand X0.here hx rfl (hb hby at_79) rfl ?_
      show Steps p.tables e below (s₁.setTop (mkF m 80 #[.val (.int xp), .val (.int xq), .val (.int xr), .val (.int xs), .val (.int xt), .val (.int ja), .val (.int jb), .val (.int jc), .val (.int jd), .val (.int je), .unset, .unset, .unset, .unset, .unset, .unset, .unset, .unset, .unset, .unset, .unset, .unset, .unset] [(.int (((xr.toUInt32 >>> ((10 : Int32) &&& 31).toUInt32).toInt32) &&& (255 : Int32)))])) _
      refine XS.i2c X0.here hx rfl (hb hby at_80) rfl ?_
      show Steps p.tables e below (s₁.setTop (mkF m 81 #[.val (.int xp), .val (.int xq), .val (.int xr), .val (.int xs), .val (.int xt), .val (.int ja), .val (.int jb), .val (.int jc), .val (.int jd), .val (.int je), .unset, .unset, .unset, .unset, .unset, .unset, .unset, .unset, .unset, .unset, .unset, .unset, .unset] [(.int ((((xr.toUInt32 >>> ((10 : Int32) &&& 31).toUInt32).toInt32) &&& (255 : Int32)).toUInt32.toUInt16.toUInt32.toInt32))])) _
      rw [show jf = ((((xr.toUInt32 >>> ((10 : Int32) &&& 31).toUInt32).toInt32) &&& (255 : Int32)).toUInt32.toUInt16.toUInt32.toInt32) from by rw [hjf, if_pos hc64]] at k
      exact k
    · refine XS.ifNo X0.here hx rfl (hb hby at_64) rfl ((if0 _ _).trans (feq hc64).1) ?_
      show Steps p.tables e below (s₁.setTop (mkF m 67 #[.val (.int xp), .val (.int xq), .val (.int xr), .val (.int xs), .val (.int xt), .val (.int ja), .val (.int jb), .val (.int jc), .val (.int jd), .val (.int je), .unset, .unset, .unset, .unset, .unset, .unset, .unset, .unset, .unset, .unset, .unset, .unset, .unset] [])) _
      refine XS.iload X0.here hx rfl (hb hby at_67) rfl ?_
      show Steps p.tables e below (s₁.setTop (mkF m 69 #[.val (.int xp), .val (.int xq), .val (.int xr), .val (.int xs), .val (.int xt), .val (.int ja), .val (.int jb), .val (.int jc), .val (.int jd), .val (.int je), .unset, .unset, .unset, .unset, .unset, .unset, .unset, .unset, .unset, .unset, .unset, .unset, .unset] [(.int jb)])) _
      refine XS.goto X0.here hx rfl (pc0 := 69) (pc' := 81) rfl (hb hby at_69) (by decide) (by decide) ?_
      show Steps p.tables e below (s₁.setTop (mkF m 81 #[.val (.int xp), .val (.int xq), .val (.int xr), .val (.int xs), .val (.int xt), .val (.int ja), .val (.int jb), .val (.int jc), .val (.int jd), .val (.int je), .unset, .unset, .unset, .unset, .unset, .unset, .unset, .unset, .unset, .unset, .unset, .unset, .unset] [(.int jb)])) _
      rw [show jf = jb from by rw [hjf, if_neg hc64]] at k
      exact k
  have pre9 : ∀ t, Steps p.tables e below (s₁.setTop (mkF m 86 #[.val (.int xp), .val (.int xq), .val (.int xr), .val (.int xs), .val (.int xt), .val (.int ja), .val (.int jb), .val (.int jc), .val (.int jd), .val (.int je), .val (.int jf), .unset, .unset, .unset, .unset, .unset, .unset, .unset, .unset, .unset, .unset, .unset, .unset] [(.int (xs &&& (1 : Int32)))])) t → Steps p.tables e below (s₁.setTop (entryFrame m #[(.int xp), (.int xq), (.int xr), (.int xs), (.int xt)] maxLocals)) t := by
    intro t k
    refine pre8 t ?_
    refine XS.istore X0.here hx rfl (hb hby at_81) rfl (l' := #[.val (.int xp), .val (.int xq), .val (.int xr), .val (.int xs), .val (.int xt), .val (.int ja), .val (.int jb), .val (.int jc), .val (.int jd), .val (.int je), .val (.int jf), .unset, .unset, .unset, .unset, .unset, .unset, .unset, .unset, .unset, .unset, .unset, .unset]) rfl ?_
    show Steps p.tables e below (s₁.setTop (mkF m 83 #[.val (.int xp), .val (.int xq), .val (.int xr), .val (.int xs), .val (.int xt), .val (.int ja), .val (.int jb), .val (.int jc), .val (.int jd), .val (.int je), .val (.int jf), .unset, .unset, .unset, .unset, .unset, .unset, .unset, .unset, .unset, .unset, .unset, .unset] [])) _
    refine XS.iloadN X0.here hx rfl (hb hby at_83) rfl ?_
    show Steps p.tables e below (s₁.setTop (mkF m 84 #[.val (.int xp), .val (.int xq), .val (.int xr), .val (.int xs), .val (.int xt), .val (.int ja), .val (.int jb), .val (.int jc), .val (.int jd), .val (.int je), .val (.int jf), .unset, .unset, .unset, .unset, .unset, .unset, .unset, .unset, .unset, .unset, .unset, .unset] [(.int xs)])) _
    refine XS.iconst X0.here hx rfl (hb hby at_84) ?_
    show Steps p.tables e below (s₁.setTop (mkF m 85 #[.val (.int xp), .val (.int xq), .val (.int xr), .val (.int xs), .val (.int xt), .val (.int ja), .val (.int jb), .val (.int jc), .val (.int jd), .val (.int je), .val (.int jf), .unset, .unset, .unset, .unset, .unset, .unset, .unset, .unset, .unset, .unset, .unset, .unset] [(.int (1 : Int32)), (.int xs)])) _
    refine XS.iand X0.here hx rfl (hb hby at_85) rfl ?_
    show Steps p.tables e below (s₁.setTop (mkF m 86 #[.val (.int xp), .val (.int xq), .val (.int xr), .val (.int xs), .val (.int xt), .val (.int ja), .val (.int jb), .val (.int jc), .val (.int jd), .val (.int je), .val (.int jf), .unset, .unset, .unset, .unset, .unset, .unset, .unset, .unset, .unset, .unset, .unset, .unset] [(.int (xs &&& (1 : Int32)))])) _
    exact k
  obtain ⟨jg, hjg⟩ : ∃ z : Int32, z = (if (xs &&& (1 : Int32)) = (0 : Int32) then ((((xs.toUInt32 >>> ((1 : Int32) &&& 31).toUInt32).toInt32) &&& (255 : Int32)).toUInt32.toUInt16.toUInt32.toInt32) else jc) := ⟨_, rfl⟩
  have pre10 : ∀ t, Steps p.tables e below (s₁.setTop (mkF m 102 #[.val (.int xp), .val (.int xq), .val (.int xr), .val (.int xs), .val (.int xt), .val (.int ja), .val (.int jb), .val (.int jc), .val (.int jd), .val (.int je), .val (.int jf), .unset, .unset, .unset, .unset, .unset, .unset, .unset, .unset, .unset, .unset, .unset, .unset] [(.int jg)])) t → Steps p.tables e below (s₁.setTop (entryFrame m #[(.int xp), (.int xq), (.int xr), (.int xs), (.int xt)] maxLocals)) t := by
    intro t k
    refine pre9 t ?_
    by_cases hc86 : (xs &&& (1 : Int32)) = (0 : Int32)
    · refine XS.ifYes X0.here hx rfl (pc0 := 86) (pc' := 94) rfl (hb hby at_86) rfl ((if0 _ _).trans (teq hc86).1) (by decide) (by decide) ?_
      show Steps p.tables e below (s₁.setTop (mkF m 94 #[.val (.int xp), .val (.int xq), .val (.int xr), .val (.int xs), .val (.int xt), .val (.int ja), .val (.int jb), .val (.int jc), .val (.int jd), .val (.int je), .val (.int jf), .unset, .unset, .unset, .unset, .unset, .unset, .unset, .unset, .unset, .unset, .unset, .unset] [])) _
      refine XS.iloadN X0.here hx rfl (hb hby at_94) rfl ?_
      show Steps p.tables e below (s₁.setTop (mkF m 95 #[.val (.int xp), .val (.int xq), .val (.int xr), .val (.int xs), .val (.int xt), .val (.int ja), .val (.int jb), .val (.int jc), .val (.int jd), .val (.int je), .val (.int jf), .unset, .unset, .unset, .unset, .unset, .unset, .unset, .unset, .unset, .unset, .unset, .unset] [(.int xs)])) _
      refine XS.iconst X0.here hx rfl (hb hby at_95) ?_
      show Steps p.tables e below (s₁.setTop (mkF m 96 #[.val (.int xp), .val (.int xq), .val (.int xr), .val (.int xs), .val (.int xt), .val (.int ja), .val (.int jb), .val (.int jc), .val (.int jd), .val (.int je), .val (.int jf), .unset, .unset, .unset, .unset, .unset, .unset, .unset, .unset, .unset, .unset, .unset, .unset] [(.int (1 : Int32)), (.int xs)])) _
      refine XS.iushr X0.here hx rfl (hb hby at_96) rfl ?_
      show Steps p.tables e below (s₁.setTop (mkF m 97 #[.val (.int xp), .val (.int xq), .val (.int xr), .val (.int xs), .val (.int xt), .val (.int ja), .val (.int jb), .val (.int jc), .val (.int jd), .val (.int je), .val (.int jf), .unset, .unset, .unset, .unset, .unset, .unset, .unset, .unset, .unset, .unset, .unset, .unset] [(.int ((xs.toUInt32 >>> ((1 : Int32) &&& 31).toUInt32).toInt32))])) _
      refine XS.sipush X0.here hx rfl (hb hby at_97) ?_
      show Steps p.tables e below (s₁.setTop (mkF m 100 #[.val (.int xp), .val (.int xq), .val (.int xr), .val (.int xs), .val (.int xt), .val (.int ja), .val (.int jb), .val (.int jc), .val (.int jd), .val (.int je), .val (.int jf), .unset, .unset, .unset, .unset, .unset, .unset, .unset, .unset, .unset, .unset, .unset, .unset] [(.int (255 : Int32)), (.int ((xs.toUInt32 >>> ((1 : Int32) &&& 31).toUInt32).toInt32))])) _
      refine XS.iand X0.here hx rfl (hb hby at_100) rfl ?_
      show Steps p.tables e below (s₁.setTop (mkF m 101 #[.val (.int xp), .val (.int xq), .val (.int xr), .val (.int xs), .val (.int xt), .val (.int ja), .val (.int jb), .val (.int jc), .val (.int jd), .val (.int je), .val (.int jf), .unset, .unset, .unset, .unset, .unset, .unset, .unset, .unset, .unset, .unset, .unset, .unset] [(.int (((xs.toUInt32 >>> ((1 : Int32) &&& 31).toUInt32).toInt32) &&& (255 : Int32)))])) _
      refine XS.i2c X0.here hx rfl (hb hby at_101) rfl ?_
      show Steps p.tables e below (s₁.setTop (mkF m 102 #[.val (.int xp), .val (.int xq), .val (.int xr), .val (.int xs), .val (.int xt), .val (.int ja), .val (.int jb), .val (.int jc), .val (.int jd), .val (.int je), .val (.int jf), .unset, .unset, .unset, .unset, .unset, .unset, .unset, .unset, .unset, .unset, .unset, .unset] [(.int ((((xs.toUInt32 >>> ((1 : Int32) &&& 31).toUInt32).toInt32) &&& (255 : Int32)).toUInt32.toUInt16.toUInt32.toInt32))])) _
      rw [show jg = ((((xs.toUInt32 >>> ((1 : Int32) &&& 31).toUInt32).toInt32) &&& (255 : Int32)).toUInt32.toUInt16.toUInt32.toInt32) from by rw [hjg, if_pos hc86]] at k
      exact k
    · refine XS.ifNo X0.here hx rfl (hb hby at_86) rfl ((if0 _ _).trans (feq hc86).1) ?_
      show Steps p.tables e below (s₁.setTop (mkF m 89 #[.val (.int xp), .val (.int xq), .val (.int xr), .val (.int xs), .val (.int xt), .val (.int ja), .val (.int jb), .val (.int jc), .val (.int jd), .val (.int je), .val (.int jf), .unset, .unset, .unset, .unset, .unset, .unset, .unset, .unset, .unset, .unset, .unset, .unset] [])) _
      refine XS.iload X0.here hx rfl (hb hby at_89) rfl ?_
      show Steps p.tables e below (s₁.setTop (mkF m 91 #[.val (.int xp), .val (.int xq), .val (.int xr), .val (.int xs), .val (.int xt), .val (.int ja), .val (.int jb), .val (.int jc), .val (.int jd), .val (.int je), .val (.int jf), .unset, .unset, .unset, .unset, .unset, .unset, .unset, .unset, .unset, .unset, .unset, .unset] [(.int jc)])) _
      refine XS.goto X0.here hx rfl (pc0 := 91) (pc' := 102) rfl (hb hby at_91) (by decide) (by decide) ?_
      show Steps p.tables e below (s₁.setTop (mkF m 102 #[.val (.int xp), .val (.int xq), .val (.int xr), .val (.int xs), .val (.int xt), .val (.int ja), .val (.int jb), .val (.int jc), .val (.int jd), .val (.int je), .val (.int jf), .unset, .unset, .unset, .unset, .unset, .unset, .unset, .unset, .unset, .unset, .unset, .unset] [(.int jc)])) _
      rw [show jg = jc from by rw [hjg, if_neg hc86]] at k
      exact k
  have pre11 : ∀ t, Steps p.tables e below (s₁.setTop (mkF m 109 #[.val (.int xp), .val (.int xq), .val (.int xr), .val (.int xs), .val (.int xt), .val (.int ja), .val (.int jb), .val (.int jc), .val (.int jd), .val (.int je), .val (.int jf), .val (.int jg), .unset, .unset, .unset, .unset, .unset, .unset, .unset, .unset, .unset, .unset, .unset] [(.int (xs &&& (512 : Int32)))])) t → Steps p.tables e below (s₁.setTop (entryFrame m #[(.int xp), (.int xq), (.int xr), (.int xs), (.int xt)] maxLocals)) t := by
    intro t k
    refine pre10 t ?_
    refine XS.istore X0.here hx rfl (hb hby at_102) rfl (l' := #[.val (.int xp), .val (.int xq), .val (.int xr), .val (.int xs), .val (.int xt), .val (.int ja), .val (.int jb), .val (.int jc), .val (.int jd), .val (.int je), .val (.int jf), .val (.int jg), .unset, .unset, .unset, .unset, .unset, .unset, .unset, .unset, .unset, .unset, .unset]) rfl ?_
    show Steps p.tables e below (s₁.setTop (mkF m 104 #[.val (.int xp), .val (.int xq), .val (.int xr), .val (.int xs), .val (.int xt), .val (.int ja), .val (.int jb), .val (.int jc), .val (.int jd), .val (.int je), .val (.int jf), .val (.int jg), .unset, .unset, .unset, .unset, .unset, .unset, .unset, .unset, .unset, .unset, .unset] [])) _
    refine XS.iloadN X0.here hx rfl (hb hby at_104) rfl ?_
    show Steps p.tables e below (s₁.setTop (mkF m 105 #[.val (.int xp), .val (.int xq), .val (.int xr), .val (.int xs), .val (.int xt), .val (.int ja), .val (.int jb), .val (.int jc), .val (.int jd), .val (.int je), .val (.int jf), .val (.int jg), .unset, .unset, .unset, .unset, .unset, .unset, .unset, .unset, .unset, .unset, .unset] [(.int xs)])) _
    refine XS.sipush X0.here hx rfl (hb hby at_105) ?_
    show Steps p.tables e below (s₁.setTop (mkF m 108 #[.val (.int xp), .val (.int xq), .val (.int xr), .val (.int xs), .val (.int xt), .val (.int ja), .val (.int jb), .val (.int jc), .val (.int jd), .val (.int je), .val (.int jf), .val (.int jg), .unset, .unset, .unset, .unset, .unset, .unset, .unset, .unset, .unset, .unset, .unset] [(.int (512 : Int32)), (.int xs)])) _
    refine XS.iand X0.here hx rfl (hb hby at_108) rfl ?_
    show Steps p.tables e below (s₁.setTop (mkF m 109 #[.val (.int xp), .val (.int xq), .val (.int xr), .val (.int xs), .val (.int xt), .val (.int ja), .val (.int jb), .val (.int jc), .val (.int jd), .val (.int je), .val (.int jf), .val (.int jg), .unset, .unset, .unset, .unset, .unset, .unset, .unset, .unset, .unset, .unset, .unset] [(.int (xs &&& (512 : Int32)))])) _
    exact k
  obtain ⟨jh, hjh⟩ : ∃ z : Int32, z = (if (xs &&& (512 : Int32)) = (0 : Int32) then ((((xs.toUInt32 >>> ((10 : Int32) &&& 31).toUInt32).toInt32) &&& (255 : Int32)).toUInt32.toUInt16.toUInt32.toInt32) else jd) := ⟨_, rfl⟩
  have pre12 : ∀ t, Steps p.tables e below (s₁.setTop (mkF m 126 #[.val (.int xp), .val (.int xq), .val (.int xr), .val (.int xs), .val (.int xt), .val (.int ja), .val (.int jb), .val (.int jc), .val (.int jd), .val (.int je), .val (.int jf), .val (.int jg), .unset, .unset, .unset, .unset, .unset, .unset, .unset, .unset, .unset, .unset, .unset] [(.int jh)])) t → Steps p.tables e below (s₁.setTop (entryFrame m #[(.int xp), (.int xq), (.int xr), (.int xs), (.int xt)] maxLocals)) t := by
    intro t k
    refine pre11 t ?_
    by_cases hc109 : (xs &&& (512 : Int32)) = (0 : Int32)
    · refine XS.ifYes X0.here hx rfl (pc0 := 109) (pc' := 117) rfl (hb hby at_109) rfl ((if0 _ _).trans (teq hc109).1) (by decide) (by decide) ?_
      show Steps p.tables e below (s₁.setTop (mkF m 117 #[.val (.int xp), .val (.int xq), .val (.int xr), .val (.int xs), .val (.int xt), .val (.int ja), .val (.int jb), .val (.int jc), .val (.int jd), .val (.int je), .val (.int jf), .val (.int jg), .unset, .unset, .unset, .unset, .unset, .unset, .unset, .unset, .unset, .unset, .unset] [])) _
      refine XS.iloadN X0.here hx rfl (hb hby at_117) rfl ?_
      show Steps p.tables e below (s₁.setTop (mkF m 118 #[.val (.int xp), .val (.int xq), .val (.int xr), .val (.int xs), .val (.int xt), .val (.int ja), .val (.int jb), .val (.int jc), .val (.int jd), .val (.int je), .val (.int jf), .val (.int jg), .unset, .unset, .unset, .unset, .unset, .unset, .unset, .unset, .unset, .unset, .unset] [(.int xs)])) _
      refine XS.bipush X0.here hx rfl (hb hby at_118) ?_
      show Steps p.tables e below (s₁.setTop (mkF m 120 #[.val (.int xp), .val (.int xq), .val (.int xr), .val (.int xs), .val (.int xt), .val (.int ja), .val (.int jb), .val (.int jc), .val (.int jd), .val (.int je), .val (.int jf), .val (.int jg), .unset, .unset, .unset, .unset, .unset, .unset, .unset, .unset, .unset, .unset, .unset] [(.int (10 : Int32)), (.int xs)])) _
      refine XS.iushr X0.here hx rfl (hb hby at_120) rfl ?_
      show Steps p.tables e below (s₁.setTop (mkF m 121 #[.val (.int xp), .val (.int xq), .val (.int xr), .val (.int xs), .val (.int xt), .val (.int ja), .val (.int jb), .val (.int jc), .val (.int jd), .val (.int je), .val (.int jf), .val (.int jg), .unset, .unset, .unset, .unset, .unset, .unset, .unset, .unset, .unset, .unset, .unset] [(.int ((xs.toUInt32 >>> ((10 : Int32) &&& 31).toUInt32).toInt32))])) _
      refine XS.sipush X0.here hx rfl (hb hby at_121) ?_
      show Steps p.tables e below (s₁.setTop (mkF m 124 #[.val (.int xp), .val (.int xq), .val (.int xr), .val (.int xs), .val (.int xt), .val (.int ja), .val (.int jb), .val (.int jc), .val (.int jd), .val (.int je), .val (.int jf), .val (.int jg), .unset, .unset, .unset, .unset, .unset, .unset, .unset, .unset, .unset, .unset, .unset] [(.int (255 : Int32)), (.int ((xs.toUInt32 >>> ((10 : Int32) &&& 31).toUInt32).toInt32))])) _
      refine XS.iand X0.here hx rfl (hb hby at_124) rfl ?_
      show Steps p.tables e below (s₁.setTop (mkF m 125 #[.val (.int xp), .val (.int xq), .val (.int xr), .val (.int xs), .val (.int xt), .val (.int ja), .val (.int jb), .val (.int jc), .val (.int jd), .val (.int je), .val (.int jf), .val (.int jg), .unset, .unset, .unset, .unset, .unset, .unset, .unset, .unset, .unset, .unset, .unset] [(.int (((xs.toUInt32 >>> ((10 : Int32) &&& 31).toUInt32).toInt32) &&& (255 : Int32)))])) _
      refine XS.i2c X0.here hx rfl (hb hby at_125) rfl ?_
      show Steps p.tables e below (s₁.setTop (mkF m 126 #[.val (.int xp), .val (.int xq), .val (.int xr), .val (.int xs), .val (.int xt), .val (.int ja), .val (.int jb), .val (.int jc), .val (.int jd), .val (.int je), .val (.int jf), .val (.int jg), .unset, .unset, .unset, .unset, .unset, .unset, .unset, .unset, .unset, .unset, .unset] [(.int ((((xs.toUInt32 >>> ((10 : Int32) &&& 31).toUInt32).toInt32) &&& (255 : Int32)).toUInt32.toUInt16.toUInt32.toInt32))])) _
      rw [show jh = ((((xs.toUInt32 >>> ((10 : Int32) &&& 31).toUInt32).toInt32) &&& (255 : Int32)).toUInt32.toUInt16.toUInt32.toInt32) from by rw [hjh, if_pos hc109]] at k
      exact k
    · refine XS.ifNo X0.here hx rfl (hb hby at_109) rfl ((if0 _ _).trans (feq hc109).1) ?_
      show Steps p.tables e below (s₁.setTop (mkF m 112 #[.val (.int xp), .val (.int xq), .val (.int xr), .val (.int xs), .val (.int xt), .val (.int ja), .val (.int jb), .val (.int jc), .val (.int jd), .val (.int je), .val (.int jf), .val (.int jg), .unset, .unset, .unset, .unset, .unset, .unset, .unset, .unset, .unset, .unset, .unset] [])) _
      refine XS.iload X0.here hx rfl (hb hby at_112) rfl ?_
      show Steps p.tables e below (s₁.setTop (mkF m 114 #[.val (.int xp), .val (.int xq), .val (.int xr), .val (.int xs), .val (.int xt), .val (.int ja), .val (.int jb), .val (.int jc), .val (.int jd), .val (.int je), .val (.int jf), .val (.int jg), .unset, .unset, .unset, .unset, .unset, .unset, .unset, .unset, .unset, .unset, .unset] [(.int jd)])) _
      refine XS.goto X0.here hx rfl (pc0 := 114) (pc' := 126) rfl (hb hby at_114) (by decide) (by decide) ?_
      show Steps p.tables e below (s₁.setTop (mkF m 126 #[.val (.int xp), .val (.int xq), .val (.int xr), .val (.int xs), .val (.int xt), .val (.int ja), .val (.int jb), .val (.int jc), .val (.int jd), .val (.int je), .val (.int jf), .val (.int jg), .unset, .unset, .unset, .unset, .unset, .unset, .unset, .unset, .unset, .unset, .unset] [(.int jd)])) _
      rw [show jh = jd from by rw [hjh, if_neg hc109]] at k
      exact k
  have pre13 : ∀ t, Steps p.tables e below (s₁.setTop (mkF m 136 #[.val (.int xp), .val (.int xq), .val (.int xr), .val (.int xs), .val (.int xt), .val (.int ja), .val (.int jb), .val (.int jc), .val (.int jd), .val (.int je), .val (.int jf), .val (.int jg), .val (.int jh), .val (.int ((xt &&& (3 : Int32)) % (3 : Int32))), .unset, .unset, .unset, .unset, .unset, .unset, .unset, .unset, .unset] [])) t → Steps p.tables e below (s₁.setTop (entryFrame m #[(.int xp), (.int xq), (.int xr), (.int xs), (.int xt)] maxLocals)) t := by
    intro t k
    refine pre12 t ?_
    refine XS.istore X0.here hx rfl (hb hby at_126) rfl (l' := #[.val (.int xp), .val (.int xq), .val (.int xr), .val (.int xs), .val (.int xt), .val (.int ja), .val (.int jb), .val (.int jc), .val (.int jd), .val (.int je), .val (.int jf), .val (.int jg), .val (.int jh), .unset, .unset, .unset, .unset, .unset, .unset, .unset, .unset, .unset, .unset]) rfl ?_
    show Steps p.tables e below (s₁.setTop (mkF m 128 #[.val (.int xp), .val (.int xq), .val (.int xr), .val (.int xs), .val (.int xt), .val (.int ja), .val (.int jb), .val (.int jc), .val (.int jd), .val (.int je), .val (.int jf), .val (.int jg), .val (.int jh), .unset, .unset, .unset, .unset, .unset, .unset, .unset, .unset, .unset, .unset] [])) _
    refine XS.iload X0.here hx rfl (hb hby at_128) rfl ?_
    show Steps p.tables e below (s₁.setTop (mkF m 130 #[.val (.int xp), .val (.int xq), .val (.int xr), .val (.int xs), .val (.int xt), .val (.int ja), .val (.int jb), .val (.int jc), .val (.int jd), .val (.int je), .val (.int jf), .val (.int jg), .val (.int jh), .unset, .unset, .unset, .unset, .unset, .unset, .unset, .unset, .unset, .unset] [(.int xt)])) _
    refine XS.iconst X0.here hx rfl (hb hby at_130) ?_
    show Steps p.tables e below (s₁.setTop (mkF m 131 #[.val (.int xp), .val (.int xq), .val (.int xr), .val (.int xs), .val (.int xt), .val (.int ja), .val (.int jb), .val (.int jc), .val (.int jd), .val (.int je), .val (.int jf), .val (.int jg), .val (.int jh), .unset, .unset, .unset, .unset, .unset, .unset, .unset, .unset, .unset, .unset] [(.int (3 : Int32)), (.int xt)])) _
    refine XS.iand X0.here hx rfl (hb hby at_131) rfl ?_
    show Steps p.tables e below (s₁.setTop (mkF m 132 #[.val (.int xp), .val (.int xq), .val (.int xr), .val (.int xs), .val (.int xt), .val (.int ja), .val (.int jb), .val (.int jc), .val (.int jd), .val (.int je), .val (.int jf), .val (.int jg), .val (.int jh), .unset, .unset, .unset, .unset, .unset, .unset, .unset, .unset, .unset, .unset] [(.int (xt &&& (3 : Int32)))])) _
    refine XS.iconst X0.here hx rfl (hb hby at_132) ?_
    show Steps p.tables e below (s₁.setTop (mkF m 133 #[.val (.int xp), .val (.int xq), .val (.int xr), .val (.int xs), .val (.int xt), .val (.int ja), .val (.int jb), .val (.int jc), .val (.int jd), .val (.int je), .val (.int jf), .val (.int jg), .val (.int jh), .unset, .unset, .unset, .unset, .unset, .unset, .unset, .unset, .unset, .unset] [(.int (3 : Int32)), (.int (xt &&& (3 : Int32)))])) _
    refine iremM X0 hx rfl (hb hby at_133) rfl (by decide) ?_
    show Steps p.tables e below (s₁.setTop (mkF m 134 #[.val (.int xp), .val (.int xq), .val (.int xr), .val (.int xs), .val (.int xt), .val (.int ja), .val (.int jb), .val (.int jc), .val (.int jd), .val (.int je), .val (.int jf), .val (.int jg), .val (.int jh), .unset, .unset, .unset, .unset, .unset, .unset, .unset, .unset, .unset, .unset] [(.int ((xt &&& (3 : Int32)) % (3 : Int32)))])) _
    refine XS.istore X0.here hx rfl (hb hby at_134) rfl (l' := #[.val (.int xp), .val (.int xq), .val (.int xr), .val (.int xs), .val (.int xt), .val (.int ja), .val (.int jb), .val (.int jc), .val (.int jd), .val (.int je), .val (.int jf), .val (.int jg), .val (.int jh), .val (.int ((xt &&& (3 : Int32)) % (3 : Int32))), .unset, .unset, .unset, .unset, .unset, .unset, .unset, .unset, .unset]) rfl ?_
    show Steps p.tables e below (s₁.setTop (mkF m 136 #[.val (.int xp), .val (.int xq), .val (.int xr), .val (.int xs), .val (.int xt), .val (.int ja), .val (.int jb), .val (.int jc), .val (.int jd), .val (.int je), .val (.int jf), .val (.int jg), .val (.int jh), .val (.int ((xt &&& (3 : Int32)) % (3 : Int32))), .unset, .unset, .unset, .unset, .unset, .unset, .unset, .unset, .unset] [])) _
    exact k
  obtain ⟨qa, hqa⟩ : ∃ z : Int32, z = ((xt &&& (3 : Int32)) % (3 : Int32)) := ⟨_, rfl⟩
  rw [← hqa] at pre13
  have pre14 : ∀ t, Steps p.tables e below (s₁.setTop (mkF m 146 #[.val (.int xp), .val (.int xq), .val (.int xr), .val (.int xs), .val (.int xt), .val (.int ja), .val (.int jb), .val (.int jc), .val (.int jd), .val (.int je), .val (.int jf), .val (.int jg), .val (.int jh), .val (.int qa), .val (.int ((((xt.toUInt32 >>> ((2 : Int32) &&& 31).toUInt32).toInt32) &&& (3 : Int32)) % (3 : Int32))), .unset, .unset, .unset, .unset, .unset, .unset, .unset, .unset] [])) t → Steps p.tables e below (s₁.setTop (entryFrame m #[(.int xp), (.int xq), (.int xr), (.int xs), (.int xt)] maxLocals)) t := by
    intro t k
    refine pre13 t ?_
    refine XS.iload X0.here hx rfl (hb hby at_136) rfl ?_
    show Steps p.tables e below (s₁.setTop (mkF m 138 #[.val (.int xp), .val (.int xq), .val (.int xr), .val (.int xs), .val (.int xt), .val (.int ja), .val (.int jb), .val (.int jc), .val (.int jd), .val (.int je), .val (.int jf), .val (.int jg), .val (.int jh), .val (.int qa), .unset, .unset, .unset, .unset, .unset, .unset, .unset, .unset, .unset] [(.int xt)])) _
    refine XS.iconst X0.here hx rfl (hb hby at_138) ?_
    show Steps p.tables e below (s₁.setTop (mkF m 139 #[.val (.int xp), .val (.int xq), .val (.int xr), .val (.int xs), .val (.int xt), .val (.int ja), .val (.int jb), .val (.int jc), .val (.int jd), .val (.int je), .val (.int jf), .val (.int jg), .val (.int jh), .val (.int qa), .unset, .unset, .unset, .unset, .unset, .unset, .unset, .unset, .unset] [(.int (2 : Int32)), (.int xt)])) _
    refine XS.iushr X0.here hx rfl (hb hby at_139) rfl ?_
    show Steps p.tables e below (s₁.setTop (mkF m 140 #[.val (.int xp), .val (.int xq), .val (.int xr), .val (.int xs), .val (.int xt), .val (.int ja), .val (.int jb), .val (.int jc), .val (.int jd), .val (.int je), .val (.int jf), .val (.int jg), .val (.int jh), .val (.int qa), .unset, .unset, .unset, .unset, .unset, .unset, .unset, .unset, .unset] [(.int ((xt.toUInt32 >>> ((2 : Int32) &&& 31).toUInt32).toInt32))])) _
    refine XS.iconst X0.here hx rfl (hb hby at_140) ?_
    show Steps p.tables e below (s₁.setTop (mkF m 141 #[.val (.int xp), .val (.int xq), .val (.int xr), .val (.int xs), .val (.int xt), .val (.int ja), .val (.int jb), .val (.int jc), .val (.int jd), .val (.int je), .val (.int jf), .val (.int jg), .val (.int jh), .val (.int qa), .unset, .unset, .unset, .unset, .unset, .unset, .unset, .unset, .unset] [(.int (3 : Int32)), (.int ((xt.toUInt32 >>> ((2 : Int32) &&& 31).toUInt32).toInt32))])) _
    refine XS.iand X0.here hx rfl (hb hby at_141) rfl ?_
    show Steps p.tables e below (s₁.setTop (mkF m 142 #[.val (.int xp), .val (.int xq), .val (.int xr), .val (.int xs), .val (.int xt), .val (.int ja), .val (.int jb), .val (.int jc), .val (.int jd), .val (.int je), .val (.int jf), .val (.int jg), .val (.int jh), .val (.int qa), .unset, .unset, .unset, .unset, .unset, .unset, .unset, .unset, .unset] [(.int (((xt.toUInt32 >>> ((2 : Int32) &&& 31).toUInt32).toInt32) &&& (3 : Int32)))])) _
    refine XS.iconst X0.here hx rfl (hb hby at_142) ?_
    show Steps p.tables e below (s₁.setTop (mkF m 143 #[.val (.int xp), .val (.int xq), .val (.int xr), .val (.int xs), .val (.int xt), .val (.int ja), .val (.int jb), .val (.int jc), .val (.int jd), .val (.int je), .val (.int jf), .val (.int jg), .val (.int jh), .val (.int qa), .unset, .unset, .unset, .unset, .unset, .unset, .unset, .unset, .unset] [(.int (3 : Int32)), (.int (((xt.toUInt32 >>> ((2 : Int32) &&& 31).toUInt32).toInt32) &&& (3 : Int32)))])) _
    refine iremM X0 hx rfl (hb hby at_143) rfl (by decide) ?_
    show Steps p.tables e below (s₁.setTop (mkF m 144 #[.val (.int xp), .val (.int xq), .val (.int xr), .val (.int xs), .val (.int xt), .val (.int ja), .val (.int jb), .val (.int jc), .val (.int jd), .val (.int je), .val (.int jf), .val (.int jg), .val (.int jh), .val (.int qa), .unset, .unset, .unset, .unset, .unset, .unset, .unset, .unset, .unset] [(.int ((((xt.toUInt32 >>> ((2 : Int32) &&& 31).toUInt32).toInt32) &&& (3 : Int32)) % (3 : Int32)))])) _
    refine XS.istore X0.here hx rfl (hb hby at_144) rfl (l' := #[.val (.int xp), .val (.int xq), .val (.int xr), .val (.int xs), .val (.int xt), .val (.int ja), .val (.int jb), .val (.int jc), .val (.int jd), .val (.int je), .val (.int jf), .val (.int jg), .val (.int jh), .val (.int qa), .val (.int ((((xt.toUInt32 >>> ((2 : Int32) &&& 31).toUInt32).toInt32) &&& (3 : Int32)) % (3 : Int32))), .unset, .unset, .unset, .unset, .unset, .unset, .unset, .unset]) rfl ?_
    show Steps p.tables e below (s₁.setTop (mkF m 146 #[.val (.int xp), .val (.int xq), .val (.int xr), .val (.int xs), .val (.int xt), .val (.int ja), .val (.int jb), .val (.int jc), .val (.int jd), .val (.int je), .val (.int jf), .val (.int jg), .val (.int jh), .val (.int qa), .val (.int ((((xt.toUInt32 >>> ((2 : Int32) &&& 31).toUInt32).toInt32) &&& (3 : Int32)) % (3 : Int32))), .unset, .unset, .unset, .unset, .unset, .unset, .unset, .unset] [])) _
    exact k
  obtain ⟨qb, hqb⟩ : ∃ z : Int32, z = ((((xt.toUInt32 >>> ((2 : Int32) &&& 31).toUInt32).toInt32) &&& (3 : Int32)) % (3 : Int32)) := ⟨_, rfl⟩
  rw [← hqb] at pre14
  have pre15 : ∀ t, Steps p.tables e below (s₁.setTop (mkF m 156 #[.val (.int xp), .val (.int xq), .val (.int xr), .val (.int xs), .val (.int xt), .val (.int ja), .val (.int jb), .val (.int jc), .val (.int jd), .val (.int je), .val (.int jf), .val (.int jg), .val (.int jh), .val (.int qa), .val (.int qb), .val (.int ((((xt.toUInt32 >>> ((4 : Int32) &&& 31).toUInt32).toInt32) &&& (3 : Int32)) % (3 : Int32))), .unset, .unset, .unset, .unset, .unset, .unset, .unset] [])) t → Steps p.tables e below (s₁.setTop (entryFrame m #[(.int xp), (.int xq), (.int xr), (.int xs), (.int xt)] maxLocals)) t := by
    intro t k
    refine pre14 t ?_
    refine XS.iload X0.here hx rfl (hb hby at_146) rfl ?_
    show Steps p.tables e below (s₁.setTop (mkF m 148 #[.val (.int xp), .val (.int xq), .val (.int xr), .val (.int xs), .val (.int xt), .val (.int ja), .val (.int jb), .val (.int jc), .val (.int jd), .val (.int je), .val (.int jf), .val (.int jg), .val (.int jh), .val (.int qa), .val (.int qb), .unset, .unset, .unset, .unset, .unset, .unset, .unset, .unset] [(.int xt)])) _
    refine XS.iconst X0.here hx rfl (hb hby at_148) ?_
    show Steps p.tables e below (s₁.setTop (mkF m 149 #[.val (.int xp), .val (.int xq), .val (.int xr), .val (.int xs), .val (.int xt), .val (.int ja), .val (.int jb), .val (.int jc), .val (.int jd), .val (.int je), .val (.int jf), .val (.int jg), .val (.int jh), .val (.int qa), .val (.int qb), .unset, .unset, .unset, .unset, .unset, .unset, .unset, .unset] [(.int (4 : Int32)), (.int xt)])) _
    refine XS.iushr X0.here hx rfl (hb hby at_149) rfl ?_
    show Steps p.tables e below (s₁.setTop (mkF m 150 #[.val (.int xp), .val (.int xq), .val (.int xr), .val (.int xs), .val (.int xt), .val (.int ja), .val (.int jb), .val (.int jc), .val (.int jd), .val (.int je), .val (.int jf), .val (.int jg), .val (.int jh), .val (.int qa), .val (.int qb), .unset, .unset, .unset, .unset, .unset, .unset, .unset, .unset] [(.int ((xt.toUInt32 >>> ((4 : Int32) &&& 31).toUInt32).toInt32))])) _
    refine XS.iconst X0.here hx rfl (hb hby at_150) ?_
    show Steps p.tables e below (s₁.setTop (mkF m 151 #[.val (.int xp), .val (.int xq), .val (.int xr), .val (.int xs), .val (.int xt), .val (.int ja), .val (.int jb), .val (.int jc), .val (.int jd), .val (.int je), .val (.int jf), .val (.int jg), .val (.int jh), .val (.int qa), .val (.int qb), .unset, .unset, .unset, .unset, .unset, .unset, .unset, .unset] [(.int (3 : Int32)), (.int ((xt.toUInt32 >>> ((4 : Int32) &&& 31).toUInt32).toInt32))])) _
    refine XS.iand X0.here hx rfl (hb hby at_151) rfl ?_
    show Steps p.tables e below (s₁.setTop (mkF m 152 #[.val (.int xp), .val (.int xq), .val (.int xr), .val (.int xs), .val (.int xt), .val (.int ja), .val (.int jb), .val (.int jc), .val (.int jd), .val (.int je), .val (.int jf), .val (.int jg), .val (.int jh), .val (.int qa), .val (.int qb), .unset, .unset, .unset, .unset, .unset, .unset, .unset, .unset] [(.int (((xt.toUInt32 >>> ((4 : Int32) &&& 31).toUInt32).toInt32) &&& (3 : Int32)))])) _
    refine XS.iconst X0.here hx rfl (hb hby at_152) ?_
    show Steps p.tables e below (s₁.setTop (mkF m 153 #[.val (.int xp), .val (.int xq), .val (.int xr), .val (.int xs), .val (.int xt), .val (.int ja), .val (.int jb), .val (.int jc), .val (.int jd), .val (.int je), .val (.int jf), .val (.int jg), .val (.int jh), .val (.int qa), .val (.int qb), .unset, .unset, .unset, .unset, .unset, .unset, .unset, .unset] [(.int (3 : Int32)), (.int (((xt.toUInt32 >>> ((4 : Int32) &&& 31).toUInt32).toInt32) &&& (3 : Int32)))])) _
    refine iremM X0 hx rfl (hb hby at_153) rfl (by decide) ?_
    show Steps p.tables e below (s₁.setTop (mkF m 154 #[.val (.int xp), .val (.int xq), .val (.int xr), .val (.int xs), .val (.int xt), .val (.int ja), .val (.int jb), .val (.int jc), .val (.int jd), .val (.int je), .val (.int jf), .val (.int jg), .val (.int jh), .val (.int qa), .val (.int qb), .unset, .unset, .unset, .unset, .unset, .unset, .unset, .unset] [(.int ((((xt.toUInt32 >>> ((4 : Int32) &&& 31).toUInt32).toInt32) &&& (3 : Int32)) % (3 : Int32)))])) _
    refine XS.istore X0.here hx rfl (hb hby at_154) rfl (l' := #[.val (.int xp), .val (.int xq), .val (.int xr), .val (.int xs), .val (.int xt), .val (.int ja), .val (.int jb), .val (.int jc), .val (.int jd), .val (.int je), .val (.int jf), .val (.int jg), .val (.int jh), .val (.int qa), .val (.int qb), .val (.int ((((xt.toUInt32 >>> ((4 : Int32) &&& 31).toUInt32).toInt32) &&& (3 : Int32)) % (3 : Int32))), .unset, .unset, .unset, .unset, .unset, .unset, .unset]) rfl ?_
    show Steps p.tables e below (s₁.setTop (mkF m 156 #[.val (.int xp), .val (.int xq), .val (.int xr), .val (.int xs), .val (.int xt), .val (.int ja), .val (.int jb), .val (.int jc), .val (.int jd), .val (.int je), .val (.int jf), .val (.int jg), .val (.int jh), .val (.int qa), .val (.int qb), .val (.int ((((xt.toUInt32 >>> ((4 : Int32) &&& 31).toUInt32).toInt32) &&& (3 : Int32)) % (3 : Int32))), .unset, .unset, .unset, .unset, .unset, .unset, .unset] [])) _
    exact k
  obtain ⟨qc, hqc⟩ : ∃ z : Int32, z = ((((xt.toUInt32 >>> ((4 : Int32) &&& 31).toUInt32).toInt32) &&& (3 : Int32)) % (3 : Int32)) := ⟨_, rfl⟩
  rw [← hqc] at pre15
  have pre16 : ∀ t, Steps p.tables e below (s₁.setTop (mkF m 167 #[.val (.int xp), .val (.int xq), .val (.int xr), .val (.int xs), .val (.int xt), .val (.int ja), .val (.int jb), .val (.int jc), .val (.int jd), .val (.int je), .val (.int jf), .val (.int jg), .val (.int jh), .val (.int qa), .val (.int qb), .val (.int qc), .val (.int ((((xt.toUInt32 >>> ((6 : Int32) &&& 31).toUInt32).toInt32) &&& (3 : Int32)) % (3 : Int32))), .unset, .unset, .unset, .unset, .unset, .unset] [])) t → Steps p.tables e below (s₁.setTop (entryFrame m #[(.int xp), (.int xq), (.int xr), (.int xs), (.int xt)] maxLocals)) t := by
    intro t k
    refine pre15 t ?_
    refine XS.iload X0.here hx rfl (hb hby at_156) rfl ?_
    show Steps p.tables e below (s₁.setTop (mkF m 158 #[.val (.int xp), .val (.int xq), .val (.int xr), .val (.int xs), .val (.int xt), .val (.int ja), .val (.int jb), .val (.int jc), .val (.int jd), .val (.int je), .val (.int jf), .val (.int jg), .val (.int jh), .val (.int qa), .val (.int qb), .val (.int qc), .unset, .unset, .unset, .unset, .unset, .unset, .unset] [(.int xt)])) _
    refine XS.bipush X0.here hx rfl (hb hby at_158) ?_
    show Steps p.tables e below (s₁.setTop (mkF m 160 #[.val (.int xp), .val (.int xq), .val (.int xr), .val (.int xs), .val (.int xt), .val (.int ja), .val (.int jb), .val (.int jc), .val (.int jd), .val (.int je), .val (.int jf), .val (.int jg), .val (.int jh), .val (.int qa), .val (.int qb), .val (.int qc), .unset, .unset, .unset, .unset, .unset, .unset, .unset] [(.int (6 : Int32)), (.int xt)])) _
    refine XS.iushr X0.here hx rfl (hb hby at_160) rfl ?_
    show Steps p.tables e below (s₁.setTop (mkF m 161 #[.val (.int xp), .val (.int xq), .val (.int xr), .val (.int xs), .val (.int xt), .val (.int ja), .val (.int jb), .val (.int jc), .val (.int jd), .val (.int je), .val (.int jf), .val (.int jg), .val (.int jh), .val (.int qa), .val (.int qb), .val (.int qc), .unset, .unset, .unset, .unset, .unset, .unset, .unset] [(.int ((xt.toUInt32 >>> ((6 : Int32) &&& 31).toUInt32).toInt32))])) _
    refine XS.iconst X0.here hx rfl (hb hby at_161) ?_
    show Steps p.tables e below (s₁.setTop (mkF m 162 #[.val (.int xp), .val (.int xq), .val (.int xr), .val (.int xs), .val (.int xt), .val (.int ja), .val (.int jb), .val (.int jc), .val (.int jd), .val (.int je), .val (.int jf), .val (.int jg), .val (.int jh), .val (.int qa), .val (.int qb), .val (.int qc), .unset, .unset, .unset, .unset, .unset, .unset, .unset] [(.int (3 : Int32)), (.int ((xt.toUInt32 >>> ((6 : Int32) &&& 31).toUInt32).toInt32))])) _
    refine XS.iand X0.here hx rfl (hb hby at_162) rfl ?_
    show Steps p.tables e below (s₁.setTop (mkF m 163 #[.val (.int xp), .val (.int xq), .val (.int xr), .val (.int xs), .val (.int xt), .val (.int ja), .val (.int jb), .val (.int jc), .val (.int jd), .val (.int je), .val (.int jf), .val (.int jg), .val (.int jh), .val (.int qa), .val (.int qb), .val (.int qc), .unset, .unset, .unset, .unset, .unset, .unset, .unset] [(.int (((xt.toUInt32 >>> ((6 : Int32) &&& 31).toUInt32).toInt32) &&& (3 : Int32)))])) _
    refine XS.iconst X0.here hx rfl (hb hby at_163) ?_
    show Steps p.tables e below (s₁.setTop (mkF m 164 #[.val (.int xp), .val (.int xq), .val (.int xr), .val (.int xs), .val (.int xt), .val (.int ja), .val (.int jb), .val (.int jc), .val (.int jd), .val (.int je), .val (.int jf), .val (.int jg), .val (.int jh), .val (.int qa), .val (.int qb), .val (.int qc), .unset, .unset, .unset, .unset, .unset, .unset, .unset] [(.int (3 : Int32)), (.int (((xt.toUInt32 >>> ((6 : Int32) &&& 31).toUInt32).toInt32) &&& (3 : Int32)))])) _
    refine iremM X0 hx rfl (hb hby at_164) rfl (by decide) ?_
    show Steps p.tables e below (s₁.setTop (mkF m 165 #[.val (.int xp), .val (.int xq), .val (.int xr), .val (.int xs), .val (.int xt), .val (.int ja), .val (.int jb), .val (.int jc), .val (.int jd), .val (.int je), .val (.int jf), .val (.int jg), .val (.int jh), .val (.int qa), .val (.int qb), .val (.int qc), .unset, .unset, .unset, .unset, .unset, .unset, .unset] [(.int ((((xt.toUInt32 >>> ((6 : Int32) &&& 31).toUInt32).toInt32) &&& (3 : Int32)) % (3 : Int32)))])) _
    refine XS.istore X0.here hx rfl (hb hby at_165) rfl (l' := #[.val (.int xp), .val (.int xq), .val (.int xr), .val (.int xs), .val (.int xt), .val (.int ja), .val (.int jb), .val (.int jc), .val (.int jd), .val (.int je), .val (.int jf), .val (.int jg), .val (.int jh), .val (.int qa), .val (.int qb), .val (.int qc), .val (.int ((((xt.toUInt32 >>> ((6 : Int32) &&& 31).toUInt32).toInt32) &&& (3 : Int32)) % (3 : Int32))), .unset, .unset, .unset, .unset, .unset, .unset]) rfl ?_
    show Steps p.tables e below (s₁.setTop (mkF m 167 #[.val (.int xp), .val (.int xq), .val (.int xr), .val (.int xs), .val (.int xt), .val (.int ja), .val (.int jb), .val (.int jc), .val (.int jd), .val (.int je), .val (.int jf), .val (.int jg), .val (.int jh), .val (.int qa), .val (.int qb), .val (.int qc), .val (.int ((((xt.toUInt32 >>> ((6 : Int32) &&& 31).toUInt32).toInt32) &&& (3 : Int32)) % (3 : Int32))), .unset, .unset, .unset, .unset, .unset, .unset] [])) _
    exact k
  obtain ⟨qd, hqd⟩ : ∃ z : Int32, z = ((((xt.toUInt32 >>> ((6 : Int32) &&& 31).toUInt32).toInt32) &&& (3 : Int32)) % (3 : Int32)) := ⟨_, rfl⟩
  rw [← hqd] at pre16
  have rja : OKc ja := by rw [hja]; exact own_r8 _
  have rjb : OKc jb := by rw [hjb]; exact own_r8 _
  have rjc : OKc jc := by rw [hjc]; exact own_r8 _
  have rjd : OKc jd := by rw [hjd]; exact own_r8 _
  have rje : OKc je := by rw [hje]; exact own_if (own_r8 _) rja
  have rjf : OKc jf := by rw [hjf]; exact own_if (own_r8 _) rjb
  have rjg : OKc jg := by rw [hjg]; exact own_if (own_r8 _) rjc
  have rjh : OKc jh := by rw [hjh]; exact own_if (own_r8 _) rjd
  have rqa : OKl qa := by rw [hqa]; exact own_r3 _
  have rqb : OKl qb := by rw [hqb]; exact own_r3 _
  have rqc : OKl qc := by rw [hqc]; exact own_r3 _
  have rqd : OKl qd := by rw [hqd]; exact own_r3 _
  have pre17 : ∀ t, Steps p.tables e below (s₁.setTop (mkF m 173 #[.val (.int xp), .val (.int xq), .val (.int xr), .val (.int xs), .val (.int xt), .val (.int ja), .val (.int jb), .val (.int jc), .val (.int jd), .val (.int je), .val (.int jf), .val (.int jg), .val (.int jh), .val (.int qa), .val (.int qb), .val (.int qc), .val (.int qd), .unset, .unset, .unset, .unset, .unset, .unset] [(.int jb), (.int ja), (.int qa)])) t → Steps p.tables e below (s₁.setTop (entryFrame m #[(.int xp), (.int xq), (.int xr), (.int xs), (.int xt)] maxLocals)) t := by
    intro t k
    refine pre16 t ?_
    refine XS.iload X0.here hx rfl (hb hby at_167) rfl ?_
    show Steps p.tables e below (s₁.setTop (mkF m 169 #[.val (.int xp), .val (.int xq), .val (.int xr), .val (.int xs), .val (.int xt), .val (.int ja), .val (.int jb), .val (.int jc), .val (.int jd), .val (.int je), .val (.int jf), .val (.int jg), .val (.int jh), .val (.int qa), .val (.int qb), .val (.int qc), .val (.int qd), .unset, .unset, .unset, .unset, .unset, .unset] [(.int qa)])) _
    refine XS.iload X0.here hx rfl (hb hby at_169) rfl ?_
    show Steps p.tables e below (s₁.setTop (mkF m 171 #[.val (.int xp), .val (.int xq), .val (.int xr), .val (.int xs), .val (.int xt), .val (.int ja), .val (.int jb), .val (.int jc), .val (.int jd), .val (.int je), .val (.int jf), .val (.int jg), .val (.int jh), .val (.int qa), .val (.int qb), .val (.int qc), .val (.int qd), .unset, .unset, .unset, .unset, .unset, .unset] [(.int ja), (.int qa)])) _
    refine XS.iload X0.here hx rfl (hb hby at_171) rfl ?_
    show Steps p.tables e below (s₁.setTop (mkF m 173 #[.val (.int xp), .val (.int xq), .val (.int xr), .val (.int xs), .val (.int xt), .val (.int ja), .val (.int jb), .val (.int jc), .val (.int jd), .val (.int je), .val (.int jf), .val (.int jg), .val (.int jh), .val (.int qa), .val (.int qb), .val (.int qc), .val (.int qd), .unset, .unset, .unset, .unset, .unset, .unset] [(.int jb), (.int ja), (.int qa)])) _
    exact k
  obtain ⟨_, _, ⟨T18, L18, k18, n18⟩, -, X18, hs18, gz18, ⟨Lc18, hQ18, l18, y18, z18, CR18⟩, st18⟩ := callSS X0 hx (y := (⟨"com/example/feuillet/feuillet/input/ElementIsPinLaw", "str", "(ICC)Ljava/lang/String;"⟩ : MethodName)) hown (mvT hZ (hw _ (List.mem_of_getElem? (i := 0) rfl))) (mvT hZ (hw _ (List.mem_of_getElem? (i := 1) rfl))) (mvT hZ (hw _ (List.mem_of_getElem? (i := 2) rfl))) (mvT hZ (hw _ (List.mem_of_getElem? (i := 3) rfl))) (by decide) (backOfSH (W := 0) (rm_str l Z a0 hw [] qa ja jb xcs h0 n0 Z0 SC (hcs) (own_lt rja) (own_ltc rja) (own_ltc rjb) (own_l2 rqa)) hZ (hw _ (List.mem_of_getElem? (i := 3) rfl)) (hw _ (List.mem_of_getElem? (i := 2) rfl)) (by decide) (by decide) hEL HC0) (g := (mkF m 173 #[.val (.int xp), .val (.int xq), .val (.int xr), .val (.int xs), .val (.int xt), .val (.int ja), .val (.int jb), .val (.int jc), .val (.int jd), .val (.int je), .val (.int jf), .val (.int jg), .val (.int jh), .val (.int qa), .val (.int qb), .val (.int qc), .val (.int qd), .unset, .unset, .unset, .unset, .unset, .unset] [(.int jb), (.int ja), (.int qa)])) rfl (by rw [hml]; rfl) (argsL := [(.int qa), (.int ja), (.int jb)]) (rest := []) (lenOf pd12 rfl) rfl (by show 2 * 0 + _ ≤ _; exact Nat.le_of_eq rfl) (hb hby at_173) (fun _ _ => ⟨rfl, e0, (by decide : 0 + 6 ≤ _), (by decide : 0 + 12 ≤ _)⟩)
  dsimp only [Pt.U, Pt.locs, Pt.cells, Pt.slots] at X18 l18 y18 z18 st18 hQ18 hs18 gz18 CR18
  subst y18 z18
  obtain ⟨X18, hS18, hZ, hown⟩ := rebS hS0 (Nat.le_trans hk0 (Nat.le_of_eq (congrArg Array.size (show _ = h0 from e0)).symm)) X18 hs18 gz18 hZ hown
  have hk18 := Nat.le_refl T18.heap.size
  have RC18 := CHr.trans (CHr.refl HC0) CR18
  obtain ⟨ry_18, ky_18, b18, rfl, M18, g_b18, zs18, kp18, f18_0, f18_1, f18_2, f18_3⟩ := hQ18
  have sz_b18 : h0.size ≤ b18 := Nat.le_trans (Keep.refl h0 ([] : List Addr)).1 zs18
  have K18 : Keep h0 T18.heap ([] : List Addr) := (Keep.refl h0 ([] : List Addr)).trans kp18 all0
  have zz18 : n0 ≤ T18.heap.size := Nat.le_trans Z0 K18.1
  have N18 : Fr n0 L18 := by rw [l18]; exact Fr.app N0 M18
  clear l18
  have X18 : Stand p l e _ _ m _ below meth c T18 _ 6 12 := X18
  have pre19 : ∀ t, Steps p.tables e below (T18.setTop (mkF m 176 #[.val (.int xp), .val (.int xq), .val (.int xr), .val (.int xs), .val (.int xt), .val (.int ja), .val (.int jb), .val (.int jc), .val (.int jd), .val (.int je), .val (.int jf), .val (.int jg), .val (.int jh), .val (.int qa), .val (.int qb), .val (.int qc), .val (.int qd), .unset, .unset, .unset, .unset, .unset, .unset] [(.ref b18)])) t → Steps p.tables e below (s₁.setTop (entryFrame m #[(.int xp), (.int xq), (.int xr), (.int xs), (.int xt)] maxLocals)) t := fun t k => pre17 t (st18.trans k)
  have pre20 : ∀ t, Steps p.tables e below (T18.setTop (mkF m 184 #[.val (.int xp), .val (.int xq), .val (.int xr), .val (.int xs), .val (.int xt), .val (.int ja), .val (.int jb), .val (.int jc), .val (.int jd), .val (.int je), .val (.int jf), .val (.int jg), .val (.int jh), .val (.int qa), .val (.int qb), .val (.int qc), .val (.int qd), .val (.ref b18), .unset, .unset, .unset, .unset, .unset] [(.int jf), (.int je), (.int qb)])) t → Steps p.tables e below (s₁.setTop (entryFrame m #[(.int xp), (.int xq), (.int xr), (.int xs), (.int xt)] maxLocals)) t := by
    intro t k
    refine pre19 t ?_
    refine XS.astore X18.here hx rfl (hb hby at_176) rfl rfl (l' := #[.val (.int xp), .val (.int xq), .val (.int xr), .val (.int xs), .val (.int xt), .val (.int ja), .val (.int jb), .val (.int jc), .val (.int jd), .val (.int je), .val (.int jf), .val (.int jg), .val (.int jh), .val (.int qa), .val (.int qb), .val (.int qc), .val (.int qd), .val (.ref b18), .unset, .unset, .unset, .unset, .unset]) rfl ?_
    show Steps p.tables e below (T18.setTop (mkF m 178 #[.val (.int xp), .val (.int xq), .val (.int xr), .val (.int xs), .val (.int xt), .val (.int ja), .val (.int jb), .val (.int jc), .val (.int jd), .val (.int je), .val (.int jf), .val (.int jg), .val (.int jh), .val (.int qa), .val (.int qb), .val (.int qc), .val (.int qd), .val (.ref b18), .unset, .unset, .unset, .unset, .unset] [])) _
    refine XS.iload X18.here hx rfl (hb hby at_178) rfl ?_
    show Steps p.tables e below (T18.setTop (mkF m 180 #[.val (.int xp), .val (.int xq), .val (.int xr), .val (.int xs), .val (.int xt), .val (.int ja), .val (.int jb), .val (.int jc), .val (.int jd), .val (.int je), .val (.int jf), .val (.int jg), .val (.int jh), .val (.int qa), .val (.int qb), .val (.int qc), .val (.int qd), .val (.ref b18), .unset, .unset, .unset, .unset, .unset] [(.int qb)])) _
    refine XS.iload X18.here hx rfl (hb hby at_180) rfl ?_
    show Steps p.tables e below (T18.setTop (mkF m 182 #[.val (.int xp), .val (.int xq), .val (.int xr), .val (.int xs), .val (.int xt), .val (.int ja), .val (.int jb), .val (.int jc), .val (.int jd), .val (.int je), .val (.int jf), .val (.int jg), .val (.int jh), .val (.int qa), .val (.int qb), .val (.int qc), .val (.int qd), .val (.ref b18), .unset, .unset, .unset, .unset, .unset] [(.int je), (.int qb)])) _
    refine XS.iload X18.here hx rfl (hb hby at_182) rfl ?_
    show Steps p.tables e below (T18.setTop (mkF m 184 #[.val (.int xp), .val (.int xq), .val (.int xr), .val (.int xs), .val (.int xt), .val (.int ja), .val (.int jb), .val (.int jc), .val (.int jd), .val (.int je), .val (.int jf), .val (.int jg), .val (.int jh), .val (.int qa), .val (.int qb), .val (.int qc), .val (.int qd), .val (.ref b18), .unset, .unset, .unset, .unset, .unset] [(.int jf), (.int je), (.int qb)])) _
    exact k
  have f21 := (SC.ext (own_keep_ext kp18))
  obtain ⟨_, _, ⟨T22, L22, k22, n22⟩, -, X22, hs22, gz22, ⟨Lc22, hQ22, l22, y22, z22, CR22⟩, st22⟩ := callSS X18 hx (y := (⟨"com/example/feuillet/feuillet/input/ElementIsPinLaw", "str", "(ICC)Ljava/lang/String;"⟩ : MethodName)) hown (mvT hZ (hw _ (List.mem_of_getElem? (i := 0) rfl))) (mvT hZ (hw _ (List.mem_of_getElem? (i := 1) rfl))) (mvT hZ (hw _ (List.mem_of_getElem? (i := 2) rfl))) (mvT hZ (hw _ (List.mem_of_getElem? (i := 3) rfl))) (by decide) (backOfSH (W := 0) (rm_str l Z a0 hw [] qb je jf xcs T18.heap n0 zz18 f21 (hcs) (own_lt rje) (own_ltc rje) (own_ltc rjf) (own_l2 rqb)) hZ (hw _ (List.mem_of_getElem? (i := 3) rfl)) (hw _ (List.mem_of_getElem? (i := 2) rfl)) (by decide) (by decide) hEL CR18.1) (g := (mkF m 184 #[.val (.int xp), .val (.int xq), .val (.int xr), .val (.int xs), .val (.int xt), .val (.int ja), .val (.int jb), .val (.int jc), .val (.int jd), .val (.int je), .val (.int jf), .val (.int jg), .val (.int jh), .val (.int qa), .val (.int qb), .val (.int qc), .val (.int qd), .val (.ref b18), .unset, .unset, .unset, .unset, .unset] [(.int jf), (.int je), (.int qb)])) rfl (by rw [hml]; rfl) (argsL := [(.int qb), (.int je), (.int jf)]) (rest := []) (lenOf pd12 rfl) rfl (by show 2 * 0 + _ ≤ _; exact Nat.le_of_eq rfl) (hb hby at_184) (fun _ _ => ⟨rfl, rfl, (by decide : 6 + 6 ≤ _), (by decide : 12 + 12 ≤ _)⟩)
  dsimp only [Pt.U, Pt.locs, Pt.cells, Pt.slots] at X22 l22 y22 z22 st22 hQ22 hs22 gz22 CR22
  subst y22 z22
  obtain ⟨X22, hS22, hZ, hown⟩ := rebS hS18 (Nat.le_trans hk18 (Nat.le_of_eq (congrArg Array.size (show _ = T18.heap from rfl)).symm)) X22 hs22 gz22 hZ hown
  have hk22 := Nat.le_refl T22.heap.size
  have RC22 := CHr.trans RC18 CR22
  obtain ⟨ry_22, ky_22, b22, rfl, M22, g_b22, zs22, kp22, f22_0, f22_1, f22_2, f22_3⟩ := hQ22
  have sz_b22 : h0.size ≤ b22 := Nat.le_trans K18.1 zs22
  have K22 : Keep h0 T22.heap ([] : List Addr) := K18.trans kp22 all0
  have zz22 : n0 ≤ T22.heap.size := Nat.le_trans Z0 K22.1
  have N22 : Fr n0 L22 := by rw [l22]; exact Fr.app N18 M22
  clear l22
  have X22 : Stand p l e _ _ m _ below meth c T22 _ 12 24 := X22
  have pre23 : ∀ t, Steps p.tables e below (T22.setTop (mkF m 187 #[.val (.int xp), .val (.int xq), .val (.int xr), .val (.int xs), .val (.int xt), .val (.int ja), .val (.int jb), .val (.int jc), .val (.int jd), .val (.int je), .val (.int jf), .val (.int jg), .val (.int jh), .val (.int qa), .val (.int qb), .val (.int qc), .val (.int qd), .val (.ref b18), .unset, .unset, .unset, .unset, .unset] [(.ref b22)])) t → Steps p.tables e below (s₁.setTop (entryFrame m #[(.int xp), (.int xq), (.int xr), (.int xs), (.int xt)] maxLocals)) t := fun t k => pre20 t (st22.trans k)
  have pre24 : ∀ t, Steps p.tables e below (T22.setTop (mkF m 195 #[.val (.int xp), .val (.int xq), .val (.int xr), .val (.int xs), .val (.int xt), .val (.int ja), .val (.int jb), .val (.int jc), .val (.int jd), .val (.int je), .val (.int jf), .val (.int jg), .val (.int jh), .val (.int qa), .val (.int qb), .val (.int qc), .val (.int qd), .val (.ref b18), .val (.ref b22), .unset, .unset, .unset, .unset] [(.int jd), (.int jc), (.int qc)])) t → Steps p.tables e below (s₁.setTop (entryFrame m #[(.int xp), (.int xq), (.int xr), (.int xs), (.int xt)] maxLocals)) t := by
    intro t k
    refine pre23 t ?_
    refine XS.astore X22.here hx rfl (hb hby at_187) rfl rfl (l' := #[.val (.int xp), .val (.int xq), .val (.int xr), .val (.int xs), .val (.int xt), .val (.int ja), .val (.int jb), .val (.int jc), .val (.int jd), .val (.int je), .val (.int jf), .val (.int jg), .val (.int jh), .val (.int qa), .val (.int qb), .val (.int qc), .val (.int qd), .val (.ref b18), .val (.ref b22), .unset, .unset, .unset, .unset]) rfl ?_
    show Steps p.tables e below (T22.setTop (mkF m 189 #[.val (.int xp), .val (.int xq), .val (.int xr), .val (.int xs), .val (.int xt), .val (.int ja), .val (.int jb), .val (.int jc), .val (.int jd), .val (.int je), .val (.int jf), .val (.int jg), .val (.int jh), .val (.int qa), .val (.int qb), .val (.int qc), .val (.int qd), .val (.ref b18), .val (.ref b22), .unset, .unset, .unset, .unset] [])) _
    refine XS.iload X22.here hx rfl (hb hby at_189) rfl ?_
    show Steps p.tables e below (T22.setTop (mkF m 191 #[.val (.int xp), .val (.int xq), .val (.int xr), .val (.int xs), .val (.int xt), .val (.int ja), .val (.int jb), .val (.int jc), .val (.int jd), .val (.int je), .val (.int jf), .val (.int jg), .val (.int jh), .val (.int qa), .val (.int qb), .val (.int qc), .val (.int qd), .val (.ref b18), .val (.ref b22), .unset, .unset, .unset, .unset] [(.int qc)])) _
    refine XS.iload X22.here hx rfl (hb hby at_191) rfl ?_
    show Steps p.tables e below (T22.setTop (mkF m 193 #[.val (.int xp), .val (.int xq), .val (.int xr), .val (.int xs), .val (.int xt), .val (.int ja), .val (.int jb), .val (.int jc), .val (.int jd), .val (.int je), .val (.int jf), .val (.int jg), .val (.int jh), .val (.int qa), .val (.int qb), .val (.int qc), .val (.int qd), .val (.ref b18), .val (.ref b22), .unset, .unset, .unset, .unset] [(.int jc), (.int qc)])) _
    refine XS.iload X22.here hx rfl (hb hby at_193) rfl ?_
    show Steps p.tables e below (T22.setTop (mkF m 195 #[.val (.int xp), .val (.int xq), .val (.int xr), .val (.int xs), .val (.int xt), .val (.int ja), .val (.int jb), .val (.int jc), .val (.int jd), .val (.int je), .val (.int jf), .val (.int jg), .val (.int jh), .val (.int qa), .val (.int qb), .val (.int qc), .val (.int qd), .val (.ref b18), .val (.ref b22), .unset, .unset, .unset, .unset] [(.int jd), (.int jc), (.int qc)])) _
    exact k
  have f25 := (f21.ext (own_keep_ext kp22))
  obtain ⟨_, _, ⟨T26, L26, k26, n26⟩, -, X26, hs26, gz26, ⟨Lc26, hQ26, l26, y26, z26, CR26⟩, st26⟩ := callSS X22 hx (y := (⟨"com/example/feuillet/feuillet/input/ElementIsPinLaw", "str", "(ICC)Ljava/lang/String;"⟩ : MethodName)) hown (mvT hZ (hw _ (List.mem_of_getElem? (i := 0) rfl))) (mvT hZ (hw _ (List.mem_of_getElem? (i := 1) rfl))) (mvT hZ (hw _ (List.mem_of_getElem? (i := 2) rfl))) (mvT hZ (hw _ (List.mem_of_getElem? (i := 3) rfl))) (by decide) (backOfSH (W := 0) (rm_str l Z a0 hw [] qc jc jd xcs T22.heap n0 zz22 f25 (hcs) (own_lt rjc) (own_ltc rjc) (own_ltc rjd) (own_l2 rqc)) hZ (hw _ (List.mem_of_getElem? (i := 3) rfl)) (hw _ (List.mem_of_getElem? (i := 2) rfl)) (by decide) (by decide) hEL CR22.1) (g := (mkF m 195 #[.val (.int xp), .val (.int xq), .val (.int xr), .val (.int xs), .val (.int xt), .val (.int ja), .val (.int jb), .val (.int jc), .val (.int jd), .val (.int je), .val (.int jf), .val (.int jg), .val (.int jh), .val (.int qa), .val (.int qb), .val (.int qc), .val (.int qd), .val (.ref b18), .val (.ref b22), .unset, .unset, .unset, .unset] [(.int jd), (.int jc), (.int qc)])) rfl (by rw [hml]; rfl) (argsL := [(.int qc), (.int jc), (.int jd)]) (rest := []) (lenOf pd12 rfl) rfl (by show 2 * 0 + _ ≤ _; exact Nat.le_of_eq rfl) (hb hby at_195) (fun _ _ => ⟨rfl, rfl, (by decide : 12 + 6 ≤ _), (by decide : 24 + 12 ≤ _)⟩)
  dsimp only [Pt.U, Pt.locs, Pt.cells, Pt.slots] at X26 l26 y26 z26 st26 hQ26 hs26 gz26 CR26
  subst y26 z26
  obtain ⟨X26, hS26, hZ, hown⟩ := rebS hS22 (Nat.le_trans hk22 (Nat.le_of_eq (congrArg Array.size (show _ = T22.heap from rfl)).symm)) X26 hs26 gz26 hZ hown
  have hk26 := Nat.le_refl T26.heap.size
  have RC26 := CHr.trans RC22 CR26
  obtain ⟨ry_26, ky_26, b26, rfl, M26, g_b26, zs26, kp26, f26_0, f26_1, f26_2, f26_3⟩ := hQ26
  have sz_b26 : h0.size ≤ b26 := Nat.le_trans K22.1 zs26
  have K26 : Keep h0 T26.heap ([] : List Addr) := K22.trans kp26 all0
  have zz26 : n0 ≤ T26.heap.size := Nat.le_trans Z0 K26.1
  have N26 : Fr n0 L26 := by rw [l26]; exact Fr.app N22 M26
  clear l26
  have X26 : Stand p l e _ _ m _ below meth c T26 _ 18 36 := X26
  have pre27 : ∀ t, Steps p.tables e below (T26.setTop (mkF m 198 #[.val (.int xp), .val (.int xq), .val (.int xr), .val (.int xs), .val (.int xt), .val (.int ja), .val (.int jb), .val (.int jc), .val (.int jd), .val (.int je), .val (.int jf), .val (.int jg), .val (.int jh), .val (.int qa), .val (.int qb), .val (.int qc), .val (.int qd), .val (.ref b18), .val (.ref b22), .unset, .unset, .unset, .unset] [(.ref b26)])) t → Steps p.tables e below (s₁.setTop (entryFrame m #[(.int xp), (.int xq), (.int xr), (.int xs), (.int xt)] maxLocals)) t := fun t k => pre24 t (st26.trans k)
  have pre28 : ∀ t, Steps p.tables e below (T26.setTop (mkF m 206 #[.val (.int xp), .val (.int xq), .val (.int xr), .val (.int xs), .val (.int xt), .val (.int ja), .val (.int jb), .val (.int jc), .val (.int jd), .val (.int je), .val (.int jf), .val (.int jg), .val (.int jh), .val (.int qa), .val (.int qb), .val (.int qc), .val (.int qd), .val (.ref b18), .val (.ref b22), .val (.ref b26), .unset, .unset, .unset] [(.int jh), (.int jg), (.int qd)])) t → Steps p.tables e below (s₁.setTop (entryFrame m #[(.int xp), (.int xq), (.int xr), (.int xs), (.int xt)] maxLocals)) t := by
    intro t k
    refine pre27 t ?_
    refine XS.astore X26.here hx rfl (hb hby at_198) rfl rfl (l' := #[.val (.int xp), .val (.int xq), .val (.int xr), .val (.int xs), .val (.int xt), .val (.int ja), .val (.int jb), .val (.int jc), .val (.int jd), .val (.int je), .val (.int jf), .val (.int jg), .val (.int jh), .val (.int qa), .val (.int qb), .val (.int qc), .val (.int qd), .val (.ref b18), .val (.ref b22), .val (.ref b26), .unset, .unset, .unset]) rfl ?_
    show Steps p.tables e below (T26.setTop (mkF m 200 #[.val (.int xp), .val (.int xq), .val (.int xr), .val (.int xs), .val (.int xt), .val (.int ja), .val (.int jb), .val (.int jc), .val (.int jd), .val (.int je), .val (.int jf), .val (.int jg), .val (.int jh), .val (.int qa), .val (.int qb), .val (.int qc), .val (.int qd), .val (.ref b18), .val (.ref b22), .val (.ref b26), .unset, .unset, .unset] [])) _
    refine XS.iload X26.here hx rfl (hb hby at_200) rfl ?_
    show Steps p.tables e below (T26.setTop (mkF m 202 #[.val (.int xp), .val (.int xq), .val (.int xr), .val (.int xs), .val (.int xt), .val (.int ja), .val (.int jb), .val (.int jc), .val (.int jd), .val (.int je), .val (.int jf), .val (.int jg), .val (.int jh), .val (.int qa), .val (.int qb), .val (.int qc), .val (.int qd), .val (.ref b18), .val (.ref b22), .val (.ref b26), .unset, .unset, .unset] [(.int qd)])) _
    refine XS.iload X26.here hx rfl (hb hby at_202) rfl ?_
    show Steps p.tables e below (T26.setTop (mkF m 204 #[.val (.int xp), .val (.int xq), .val (.int xr), .val (.int xs), .val (.int xt), .val (.int ja), .val (.int jb), .val (.int jc), .val (.int jd), .val (.int je), .val (.int jf), .val (.int jg), .val (.int jh), .val (.int qa), .val (.int qb), .val (.int qc), .val (.int qd), .val (.ref b18), .val (.ref b22), .val (.ref b26), .unset, .unset, .unset] [(.int jg), (.int qd)])) _
    refine XS.iload X26.here hx rfl (hb hby at_204) rfl ?_
    show Steps p.tables e below (T26.setTop (mkF m 206 #[.val (.int xp), .val (.int xq), .val (.int xr), .val (.int xs), .val (.int xt), .val (.int ja), .val (.int jb), .val (.int jc), .val (.int jd), .val (.int je), .val (.int jf), .val (.int jg), .val (.int jh), .val (.int qa), .val (.int qb), .val (.int qc), .val (.int qd), .val (.ref b18), .val (.ref b22), .val (.ref b26), .unset, .unset, .unset] [(.int jh), (.int jg), (.int qd)])) _
    exact k
  have f29 := (f25.ext (own_keep_ext kp26))
  obtain ⟨_, _, ⟨T30, L30, k30, n30⟩, -, X30, hs30, gz30, ⟨Lc30, hQ30, l30, y30, z30, CR30⟩, st30⟩ := callSS X26 hx (y := (⟨"com/example/feuillet/feuillet/input/ElementIsPinLaw", "str", "(ICC)Ljava/lang/String;"⟩ : MethodName)) hown (mvT hZ (hw _ (List.mem_of_getElem? (i := 0) rfl))) (mvT hZ (hw _ (List.mem_of_getElem? (i := 1) rfl))) (mvT hZ (hw _ (List.mem_of_getElem? (i := 2) rfl))) (mvT hZ (hw _ (List.mem_of_getElem? (i := 3) rfl))) (by decide) (backOfSH (W := 0) (rm_str l Z a0 hw [] qd jg jh xcs T26.heap n0 zz26 f29 (hcs) (own_lt rjg) (own_ltc rjg) (own_ltc rjh) (own_l2 rqd)) hZ (hw _ (List.mem_of_getElem? (i := 3) rfl)) (hw _ (List.mem_of_getElem? (i := 2) rfl)) (by decide) (by decide) hEL CR26.1) (g := (mkF m 206 #[.val (.int xp), .val (.int xq), .val (.int xr), .val (.int xs), .val (.int xt), .val (.int ja), .val (.int jb), .val (.int jc), .val (.int jd), .val (.int je), .val (.int jf), .val (.int jg), .val (.int jh), .val (.int qa), .val (.int qb), .val (.int qc), .val (.int qd), .val (.ref b18), .val (.ref b22), .val (.ref b26), .unset, .unset, .unset] [(.int jh), (.int jg), (.int qd)])) rfl (by rw [hml]; rfl) (argsL := [(.int qd), (.int jg), (.int jh)]) (rest := []) (lenOf pd12 rfl) rfl (by show 2 * 0 + _ ≤ _; exact Nat.le_of_eq rfl) (hb hby at_206) (fun _ _ => ⟨rfl, rfl, (by decide : 18 + 6 ≤ _), (by decide : 36 + 12 ≤ _)⟩)
  dsimp only [Pt.U, Pt.locs, Pt.cells, Pt.slots] at X30 l30 y30 z30 st30 hQ30 hs30 gz30 CR30
  subst y30 z30
  obtain ⟨X30, hS30, hZ, hown⟩ := rebS hS26 (Nat.le_trans hk26 (Nat.le_of_eq (congrArg Array.size (show _ = T26.heap from rfl)).symm)) X30 hs30 gz30 hZ hown
  have hk30 := Nat.le_refl T30.heap.size
  have RC30 := CHr.trans RC26 CR30
  obtain ⟨ry_30, ky_30, b30, rfl, M30, g_b30, zs30, kp30, f30_0, f30_1, f30_2, f30_3⟩ := hQ30
  have sz_b30 : h0.size ≤ b30 := Nat.le_trans K26.1 zs30
  have K30 : Keep h0 T30.heap ([] : List Addr) := K26.trans kp30 all0
  have zz30 : n0 ≤ T30.heap.size := Nat.le_trans Z0 K30.1
  have N30 : Fr n0 L30 := by rw [l30]; exact Fr.app N26 M30
  clear l30
  have X30 : Stand p l e _ _ m _ below meth c T30 _ 24 48 := X30
  have pre31 : ∀ t, Steps p.tables e below (T30.setTop (mkF m 209 #[.val (.int xp), .val (.int xq), .val (.int xr), .val (.int xs), .val (.int xt), .val (.int ja), .val (.int jb), .val (.int jc), .val (.int jd), .val (.int je), .val (.int jf), .val (.int jg), .val (.int jh), .val (.int qa), .val (.int qb), .val (.int qc), .val (.int qd), .val (.ref b18), .val (.ref b22), .val (.ref b26), .unset, .unset, .unset] [(.ref b30)])) t → Steps p.tables e below (s₁.setTop (entryFrame m #[(.int xp), (.int xq), (.int xr), (.int xs), (.int xt)] maxLocals)) t := fun t k => pre28 t (st30.trans k)
  have pre32 : ∀ t, Steps p.tables e below (T30.setTop (mkF m 211 #[.val (.int xp), .val (.int xq), .val (.int xr), .val (.int xs), .val (.int xt), .val (.int ja), .val (.int jb), .val (.int jc), .val (.int jd), .val (.int je), .val (.int jf), .val (.int jg), .val (.int jh), .val (.int qa), .val (.int qb), .val (.int qc), .val (.int qd), .val (.ref b18), .val (.ref b22), .val (.ref b26), .val (.ref b30), .unset, .unset] [])) t → Steps p.tables e below (s₁.setTop (entryFrame m #[(.int xp), (.int xq), (.int xr), (.int xs), (.int xt)] maxLocals)) t := by
    intro t k
    refine pre31 t ?_
    refine XS.astore X30.here hx rfl (hb hby at_209) rfl rfl (l' := #[.val (.int xp), .val (.int xq), .val (.int xr), .val (.int xs), .val (.int xt), .val (.int ja), .val (.int jb), .val (.int jc), .val (.int jd), .val (.int je), .val (.int jf), .val (.int jg), .val (.int jh), .val (.int qa), .val (.int qb), .val (.int qc), .val (.int qd), .val (.ref b18), .val (.ref b22), .val (.ref b26), .val (.ref b30), .unset, .unset]) rfl ?_
    show Steps p.tables e below (T30.setTop (mkF m 211 #[.val (.int xp), .val (.int xq), .val (.int xr), .val (.int xs), .val (.int xt), .val (.int ja), .val (.int jb), .val (.int jc), .val (.int jd), .val (.int je), .val (.int jf), .val (.int jg), .val (.int jh), .val (.int qa), .val (.int qb), .val (.int qc), .val (.int qd), .val (.ref b18), .val (.ref b22), .val (.ref b26), .val (.ref b30), .unset, .unset] [])) _
    exact k
  obtain ⟨T33, h33, X33, e33, E33, A33, D33, -, st33⟩ := newO X30 hx hZ hown (hw _ (List.mem_of_getElem? (i := 26) rfl)) (hw _ (List.mem_of_getElem? (i := 27) rfl)) (hw _ (List.mem_of_getElem? (i := 28) rfl)) rfl (g := (mkF m 211 #[.val (.int xp), .val (.int xq), .val (.int xr), .val (.int xs), .val (.int xt), .val (.int ja), .val (.int jb), .val (.int jc), .val (.int jd), .val (.int je), .val (.int jf), .val (.int jg), .val (.int jh), .val (.int qa), .val (.int qb), .val (.int qc), .val (.int qd), .val (.ref b18), .val (.ref b22), .val (.ref b26), .val (.ref b30), .unset, .unset] [])) rfl (hb hby at_211) (by decide) (by decide)
  obtain ⟨b33, g33⟩ : ∃ z, z = T30.heap.size := ⟨_, rfl⟩
  rw [← g33] at A33 D33 st33
  have g_b33 : n0 ≤ b33 := Nat.le_trans zz30 (Nat.le_of_eq g33.symm)
  have sz_b33 : h0.size ≤ b33 := Nat.le_trans K30.1 (Nat.le_of_eq g33.symm)
  have sf33_b33 := Safe.ext E33 CR30.1 (Safe.new (Nat.le_of_eq g33.symm))
  have RC33 := CHr.trans RC30 (CHr.ext E33 CR30.1)
  have HC33 := CHv.ext E33 CR30.1
  have hk33 := Nat.le_trans hk30 E33.1
  have K33 : Keep h0 h33 ([] : List Addr) := K30.ext E33
  have z33 : n0 ≤ h33.size := Nat.le_trans Z0 K33.1
  have F_children_b33 : Fld Z h33 b33 "com/example/feuillet/feuillet/input/Element" "children" "Ljava/util/List;" .null := D33 (Or.inr (hw _ (List.mem_of_getElem? (i := 58) rfl))) (ty := (.object "java/util/List")) (by decide)
  have F_text_b33 : Fld Z h33 b33 "com/example/feuillet/feuillet/input/Element" "text" "Ljava/lang/String;" .null := D33 (Or.inl (hw _ (List.mem_of_getElem? (i := 61) rfl))) (ty := (.object "java/lang/String")) (by decide)
  have F_namespace_b33 : Fld Z h33 b33 "com/example/feuillet/feuillet/input/Element" "namespace" "Ljava/lang/String;" .null := D33 (Or.inr (hw _ (List.mem_of_getElem? (i := 63) rfl))) (ty := (.object "java/lang/String")) (by decide)
  have F_name_b33 : Fld Z h33 b33 "com/example/feuillet/feuillet/input/Element" "name" "Ljava/lang/String;" .null := D33 (Or.inr (hw _ (List.mem_of_getElem? (i := 65) rfl))) (ty := (.object "java/lang/String")) (by decide)
  have F_attributes_b33 : Fld Z h33 b33 "com/example/feuillet/feuillet/input/Element" "attributes" "Ljava/util/Map;" .null := D33 (Or.inr (hw _ (List.mem_of_getElem? (i := 67) rfl))) (ty := (.object "java/util/Map")) (by decide)
  have F_line_b33 : Fld Z h33 b33 "com/example/feuillet/feuillet/input/Element" "line" "I" (.int (0 : Int32)) := D33 (Or.inr (hw _ (List.mem_of_getElem? (i := 69) rfl))) (ty := .int) (by decide)
  have F_column_b33 : Fld Z h33 b33 "com/example/feuillet/feuillet/input/Element" "column" "I" (.int (0 : Int32)) := D33 (Or.inr (hw _ (List.mem_of_getElem? (i := 71) rfl))) (ty := .int) (by decide)
  have F_keepsText_b33 : Fld Z h33 b33 "com/example/feuillet/feuillet/input/Element" "keepsText" "Z" (.int (0 : Int32)) := D33 (Or.inr (hw _ (List.mem_of_getElem? (i := 73) rfl))) (ty := .boolean) (by decide)
  have X33 : Stand p l e _ _ m _ below meth c T33 _ 25 57 := X33
  have pre34 : ∀ t, Steps p.tables e below (T33.setTop (mkF m 214 #[.val (.int xp), .val (.int xq), .val (.int xr), .val (.int xs), .val (.int xt), .val (.int ja), .val (.int jb), .val (.int jc), .val (.int jd), .val (.int je), .val (.int jf), .val (.int jg), .val (.int jh), .val (.int qa), .val (.int qb), .val (.int qc), .val (.int qd), .val (.ref b18), .val (.ref b22), .val (.ref b26), .val (.ref b30), .unset, .unset] [(.ref b33)])) t → Steps p.tables e below (s₁.setTop (entryFrame m #[(.int xp), (.int xq), (.int xr), (.int xs), (.int xt)] maxLocals)) t := fun t k => pre32 t (st33 t k)
  have pre35 : ∀ t, Steps p.tables e below (T33.setTop (mkF m 223 #[.val (.int xp), .val (.int xq), .val (.int xr), .val (.int xs), .val (.int xt), .val (.int ja), .val (.int jb), .val (.int jc), .val (.int jd), .val (.int je), .val (.int jf), .val (.int jg), .val (.int jh), .val (.int qa), .val (.int qb), .val (.int qc), .val (.int qd), .val (.ref b18), .val (.ref b22), .val (.ref b26), .val (.ref b30), .unset, .unset] [(.int (0 : Int32)), (.int (1 : Int32)), (.int (1 : Int32)), .null, (.ref b26), (.ref b18), (.ref b33), (.ref b33)])) t → Steps p.tables e below (s₁.setTop (entryFrame m #[(.int xp), (.int xq), (.int xr), (.int xs), (.int xt)] maxLocals)) t := by
    intro t k
    refine pre34 t ?_
    refine XS.dup X33.here hx rfl (hb hby at_214) rfl rfl ?_
    show Steps p.tables e below (T33.setTop (mkF m 215 #[.val (.int xp), .val (.int xq), .val (.int xr), .val (.int xs), .val (.int xt), .val (.int ja), .val (.int jb), .val (.int jc), .val (.int jd), .val (.int je), .val (.int jf), .val (.int jg), .val (.int jh), .val (.int qa), .val (.int qb), .val (.int qc), .val (.int qd), .val (.ref b18), .val (.ref b22), .val (.ref b26), .val (.ref b30), .unset, .unset] [(.ref b33), (.ref b33)])) _
    refine XS.aload X33.here hx rfl (hb hby at_215) rfl rfl ?_
    show Steps p.tables e below (T33.setTop (mkF m 217 #[.val (.int xp), .val (.int xq), .val (.int xr), .val (.int xs), .val (.int xt), .val (.int ja), .val (.int jb), .val (.int jc), .val (.int jd), .val (.int je), .val (.int jf), .val (.int jg), .val (.int jh), .val (.int qa), .val (.int qb), .val (.int qc), .val (.int qd), .val (.ref b18), .val (.ref b22), .val (.ref b26), .val (.ref b30), .unset, .unset] [(.ref b18), (.ref b33), (.ref b33)])) _
    refine XS.aload X33.here hx rfl (hb hby at_217) rfl rfl ?_
    show Steps p.tables e below (T33.setTop (mkF m 219 #[.val (.int xp), .val (.int xq), .val (.int xr), .val (.int xs), .val (.int xt), .val (.int ja), .val (.int jb), .val (.int jc), .val (.int jd), .val (.int je), .val (.int jf), .val (.int jg), .val (.int jh), .val (.int qa), .val (.int qb), .val (.int qc), .val (.int qd), .val (.ref b18), .val (.ref b22), .val (.ref b26), .val (.ref b30), .unset, .unset] [(.ref b26), (.ref b18), (.ref b33), (.ref b33)])) _
    refine XS.aconstNull X33.here hx rfl (hb hby at_219) ?_
    show Steps p.tables e below (T33.setTop (mkF m 220 #[.val (.int xp), .val (.int xq), .val (.int xr), .val (.int xs), .val (.int xt), .val (.int ja), .val (.int jb), .val (.int jc), .val (.int jd), .val (.int je), .val (.int jf), .val (.int jg), .val (.int jh), .val (.int qa), .val (.int qb), .val (.int qc), .val (.int qd), .val (.ref b18), .val (.ref b22), .val (.ref b26), .val (.ref b30), .unset, .unset] [.null, (.ref b26), (.ref b18), (.ref b33), (.ref b33)])) _
    refine XS.iconst X33.here hx rfl (hb hby at_220) ?_
    show Steps p.tables e below (T33.setTop (mkF m 221 #[.val (.int xp), .val (.int xq), .val (.int xr), .val (.int xs), .val (.int xt), .val (.int ja), .val (.int jb), .val (.int jc), .val (.int jd), .val (.int je), .val (.int jf), .val (.int jg), .val (.int jh), .val (.int qa), .val (.int qb), .val (.int qc), .val (.int qd), .val (.ref b18), .val (.ref b22), .val (.ref b26), .val (.ref b30), .unset, .unset] [(.int (1 : Int32)), .null, (.ref b26), (.ref b18), (.ref b33), (.ref b33)])) _
    refine XS.iconst X33.here hx rfl (hb hby at_221) ?_
    show Steps p.tables e below (T33.setTop (mkF m 222 #[.val (.int xp), .val (.int xq), .val (.int xr), .val (.int xs), .val (.int xt), .val (.int ja), .val (.int jb), .val (.int jc), .val (.int jd), .val (.int je), .val (.int jf), .val (.int jg), .val (.int jh), .val (.int qa), .val (.int qb), .val (.int qc), .val (.int qd), .val (.ref b18), .val (.ref b22), .val (.ref b26), .val (.ref b30), .unset, .unset] [(.int (1 : Int32)), (.int (1 : Int32)), .null, (.ref b26), (.ref b18), (.ref b33), (.ref b33)])) _
    refine XS.iconst X33.here hx rfl (hb hby at_222) ?_
    show Steps p.tables e below (T33.setTop (mkF m 223 #[.val (.int xp), .val (.int xq), .val (.int xr), .val (.int xs), .val (.int xt), .val (.int ja), .val (.int jb), .val (.int jc), .val (.int jd), .val (.int je), .val (.int jf), .val (.int jg), .val (.int jh), .val (.int qa), .val (.int qb), .val (.int qc), .val (.int qd), .val (.ref b18), .val (.ref b22), .val (.ref b26), .val (.ref b30), .unset, .unset] [(.int (0 : Int32)), (.int (1 : Int32)), (.int (1 : Int32)), .null, (.ref b26), (.ref b18), (.ref b33), (.ref b33)])) _
    exact k
  have f36 := (SD.ext (own_keep_ext K33))
  obtain ⟨_, _, ⟨T37, L37, k37, n37⟩, -, X37, hs37, gz37, ⟨Lc37, hQ37, l37, y37, z37, CR37⟩, st37⟩ := X33.specialBackS hx (y := (⟨"com/example/feuillet/feuillet/input/Element", "<init>", "(Ljava/lang/String;Ljava/lang/String;Ljava/util/Map;IIZ)V"⟩ : MethodName)) rfl hown (mvT hZ (hw _ (List.mem_of_getElem? (i := 29) rfl))) (mvT hZ (hw _ (List.mem_of_getElem? (i := 30) rfl))) (mvT hZ (hw _ (List.mem_of_getElem? (i := 31) rfl))) (by decide) (backOfSH (W := 1) (rm_el l Z a0 hw [] b33 b18 b26 wl h33 n0 z33 A33 (g_b33) F_children_b33 F_text_b33 F_namespace_b33 F_name_b33 F_attributes_b33 F_line_b33 F_column_b33 F_keepsText_b33 f36) hZ (hw _ (List.mem_of_getElem? (i := 31) rfl)) (hw _ (List.mem_of_getElem? (i := 28) rfl)) (by decide) (by decide) hEL HC33) (g := (mkF m 223 #[.val (.int xp), .val (.int xq), .val (.int xr), .val (.int xs), .val (.int xt), .val (.int ja), .val (.int jb), .val (.int jc), .val (.int jd), .val (.int je), .val (.int jf), .val (.int jg), .val (.int jh), .val (.int qa), .val (.int qb), .val (.int qc), .val (.int qd), .val (.ref b18), .val (.ref b22), .val (.ref b26), .val (.ref b30), .unset, .unset] [(.int (0 : Int32)), (.int (1 : Int32)), (.int (1 : Int32)), .null, (.ref b26), (.ref b18), (.ref b33), (.ref b33)])) rfl (by rw [hml]; rfl) (Steps.refl _) (a := b33) (argsL := [(.ref b18), (.ref b26), .null, (.int (1 : Int32)), (.int (1 : Int32)), (.int (0 : Int32))]) (rest := [(.ref b33)]) (lenOf pd13 rfl) rfl (by show 2 * 0 + _ ≤ _; exact Nat.le_of_eq rfl) (hb hby at_223) (fun _ _ => ⟨rfl, e33, (by decide : 25 + 3 ≤ _), (by decide : 57 + 7 ≤ _)⟩)
  dsimp only [Pt.U, Pt.locs, Pt.cells, Pt.slots] at X37 l37 y37 z37 st37 hQ37 hs37 gz37 CR37
  subst y37 z37
  obtain ⟨X37, hS37, hZ, hown⟩ := rebS hS30 (Nat.le_trans hk33 (Nat.le_of_eq (congrArg Array.size (show _ = h33 from e33)).symm)) X37 hs37 gz37 hZ hown
  have hk37 := Nat.le_refl T37.heap.size
  have sf37_b33 := CHr.safe CR37 A33.lt sf33_b33
  have RC37 := CHr.trans RC33 CR37
  obtain ⟨rfl, M37, kp37, f37_0, f37_1, f37_2⟩ := hQ37
  have K37 : Keep h0 T37.heap ([] : List Addr) := K33.trans kp37 (allS (P := fun x => x ∈ ([] : List Addr) ∨ h0.size ≤ x) (Or.inr sz_b33) all0)
  have zz37 : n0 ≤ T37.heap.size := Nat.le_trans Z0 K37.1
  have N37 : Fr n0 L37 := by rw [l37]; exact Fr.app N30 M37
  clear l37
  have X37 : Stand p l e _ _ m _ below meth c T37 _ 28 64 := X37
  have pre38 : ∀ t, Steps p.tables e below (T37.setTop (mkF m 226 #[.val (.int xp), .val (.int xq), .val (.int xr), .val (.int xs), .val (.int xt), .val (.int ja), .val (.int jb), .val (.int jc), .val (.int jd), .val (.int je), .val (.int jf), .val (.int jg), .val (.int jh), .val (.int qa), .val (.int qb), .val (.int qc), .val (.int qd), .val (.ref b18), .val (.ref b22), .val (.ref b26), .val (.ref b30), .unset, .unset] [(.ref b33)])) t → Steps p.tables e below (s₁.setTop (entryFrame m #[(.int xp), (.int xq), (.int xr), (.int xs), (.int xt)] maxLocals)) t := fun t k => pre35 t (st37.trans k)
  have pre39 : ∀ t, Steps p.tables e below (T37.setTop (mkF m 240 #[.val (.int xp), .val (.int xq), .val (.int xr), .val (.int xs), .val (.int xt), .val (.int ja), .val (.int jb), .val (.int jc), .val (.int jd), .val (.int je), .val (.int jf), .val (.int jg), .val (.int jh), .val (.int qa), .val (.int qb), .val (.int qc), .val (.int qd), .val (.ref b18), .val (.ref b22), .val (.ref b26), .val (.ref b30), .val (.ref b33), .unset] [(.int jf), (.int je), (.int qb), (.int jb), (.int ja), (.int qa)])) t → Steps p.tables e below (s₁.setTop (entryFrame m #[(.int xp), (.int xq), (.int xr), (.int xs), (.int xt)] maxLocals)) t := by
    intro t k
    refine pre38 t ?_
    refine XS.astore X37.here hx rfl (hb hby at_226) rfl rfl (l' := #[.val (.int xp), .val (.int xq), .val (.int xr), .val (.int xs), .val (.int xt), .val (.int ja), .val (.int jb), .val (.int jc), .val (.int jd), .val (.int je), .val (.int jf), .val (.int jg), .val (.int jh), .val (.int qa), .val (.int qb), .val (.int qc), .val (.int qd), .val (.ref b18), .val (.ref b22), .val (.ref b26), .val (.ref b30), .val (.ref b33), .unset]) rfl ?_
    show Steps p.tables e below (T37.setTop (mkF m 228 #[.val (.int xp), .val (.int xq), .val (.int xr), .val (.int xs), .val (.int xt), .val (.int ja), .val (.int jb), .val (.int jc), .val (.int jd), .val (.int je), .val (.int jf), .val (.int jg), .val (.int jh), .val (.int qa), .val (.int qb), .val (.int qc), .val (.int qd), .val (.ref b18), .val (.ref b22), .val (.ref b26), .val (.ref b30), .val (.ref b33), .unset] [])) _
    refine XS.iload X37.here hx rfl (hb hby at_228) rfl ?_
    show Steps p.tables e below (T37.setTop (mkF m 230 #[.val (.int xp), .val (.int xq), .val (.int xr), .val (.int xs), .val (.int xt), .val (.int ja), .val (.int jb), .val (.int jc), .val (.int jd), .val (.int je), .val (.int jf), .val (.int jg), .val (.int jh), .val (.int qa), .val (.int qb), .val (.int qc), .val (.int qd), .val (.ref b18), .val (.ref b22), .val (.ref b26), .val (.ref b30), .val (.ref b33), .unset] [(.int qa)])) _
    refine XS.iload X37.here hx rfl (hb hby at_230) rfl ?_
    show Steps p.tables e below (T37.setTop (mkF m 232 #[.val (.int xp), .val (.int xq), .val (.int xr), .val (.int xs), .val (.int xt), .val (.int ja), .val (.int jb), .val (.int jc), .val (.int jd), .val (.int je), .val (.int jf), .val (.int jg), .val (.int jh), .val (.int qa), .val (.int qb), .val (.int qc), .val (.int qd), .val (.ref b18), .val (.ref b22), .val (.ref b26), .val (.ref b30), .val (.ref b33), .unset] [(.int ja), (.int qa)])) _
    refine XS.iload X37.here hx rfl (hb hby at_232) rfl ?_
    show Steps p.tables e below (T37.setTop (mkF m 234 #[.val (.int xp), .val (.int xq), .val (.int xr), .val (.int xs), .val (.int xt), .val (.int ja), .val (.int jb), .val (.int jc), .val (.int jd), .val (.int je), .val (.int jf), .val (.int jg), .val (.int jh), .val (.int qa), .val (.int qb), .val (.int qc), .val (.int qd), .val (.ref b18), .val (.ref b22), .val (.ref b26), .val (.ref b30), .val (.ref b33), .unset] [(.int jb), (.int ja), (.int qa)])) _
    refine XS.iload X37.here hx rfl (hb hby at_234) rfl ?_
    show Steps p.tables e below (T37.setTop (mkF m 236 #[.val (.int xp), .val (.int xq), .val (.int xr), .val (.int xs), .val (.int xt), .val (.int ja), .val (.int jb), .val (.int jc), .val (.int jd), .val (.int je), .val (.int jf), .val (.int jg), .val (.int jh), .val (.int qa), .val (.int qb), .val (.int qc), .val (.int qd), .val (.ref b18), .val (.ref b22), .val (.ref b26), .val (.ref b30), .val (.ref b33), .unset] [(.int qb), (.int jb), (.int ja), (.int qa)])) _
    refine XS.iload X37.here hx rfl (hb hby at_236) rfl ?_
    show Steps p.tables e below (T37.setTop (mkF m 238 #[.val (.int xp), .val (.int xq), .val (.int xr), .val (.int xs), .val (.int xt), .val (.int ja), .val (.int jb), .val (.int jc), .val (.int jd), .val (.int je), .val (.int jf), .val (.int jg), .val (.int jh), .val (.int qa), .val (.int qb), .val (.int qc), .val (.int qd), .val (.ref b18), .val (.ref b22), .val (.ref b26), .val (.ref b30), .val (.ref b33), .unset] [(.int je), (.int qb), (.int jb), (.int ja), (.int qa)])) _
    refine XS.iload X37.here hx rfl (hb hby at_238) rfl ?_
    show Steps p.tables e below (T37.setTop (mkF m 240 #[.val (.int xp), .val (.int xq), .val (.int xr), .val (.int xs), .val (.int xt), .val (.int ja), .val (.int jb), .val (.int jc), .val (.int jd), .val (.int je), .val (.int jf), .val (.int jg), .val (.int jh), .val (.int qa), .val (.int qb), .val (.int qc), .val (.int qd), .val (.ref b18), .val (.ref b22), .val (.ref b26), .val (.ref b30), .val (.ref b33), .unset] [(.int jf), (.int je), (.int qb), (.int jb), (.int ja), (.int qa)])) _
    exact k
  obtain ⟨_, _, ⟨T40, L40, k40, n40⟩, -, X40, ⟨Lc40, hQ40, l40, y40, z40⟩, st40⟩ := Jvm.LawKit.callS X37 hx (y := (⟨"com/example/feuillet/feuillet/input/ElementIsPinLaw", "same", "(ICCICC)Z"⟩ : MethodName)) hown (mvT hZ (hw _ (List.mem_of_getElem? (i := 74) rfl))) (mvT hZ (hw _ (List.mem_of_getElem? (i := 75) rfl))) (mvT hZ (hw _ (List.mem_of_getElem? (i := 2) rfl))) (mvT hZ (hw _ (List.mem_of_getElem? (i := 76) rfl))) (by decide) (backOf (W := 0) (rm_same l Z a0 hw [] qa ja jb qb je jf T37.heap n0 zz37 ) hZ (hw _ (List.mem_of_getElem? (i := 76) rfl)) (hw _ (List.mem_of_getElem? (i := 2) rfl)) (by decide) (by decide)) (g := (mkF m 240 #[.val (.int xp), .val (.int xq), .val (.int xr), .val (.int xs), .val (.int xt), .val (.int ja), .val (.int jb), .val (.int jc), .val (.int jd), .val (.int je), .val (.int jf), .val (.int jg), .val (.int jh), .val (.int qa), .val (.int qb), .val (.int qc), .val (.int qd), .val (.ref b18), .val (.ref b22), .val (.ref b26), .val (.ref b30), .val (.ref b33), .unset] [(.int jf), (.int je), (.int qb), (.int jb), (.int ja), (.int qa)])) rfl (by rw [hml]; rfl) (argsL := [(.int qa), (.int ja), (.int jb), (.int qb), (.int je), (.int jf)]) (rest := []) (lenOf pd14 rfl) rfl (by show 2 * 0 + _ ≤ _; exact Nat.le_of_eq rfl) (hb hby at_240) (fun _ _ => ⟨rfl, rfl, (by decide : 28 + 0 ≤ _), (by decide : 64 + 0 ≤ _)⟩)
  dsimp only [Pt.U, Pt.locs, Pt.cells, Pt.slots] at X40 l40 y40 z40 st40 hQ40
  subst y40 z40
  obtain ⟨rfl, M40, e40⟩ := hQ40
  have N40 : Fr n0 L40 := by rw [l40]; exact Fr.app N37 M40
  clear l40
  have X40 : Stand p l e _ _ m _ below meth c T40 _ 28 64 := X40
  have pre41 : ∀ t, Steps p.tables e below (T40.setTop (mkF m 243 #[.val (.int xp), .val (.int xq), .val (.int xr), .val (.int xs), .val (.int xt), .val (.int ja), .val (.int jb), .val (.int jc), .val (.int jd), .val (.int je), .val (.int jf), .val (.int jg), .val (.int jh), .val (.int qa), .val (.int qb), .val (.int qc), .val (.int qd), .val (.ref b18), .val (.ref b22), .val (.ref b26), .val (.ref b30), .val (.ref b33), .unset] [(.int (F_rm_same qa ja jb qb je jf))])) t → Steps p.tables e below (s₁.setTop (entryFrame m #[(.int xp), (.int xq), (.int xr), (.int xs), (.int xt)] maxLocals)) t := fun t k => pre39 t (st40 t k)
  by_cases hc243 : (F_rm_same qa ja jb qb je jf) = (0 : Int32)
  · have pre42 : ∀ t, Steps p.tables e below (T40.setTop (mkF m 277 #[.val (.int xp), .val (.int xq), .val (.int xr), .val (.int xs), .val (.int xt), .val (.int ja), .val (.int jb), .val (.int jc), .val (.int jd), .val (.int je), .val (.int jf), .val (.int jg), .val (.int jh), .val (.int qa), .val (.int qb), .val (.int qc), .val (.int qd), .val (.ref b18), .val (.ref b22), .val (.ref b26), .val (.ref b30), .val (.ref b33), .val (.int (0 : Int32))] [(.ref b30), (.ref b22), (.ref b33)])) t → Steps p.tables e below (s₁.setTop (entryFrame m #[(.int xp), (.int xq), (.int xr), (.int xs), (.int xt)] maxLocals)) t := by
      intro t k
      refine pre41 t ?_
      refine XS.ifYes X40.here hx rfl (pc0 := 243) (pc' := 268) rfl (hb hby at_243) rfl ((if0 _ _).trans (teq hc243).1) (by decide) (by decide) ?_
      show Steps p.tables e below (T40.setTop (mkF m 268 #[.val (.int xp), .val (.int xq), .val (.int xr), .val (.int xs), .val (.int xt), .val (.int ja), .val (.int jb), .val (.int jc), .val (.int jd), .val (.int je), .val (.int jf), .val (.int jg), .val (.int jh), .val (.int qa), .val (.int qb), .val (.int qc), .val (.int qd), .val (.ref b18), .val (.ref b22), .val (.ref b26), .val (.ref b30), .val (.ref b33), .unset] [])) _
      refine XS.iconst X40.here hx rfl (hb hby at_268) ?_
      show Steps p.tables e below (T40.setTop (mkF m 269 #[.val (.int xp), .val (.int xq), .val (.int xr), .val (.int xs), .val (.int xt), .val (.int ja), .val (.int jb), .val (.int jc), .val (.int jd), .val (.int je), .val (.int jf), .val (.int jg), .val (.int jh), .val (.int qa), .val (.int qb), .val (.int qc), .val (.int qd), .val (.ref b18), .val (.ref b22), .val (.ref b26), .val (.ref b30), .val (.ref b33), .unset] [(.int (0 : Int32))])) _
      refine XS.istore X40.here hx rfl (hb hby at_269) rfl (l' := #[.val (.int xp), .val (.int xq), .val (.int xr), .val (.int xs), .val (.int xt), .val (.int ja), .val (.int jb), .val (.int jc), .val (.int jd), .val (.int je), .val (.int jf), .val (.int jg), .val (.int jh), .val (.int qa), .val (.int qb), .val (.int qc), .val (.int qd), .val (.ref b18), .val (.ref b22), .val (.ref b26), .val (.ref b30), .val (.ref b33), .val (.int (0 : Int32))]) rfl ?_
      show Steps p.tables e below (T40.setTop (mkF m 271 #[.val (.int xp), .val (.int xq), .val (.int xr), .val (.int xs), .val (.int xt), .val (.int ja), .val (.int jb), .val (.int jc), .val (.int jd), .val (.int je), .val (.int jf), .val (.int jg), .val (.int jh), .val (.int qa), .val (.int qb), .val (.int qc), .val (.int qd), .val (.ref b18), .val (.ref b22), .val (.ref b26), .val (.ref b30), .val (.ref b33), .val (.int (0 : Int32))] [])) _
      refine XS.aload X40.here hx rfl (hb hby at_271) rfl rfl ?_
      show Steps p.tables e below (T40.setTop (mkF m 273 #[.val (.int xp), .val (.int xq), .val (.int xr), .val (.int xs), .val (.int xt), .val (.int ja), .val (.int jb), .val (.int jc), .val (.int jd), .val (.int je), .val (.int jf), .val (.int jg), .val (.int jh), .val (.int qa), .val (.int qb), .val (.int qc), .val (.int qd), .val (.ref b18), .val (.ref b22), .val (.ref b26), .val (.ref b30), .val (.ref b33), .val (.int (0 : Int32))] [(.ref b33)])) _
      refine XS.aload X40.here hx rfl (hb hby at_273) rfl rfl ?_
      show Steps p.tables e below (T40.setTop (mkF m 275 #[.val (.int xp), .val (.int xq), .val (.int xr), .val (.int xs), .val (.int xt), .val (.int ja), .val (.int jb), .val (.int jc), .val (.int jd), .val (.int je), .val (.int jf), .val (.int jg), .val (.int jh), .val (.int qa), .val (.int qb), .val (.int qc), .val (.int qd), .val (.ref b18), .val (.ref b22), .val (.ref b26), .val (.ref b30), .val (.ref b33), .val (.int (0 : Int32))] [(.ref b22), (.ref b33)])) _
      refine XS.aload X40.here hx rfl (hb hby at_275) rfl rfl ?_
      show Steps p.tables e below (T40.setTop (mkF m 277 #[.val (.int xp), .val (.int xq), .val (.int xr), .val (.int xs), .val (.int xt), .val (.int ja), .val (.int jb), .val (.int jc), .val (.int jd), .val (.int je), .val (.int jf), .val (.int jg), .val (.int jh), .val (.int qa), .val (.int qb), .val (.int qc), .val (.int qd), .val (.ref b18), .val (.ref b22), .val (.ref b26), .val (.ref b30), .val (.ref b33), .val (.int (0 : Int32))] [(.ref b30), (.ref b22), (.ref b33)])) _
      exact k
    have f43 := (own_sta_keep ((f29.ext (own_keep_ext kp30)).ext E33) kp37 A33)
    have f44 := (((((f18_1.keep kp22 nin0).keep kp26 nin0).keep kp30 nin0).ext E33).keep kp37 (ninS (Nat.ne_of_lt (Nat.lt_of_lt_of_le (((f18_0.keep kp22).keep kp26).keep kp30).lt (Nat.le_of_eq g33.symm))) nin0))
    have f45 := (((((f18_2.keep kp22 nin0).keep kp26 nin0).keep kp30 nin0).ext E33).keep kp37 (ninS (Nat.ne_of_lt (Nat.lt_of_lt_of_le (((f18_0.keep kp22).keep kp26).keep kp30).lt (Nat.le_of_eq g33.symm))) nin0))
    have f46 := ((((f22_1.keep kp26 nin0).keep kp30 nin0).ext E33).keep kp37 (ninS (Nat.ne_of_lt (Nat.lt_of_lt_of_le ((f22_0.keep kp26).keep kp30).lt (Nat.le_of_eq g33.symm))) nin0))
    have f47 := ((((f22_2.keep kp26 nin0).keep kp30 nin0).ext E33).keep kp37 (ninS (Nat.ne_of_lt (Nat.lt_of_lt_of_le ((f22_0.keep kp26).keep kp30).lt (Nat.le_of_eq g33.symm))) nin0))
    have f48 := (((((f18_3.keep kp22 nin0).keep kp26 nin0).keep kp30 nin0).ext E33).keep kp37 (ninS (Nat.ne_of_lt (Nat.lt_of_lt_of_le (((f18_3.keep kp22 nin0).keep kp26 nin0).keep kp30 nin0).lt (Nat.le_of_eq g33.symm))) nin0))
    have f49 := ((((f22_3.keep kp26 nin0).keep kp30 nin0).ext E33).keep kp37 (ninS (Nat.ne_of_lt (Nat.lt_of_lt_of_le ((f22_3.keep kp26 nin0).keep kp30 nin0).lt (Nat.le_of_eq g33.symm))) nin0))
    have f50 := (((((f18_0.keep kp22).keep kp26).keep kp30).ext E33).keep kp37)
    have f51 := ((((f22_0.keep kp26).keep kp30).ext E33).keep kp37)
    have f52 := (((f26_1.keep kp30 nin0).ext E33).keep kp37 (ninS (Nat.ne_of_lt (Nat.lt_of_lt_of_le (f26_0.keep kp30).lt (Nat.le_of_eq g33.symm))) nin0))
    have f53 := (((f26_2.keep kp30 nin0).ext E33).keep kp37 (ninS (Nat.ne_of_lt (Nat.lt_of_lt_of_le (f26_0.keep kp30).lt (Nat.le_of_eq g33.symm))) nin0))
    have f54 := ((f30_1.ext E33).keep kp37 (ninS (Nat.ne_of_lt (Nat.lt_of_lt_of_le f30_0.lt (Nat.le_of_eq g33.symm))) nin0))
    have f55 := ((f30_2.ext E33).keep kp37 (ninS (Nat.ne_of_lt (Nat.lt_of_lt_of_le f30_0.lt (Nat.le_of_eq g33.symm))) nin0))
    have f56 := (((f26_3.keep kp30 nin0).ext E33).keep kp37 (ninS (Nat.ne_of_lt (Nat.lt_of_lt_of_le (f26_3.keep kp30 nin0).lt (Nat.le_of_eq g33.symm))) nin0))
    have f57 := ((f30_3.ext E33).keep kp37 (ninS (Nat.ne_of_lt (Nat.lt_of_lt_of_le f30_3.lt (Nat.le_of_eq g33.symm))) nin0))
    have f58 := (((f26_0.keep kp30).ext E33).keep kp37)
    have f59 := ((f30_0.ext E33).keep kp37)
    obtain ⟨cq60, kq60, q60a, q60b, q60c⟩ := isOf hZ e40 f37_0
    obtain ⟨_, _, ⟨T60, L60, k60, n60⟩, -, X60, ⟨Lc60, hQ60, l60, y60, z60⟩, st60⟩ := X40.virtualBack hx (y := (⟨"com/example/feuillet/feuillet/input/Element", "is", "(Ljava/lang/String;Ljava/lang/String;)Z"⟩ : MethodName)) (z := (⟨"com/example/feuillet/feuillet/input/Element", "is", "(Ljava/lang/String;Ljava/lang/String;)Z"⟩ : MethodName)) hown (mvT hZ (hw _ (List.mem_of_getElem? (i := 77) rfl))) (mvT hZ (hw _ (List.mem_of_getElem? (i := 78) rfl))) (notFace_of_selects (args := #[]) (mvT hZ (hw _ (List.mem_of_getElem? (i := 80) rfl)))) (mvT hZ (hw _ (List.mem_of_getElem? (i := 80) rfl))) (mvT hZ (hw _ (List.mem_of_getElem? (i := 79) rfl))) (by decide) (backOf (W := 0) (rm_is l Z a0 hw [] b33 b22 b30 xcs b18 ry_18 ry_22 ky_18 ky_22 qa qb (own_lst qa ja jb) (own_lst qb je jf) b26 ry_26 ry_30 ky_26 ky_30 qc qd (own_lst qc jc jd) (own_lst qd jg jh) T37.heap n0 zz37 f43 f37_1 f37_2 f44 f45 f46 f47 f48 f49 f50 f51 ((Nat.ne_of_lt (Nat.lt_of_lt_of_le f18_0.lt zs22))) (own_mx rqa) f52 f53 f54 f55 f56 f57 f58 f59 ((Nat.ne_of_lt (Nat.lt_of_lt_of_le f26_0.lt zs30))) (own_mx rqc) (hcs)) hZ (hw _ (List.mem_of_getElem? (i := 81) rfl)) (hw _ (List.mem_of_getElem? (i := 28) rfl)) (by decide) (by decide)) q60a q60c (g := (mkF m 277 #[.val (.int xp), .val (.int xq), .val (.int xr), .val (.int xs), .val (.int xt), .val (.int ja), .val (.int jb), .val (.int jc), .val (.int jd), .val (.int je), .val (.int jf), .val (.int jg), .val (.int jh), .val (.int qa), .val (.int qb), .val (.int qc), .val (.int qd), .val (.ref b18), .val (.ref b22), .val (.ref b26), .val (.ref b30), .val (.ref b33), .val (.int (0 : Int32))] [(.ref b30), (.ref b22), (.ref b33)])) rfl (by rw [hml]; rfl) (Steps.refl _) (argsL := [(.ref b22), (.ref b30)]) (rest := []) (lenOf pd15 rfl) rfl (by show 2 * 0 + _ ≤ _; exact Nat.le_of_eq rfl) (hb hby at_277) (fun _ _ => ⟨rfl, e40, (by decide : 28 + 0 ≤ _), (by decide : 64 + 0 ≤ _)⟩)
    dsimp only [Pt.U, Pt.locs, Pt.cells, Pt.slots] at X60 l60 y60 z60 st60 hQ60
    subst y60 z60
    obtain ⟨rfl, M60, e60⟩ := hQ60
    have N60 : Fr n0 L60 := by rw [l60]; exact Fr.app N40 M60
    clear l60
    have X60 : Stand p l e _ _ m _ below meth c T60 _ 28 64 := X60
    have pre61 : ∀ t, Steps p.tables e below (T60.setTop (mkF m 280 #[.val (.int xp), .val (.int xq), .val (.int xr), .val (.int xs), .val (.int xt), .val (.int ja), .val (.int jb), .val (.int jc), .val (.int jd), .val (.int je), .val (.int jf), .val (.int jg), .val (.int jh), .val (.int qa), .val (.int qb), .val (.int qc), .val (.int qd), .val (.ref b18), .val (.ref b22), .val (.ref b26), .val (.ref b30), .val (.ref b33), .val (.int (0 : Int32))] [(.int (F_rm_is xcs qa qb (own_lst qa ja jb) (own_lst qb je jf) qc qd (own_lst qc jc jd) (own_lst qd jg jh)))])) t → Steps p.tables e below (s₁.setTop (entryFrame m #[(.int xp), (.int xq), (.int xr), (.int xs), (.int xt)] maxLocals)) t := fun t k => pre42 t (st60.trans k)
    have pre62 : ∀ t, Steps p.tables e below (T60.setTop (mkF m 290 #[.val (.int xp), .val (.int xq), .val (.int xr), .val (.int xs), .val (.int xt), .val (.int ja), .val (.int jb), .val (.int jc), .val (.int jd), .val (.int je), .val (.int jf), .val (.int jg), .val (.int jh), .val (.int qa), .val (.int qb), .val (.int qc), .val (.int qd), .val (.ref b18), .val (.ref b22), .val (.ref b26), .val (.ref b30), .val (.ref b33), .val (.int (0 : Int32))] [(.int (1 : Int32))])) t → Steps p.tables e below (s₁.setTop (entryFrame m #[(.int xp), (.int xq), (.int xr), (.int xs), (.int xt)] maxLocals)) t := by
      intro t k
      refine pre61 t ?_
      refine XS.iload X60.here hx rfl (hb hby at_280) rfl ?_
      show Steps p.tables e below (T60.setTop (mkF m 282 #[.val (.int xp), .val (.int xq), .val (.int xr), .val (.int xs), .val (.int xt), .val (.int ja), .val (.int jb), .val (.int jc), .val (.int jd), .val (.int je), .val (.int jf), .val (.int jg), .val (.int jh), .val (.int qa), .val (.int qb), .val (.int qc), .val (.int qd), .val (.ref b18), .val (.ref b22), .val (.ref b26), .val (.ref b30), .val (.ref b33), .val (.int (0 : Int32))] [(.int (0 : Int32)), (.int (F_rm_is xcs qa qb (own_lst qa ja jb) (own_lst qb je jf) qc qd (own_lst qc jc jd) (own_lst qd jg jh)))])) _
      refine XS.icmpNo X60.here hx rfl (hb hby at_282) rfl (teq (show (F_rm_is xcs qa qb (own_lst qa ja jb) (own_lst qb je jf) qc qd (own_lst qc jc jd) (own_lst qd jg jh)) = (0 : Int32) from by rw [F_rm_is, own_seq _ rqa rqb rja rjb rje rjf, if_pos hc243])).2 ?_
      show Steps p.tables e below (T60.setTop (mkF m 285 #[.val (.int xp), .val (.int xq), .val (.int xr), .val (.int xs), .val (.int xt), .val (.int ja), .val (.int jb), .val (.int jc), .val (.int jd), .val (.int je), .val (.int jf), .val (.int jg), .val (.int jh), .val (.int qa), .val (.int qb), .val (.int qc), .val (.int qd), .val (.ref b18), .val (.ref b22), .val (.ref b26), .val (.ref b30), .val (.ref b33), .val (.int (0 : Int32))] [])) _
      refine XS.iconst X60.here hx rfl (hb hby at_285) ?_
      show Steps p.tables e below (T60.setTop (mkF m 286 #[.val (.int xp), .val (.int xq), .val (.int xr), .val (.int xs), .val (.int xt), .val (.int ja), .val (.int jb), .val (.int jc), .val (.int jd), .val (.int je), .val (.int jf), .val (.int jg), .val (.int jh), .val (.int qa), .val (.int qb), .val (.int qc), .val (.int qd), .val (.ref b18), .val (.ref b22), .val (.ref b26), .val (.ref b30), .val (.ref b33), .val (.int (0 : Int32))] [(.int (1 : Int32))])) _
      refine XS.goto X60.here hx rfl (pc0 := 286) (pc' := 290) rfl (hb hby at_286) (by decide) (by decide) ?_
      show Steps p.tables e below (T60.setTop (mkF m 290 #[.val (.int xp), .val (.int xq), .val (.int xr), .val (.int xs), .val (.int xt), .val (.int ja), .val (.int jb), .val (.int jc), .val (.int jd), .val (.int je), .val (.int jf), .val (.int jg), .val (.int jh), .val (.int qa), .val (.int qb), .val (.int qc), .val (.int qd), .val (.ref b18), .val (.ref b22), .val (.ref b26), .val (.ref b30), .val (.ref b33), .val (.int (0 : Int32))] [(.int (1 : Int32))])) _
      exact k
    obtain ⟨fs, hr, hrun, hended, hRW⟩ := X60.leaveW hS37 (Nat.le_trans hk37 (Nat.le_of_eq (congrArg Array.size (show _ = T37.heap from e60)).symm)) (v := some (.int (1 : Int32))) (fun h => by rw [Bd.returns] at h; cases h)
    have RE := CHr.trans RC37 (CHv.at X60 hZ hEL CR37.1)
    refine ⟨_, _, pre62 _ ?_, hrun, hended, _, _, rfl, ?_, (by rw [hh]; show CHr Z own_EL s.vm h0 T60.vm T60.heap; rw [show T60.heap = T37.heap from e60]; exact RE), hRW.1, hRW.2.1, hRW.2.2.1, hRW.2.2.2.mono (by decide) (by decide)⟩
    · exact retN X60 hx (t := .boolean) Bd.returns (by simp) (hb hby at_290) hr
    · show Q_rm0 Z xp xq xr xs xt xcs wl h0 n0 _ T60.heap _
      rw [e60]
      exact ⟨rfl, N60⟩
  · have pre63 : ∀ t, Steps p.tables e below (T40.setTop (mkF m 258 #[.val (.int xp), .val (.int xq), .val (.int xr), .val (.int xs), .val (.int xt), .val (.int ja), .val (.int jb), .val (.int jc), .val (.int jd), .val (.int je), .val (.int jf), .val (.int jg), .val (.int jh), .val (.int qa), .val (.int qb), .val (.int qc), .val (.int qd), .val (.ref b18), .val (.ref b22), .val (.ref b26), .val (.ref b30), .val (.ref b33), .unset] [(.int jh), (.int jg), (.int qd), (.int jd), (.int jc), (.int qc)])) t → Steps p.tables e below (s₁.setTop (entryFrame m #[(.int xp), (.int xq), (.int xr), (.int xs), (.int xt)] maxLocals)) t := by
      intro t k
      refine pre41 t ?_
      refine XS.ifNo X40.here hx rfl (hb hby at_243) rfl ((if0 _ _).trans (feq hc243).1) ?_
      show Steps p.tables e below (T40.setTop (mkF m 246 #[.val (.int xp), .val (.int xq), .val (.int xr), .val (.int xs), .val (.int xt), .val (.int ja), .val (.int jb), .val (.int jc), .val (.int jd), .val (.int je), .val (.int jf), .val (.int jg), .val (.int jh), .val (.int qa), .val (.int qb), .val (.int qc), .val (.int qd), .val (.ref b18), .val (.ref b22), .val (.ref b26), .val (.ref b30), .val (.ref b33), .unset] [])) _
      refine XS.iload X40.here hx rfl (hb hby at_246) rfl ?_
      show Steps p.tables e below (T40.setTop (mkF m 248 #[.val (.int xp), .val (.int xq), .val (.int xr), .val (.int xs), .val (.int xt), .val (.int ja), .val (.int jb), .val (.int jc), .val (.int jd), .val (.int je), .val (.int jf), .val (.int jg), .val (.int jh), .val (.int qa), .val (.int qb), .val (.int qc), .val (.int qd), .val (.ref b18), .val (.ref b22), .val (.ref b26), .val (.ref b30), .val (.ref b33), .unset] [(.int qc)])) _
      refine XS.iload X40.here hx rfl (hb hby at_248) rfl ?_
      show Steps p.tables e below (T40.setTop (mkF m 250 #[.val (.int xp), .val (.int xq), .val (.int xr), .val (.int xs), .val (.int xt), .val (.int ja), .val (.int jb), .val (.int jc), .val (.int jd), .val (.int je), .val (.int jf), .val (.int jg), .val (.int jh), .val (.int qa), .val (.int qb), .val (.int qc), .val (.int qd), .val (.ref b18), .val (.ref b22), .val (.ref b26), .val (.ref b30), .val (.ref b33), .unset] [(.int jc), (.int qc)])) _
      refine XS.iload X40.here hx rfl (hb hby at_250) rfl ?_
      show Steps p.tables e below (T40.setTop (mkF m 252 #[.val (.int xp), .val (.int xq), .val (.int xr), .val (.int xs), .val (.int xt), .val (.int ja), .val (.int jb), .val (.int jc), .val (.int jd), .val (.int je), .val (.int jf), .val (.int jg), .val (.int jh), .val (.int qa), .val (.int qb), .val (.int qc), .val (.int qd), .val (.ref b18), .val (.ref b22), .val (.ref b26), .val (.ref b30), .val (.ref b33), .unset] [(.int jd), (.int jc), (.int qc)])) _
      refine XS.iload X40.here hx rfl (hb hby at_252) rfl ?_
      show Steps p.tables e below (T40.setTop (mkF m 254 #[.val (.int xp), .val (.int xq), .val (.int xr), .val (.int xs), .val (.int xt), .val (.int ja), .val (.int jb), .val (.int jc), .val (.int jd), .val (.int je), .val (.int jf), .val (.int jg), .val (.int jh), .val (.int qa), .val (.int qb), .val (.int qc), .val (.int qd), .val (.ref b18), .val (.ref b22), .val (.ref b26), .val (.ref b30), .val (.ref b33), .unset] [(.int qd), (.int jd), (.int jc), (.int qc)])) _
      refine XS.iload X40.here hx rfl (hb hby at_254) rfl ?_
      show Steps p.tables e below (T40.setTop (mkF m 256 #[.val (.int xp), .val (.int xq), .val (.int xr), .val (.int xs), .val (.int xt), .val (.int ja), .val (.int jb), .val (.int jc), .val (.int jd), .val (.int je), .val (.int jf), .val (.int jg), .val (.int jh), .val (.int qa), .val (.int qb), .val (.int qc), .val (.int qd), .val (.ref b18), .val (.ref b22), .val (.ref b26), .val (.ref b30), .val (.ref b33), .unset] [(.int jg), (.int qd), (.int jd), (.int jc), (.int qc)])) _
      refine XS.iload X40.here hx rfl (hb hby at_256) rfl ?_
      show Steps p.tables e below (T40.setTop (mkF m 258 #[.val (.int xp), .val (.int xq), .val (.int xr), .val (.int xs), .val (.int xt), .val (.int ja), .val (.int jb), .val (.int jc), .val (.int jd), .val (.int je), .val (.int jf), .val (.int jg), .val (.int jh), .val (.int qa), .val (.int qb), .val (.int qc), .val (.int qd), .val (.ref b18), .val (.ref b22), .val (.ref b26), .val (.ref b30), .val (.ref b33), .unset] [(.int jh), (.int jg), (.int qd), (.int jd), (.int jc), (.int qc)])) _
      exact k
    obtain ⟨_, _, ⟨T64, L64, k64, n64⟩, -, X64, ⟨Lc64, hQ64, l64, y64, z64⟩, st64⟩ := Jvm.LawKit.callS X40 hx (y := (⟨"com/example/feuillet/feuillet/input/ElementIsPinLaw", "same", "(ICCICC)Z"⟩ : MethodName)) hown (mvT hZ (hw _ (List.mem_of_getElem? (i := 74) rfl))) (mvT hZ (hw _ (List.mem_of_getElem? (i := 75) rfl))) (mvT hZ (hw _ (List.mem_of_getElem? (i := 2) rfl))) (mvT hZ (hw _ (List.mem_of_getElem? (i := 76) rfl))) (by decide) (backOf (W := 0) (rm_same l Z a0 hw [] qc jc jd qd jg jh T37.heap n0 zz37 ) hZ (hw _ (List.mem_of_getElem? (i := 76) rfl)) (hw _ (List.mem_of_getElem? (i := 2) rfl)) (by decide) (by decide)) (g := (mkF m 258 #[.val (.int xp), .val (.int xq), .val (.int xr), .val (.int xs), .val (.int xt), .val (.int ja), .val (.int jb), .val (.int jc), .val (.int jd), .val (.int je), .val (.int jf), .val (.int jg), .val (.int jh), .val (.int qa), .val (.int qb), .val (.int qc), .val (.int qd), .val (.ref b18), .val (.ref b22), .val (.ref b26), .val (.ref b30), .val (.ref b33), .unset] [(.int jh), (.int jg), (.int qd), (.int jd), (.int jc), (.int qc)])) rfl (by rw [hml]; rfl) (argsL := [(.int qc), (.int jc), (.int jd), (.int qd), (.int jg), (.int jh)]) (rest := []) (lenOf pd14 rfl) rfl (by show 2 * 0 + _ ≤ _; exact Nat.le_of_eq rfl) (hb hby at_258) (fun _ _ => ⟨rfl, e40, (by decide : 28 + 0 ≤ _), (by decide : 64 + 0 ≤ _)⟩)
    dsimp only [Pt.U, Pt.locs, Pt.cells, Pt.slots] at X64 l64 y64 z64 st64 hQ64
    subst y64 z64
    obtain ⟨rfl, M64, e64⟩ := hQ64
    have N64 : Fr n0 L64 := by rw [l64]; exact Fr.app N40 M64
    clear l64
    have X64 : Stand p l e _ _ m _ below meth c T64 _ 28 64 := X64
    have pre65 : ∀ t, Steps p.tables e below (T64.setTop (mkF m 261 #[.val (.int xp), .val (.int xq), .val (.int xr), .val (.int xs), .val (.int xt), .val (.int ja), .val (.int jb), .val (.int jc), .val (.int jd), .val (.int je), .val (.int jf), .val (.int jg), .val (.int jh), .val (.int qa), .val (.int qb), .val (.int qc), .val (.int qd), .val (.ref b18), .val (.ref b22), .val (.ref b26), .val (.ref b30), .val (.ref b33), .unset] [(.int (F_rm_same qc jc jd qd jg jh))])) t → Steps p.tables e below (s₁.setTop (entryFrame m #[(.int xp), (.int xq), (.int xr), (.int xs), (.int xt)] maxLocals)) t := fun t k => pre63 t (st64 t k)
    by_cases hc261 : (F_rm_same qc jc jd qd jg jh) = (0 : Int32)
    · have pre66 : ∀ t, Steps p.tables e below (T64.setTop (mkF m 277 #[.val (.int xp), .val (.int xq), .val (.int xr), .val (.int xs), .val (.int xt), .val (.int ja), .val (.int jb), .val (.int jc), .val (.int jd), .val (.int je), .val (.int jf), .val (.int jg), .val (.int jh), .val (.int qa), .val (.int qb), .val (.int qc), .val (.int qd), .val (.ref b18), .val (.ref b22), .val (.ref b26), .val (.ref b30), .val (.ref b33), .val (.int (0 : Int32))] [(.ref b30), (.ref b22), (.ref b33)])) t → Steps p.tables e below (s₁.setTop (entryFrame m #[(.int xp), (.int xq), (.int xr), (.int xs), (.int xt)] maxLocals)) t := by
        intro t k
        refine pre65 t ?_
        refine XS.ifYes X64.here hx rfl (pc0 := 261) (pc' := 268) rfl (hb hby at_261) rfl ((if0 _ _).trans (teq hc261).1) (by decide) (by decide) ?_
        show Steps p.tables e below (T64.setTop (mkF m 268 #[.val (.int xp), .val (.int xq), .val (.int xr), .val (.int xs), .val (.int xt), .val (.int ja), .val (.int jb), .val (.int jc), .val (.int jd), .val (.int je), .val (.int jf), .val (.int jg), .val (.int jh), .val (.int qa), .val (.int qb), .val (.int qc), .val (.int qd), .val (.ref b18), .val (.ref b22), .val (.ref b26), .val (.ref b30), .val (.ref b33), .unset] [])) _
        refine XS.iconst X64.here hx rfl (hb hby at_268) ?_
        show Steps p.tables e below (T64.setTop (mkF m 269 #[.val (.int xp), .val (.int xq), .val (.int xr), .val (.int xs), .val (.int xt), .val (.int ja), .val (.int jb), .val (.int jc), .val (.int jd), .val (.int je), .val (.int jf), .val (.int jg), .val (.int jh), .val (.int qa), .val (.int qb), .val (.int qc), .val (.int qd), .val (.ref b18), .val (.ref b22), .val (.ref b26), .val (.ref b30), .val (.ref b33), .unset] [(.int (0 : Int32))])) _
        refine XS.istore X64.here hx rfl (hb hby at_269) rfl (l' := #[.val (.int xp), .val (.int xq), .val (.int xr), .val (.int xs), .val (.int xt), .val (.int ja), .val (.int jb), .val (.int jc), .val (.int jd), .val (.int je), .val (.int jf), .val (.int jg), .val (.int jh), .val (.int qa), .val (.int qb), .val (.int qc), .val (.int qd), .val (.ref b18), .val (.ref b22), .val (.ref b26), .val (.ref b30), .val (.ref b33), .val (.int (0 : Int32))]) rfl ?_
        show Steps p.tables e below (T64.setTop (mkF m 271 #[.val (.int xp), .val (.int xq), .val (.int xr), .val (.int xs), .val (.int xt), .val (.int ja), .val (.int jb), .val (.int jc), .val (.int jd), .val (.int je), .val (.int jf), .val (.int jg), .val (.int jh), .val (.int qa), .val (.int qb), .val (.int qc), .val (.int qd), .val (.ref b18), .val (.ref b22), .val (.ref b26), .val (.ref b30), .val (.ref b33), .val (.int (0 : Int32))] [])) _
        refine XS.aload X64.here hx rfl (hb hby at_271) rfl rfl ?_
        show Steps p.tables e below (T64.setTop (mkF m 273 #[.val (.int xp), .val (.int xq), .val (.int xr), .val (.int xs), .val (.int xt), .val (.int ja), .val (.int jb), .val (.int jc), .val (.int jd), .val (.int je), .val (.int jf), .val (.int jg), .val (.int jh), .val (.int qa), .val (.int qb), .val (.int qc), .val (.int qd), .val (.ref b18), .val (.ref b22), .val (.ref b26), .val (.ref b30), .val (.ref b33), .val (.int (0 : Int32))] [(.ref b33)])) _
        refine XS.aload X64.here hx rfl (hb hby at_273) rfl rfl ?_
        show Steps p.tables e below (T64.setTop (mkF m 275 #[.val (.int xp), .val (.int xq), .val (.int xr), .val (.int xs), .val (.int xt), .val (.int ja), .val (.int jb), .val (.int jc), .val (.int jd), .val (.int je), .val (.int jf), .val (.int jg), .val (.int jh), .val (.int qa), .val (.int qb), .val (.int qc), .val (.int qd), .val (.ref b18), .val (.ref b22), .val (.ref b26), .val (.ref b30), .val (.ref b33), .val (.int (0 : Int32))] [(.ref b22), (.ref b33)])) _
        refine XS.aload X64.here hx rfl (hb hby at_275) rfl rfl ?_
        show Steps p.tables e below (T64.setTop (mkF m 277 #[.val (.int xp), .val (.int xq), .val (.int xr), .val (.int xs), .val (.int xt), .val (.int ja), .val (.int jb), .val (.int jc), .val (.int jd), .val (.int je), .val (.int jf), .val (.int jg), .val (.int jh), .val (.int qa), .val (.int qb), .val (.int qc), .val (.int qd), .val (.ref b18), .val (.ref b22), .val (.ref b26), .val (.ref b30), .val (.ref b33), .val (.int (0 : Int32))] [(.ref b30), (.ref b22), (.ref b33)])) _
        exact k
      have f67 := (own_sta_keep ((f29.ext (own_keep_ext kp30)).ext E33) kp37 A33)
      have f68 := (((((f18_1.keep kp22 nin0).keep kp26 nin0).keep kp30 nin0).ext E33).keep kp37 (ninS (Nat.ne_of_lt (Nat.lt_of_lt_of_le (((f18_0.keep kp22).keep kp26).keep kp30).lt (Nat.le_of_eq g33.symm))) nin0))
      have f69 := (((((f18_2.keep kp22 nin0).keep kp26 nin0).keep kp30 nin0).ext E33).keep kp37 (ninS (Nat.ne_of_lt (Nat.lt_of_lt_of_le (((f18_0.keep kp22).keep kp26).keep kp30).lt (Nat.le_of_eq g33.symm))) nin0))
      have f70 := ((((f22_1.keep kp26 nin0).keep kp30 nin0).ext E33).keep kp37 (ninS (Nat.ne_of_lt (Nat.lt_of_lt_of_le ((f22_0.keep kp26).keep kp30).lt (Nat.le_of_eq g33.symm))) nin0))
      have f71 := ((((f22_2.keep kp26 nin0).keep kp30 nin0).ext E33).keep kp37 (ninS (Nat.ne_of_lt (Nat.lt_of_lt_of_le ((f22_0.keep kp26).keep kp30).lt (Nat.le_of_eq g33.symm))) nin0))
      have f72 := (((((f18_3.keep kp22 nin0).keep kp26 nin0).keep kp30 nin0).ext E33).keep kp37 (ninS (Nat.ne_of_lt (Nat.lt_of_lt_of_le (((f18_3.keep kp22 nin0).keep kp26 nin0).keep kp30 nin0).lt (Nat.le_of_eq g33.symm))) nin0))
      have f73 := ((((f22_3.keep kp26 nin0).keep kp30 nin0).ext E33).keep kp37 (ninS (Nat.ne_of_lt (Nat.lt_of_lt_of_le ((f22_3.keep kp26 nin0).keep kp30 nin0).lt (Nat.le_of_eq g33.symm))) nin0))
      have f74 := (((((f18_0.keep kp22).keep kp26).keep kp30).ext E33).keep kp37)
      have f75 := ((((f22_0.keep kp26).keep kp30).ext E33).keep kp37)
      have f76 := (((f26_1.keep kp30 nin0).ext E33).keep kp37 (ninS (Nat.ne_of_lt (Nat.lt_of_lt_of_le (f26_0.keep kp30).lt (Nat.le_of_eq g33.symm))) nin0))
      have f77 := (((f26_2.keep kp30 nin0).ext E33).keep kp37 (ninS (Nat.ne_of_lt (Nat.lt_of_lt_of_le (f26_0.keep kp30).lt (Nat.le_of_eq g33.symm))) nin0))
      have f78 := ((f30_1.ext E33).keep kp37 (ninS (Nat.ne_of_lt (Nat.lt_of_lt_of_le f30_0.lt (Nat.le_of_eq g33.symm))) nin0))
      have f79 := ((f30_2.ext E33).keep kp37 (ninS (Nat.ne_of_lt (Nat.lt_of_lt_of_le f30_0.lt (Nat.le_of_eq g33.symm))) nin0))
      have f80 := (((f26_3.keep kp30 nin0).ext E33).keep kp37 (ninS (Nat.ne_of_lt (Nat.lt_of_lt_of_le (f26_3.keep kp30 nin0).lt (Nat.le_of_eq g33.symm))) nin0))
      have f81 := ((f30_3.ext E33).keep kp37 (ninS (Nat.ne_of_lt (Nat.lt_of_lt_of_le f30_3.lt (Nat.le_of_eq g33.symm))) nin0))
      have f82 := (((f26_0.keep kp30).ext E33).keep kp37)
      have f83 := ((f30_0.ext E33).keep kp37)
      obtain ⟨cq84, kq84, q84a, q84b, q84c⟩ := isOf hZ e64 f37_0
      obtain ⟨_, _, ⟨T84, L84, k84, n84⟩, -, X84, ⟨Lc84, hQ84, l84, y84, z84⟩, st84⟩ := X64.virtualBack hx (y := (⟨"com/example/feuillet/feuillet/input/Element", "is", "(Ljava/lang/String;Ljava/lang/String;)Z"⟩ : MethodName)) (z := (⟨"com/example/feuillet/feuillet/input/Element", "is", "(Ljava/lang/String;Ljava/lang/String;)Z"⟩ : MethodName)) hown (mvT hZ (hw _ (List.mem_of_getElem? (i := 77) rfl))) (mvT hZ (hw _ (List.mem_of_getElem? (i := 78) rfl))) (notFace_of_selects (args := #[]) (mvT hZ (hw _ (List.mem_of_getElem? (i := 80) rfl)))) (mvT hZ (hw _ (List.mem_of_getElem? (i := 80) rfl))) (mvT hZ (hw _ (List.mem_of_getElem? (i := 79) rfl))) (by decide) (backOf (W := 0) (rm_is l Z a0 hw [] b33 b22 b30 xcs b18 ry_18 ry_22 ky_18 ky_22 qa qb (own_lst qa ja jb) (own_lst qb je jf) b26 ry_26 ry_30 ky_26 ky_30 qc qd (own_lst qc jc jd) (own_lst qd jg jh) T37.heap n0 zz37 f67 f37_1 f37_2 f68 f69 f70 f71 f72 f73 f74 f75 ((Nat.ne_of_lt (Nat.lt_of_lt_of_le f18_0.lt zs22))) (own_mx rqa) f76 f77 f78 f79 f80 f81 f82 f83 ((Nat.ne_of_lt (Nat.lt_of_lt_of_le f26_0.lt zs30))) (own_mx rqc) (hcs)) hZ (hw _ (List.mem_of_getElem? (i := 81) rfl)) (hw _ (List.mem_of_getElem? (i := 28) rfl)) (by decide) (by decide)) q84a q84c (g := (mkF m 277 #[.val (.int xp), .val (.int xq), .val (.int xr), .val (.int xs), .val (.int xt), .val (.int ja), .val (.int jb), .val (.int jc), .val (.int jd), .val (.int je), .val (.int jf), .val (.int jg), .val (.int jh), .val (.int qa), .val (.int qb), .val (.int qc), .val (.int qd), .val (.ref b18), .val (.ref b22), .val (.ref b26), .val (.ref b30), .val (.ref b33), .val (.int (0 : Int32))] [(.ref b30), (.ref b22), (.ref b33)])) rfl (by rw [hml]; rfl) (Steps.refl _) (argsL := [(.ref b22), (.ref b30)]) (rest := []) (lenOf pd15 rfl) rfl (by show 2 * 0 + _ ≤ _; exact Nat.le_of_eq rfl) (hb hby at_277) (fun _ _ => ⟨rfl, e64, (by decide : 28 + 0 ≤ _), (by decide : 64 + 0 ≤ _)⟩)
      dsimp only [Pt.U, Pt.locs, Pt.cells, Pt.slots] at X84 l84 y84 z84 st84 hQ84
      subst y84 z84
      obtain ⟨rfl, M84, e84⟩ := hQ84
      have N84 : Fr n0 L84 := by rw [l84]; exact Fr.app N64 M84
      clear l84
      have X84 : Stand p l e _ _ m _ below meth c T84 _ 28 64 := X84
      have pre85 : ∀ t, Steps p.tables e below (T84.setTop (mkF m 280 #[.val (.int xp), .val (.int xq), .val (.int xr), .val (.int xs), .val (.int xt), .val (.int ja), .val (.int jb), .val (.int jc), .val (.int jd), .val (.int je), .val (.int jf), .val (.int jg), .val (.int jh), .val (.int qa), .val (.int qb), .val (.int qc), .val (.int qd), .val (.ref b18), .val (.ref b22), .val (.ref b26), .val (.ref b30), .val (.ref b33), .val (.int (0 : Int32))] [(.int (F_rm_is xcs qa qb (own_lst qa ja jb) (own_lst qb je jf) qc qd (own_lst qc jc jd) (own_lst qd jg jh)))])) t → Steps p.tables e below (s₁.setTop (entryFrame m #[(.int xp), (.int xq), (.int xr), (.int xs), (.int xt)] maxLocals)) t := fun t k => pre66 t (st84.trans k)
      have pre86 : ∀ t, Steps p.tables e below (T84.setTop (mkF m 290 #[.val (.int xp), .val (.int xq), .val (.int xr), .val (.int xs), .val (.int xt), .val (.int ja), .val (.int jb), .val (.int jc), .val (.int jd), .val (.int je), .val (.int jf), .val (.int jg), .val (.int jh), .val (.int qa), .val (.int qb), .val (.int qc), .val (.int qd), .val (.ref b18), .val (.ref b22), .val (.ref b26), .val (.ref b30), .val (.ref b33), .val (.int (0 : Int32))] [(.int (1 : Int32))])) t → Steps p.tables e below (s₁.setTop (entryFrame m #[(.int xp), (.int xq), (.int xr), (.int xs), (.int xt)] maxLocals)) t := by
        intro t k
        refine pre85 t ?_
        refine XS.iload X84.here hx rfl (hb hby at_280) rfl ?_
        show Steps p.tables e below (T84.setTop (mkF m 282 #[.val (.int xp), .val (.int xq), .val (.int xr), .val (.int xs), .val (.int xt), .val (.int ja), .val (.int jb), .val (.int jc), .val (.int jd), .val (.int je), .val (.int jf), .val (.int jg), .val (.int jh), .val (.int qa), .val (.int qb), .val (.int qc), .val (.int qd), .val (.ref b18), .val (.ref b22), .val (.ref b26), .val (.ref b30), .val (.ref b33), .val (.int (0 : Int32))] [(.int (0 : Int32)), (.int (F_rm_is xcs qa qb (own_lst qa ja jb) (own_lst qb je jf) qc qd (own_lst qc jc jd) (own_lst qd jg jh)))])) _
        refine XS.icmpNo X84.here hx rfl (hb hby at_282) rfl (teq (show (F_rm_is xcs qa qb (own_lst qa ja jb) (own_lst qb je jf) qc qd (own_lst qc jc jd) (own_lst qd jg jh)) = (0 : Int32) from by rw [F_rm_is, own_seq _ rqa rqb rja rjb rje rjf, own_seq _ rqc rqd rjc rjd rjg rjh, if_neg hc243, if_pos hc261])).2 ?_
        show Steps p.tables e below (T84.setTop (mkF m 285 #[.val (.int xp), .val (.int xq), .val (.int xr), .val (.int xs), .val (.int xt), .val (.int ja), .val (.int jb), .val (.int jc), .val (.int jd), .val (.int je), .val (.int jf), .val (.int jg), .val (.int jh), .val (.int qa), .val (.int qb), .val (.int qc), .val (.int qd), .val (.ref b18), .val (.ref b22), .val (.ref b26), .val (.ref b30), .val (.ref b33), .val (.int (0 : Int32))] [])) _
        refine XS.iconst X84.here hx rfl (hb hby at_285) ?_
        show Steps p.tables e below (T84.setTop (mkF m 286 #[.val (.int xp), .val (.int xq), .val (.int xr), .val (.int xs), .val (.int xt), .val (.int ja), .val (.int jb), .val (.int jc), .val (.int jd), .val (.int je), .val (.int jf), .val (.int jg), .val (.int jh), .val (.int qa), .val (.int qb), .val (.int qc), .val (.int qd), .val (.ref b18), .val (.ref b22), .val (.ref b26), .val (.ref b30), .val (.ref b33), .val (.int (0 : Int32))] [(.int (1 : Int32))])) _
        refine XS.goto X84.here hx rfl (pc0 := 286) (pc' := 290) rfl (hb hby at_286) (by decide) (by decide) ?_
        show Steps p.tables e below (T84.setTop (mkF m 290 #[.val (.int xp), .val (.int xq), .val (.int xr), .val (.int xs), .val (.int xt), .val (.int ja), .val (.int jb), .val (.int jc), .val (.int jd), .val (.int je), .val (.int jf), .val (.int jg), .val (.int jh), .val (.int qa), .val (.int qb), .val (.int qc), .val (.int qd), .val (.ref b18), .val (.ref b22), .val (.ref b26), .val (.ref b30), .val (.ref b33), .val (.int (0 : Int32))] [(.int (1 : Int32))])) _
        exact k
      obtain ⟨fs, hr, hrun, hended, hRW⟩ := X84.leaveW hS37 (Nat.le_trans hk37 (Nat.le_of_eq (congrArg Array.size (show _ = T37.heap from e84)).symm)) (v := some (.int (1 : Int32))) (fun h => by rw [Bd.returns] at h; cases h)
      have RE := CHr.trans RC37 (CHv.at X84 hZ hEL CR37.1)
      refine ⟨_, _, pre86 _ ?_, hrun, hended, _, _, rfl, ?_, (by rw [hh]; show CHr Z own_EL s.vm h0 T84.vm T84.heap; rw [show T84.heap = T37.heap from e84]; exact RE), hRW.1, hRW.2.1, hRW.2.2.1, hRW.2.2.2.mono (by decide) (by decide)⟩
      · exact retN X84 hx (t := .boolean) Bd.returns (by simp) (hb hby at_290) hr
      · show Q_rm0 Z xp xq xr xs xt xcs wl h0 n0 _ T84.heap _
        rw [e84]
        exact ⟨rfl, N84⟩
    · have pre87 : ∀ t, Steps p.tables e below (T64.setTop (mkF m 277 #[.val (.int xp), .val (.int xq), .val (.int xr), .val (.int xs), .val (.int xt), .val (.int ja), .val (.int jb), .val (.int jc), .val (.int jd), .val (.int je), .val (.int jf), .val (.int jg), .val (.int jh), .val (.int qa), .val (.int qb), .val (.int qc), .val (.int qd), .val (.ref b18), .val (.ref b22), .val (.ref b26), .val (.ref b30), .val (.ref b33), .val (.int (1 : Int32))] [(.ref b30), (.ref b22), (.ref b33)])) t → Steps p.tables e below (s₁.setTop (entryFrame m #[(.int xp), (.int xq), (.int xr), (.int xs), (.int xt)] maxLocals)) t := by
        intro t k
        refine pre65 t ?_
        refine XS.ifNo X64.here hx rfl (hb hby at_261) rfl ((if0 _ _).trans (feq hc261).1) ?_
        show Steps p.tables e below (T64.setTop (mkF m 264 #[.val (.int xp), .val (.int xq), .val (.int xr), .val (.int xs), .val (.int xt), .val (.int ja), .val (.int jb), .val (.int jc), .val (.int jd), .val (.int je), .val (.int jf), .val (.int jg), .val (.int jh), .val (.int qa), .val (.int qb), .val (.int qc), .val (.int qd), .val (.ref b18), .val (.ref b22), .val (.ref b26), .val (.ref b30), .val (.ref b33), .unset] [])) _
        refine XS.iconst X64.here hx rfl (hb hby at_264) ?_
        show Steps p.tables e below (T64.setTop (mkF m 265 #[.val (.int xp), .val (.int xq), .val (.int xr), .val (.int xs), .val (.int xt), .val (.int ja), .val (.int jb), .val (.int jc), .val (.int jd), .val (.int je), .val (.int jf), .val (.int jg), .val (.int jh), .val (.int qa), .val (.int qb), .val (.int qc), .val (.int qd), .val (.ref b18), .val (.ref b22), .val (.ref b26), .val (.ref b30), .val (.ref b33), .unset] [(.int (1 : Int32))])) _
        refine XS.goto X64.here hx rfl (pc0 := 265) (pc' := 269) rfl (hb hby at_265) (by decide) (by decide) ?_
        show Steps p.tables e below (T64.setTop (mkF m 269 #[.val (.int xp), .val (.int xq), .val (.int xr), .val (.int xs), .val (.int xt), .val (.int ja), .val (.int jb), .val (.int jc), .val (.int jd), .val (.int je), .val (.int jf), .val (.int jg), .val (.int jh), .val (.int qa), .val (.int qb), .val (.int qc), .val (.int qd), .val (.ref b18), .val (.ref b22), .val (.ref b26), .val (.ref b30), .val (.ref b33), .unset] [(.int (1 : Int32))])) _
        refine XS.istore X64.here hx rfl (hb hby at_269) rfl (l' := #[.val (.int xp), .val (.int xq), .val (.int xr), .val (.int xs), .val (.int xt), .val (.int ja), .val (.int jb), .val (.int jc), .val (.int jd), .val (.int je), .val (.int jf), .val (.int jg), .val (.int jh), .val (.int qa), .val (.int qb), .val (.int qc), .val (.int qd), .val (.ref b18), .val (.ref b22), .val (.ref b26), .val (.ref b30), .val (.ref b33), .val (.int (1 : Int32))]) rfl ?_
        show Steps p.tables e below (T64.setTop (mkF m 271 #[.val (.int xp), .val (.int xq), .val (.int xr), .val (.int xs), .val (.int xt), .val (.int ja), .val (.int jb), .val (.int jc), .val (.int jd), .val (.int je), .val (.int jf), .val (.int jg), .val (.int jh), .val (.int qa), .val (.int qb), .val (.int qc), .val (.int qd), .val (.ref b18), .val (.ref b22), .val (.ref b26), .val (.ref b30), .val (.ref b33), .val (.int (1 : Int32))] [])) _
        refine XS.aload X64.here hx rfl (hb hby at_271) rfl rfl ?_
        show Steps p.tables e below (T64.setTop (mkF m 273 #[.val (.int xp), .val (.int xq), .val (.int xr), .val (.int xs), .val (.int xt), .val (.int ja), .val (.int jb), .val (.int jc), .val (.int jd), .val (.int je), .val (.int jf), .val (.int jg), .val (.int jh), .val (.int qa), .val (.int qb), .val (.int qc), .val (.int qd), .val (.ref b18), .val (.ref b22), .val (.ref b26), .val (.ref b30), .val (.ref b33), .val (.int (1 : Int32))] [(.ref b33)])) _
        refine XS.aload X64.here hx rfl (hb hby at_273) rfl rfl ?_
        show Steps p.tables e below (T64.setTop (mkF m 275 #[.val (.int xp), .val (.int xq), .val (.int xr), .val (.int xs), .val (.int xt), .val (.int ja), .val (.int jb), .val (.int jc), .val (.int jd), .val (.int je), .val (.int jf), .val (.int jg), .val (.int jh), .val (.int qa), .val (.int qb), .val (.int qc), .val (.int qd), .val (.ref b18), .val (.ref b22), .val (.ref b26), .val (.ref b30), .val (.ref b33), .val (.int (1 : Int32))] [(.ref b22), (.ref b33)])) _
        refine XS.aload X64.here hx rfl (hb hby at_275) rfl rfl ?_
        show Steps p.tables e below (T64.setTop (mkF m 277 #[.val (.int xp), .val (.int xq), .val (.int xr), .val (.int xs), .val (.int xt), .val (.int ja), .val (.int jb), .val (.int jc), .val (.int jd), .val (.int je), .val (.int jf), .val (.int jg), .val (.int jh), .val (.int qa), .val (.int qb), .val (.int qc), .val (.int qd), .val (.ref b18), .val (.ref b22), .val (.ref b26), .val (.ref b30), .val (.ref b33), .val (.int (1 : Int32))] [(.ref b30), (.ref b22), (.ref b33)])) _
        exact k
      have f88 := (own_sta_keep ((f29.ext (own_keep_ext kp30)).ext E33) kp37 A33)
      have f89 := (((((f18_1.keep kp22 nin0).keep kp26 nin0).keep kp30 nin0).ext E33).keep kp37 (ninS (Nat.ne_of_lt (Nat.lt_of_lt_of_le (((f18_0.keep kp22).keep kp26).keep kp30).lt (Nat.le_of_eq g33.symm))) nin0))
      have f90 := (((((f18_2.keep kp22 nin0).keep kp26 nin0).keep kp30 nin0).ext E33).keep kp37 (ninS (Nat.ne_of_lt (Nat.lt_of_lt_of_le (((f18_0.keep kp22).keep kp26).keep kp30).lt (Nat.le_of_eq g33.symm))) nin0))
      have f91 := ((((f22_1.keep kp26 nin0).keep kp30 nin0).ext E33).keep kp37 (ninS (Nat.ne_of_lt (Nat.lt_of_lt_of_le ((f22_0.keep kp26).keep kp30).lt (Nat.le_of_eq g33.symm))) nin0))
      have f92 := ((((f22_2.keep kp26 nin0).keep kp30 nin0).ext E33).keep kp37 (ninS (Nat.ne_of_lt (Nat.lt_of_lt_of_le ((f22_0.keep kp26).keep kp30).lt (Nat.le_of_eq g33.symm))) nin0))
      have f93 := (((((f18_3.keep kp22 nin0).keep kp26 nin0).keep kp30 nin0).ext E33).keep kp37 (ninS (Nat.ne_of_lt (Nat.lt_of_lt_of_le (((f18_3.keep kp22 nin0).keep kp26 nin0).keep kp30 nin0).lt (Nat.le_of_eq g33.symm))) nin0))
      have f94 := ((((f22_3.keep kp26 nin0).keep kp30 nin0).ext E33).keep kp37 (ninS (Nat.ne_of_lt (Nat.lt_of_lt_of_le ((f22_3.keep kp26 nin0).keep kp30 nin0).lt (Nat.le_of_eq g33.symm))) nin0))
      have f95 := (((((f18_0.keep kp22).keep kp26).keep kp30).ext E33).keep kp37)
      have f96 := ((((f22_0.keep kp26).keep kp30).ext E33).keep kp37)
      have f97 := (((f26_1.keep kp30 nin0).ext E33).keep kp37 (ninS (Nat.ne_of_lt (Nat.lt_of_lt_of_le (f26_0.keep kp30).lt (Nat.le_of_eq g33.symm))) nin0))
      have f98 := (((f26_2.keep kp30 nin0).ext E33).keep kp37 (ninS (Nat.ne_of_lt (Nat.lt_of_lt_of_le (f26_0.keep kp30).lt (Nat.le_of_eq g33.symm))) nin0))
      have f99 := ((f30_1.ext E33).keep kp37 (ninS (Nat.ne_of_lt (Nat.lt_of_lt_of_le f30_0.lt (Nat.le_of_eq g33.symm))) nin0))
      have f100 := ((f30_2.ext E33).keep kp37 (ninS (Nat.ne_of_lt (Nat.lt_of_lt_of_le f30_0.lt (Nat.le_of_eq g33.symm))) nin0))
      have f101 := (((f26_3.keep kp30 nin0).ext E33).keep kp37 (ninS (Nat.ne_of_lt (Nat.lt_of_lt_of_le (f26_3.keep kp30 nin0).lt (Nat.le_of_eq g33.symm))) nin0))
      have f102 := ((f30_3.ext E33).keep kp37 (ninS (Nat.ne_of_lt (Nat.lt_of_lt_of_le f30_3.lt (Nat.le_of_eq g33.symm))) nin0))
      have f103 := (((f26_0.keep kp30).ext E33).keep kp37)
      have f104 := ((f30_0.ext E33).keep kp37)
      obtain ⟨cq105, kq105, q105a, q105b, q105c⟩ := isOf hZ e64 f37_0
      obtain ⟨_, _, ⟨T105, L105, k105, n105⟩, -, X105, ⟨Lc105, hQ105, l105, y105, z105⟩, st105⟩ := X64.virtualBack hx (y := (⟨"com/example/feuillet/feuillet/input/Element", "is", "(Ljava/lang/String;Ljava/lang/String;)Z"⟩ : MethodName)) (z := (⟨"com/example/feuillet/feuillet/input/Element", "is", "(Ljava/lang/String;Ljava/lang/String;)Z"⟩ : MethodName)) hown (mvT hZ (hw _ (List.mem_of_getElem? (i := 77) rfl))) (mvT hZ (hw _ (List.mem_of_getElem? (i := 78) rfl))) (notFace_of_selects (args := #[]) (mvT hZ (hw _ (List.mem_of_getElem? (i := 80) rfl)))) (mvT hZ (hw _ (List.mem_of_getElem? (i := 80) rfl))) (mvT hZ (hw _ (List.mem_of_getElem? (i := 79) rfl))) (by decide) (backOf (W := 0) (rm_is l Z a0 hw [] b33 b22 b30 xcs b18 ry_18 ry_22 ky_18 ky_22 qa qb (own_lst qa ja jb) (own_lst qb je jf) b26 ry_26 ry_30 ky_26 ky_30 qc qd (own_lst qc jc jd) (own_lst qd jg jh) T37.heap n0 zz37 f88 f37_1 f37_2 f89 f90 f91 f92 f93 f94 f95 f96 ((Nat.ne_of_lt (Nat.lt_of_lt_of_le f18_0.lt zs22))) (own_mx rqa) f97 f98 f99 f100 f101 f102 f103 f104 ((Nat.ne_of_lt (Nat.lt_of_lt_of_le f26_0.lt zs30))) (own_mx rqc) (hcs)) hZ (hw _ (List.mem_of_getElem? (i := 81) rfl)) (hw _ (List.mem_of_getElem? (i := 28) rfl)) (by decide) (by decide)) q105a q105c (g := (mkF m 277 #[.val (.int xp), .val (.int xq), .val (.int xr), .val (.int xs), .val (.int xt), .val (.int ja), .val (.int jb), .val (.int jc), .val (.int jd), .val (.int je), .val (.int jf), .val (.int jg), .val (.int jh), .val (.int qa), .val (.int qb), .val (.int qc), .val (.int qd), .val (.ref b18), .val (.ref b22), .val (.ref b26), .val (.ref b30), .val (.ref b33), .val (.int (1 : Int32))] [(.ref b30), (.ref b22), (.ref b33)])) rfl (by rw [hml]; rfl) (Steps.refl _) (argsL := [(.ref b22), (.ref b30)]) (rest := []) (lenOf pd15 rfl) rfl (by show 2 * 0 + _ ≤ _; exact Nat.le_of_eq rfl) (hb hby at_277) (fun _ _ => ⟨rfl, e64, (by decide : 28 + 0 ≤ _), (by decide : 64 + 0 ≤ _)⟩)
      dsimp only [Pt.U, Pt.locs, Pt.cells, Pt.slots] at X105 l105 y105 z105 st105 hQ105
      subst y105 z105
      obtain ⟨rfl, M105, e105⟩ := hQ105
      have N105 : Fr n0 L105 := by rw [l105]; exact Fr.app N64 M105
      clear l105
      have X105 : Stand p l e _ _ m _ below meth c T105 _ 28 64 := X105
      have pre106 : ∀ t, Steps p.tables e below (T105.setTop (mkF m 280 #[.val (.int xp), .val (.int xq), .val (.int xr), .val (.int xs), .val (.int xt), .val (.int ja), .val (.int jb), .val (.int jc), .val (.int jd), .val (.int je), .val (.int jf), .val (.int jg), .val (.int jh), .val (.int qa), .val (.int qb), .val (.int qc), .val (.int qd), .val (.ref b18), .val (.ref b22), .val (.ref b26), .val (.ref b30), .val (.ref b33), .val (.int (1 : Int32))] [(.int (F_rm_is xcs qa qb (own_lst qa ja jb) (own_lst qb je jf) qc qd (own_lst qc jc jd) (own_lst qd jg jh)))])) t → Steps p.tables e below (s₁.setTop (entryFrame m #[(.int xp), (.int xq), (.int xr), (.int xs), (.int xt)] maxLocals)) t := fun t k => pre87 t (st105.trans k)
      have pre107 : ∀ t, Steps p.tables e below (T105.setTop (mkF m 290 #[.val (.int xp), .val (.int xq), .val (.int xr), .val (.int xs), .val (.int xt), .val (.int ja), .val (.int jb), .val (.int jc), .val (.int jd), .val (.int je), .val (.int jf), .val (.int jg), .val (.int jh), .val (.int qa), .val (.int qb), .val (.int qc), .val (.int qd), .val (.ref b18), .val (.ref b22), .val (.ref b26), .val (.ref b30), .val (.ref b33), .val (.int (1 : Int32))] [(.int (1 : Int32))])) t → Steps p.tables e below (s₁.setTop (entryFrame m #[(.int xp), (.int xq), (.int xr), (.int xs), (.int xt)] maxLocals)) t := by
        intro t k
        refine pre106 t ?_
        refine XS.iload X105.here hx rfl (hb hby at_280) rfl ?_
        show Steps p.tables e below (T105.setTop (mkF m 282 #[.val (.int xp), .val (.int xq), .val (.int xr), .val (.int xs), .val (.int xt), .val (.int ja), .val (.int jb), .val (.int jc), .val (.int jd), .val (.int je), .val (.int jf), .val (.int jg), .val (.int jh), .val (.int qa), .val (.int qb), .val (.int qc), .val (.int qd), .val (.ref b18), .val (.ref b22), .val (.ref b26), .val (.ref b30), .val (.ref b33), .val (.int (1 : Int32))] [(.int (1 : Int32)), (.int (F_rm_is xcs qa qb (own_lst qa ja jb) (own_lst qb je jf) qc qd (own_lst qc jc jd) (own_lst qd jg jh)))])) _
        refine XS.icmpNo X105.here hx rfl (hb hby at_282) rfl (teq (show (F_rm_is xcs qa qb (own_lst qa ja jb) (own_lst qb je jf) qc qd (own_lst qc jc jd) (own_lst qd jg jh)) = (1 : Int32) from by rw [F_rm_is, own_seq _ rqa rqb rja rjb rje rjf, own_seq _ rqc rqd rjc rjd rjg rjh, if_neg hc243, if_neg hc261])).2 ?_
        show Steps p.tables e below (T105.setTop (mkF m 285 #[.val (.int xp), .val (.int xq), .val (.int xr), .val (.int xs), .val (.int xt), .val (.int ja), .val (.int jb), .val (.int jc), .val (.int jd), .val (.int je), .val (.int jf), .val (.int jg), .val (.int jh), .val (.int qa), .val (.int qb), .val (.int qc), .val (.int qd), .val (.ref b18), .val (.ref b22), .val (.ref b26), .val (.ref b30), .val (.ref b33), .val (.int (1 : Int32))] [])) _
        refine XS.iconst X105.here hx rfl (hb hby at_285) ?_
        show Steps p.tables e below (T105.setTop (mkF m 286 #[.val (.int xp), .val (.int xq), .val (.int xr), .val (.int xs), .val (.int xt), .val (.int ja), .val (.int jb), .val (.int jc), .val (.int jd), .val (.int je), .val (.int jf), .val (.int jg), .val (.int jh), .val (.int qa), .val (.int qb), .val (.int qc), .val (.int qd), .val (.ref b18), .val (.ref b22), .val (.ref b26), .val (.ref b30), .val (.ref b33), .val (.int (1 : Int32))] [(.int (1 : Int32))])) _
        refine XS.goto X105.here hx rfl (pc0 := 286) (pc' := 290) rfl (hb hby at_286) (by decide) (by decide) ?_
        show Steps p.tables e below (T105.setTop (mkF m 290 #[.val (.int xp), .val (.int xq), .val (.int xr), .val (.int xs), .val (.int xt), .val (.int ja), .val (.int jb), .val (.int jc), .val (.int jd), .val (.int je), .val (.int jf), .val (.int jg), .val (.int jh), .val (.int qa), .val (.int qb), .val (.int qc), .val (.int qd), .val (.ref b18), .val (.ref b22), .val (.ref b26), .val (.ref b30), .val (.ref b33), .val (.int (1 : Int32))] [(.int (1 : Int32))])) _
        exact k
      obtain ⟨fs, hr, hrun, hended, hRW⟩ := X105.leaveW hS37 (Nat.le_trans hk37 (Nat.le_of_eq (congrArg Array.size (show _ = T37.heap from e105)).symm)) (v := some (.int (1 : Int32))) (fun h => by rw [Bd.returns] at h; cases h)
      have RE := CHr.trans RC37 (CHv.at X105 hZ hEL CR37.1)
      refine ⟨_, _, pre107 _ ?_, hrun, hended, _, _, rfl, ?_, (by rw [hh]; show CHr Z own_EL s.vm h0 T105.vm T105.heap; rw [show T105.heap = T37.heap from e105]; exact RE), hRW.1, hRW.2.1, hRW.2.2.1, hRW.2.2.2.mono (by decide) (by decide)⟩
      · exact retN X105 hx (t := .boolean) Bd.returns (by simp) (hb hby at_290) hr
      · show Q_rm0 Z xp xq xr xs xt xcs wl h0 n0 _ T105.heap _
        rw [e105]
        exact ⟨rfl, N105⟩
set_option maxRecDepth 65536 in
set_option maxHeartbeats 40000000 in
theorem comes_1 {Post : Tables → Env → Array Value → State → Outcome → State → Prop} (hpost : ∀ tb e args s v u, (limb_1_1.after args s (.returned v) u = true ∧ limb_1_2.after args s (.returned v) u = true ∧ True) → ReturnedEndW s (.returned v) u (Jvm.fieldLocs frame_1_writes args s ++ Jvm.arrayLocs frame_1_arrays args s ++ Jvm.staticLocs frame_1_statics s) 40 2240 → Post tb e args s (.returned v) u) :
    ArmFor flags0 classFile x code maxLocals ret World_1 tables_1 room_1 Calls_1 rest_1 Pre_1 Post := by
  intro l hfl _ _ p e ha hc hk s m args below hf hA hF happ hP
  obtain ⟨hcalls, hrest, hpre⟩ := hP
  obtain ⟨-, -, -, hnamed, -, -, -, hat⟩ := (Spec.applies_iff hf).mp happ
  obtain ⟨hg, hn⟩ := and_e (Cond.before_iff.mp (show (Jvm.Cond.and given_1 narrow_1).before args s = true from hpre))
  obtain ⟨ga1, gb1⟩ := and_e hg
  obtain ⟨ga2, gb2⟩ := and_e gb1
  obtain ⟨ga3, gb3⟩ := and_e gb2
  obtain ⟨ga4, gb4⟩ := and_e gb3
  obtain ⟨ga5, gb5⟩ := and_e gb4
  obtain ⟨w0, w1, w2, w3, w4, rfl⟩ : ∃ w0 w1 w2 w3 w4 : Value, args = #[w0, w1, w2, w3, w4] := by
    have hs : args.size = 5 := by simpa [Cond.value, given_1] using ga1
    obtain ⟨L⟩ := args
    match L, hs with
    | [w0, w1, w2, w3, w4], _ => exact ⟨w0, w1, w2, w3, w4, rfl⟩
  have hw := fun d (hd : d ∈ tables_1) => atoms_spec (ws := Jvm.Cond.code x code maxLocals ret :: tables_1) hat d (List.mem_cons_of_mem _ hd)
  have hfit : Fit s := fun {y c} hc i hi => by
    obtain ⟨ha, rfl⟩ := Array.getElem?_eq_some_iff.mp hc
    have q := List.all_eq_true.mp ((Array.all_eq_true_iff_forall_mem.mp hF) _ (Array.getElem_mem ha)) i (List.mem_range.mpr hi)
    simpa [Array.getElem?_eq_getElem hi] using q
  obtain ⟨hsets, hown0⟩ := atoms_of _ (rest_1_c_eq ▸ (show rest_1_c.before _ s = true from hrest))
  have hr0 := Cond.before_iff.mp hown0
  obtain ⟨i0, ei0⟩ := is_v ga2
  obtain rfl : w0 = (.int i0) := Option.some.inj ei0
  obtain ⟨i1, ei1⟩ := is_v ga3
  obtain rfl : w1 = (.int i1) := Option.some.inj ei1
  obtain ⟨i2, ei2⟩ := is_v ga4
  obtain rfl : w2 = (.int i2) := Option.some.inj ei2
  obtain ⟨i3, ei3⟩ := is_v ga5
  obtain rfl : w3 = (.int i3) := Option.some.inj ei3
  obtain ⟨i4, ei4⟩ := is_v gb5
  obtain rfl : w4 = (.int i4) := Option.some.inj ei4
  obtain ⟨xcs, ecs⟩ := is_v (Cond.before_iff.mp (hsets _ (List.mem_of_getElem? (i := 10) rfl)))
  have SC : Sta s s.heap "java/lang/String" "COMPACT_STRINGS" "Z" (.int xcs) := Sta.start ecs (Or.inl (hsets _ (List.mem_of_getElem? (i := 9) rfl)))
  have hcs : ¬ (xcs = (0 : Int32)) := gotF (Cond.eq_ints ecs (Term.int_eval (0))) (not_v (Cond.before_iff.mp (hsets _ (List.mem_of_getElem? (i := 11) rfl))))
  obtain ⟨wl, ewl⟩ := exa_v (Cond.before_iff.mp (hsets _ (List.mem_of_getElem? (i := 7) rfl)))
  have SD := Sta.start ewl (Or.inr ⟨(hw _ (List.mem_of_getElem? (i := 35) rfl)), (hsets _ (List.mem_of_getElem? (i := 2) rfl))⟩)
  have HC : CHv s own_EL s.vm s.heap := CHv.start (EW.cons (hw _ (List.mem_of_getElem? (i := 59) rfl)) (by decide) (EW.cons (hw _ (List.mem_of_getElem? (i := 18) rfl)) (by decide) EW.nil)) (fun p hp => hcalls.1 p hp) (hsets _ (List.mem_of_getElem? (i := 11) rfl)) (hw _ (List.mem_of_getElem? (i := 19) rfl)) (hw _ (List.mem_of_getElem? (i := 5) rfl))
  obtain ⟨n, o, h1, h2, h3, _, L, rfl, ⟨rfl, N⟩, hCR, hq⟩ := rm0 l s _ hw tables_1 i0 i1 i2 i3 i4 xcs wl s.heap s.heap.size (Nat.le_refl _) SC hcs SD p e ha hc hk s m _ below hf ((Spec.applies_iff_loose hf).mp happ).1 ⟨rfl, State.Warmed39.refl s, rfl, HC⟩ trivial
  refine ⟨n, _, h1, h2, h3, hpost _ _ _ _ _ _ ⟨Cond.after_iff.mpr rfl, Cond.after_iff.mpr (eq_i res_at (Term.int_eval (1)) rfl), trivial⟩ ⟨hq.1, hq.2.1, hq.2.2.1, (hq.2.2.2.sift fun y hy => Or.inr (N y hy)).mono (by decide) (by decide)⟩⟩
theorem main_1_1 : Claimed_1_1 := comes_1 fun _ _ _ _ _ _ h hF => ⟨h.1, hF⟩
theorem main_1_2 : Claimed_1_2 := comes_1 fun _ _ _ _ _ _ h hF => ⟨h.2.1, hF⟩
end Jvm.Pilot.@@N@@
namespace Jvm.Pilot.@@N@@
open Jvm Jvm.ClassFile Sem Op Lib Jvm.Free Jvm.Stand Jvm.Pilot.@@N@@.Jvm.D
/-! MADE BY PROGRAM (witnessworld.py) out of the Statement's table words and the real class files: 29 classes; the members and pool entries that the words name. The judged class is class 1, her method 3. -/
namespace start1
open Jvm.ClassFile
def u (s : String) : CpInfo := .utf8 (stringToUtf16 s)
/-- a pool by its gaps: so many unusable entries, then the entry; so many at the end -/
def gap : Nat → List CpInfo → List CpInfo
  | 0, r => r
  | n + 1, r => .unusable :: gap n r
def poolList (es : List (Nat × CpInfo)) (last : Nat) : List CpInfo := es.foldr (fun e r => gap e.1 (e.2 :: r)) (gap last [])
def pool (es : List (Nat × CpInfo)) (last : Nat) : Array CpInfo := ⟨poolList es last⟩
def fileOf (pool : Array CpInfo) (this : Nat) (attrs : Array Attribute := #[]) (ms : Array MethodInfo := #[]) (fl : Nat := 33) (sup : Nat := 0) (ifs : Array Nat := #[]) (fds : Array FieldInfo := #[]) : ClassFile where
  minorVersion := 0
  majorVersion := 65
  constantPool := pool
  accessFlags := fl
  thisClass := this
  superClass := sup
  interfaces := ifs
  fields := fds
  methods := ms
  attributes := attrs
def plain (name : String) (sup : Option ClassId) : Class where
  name := name
  kind := .ordinary
  loader := none
  accessFlags := 33
  super := sup
  interfaces := #[]
  cf := none
  fields := #[]
  methods := #[]
  instanceTypes := #[]
  staticTypes := #[]
  resolved := #[]
  callSites := []
  init := .initialized
  statics := none
  mirror := none

def pool0 : Array CpInfo := pool [(5, u "<init>"), (0, u "()V"), (1, .class_ 10), (1, u "java/lang/Object")] 113

def k0c0 : Code := { maxStack := 0, maxLocals := 1, code := object_method_1_code, exceptionTable := #[], attributes := #[] }
def k0m0 : Method := { name := "<init>", desc := "()V", sig := { parameters := [], returnType := none }, accessFlags := 1, code := some k0c0 }
/-- java/lang/Object -/
def k0 : Class := { plain "java/lang/Object" none with
  accessFlags := 33
  interfaces := #[]
  cf := some (fileOf pool0 8 #[] #[{ accessFlags := 1, nameIndex := 5, descriptorIndex := 6, attributes := #[] }] 33 0 #[] #[])
  fields := #[]
  methods := #[k0m0]
  instanceTypes := #[]
  staticTypes := #[]
  resolved := Array.replicate 124 none
  statics := none }

def pool1 : Array CpInfo := pool [(2, .class_ 4), (1, u "java/lang/Object"), (0, u "<init>"), (0, u "()V"), (0, .class_ 8), (0, u "java/lang/String"), (0, .methodref 7 10), (0, .nameAndType 5 11), (0, u "([C)V"), (0, .methodref 7 13), (0, .nameAndType 14 15), (0, u "valueOf"), (0, u "(C)Ljava/lang/String;"), (0, .methodref 17 18), (0, .class_ 19), (0, .nameAndType 20 21), (0, u "com/example/feuillet/feuillet/input/ElementIsPinLaw"), (0, u "str"), (0, u "(ICC)Ljava/lang/String;"), (0, .class_ 23), (0, u "com/example/feuillet/feuillet/input/Element"), (0, .methodref 22 25), (0, .nameAndType 5 26), (0, u "(Ljava/lang/String;Ljava/lang/String;Ljava/util/Map;IIZ)V"), (0, .methodref 17 28), (0, .nameAndType 29 30), (0, u "same"), (0, u "(ICCICC)Z"), (0, .methodref 22 32), (0, .nameAndType 33 34), (0, u "is"), (0, u "(Ljava/lang/String;Ljava/lang/String;)Z"), (3, u "law"), (0, u "(IIIII)Z")] 2

def k1m0 : Method := { name := "<init>", desc := "()V", sig := { parameters := [], returnType := none }, accessFlags := 2, code := none }
def k1c1 : Code := { maxStack := 6, maxLocals := 3, code := method_2_code, exceptionTable := #[], attributes := #[] }
def k1m1 : Method := { name := "str", desc := "(ICC)Ljava/lang/String;", sig := { parameters := [.int, .char, .char], returnType := some (.object "java/lang/String") }, accessFlags := 10, code := some k1c1 }
def k1c2 : Code := { maxStack := 2, maxLocals := 6, code := method_3_code, exceptionTable := #[], attributes := #[] }
def k1m2 : Method := { name := "same", desc := "(ICCICC)Z", sig := { parameters := [.int, .char, .char, .int, .char, .char], returnType := some .boolean }, accessFlags := 10, code := some k1c2 }
def k1c3 : Code := { maxStack := 8, maxLocals := 23, code := code, exceptionTable := #[], attributes := #[] }
def k1m3 : Method := { name := "law", desc := "(IIIII)Z", sig := { parameters := [.int, .int, .int, .int, .int], returnType := some .boolean }, accessFlags := 9, code := some k1c3 }
/-- com/example/feuillet/feuillet/input/ElementIsPinLaw -/
def k1 : Class := { plain "com/example/feuillet/feuillet/input/ElementIsPinLaw" (some 0) with
  accessFlags := 49
  interfaces := #[]
  cf := some (fileOf pool1 17 #[] #[{ accessFlags := 2, nameIndex := 5, descriptorIndex := 6, attributes := #[] }, { accessFlags := 10, nameIndex := 20, descriptorIndex := 21, attributes := #[] }, { accessFlags := 10, nameIndex := 29, descriptorIndex := 30, attributes := #[] }, { accessFlags := 9, nameIndex := 38, descriptorIndex := 39, attributes := #[] }] 49 2 #[] #[])
  fields := #[]
  methods := #[k1m0, k1m1, k1m2, k1m3]
  instanceTypes := #[]
  staticTypes := #[]
  resolved := Array.replicate 42 none
  statics := none }

def pool2 : Array CpInfo := pool [(1, .class_ 2), (0, u "java/io/Serializable"), (0, .class_ 4), (0, u "java/lang/Object")] 2

/-- java/io/Serializable -/
def k2 : Class := { plain "java/io/Serializable" (some 0) with
  accessFlags := 1537
  interfaces := #[]
  cf := some (fileOf pool2 1 #[] #[] 1537 3 #[] #[])
  fields := #[]
  methods := #[]
  instanceTypes := #[]
  staticTypes := #[]
  resolved := Array.replicate 7 none
  statics := none }

def pool3 : Array CpInfo := pool [(1, .class_ 2), (0, u "java/lang/Comparable"), (0, .class_ 4), (0, u "java/lang/Object")] 7

/-- java/lang/Comparable -/
def k3 : Class := { plain "java/lang/Comparable" (some 0) with
  accessFlags := 1537
  interfaces := #[]
  cf := some (fileOf pool3 1 #[] #[] 1537 3 #[] #[])
  fields := #[]
  methods := #[]
  instanceTypes := #[]
  staticTypes := #[]
  resolved := Array.replicate 12 none
  statics := none }

def pool4 : Array CpInfo := pool [(2, .class_ 4), (1, u "java/lang/CharSequence"), (42, .class_ 48), (0, u "java/lang/CharSequence$1CodePointIterator"), (10, .class_ 60), (0, u "java/lang/CharSequence$1CharIterator"), (5, .class_ 67), (0, u "java/lang/Object")] 63

/-- java/lang/CharSequence -/
def k4 : Class := { plain "java/lang/CharSequence" (some 0) with
  accessFlags := 1537
  interfaces := #[]
  cf := some (fileOf pool4 2 #[.nestMembers #[47, 59]] #[] 1537 66 #[] #[])
  fields := #[]
  methods := #[]
  instanceTypes := #[]
  staticTypes := #[]
  resolved := Array.replicate 131 none
  statics := none }

def pool5 : Array CpInfo := pool [(1, .class_ 2), (0, u "java/lang/constant/Constable"), (0, .class_ 4), (0, u "java/lang/Object")] 6

/-- java/lang/constant/Constable -/
def k5 : Class := { plain "java/lang/constant/Constable" (some 0) with
  accessFlags := 1537
  interfaces := #[]
  cf := some (fileOf pool5 1 #[] #[] 1537 3 #[] #[])
  fields := #[]
  methods := #[]
  instanceTypes := #[]
  staticTypes := #[]
  resolved := Array.replicate 11 none
  statics := none }

def pool6 : Array CpInfo := pool [(1, .class_ 2), (0, u "java/lang/constant/ConstantDesc"), (0, .class_ 4), (0, u "java/lang/Object")] 32

/-- java/lang/constant/ConstantDesc -/
def k6 : Class := { plain "java/lang/constant/ConstantDesc" (some 0) with
  accessFlags := 1537
  interfaces := #[]
  cf := some (fileOf pool6 1 #[] #[] 1537 3 #[] #[])
  fields := #[]
  methods := #[]
  instanceTypes := #[]
  staticTypes := #[]
  resolved := Array.replicate 37 none
  statics := none }

def pool7 : Array CpInfo := pool [(1, .methodref 2 3), (0, .class_ 4), (0, .nameAndType 5 6), (0, u "java/lang/Object"), (0, u "<init>"), (0, u "()V"), (0, .string 8), (0, u ""), (0, .fieldref 10 11), (0, .class_ 12), (0, .nameAndType 13 14), (0, u "java/lang/String"), (0, u "value"), (0, u "[B"), (0, .fieldref 10 16), (0, .nameAndType 17 18), (0, u "coder"), (0, u "B"), (2, u "hash"), (0, u "I"), (2, u "hashIsZero"), (0, u "Z"), (0, .methodref 10 28), (0, .nameAndType 5 29), (0, u "([CIILjava/lang/Void;)V"), (8, .fieldref 10 39), (0, .nameAndType 40 26), (0, u "COMPACT_STRINGS"), (1, .class_ 44), (1, u "java/lang/StringUTF16"), (0, u "compress"), (1, .methodref 42 48), (0, .nameAndType 49 50), (0, u "coderFromArrayLen"), (0, u "([BI)B"), (2, u "toBytes"), (53, .class_ 109), (1, u "java/lang/StringLatin1"), (67, .methodref 42 178), (0, .nameAndType 45 179), (0, u "([CII)[B"), (29, .methodref 10 210), (0, .nameAndType 5 211), (0, u "([BB)V"), (157, u "(C)Z"), (171, .methodref 107 542), (0, .nameAndType 543 544), (0, u "equals"), (0, u "([B[B)Z"), (28, u "(Ljava/lang/Object;)Z"), (1, .class_ 576), (0, u "java/lang/CharSequence"), (22, u "CASE_INSENSITIVE_ORDER"), (0, u "Ljava/util/Comparator;"), (181, u "valueOf"), (0, u "(C)Ljava/lang/String;"), (226, u "([C)V"), (4, .methodref 107 1016), (0, .nameAndType 1017 369), (0, u "canEncode"), (0, .methodref 107 1019), (0, .nameAndType 53 1020), (0, u "(C)[B"), (80, u "serialPersistentFields"), (0, u "[Ljava/io/ObjectStreamField;"), (0, .class_ 1104), (0, u "java/lang/String$CaseInsensitiveComparator"), (1, .class_ 1107), (0, u "java/io/Serializable"), (0, .class_ 1109), (0, u "java/lang/Comparable"), (0, .class_ 1111), (0, u "java/lang/constant/Constable"), (0, .class_ 1113), (0, u "java/lang/constant/ConstantDesc"), (2, u "serialVersionUID"), (0, u "J"), (3, u "REPL"), (0, u "C"), (2, u "LATIN1"), (1, u "UTF16")] 323

def k7m0 : Method := { name := "<init>", desc := "()V", sig := { parameters := [], returnType := none }, accessFlags := 1, code := none }
def k7c1 : Code := { maxStack := 5, maxLocals := 2, code := jdk_42_method_3_code, exceptionTable := #[], attributes := #[] }
def k7m1 : Method := { name := "<init>", desc := "([C)V", sig := { parameters := [(.array .char)], returnType := none }, accessFlags := 1, code := some k7c1 }
def k7c2 : Code := { maxStack := 2, maxLocals := 3, code := jdk_42_method_66_code, exceptionTable := #[], attributes := #[] }
def k7m2 : Method := { name := "equals", desc := "(Ljava/lang/Object;)Z", sig := { parameters := [(.object "java/lang/Object")], returnType := some .boolean }, accessFlags := 1, code := some k7c2 }
def k7c3 : Code := { maxStack := 4, maxLocals := 1, code := jdk_42_method_139_code, exceptionTable := #[], attributes := #[] }
def k7m3 : Method := { name := "valueOf", desc := "(C)Ljava/lang/String;", sig := { parameters := [.char], returnType := some (.object "java/lang/String") }, accessFlags := 9, code := some k7c3 }
def k7c4 : Code := { maxStack := 4, maxLocals := 6, code := jdk_42_method_149_code, exceptionTable := #[], attributes := #[] }
def k7m4 : Method := { name := "<init>", desc := "([CIILjava/lang/Void;)V", sig := { parameters := [(.array .char), .int, .int, (.object "java/lang/Void")], returnType := none }, accessFlags := 2, code := some k7c4 }
def k7c5 : Code := { maxStack := 2, maxLocals := 3, code := jdk_42_method_151_code, exceptionTable := #[], attributes := #[] }
def k7m5 : Method := { name := "<init>", desc := "([BB)V", sig := { parameters := [(.array .byte), .byte], returnType := none }, accessFlags := 0, code := some k7c5 }
/-- java/lang/String -/
def k7 : Class := { plain "java/lang/String" (some 0) with
  accessFlags := 49
  interfaces := #[2, 3, 4, 5, 6]
  cf := some (fileOf pool7 10 #[.nestMembers #[1103]] #[{ accessFlags := 1, nameIndex := 5, descriptorIndex := 6, attributes := #[] }, { accessFlags := 1, nameIndex := 5, descriptorIndex := 1010, attributes := #[] }, { accessFlags := 1, nameIndex := 543, descriptorIndex := 573, attributes := #[] }, { accessFlags := 9, nameIndex := 782, descriptorIndex := 783, attributes := #[] }, { accessFlags := 2, nameIndex := 5, descriptorIndex := 29, attributes := #[] }, { accessFlags := 0, nameIndex := 5, descriptorIndex := 211, attributes := #[] }] 49 2 #[1106, 1108, 575, 1110, 1112] #[{ accessFlags := 18, nameIndex := 13, descriptorIndex := 14, attributes := #[] }, { accessFlags := 18, nameIndex := 17, descriptorIndex := 18, attributes := #[] }, { accessFlags := 2, nameIndex := 21, descriptorIndex := 22, attributes := #[] }, { accessFlags := 2, nameIndex := 25, descriptorIndex := 26, attributes := #[] }, { accessFlags := 26, nameIndex := 1116, descriptorIndex := 1117, attributes := #[] }, { accessFlags := 24, nameIndex := 40, descriptorIndex := 26, attributes := #[] }, { accessFlags := 26, nameIndex := 1101, descriptorIndex := 1102, attributes := #[] }, { accessFlags := 26, nameIndex := 1121, descriptorIndex := 1122, attributes := #[] }, { accessFlags := 25, nameIndex := 599, descriptorIndex := 600, attributes := #[] }, { accessFlags := 24, nameIndex := 1125, descriptorIndex := 18, attributes := #[] }, { accessFlags := 24, nameIndex := 1127, descriptorIndex := 18, attributes := #[] }])
  fields := #[{ name := "value", type := (.array .byte), accessFlags := 18, slot := 0, constantValue := 0 }, { name := "coder", type := .byte, accessFlags := 18, slot := 1, constantValue := 0 }, { name := "hash", type := .int, accessFlags := 2, slot := 2, constantValue := 0 }, { name := "hashIsZero", type := .boolean, accessFlags := 2, slot := 3, constantValue := 0 }, { name := "serialVersionUID", type := .long, accessFlags := 26, slot := 0, constantValue := 0 }, { name := "COMPACT_STRINGS", type := .boolean, accessFlags := 24, slot := 1, constantValue := 0 }, { name := "serialPersistentFields", type := (.array (.object "java/io/ObjectStreamField")), accessFlags := 26, slot := 2, constantValue := 0 }, { name := "REPL", type := .char, accessFlags := 26, slot := 3, constantValue := 0 }, { name := "CASE_INSENSITIVE_ORDER", type := (.object "java/util/Comparator"), accessFlags := 25, slot := 4, constantValue := 0 }, { name := "LATIN1", type := .byte, accessFlags := 24, slot := 5, constantValue := 0 }, { name := "UTF16", type := .byte, accessFlags := 24, slot := 6, constantValue := 0 }]
  methods := #[k7m0, k7m1, k7m2, k7m3, k7m4, k7m5]
  instanceTypes := #[(.array .byte), .byte, .int, .boolean]
  staticTypes := #[.long, .boolean, (.array (.object "java/io/ObjectStreamField")), .char, (.object "java/util/Comparator"), .byte, .byte]
  resolved := Array.replicate 1451 none
  statics := some 0 }

def pool8 : Array CpInfo := pool [(1, .methodref 2 3), (0, .class_ 4), (0, .nameAndType 5 6), (0, u "java/lang/Object"), (0, u "<init>"), (0, u "()V"), (0, .class_ 8), (0, u "java/util/ArrayList"), (0, .methodref 7 3), (0, .fieldref 11 12), (0, .class_ 13), (0, .nameAndType 14 15), (0, u "com/example/feuillet/feuillet/input/Element"), (0, u "children"), (0, u "Ljava/util/List;"), (0, .string 17), (0, u ""), (0, .fieldref 11 19), (0, .nameAndType 20 21), (0, u "text"), (0, u "Ljava/lang/String;"), (0, .fieldref 11 23), (0, .nameAndType 24 21), (0, u "namespace"), (0, .fieldref 11 26), (0, .nameAndType 27 21), (0, u "name"), (0, .fieldref 11 29), (0, .nameAndType 30 31), (0, u "attributes"), (0, u "Ljava/util/Map;"), (0, .fieldref 11 33), (0, .nameAndType 34 35), (0, u "line"), (0, u "I"), (0, .fieldref 11 37), (0, .nameAndType 38 35), (0, u "column"), (0, .fieldref 11 40), (0, .nameAndType 41 42), (0, u "keepsText"), (0, u "Z"), (5, .class_ 50), (1, u "java/lang/String"), (15, .methodref 48 67), (0, .nameAndType 68 69), (0, u "equals"), (0, u "(Ljava/lang/Object;)Z"), (23, u "is"), (0, u "(Ljava/lang/String;Ljava/lang/String;)Z"), (66, u "pendingText"), (0, u "Ljava/lang/StringBuilder;"), (15, u "(Ljava/lang/String;Ljava/lang/String;Ljava/util/Map;IIZ)V")] 43

def k8c0 : Code := { maxStack := 3, maxLocals := 7, code := prog_60_method_1_code, exceptionTable := #[], attributes := #[] }
def k8m0 : Method := { name := "<init>", desc := "(Ljava/lang/String;Ljava/lang/String;Ljava/util/Map;IIZ)V", sig := { parameters := [(.object "java/lang/String"), (.object "java/lang/String"), (.object "java/util/Map"), .int, .int, .boolean], returnType := none }, accessFlags := 0, code := some k8c0 }
def k8c1 : Code := { maxStack := 2, maxLocals := 3, code := prog_60_method_5_code, exceptionTable := #[], attributes := #[] }
def k8m1 : Method := { name := "is", desc := "(Ljava/lang/String;Ljava/lang/String;)Z", sig := { parameters := [(.object "java/lang/String"), (.object "java/lang/String")], returnType := some .boolean }, accessFlags := 1, code := some k8c1 }
/-- com/example/feuillet/feuillet/input/Element -/
def k8 : Class := { plain "com/example/feuillet/feuillet/input/Element" (some 0) with
  accessFlags := 49
  interfaces := #[]
  cf := some (fileOf pool8 11 #[] #[{ accessFlags := 0, nameIndex := 5, descriptorIndex := 178, attributes := #[] }, { accessFlags := 1, nameIndex := 93, descriptorIndex := 94, attributes := #[] }] 49 2 #[] #[{ accessFlags := 18, nameIndex := 24, descriptorIndex := 21, attributes := #[] }, { accessFlags := 18, nameIndex := 27, descriptorIndex := 21, attributes := #[] }, { accessFlags := 18, nameIndex := 30, descriptorIndex := 31, attributes := #[] }, { accessFlags := 18, nameIndex := 34, descriptorIndex := 35, attributes := #[] }, { accessFlags := 18, nameIndex := 38, descriptorIndex := 35, attributes := #[] }, { accessFlags := 18, nameIndex := 14, descriptorIndex := 15, attributes := #[] }, { accessFlags := 18, nameIndex := 41, descriptorIndex := 42, attributes := #[] }, { accessFlags := 2, nameIndex := 161, descriptorIndex := 162, attributes := #[] }, { accessFlags := 2, nameIndex := 20, descriptorIndex := 21, attributes := #[] }])
  fields := #[{ name := "namespace", type := (.object "java/lang/String"), accessFlags := 18, slot := 0, constantValue := 0 }, { name := "name", type := (.object "java/lang/String"), accessFlags := 18, slot := 1, constantValue := 0 }, { name := "attributes", type := (.object "java/util/Map"), accessFlags := 18, slot := 2, constantValue := 0 }, { name := "line", type := .int, accessFlags := 18, slot := 3, constantValue := 0 }, { name := "column", type := .int, accessFlags := 18, slot := 4, constantValue := 0 }, { name := "children", type := (.object "java/util/List"), accessFlags := 18, slot := 5, constantValue := 0 }, { name := "keepsText", type := .boolean, accessFlags := 18, slot := 6, constantValue := 0 }, { name := "pendingText", type := (.object "java/lang/StringBuilder"), accessFlags := 2, slot := 7, constantValue := 0 }, { name := "text", type := (.object "java/lang/String"), accessFlags := 2, slot := 8, constantValue := 0 }]
  methods := #[k8m0, k8m1]
  instanceTypes := #[(.object "java/lang/String"), (.object "java/lang/String"), (.object "java/util/Map"), .int, .int, (.object "java/util/List"), .boolean, (.object "java/lang/StringBuilder"), (.object "java/lang/String")]
  staticTypes := #[]
  resolved := Array.replicate 222 none
  statics := none }

def pool9 : Array CpInfo := pool [(8, .class_ 10), (1, u "java/lang/Iterable"), (24, .class_ 36), (0, u "java/lang/Object")] 25

/-- java/lang/Iterable -/
def k9 : Class := { plain "java/lang/Iterable" (some 0) with
  accessFlags := 1537
  interfaces := #[]
  cf := some (fileOf pool9 8 #[] #[] 1537 35 #[] #[])
  fields := #[]
  methods := #[]
  instanceTypes := #[]
  staticTypes := #[]
  resolved := Array.replicate 62 none
  statics := none }

def pool10 : Array CpInfo := pool [(10, .class_ 12), (1, u "java/util/Collection"), (47, .class_ 61), (0, u "java/lang/Object"), (0, .class_ 63), (0, u "java/lang/Iterable")] 51

/-- java/util/Collection -/
def k10 : Class := { plain "java/util/Collection" (some 0) with
  accessFlags := 1537
  interfaces := #[9]
  cf := some (fileOf pool10 10 #[] #[] 1537 60 #[62] #[])
  fields := #[]
  methods := #[]
  instanceTypes := #[]
  staticTypes := #[]
  resolved := Array.replicate 115 none
  statics := none }

def pool11 : Array CpInfo := pool [(1, .methodref 2 3), (0, .class_ 4), (0, .nameAndType 5 6), (0, u "java/lang/Object"), (0, u "<init>"), (0, u "()V"), (1, .class_ 10), (1, u "java/util/AbstractCollection"), (66, .class_ 78), (0, u "java/util/Collection")] 81

def k11c0 : Code := { maxStack := 1, maxLocals := 1, code := jdk_22_method_1_code, exceptionTable := #[], attributes := #[] }
def k11m0 : Method := { name := "<init>", desc := "()V", sig := { parameters := [], returnType := none }, accessFlags := 4, code := some k11c0 }
/-- java/util/AbstractCollection -/
def k11 : Class := { plain "java/util/AbstractCollection" (some 0) with
  accessFlags := 1057
  interfaces := #[10]
  cf := some (fileOf pool11 8 #[] #[{ accessFlags := 4, nameIndex := 5, descriptorIndex := 6, attributes := #[] }] 1057 2 #[77] #[])
  fields := #[]
  methods := #[k11m0]
  instanceTypes := #[]
  staticTypes := #[]
  resolved := Array.replicate 160 none
  statics := none }

def pool12 : Array CpInfo := pool [(8, .class_ 10), (1, u "java/util/SequencedCollection"), (15, .class_ 27), (0, u "java/lang/Object"), (0, .class_ 29), (0, u "java/util/Collection")] 27

/-- java/util/SequencedCollection -/
def k12 : Class := { plain "java/util/SequencedCollection" (some 0) with
  accessFlags := 1537
  interfaces := #[10]
  cf := some (fileOf pool12 8 #[] #[] 1537 26 #[28] #[])
  fields := #[]
  methods := #[]
  instanceTypes := #[]
  staticTypes := #[]
  resolved := Array.replicate 57 none
  statics := none }

def pool13 : Array CpInfo := pool [(8, .class_ 10), (1, u "java/util/List"), (92, .class_ 104), (0, u "java/lang/Object"), (15, .class_ 121), (0, u "java/util/SequencedCollection")] 129

/-- java/util/List -/
def k13 : Class := { plain "java/util/List" (some 0) with
  accessFlags := 1537
  interfaces := #[12]
  cf := some (fileOf pool13 8 #[] #[] 1537 103 #[120] #[])
  fields := #[]
  methods := #[]
  instanceTypes := #[]
  staticTypes := #[]
  resolved := Array.replicate 251 none
  statics := none }

def pool14 : Array CpInfo := pool [(1, .methodref 2 3), (0, .class_ 4), (0, .nameAndType 5 6), (0, u "java/util/AbstractCollection"), (0, u "<init>"), (0, u "()V"), (0, .fieldref 8 9), (0, .class_ 10), (0, .nameAndType 11 12), (0, u "java/util/AbstractList"), (0, u "modCount"), (0, u "I"), (64, .class_ 78), (0, u "java/util/AbstractList$Itr"), (3, .class_ 83), (0, u "java/util/AbstractList$ListItr"), (9, .class_ 94), (0, u "java/util/AbstractList$RandomAccessSubList"), (3, .class_ 99), (0, u "java/util/AbstractList$SubList"), (33, .class_ 134), (0, u "java/util/List"), (73, .class_ 209), (0, u "java/util/AbstractList$SubList$1"), (0, .class_ 211), (0, u "java/util/AbstractList$RandomAccessSpliterator")] 6

def k14c0 : Code := { maxStack := 2, maxLocals := 1, code := jdk_39_method_1_code, exceptionTable := #[], attributes := #[] }
def k14m0 : Method := { name := "<init>", desc := "()V", sig := { parameters := [], returnType := none }, accessFlags := 4, code := some k14c0 }
/-- java/util/AbstractList -/
def k14 : Class := { plain "java/util/AbstractList" (some 11) with
  accessFlags := 1057
  interfaces := #[13]
  cf := some (fileOf pool14 8 #[.nestMembers #[93, 98, 208, 210, 82, 77]] #[{ accessFlags := 4, nameIndex := 5, descriptorIndex := 6, attributes := #[] }] 1057 2 #[133] #[{ accessFlags := 132, nameIndex := 11, descriptorIndex := 12, attributes := #[] }])
  fields := #[{ name := "modCount", type := .int, accessFlags := 132, slot := 0, constantValue := 0 }]
  methods := #[k14m0]
  instanceTypes := #[.int]
  staticTypes := #[]
  resolved := Array.replicate 218 none
  statics := none }

def pool15 : Array CpInfo := pool [(1, .class_ 2), (0, u "java/util/RandomAccess"), (0, .class_ 4), (0, u "java/lang/Object")] 2

/-- java/util/RandomAccess -/
def k15 : Class := { plain "java/util/RandomAccess" (some 0) with
  accessFlags := 1537
  interfaces := #[]
  cf := some (fileOf pool15 1 #[] #[] 1537 3 #[] #[])
  fields := #[]
  methods := #[]
  instanceTypes := #[]
  staticTypes := #[]
  resolved := Array.replicate 7 none
  statics := none }

def pool16 : Array CpInfo := pool [(1, .class_ 2), (0, u "java/lang/Cloneable"), (0, .class_ 4), (0, u "java/lang/Object")] 2

/-- java/lang/Cloneable -/
def k16 : Class := { plain "java/lang/Cloneable" (some 0) with
  accessFlags := 1537
  interfaces := #[]
  cf := some (fileOf pool16 1 #[] #[] 1537 3 #[] #[])
  fields := #[]
  methods := #[]
  instanceTypes := #[]
  staticTypes := #[]
  resolved := Array.replicate 7 none
  statics := none }

def pool17 : Array CpInfo := pool [(1, .methodref 2 3), (0, .class_ 4), (0, .nameAndType 5 6), (0, u "java/util/AbstractList"), (0, u "<init>"), (0, u "()V"), (2, .fieldref 10 11), (0, .class_ 12), (0, .nameAndType 13 14), (0, u "java/util/ArrayList"), (0, u "elementData"), (0, u "[Ljava/lang/Object;"), (2, u "EMPTY_ELEMENTDATA"), (21, .fieldref 10 40), (0, .nameAndType 41 14), (0, u "DEFAULTCAPACITY_EMPTY_ELEMENTDATA"), (8, u "size"), (0, u "I"), (96, .class_ 149), (0, u "java/util/List"), (112, .class_ 263), (0, u "java/util/ArrayList$ListItr"), (3, .class_ 268), (0, u "java/util/ArrayList$Itr"), (7, .class_ 277), (0, u "java/util/ArrayList$SubList"), (12, .class_ 291), (0, u "java/util/ArrayList$ArrayListSpliterator"), (37, .class_ 330), (0, u "java/util/RandomAccess"), (0, .class_ 332), (0, u "java/lang/Cloneable"), (0, .class_ 334), (0, u "java/io/Serializable"), (0, u "serialVersionUID"), (0, u "J"), (3, u "DEFAULT_CAPACITY"), (159, .class_ 501), (0, u "java/util/ArrayList$SubList$2"), (0, .class_ 503), (0, u "java/util/ArrayList$SubList$1")] 5

def k17c0 : Code := { maxStack := 2, maxLocals := 1, code := jdk_38_method_2_code, exceptionTable := #[], attributes := #[] }
def k17m0 : Method := { name := "<init>", desc := "()V", sig := { parameters := [], returnType := none }, accessFlags := 1, code := some k17c0 }
/-- java/util/ArrayList -/
def k17 : Class := { plain "java/util/ArrayList" (some 14) with
  accessFlags := 33
  interfaces := #[13, 15, 16, 2]
  cf := some (fileOf pool17 10 #[.nestMembers #[290, 276, 500, 502, 262, 267]] #[{ accessFlags := 1, nameIndex := 5, descriptorIndex := 6, attributes := #[] }] 33 2 #[148, 329, 331, 333] #[{ accessFlags := 26, nameIndex := 335, descriptorIndex := 336, attributes := #[] }, { accessFlags := 26, nameIndex := 340, descriptorIndex := 51, attributes := #[] }, { accessFlags := 26, nameIndex := 17, descriptorIndex := 14, attributes := #[] }, { accessFlags := 26, nameIndex := 41, descriptorIndex := 14, attributes := #[] }, { accessFlags := 128, nameIndex := 13, descriptorIndex := 14, attributes := #[] }, { accessFlags := 2, nameIndex := 50, descriptorIndex := 51, attributes := #[] }])
  fields := #[{ name := "serialVersionUID", type := .long, accessFlags := 26, slot := 0, constantValue := 0 }, { name := "DEFAULT_CAPACITY", type := .int, accessFlags := 26, slot := 1, constantValue := 0 }, { name := "EMPTY_ELEMENTDATA", type := (.array (.object "java/lang/Object")), accessFlags := 26, slot := 2, constantValue := 0 }, { name := "DEFAULTCAPACITY_EMPTY_ELEMENTDATA", type := (.array (.object "java/lang/Object")), accessFlags := 26, slot := 3, constantValue := 0 }, { name := "elementData", type := (.array (.object "java/lang/Object")), accessFlags := 128, slot := 1, constantValue := 0 }, { name := "size", type := .int, accessFlags := 2, slot := 2, constantValue := 0 }]
  methods := #[k17m0]
  instanceTypes := #[.int, (.array (.object "java/lang/Object")), .int]
  staticTypes := #[.long, .int, (.array (.object "java/lang/Object")), (.array (.object "java/lang/Object"))]
  resolved := Array.replicate 509 none
  statics := some 1 }

def pool18 : Array CpInfo := pool [(4, .class_ 6), (1, u "java/lang/Object"), (0, u "<init>"), (0, u "()V"), (5, .class_ 16), (1, u "java/lang/StringLatin1"), (73, u "canEncode"), (14, u "(C)Z"), (15, u "$assertionsDisabled"), (0, u "Z"), (98, .class_ 223), (1, u "java/lang/StringLatin1$LinesSpliterator"), (57, u "equals"), (0, u "([B[B)Z"), (97, u "toBytes"), (1, u "(C)[B"), (7, .class_ 391), (0, u "java/lang/StringLatin1$CharsSpliterator")] 3

def k18m0 : Method := { name := "<init>", desc := "()V", sig := { parameters := [], returnType := none }, accessFlags := 0, code := none }
def k18c1 : Code := { maxStack := 2, maxLocals := 1, code := jdk_43_method_3_code, exceptionTable := #[], attributes := #[] }
def k18m1 : Method := { name := "canEncode", desc := "(C)Z", sig := { parameters := [.char], returnType := some .boolean }, accessFlags := 9, code := some k18c1 }
def k18c2 : Code := { maxStack := 3, maxLocals := 3, code := jdk_43_method_13_code, exceptionTable := #[], attributes := #[] }
def k18m2 : Method := { name := "equals", desc := "([B[B)Z", sig := { parameters := [(.array .byte), (.array .byte)], returnType := some .boolean }, accessFlags := 9, code := some k18c2 }
def k18c3 : Code := { maxStack := 4, maxLocals := 1, code := jdk_43_method_46_code, exceptionTable := #[], attributes := #[] }
def k18m3 : Method := { name := "toBytes", desc := "(C)[B", sig := { parameters := [.char], returnType := some (.array .byte) }, accessFlags := 9, code := some k18c3 }
/-- java/lang/StringLatin1 -/
def k18 : Class := { plain "java/lang/StringLatin1" (some 0) with
  accessFlags := 48
  interfaces := #[]
  cf := some (fileOf pool18 14 #[.nestMembers #[390, 221]] #[{ accessFlags := 0, nameIndex := 7, descriptorIndex := 8, attributes := #[] }, { accessFlags := 9, nameIndex := 90, descriptorIndex := 105, attributes := #[] }, { accessFlags := 9, nameIndex := 281, descriptorIndex := 282, attributes := #[] }, { accessFlags := 9, nameIndex := 380, descriptorIndex := 382, attributes := #[] }] 48 4 #[] #[{ accessFlags := 4120, nameIndex := 121, descriptorIndex := 122, attributes := #[] }])
  fields := #[{ name := "$assertionsDisabled", type := .boolean, accessFlags := 4120, slot := 0, constantValue := 0 }]
  methods := #[k18m0, k18m1, k18m2, k18m3]
  instanceTypes := #[]
  staticTypes := #[.boolean]
  resolved := Array.replicate 395 none
  statics := none }

def pool19 : Array CpInfo := pool [(6, .class_ 8), (1, u "java/lang/Object"), (0, u "<init>"), (0, u "()V"), (1, .class_ 14), (1, u "java/lang/StringUTF16"), (31, u "$assertionsDisabled"), (0, u "Z"), (13, u "HI_BYTE_SHIFT"), (0, u "I"), (2, u "LO_BYTE_SHIFT"), (49, .methodref 12 116), (0, .nameAndType 117 118), (0, u "compress"), (0, u "([CI[BII)I"), (3, u "([CII)[B"), (138, u "coderFromArrayLen"), (0, u "([BI)B"), (106, .class_ 371), (1, u "java/lang/StringUTF16$LinesSpliterator"), (58, u "MAX_LENGTH"), (196, .class_ 628), (0, u "java/lang/StringUTF16$CodePointsSpliterator"), (0, .class_ 630), (0, u "java/lang/StringUTF16$CharsSpliterator")] 4

def k19m0 : Method := { name := "<init>", desc := "()V", sig := { parameters := [], returnType := none }, accessFlags := 0, code := none }
def k19c1 : Code := { maxStack := 2, maxLocals := 2, code := jdk_52_method_15_code, exceptionTable := #[], attributes := #[] }
def k19m1 : Method := { name := "coderFromArrayLen", desc := "([BI)B", sig := { parameters := [(.array .byte), .int], returnType := some .byte }, accessFlags := 8, code := some k19c1 }
def k19c2 : Code := { maxStack := 5, maxLocals := 6, code := jdk_52_method_16_code, exceptionTable := #[], attributes := #[] }
def k19m2 : Method := { name := "compress", desc := "([CII)[B", sig := { parameters := [(.array .char), .int, .int], returnType := some (.array .byte) }, accessFlags := 9, code := some k19c2 }
def k19c3 : Code := { maxStack := 3, maxLocals := 7, code := jdk_52_method_21_code, exceptionTable := #[], attributes := #[] }
def k19m3 : Method := { name := "compress", desc := "([CI[BII)I", sig := { parameters := [(.array .char), .int, (.array .byte), .int, .int], returnType := some .int }, accessFlags := 9, code := some k19c3 }
/-- java/lang/StringUTF16 -/
def k19 : Class := { plain "java/lang/StringUTF16" (some 0) with
  accessFlags := 48
  interfaces := #[]
  cf := some (fileOf pool19 12 #[.nestMembers #[627, 629, 369]] #[{ accessFlags := 0, nameIndex := 9, descriptorIndex := 10, attributes := #[] }, { accessFlags := 8, nameIndex := 261, descriptorIndex := 262, attributes := #[] }, { accessFlags := 9, nameIndex := 117, descriptorIndex := 122, attributes := #[] }, { accessFlags := 9, nameIndex := 117, descriptorIndex := 118, attributes := #[] }] 48 6 #[] #[{ accessFlags := 26, nameIndex := 61, descriptorIndex := 62, attributes := #[] }, { accessFlags := 26, nameIndex := 65, descriptorIndex := 62, attributes := #[] }, { accessFlags := 24, nameIndex := 430, descriptorIndex := 62, attributes := #[] }, { accessFlags := 4120, nameIndex := 46, descriptorIndex := 47, attributes := #[] }])
  fields := #[{ name := "HI_BYTE_SHIFT", type := .int, accessFlags := 26, slot := 0, constantValue := 0 }, { name := "LO_BYTE_SHIFT", type := .int, accessFlags := 26, slot := 1, constantValue := 0 }, { name := "MAX_LENGTH", type := .int, accessFlags := 24, slot := 2, constantValue := 0 }, { name := "$assertionsDisabled", type := .boolean, accessFlags := 4120, slot := 3, constantValue := 0 }]
  methods := #[k19m0, k19m1, k19m2, k19m3]
  instanceTypes := #[]
  staticTypes := #[.int, .int, .int, .boolean]
  resolved := Array.replicate 635 none
  statics := none }

def pool20 : Array CpInfo := pool [(2, .class_ 4), (1, u "java/lang/Object"), (0, u "<init>"), (0, u "()V"), (17, .class_ 26), (1, u "jdk/internal/util/Preconditions"), (28, .class_ 56), (0, u "jdk/internal/util/Preconditions$4"), (57, .class_ 115), (0, u "jdk/internal/util/Preconditions$1"), (7, u "SIOOBE_FORMATTER"), (0, u "Ljava/util/function/BiFunction;"), (0, .class_ 126), (0, u "jdk/internal/util/Preconditions$2"), (3, u "AIOOBE_FORMATTER"), (0, .class_ 132), (0, u "jdk/internal/util/Preconditions$3"), (3, u "IOOBE_FORMATTER")] 57

def k20m0 : Method := { name := "<init>", desc := "()V", sig := { parameters := [], returnType := none }, accessFlags := 1, code := none }
/-- jdk/internal/util/Preconditions -/
def k20 : Class := { plain "jdk/internal/util/Preconditions" (some 0) with
  accessFlags := 33
  interfaces := #[]
  cf := some (fileOf pool20 24 #[.nestMembers #[55, 131, 125, 114]] #[{ accessFlags := 1, nameIndex := 5, descriptorIndex := 6, attributes := #[] }] 33 2 #[] #[{ accessFlags := 25, nameIndex := 123, descriptorIndex := 124, attributes := #[] }, { accessFlags := 25, nameIndex := 130, descriptorIndex := 124, attributes := #[] }, { accessFlags := 25, nameIndex := 136, descriptorIndex := 124, attributes := #[] }])
  fields := #[{ name := "SIOOBE_FORMATTER", type := (.object "java/util/function/BiFunction"), accessFlags := 25, slot := 0, constantValue := 0 }, { name := "AIOOBE_FORMATTER", type := (.object "java/util/function/BiFunction"), accessFlags := 25, slot := 1, constantValue := 0 }, { name := "IOOBE_FORMATTER", type := (.object "java/util/function/BiFunction"), accessFlags := 25, slot := 2, constantValue := 0 }]
  methods := #[k20m0]
  instanceTypes := #[]
  staticTypes := #[(.object "java/util/function/BiFunction"), (.object "java/util/function/BiFunction"), (.object "java/util/function/BiFunction")]
  resolved := Array.replicate 194 none
  statics := some 2 }

def pool21 : Array CpInfo := pool [(9, u "<init>"), (6, .class_ 18), (1, u "java/lang/Object"), (0, u "()V"), (1, .class_ 23), (1, u "jdk/internal/util/ArraysSupport"), (0, u "LOG2_ARRAY_LONG_INDEX_SCALE"), (0, u "I"), (2, u "U"), (0, u "Ljdk/internal/misc/Unsafe;"), (8, u "BIG_ENDIAN"), (0, u "Z"), (8, u "LOG2_BYTE_BIT_SIZE"), (4, u "LOG2_ARRAY_INT_INDEX_SCALE"), (54, u "JLA"), (0, u "Ljdk/internal/access/JavaLangAccess;"), (11, u "LOG2_ARRAY_BOOLEAN_INDEX_SCALE"), (9, u "LOG2_ARRAY_BYTE_INDEX_SCALE"), (5, u "LOG2_ARRAY_CHAR_INDEX_SCALE"), (5, u "LOG2_ARRAY_SHORT_INDEX_SCALE"), (18, u "LOG2_ARRAY_FLOAT_INDEX_SCALE"), (24, u "LOG2_ARRAY_DOUBLE_INDEX_SCALE"), (89, u "T_BOOLEAN"), (2, u "T_CHAR"), (1, u "T_FLOAT"), (1, u "T_DOUBLE"), (1, u "T_BYTE"), (1, u "T_SHORT"), (1, u "T_INT"), (1, u "T_LONG"), (1, u "SOFT_MAX_ARRAY_LENGTH")] 83

def k21m0 : Method := { name := "<init>", desc := "()V", sig := { parameters := [], returnType := none }, accessFlags := 2, code := none }
/-- jdk/internal/util/ArraysSupport -/
def k21 : Class := { plain "jdk/internal/util/ArraysSupport" (some 0) with
  accessFlags := 33
  interfaces := #[]
  cf := some (fileOf pool21 21 #[] #[{ accessFlags := 2, nameIndex := 9, descriptorIndex := 19, attributes := #[] }] 33 16 #[] #[{ accessFlags := 24, nameIndex := 28, descriptorIndex := 29, attributes := #[] }, { accessFlags := 26, nameIndex := 38, descriptorIndex := 39, attributes := #[] }, { accessFlags := 25, nameIndex := 121, descriptorIndex := 25, attributes := #[] }, { accessFlags := 25, nameIndex := 131, descriptorIndex := 25, attributes := #[] }, { accessFlags := 25, nameIndex := 137, descriptorIndex := 25, attributes := #[] }, { accessFlags := 25, nameIndex := 143, descriptorIndex := 25, attributes := #[] }, { accessFlags := 25, nameIndex := 53, descriptorIndex := 25, attributes := #[] }, { accessFlags := 25, nameIndex := 24, descriptorIndex := 25, attributes := #[] }, { accessFlags := 25, nameIndex := 162, descriptorIndex := 25, attributes := #[] }, { accessFlags := 25, nameIndex := 187, descriptorIndex := 25, attributes := #[] }, { accessFlags := 26, nameIndex := 48, descriptorIndex := 25, attributes := #[] }, { accessFlags := 25, nameIndex := 277, descriptorIndex := 25, attributes := #[] }, { accessFlags := 25, nameIndex := 280, descriptorIndex := 25, attributes := #[] }, { accessFlags := 25, nameIndex := 282, descriptorIndex := 25, attributes := #[] }, { accessFlags := 25, nameIndex := 284, descriptorIndex := 25, attributes := #[] }, { accessFlags := 25, nameIndex := 286, descriptorIndex := 25, attributes := #[] }, { accessFlags := 25, nameIndex := 288, descriptorIndex := 25, attributes := #[] }, { accessFlags := 25, nameIndex := 290, descriptorIndex := 25, attributes := #[] }, { accessFlags := 25, nameIndex := 292, descriptorIndex := 25, attributes := #[] }, { accessFlags := 26, nameIndex := 108, descriptorIndex := 109, attributes := #[] }, { accessFlags := 25, nameIndex := 294, descriptorIndex := 25, attributes := #[] }])
  fields := #[{ name := "U", type := (.object "jdk/internal/misc/Unsafe"), accessFlags := 24, slot := 0, constantValue := 0 }, { name := "BIG_ENDIAN", type := .boolean, accessFlags := 26, slot := 1, constantValue := 0 }, { name := "LOG2_ARRAY_BOOLEAN_INDEX_SCALE", type := .int, accessFlags := 25, slot := 2, constantValue := 0 }, { name := "LOG2_ARRAY_BYTE_INDEX_SCALE", type := .int, accessFlags := 25, slot := 3, constantValue := 0 }, { name := "LOG2_ARRAY_CHAR_INDEX_SCALE", type := .int, accessFlags := 25, slot := 4, constantValue := 0 }, { name := "LOG2_ARRAY_SHORT_INDEX_SCALE", type := .int, accessFlags := 25, slot := 5, constantValue := 0 }, { name := "LOG2_ARRAY_INT_INDEX_SCALE", type := .int, accessFlags := 25, slot := 6, constantValue := 0 }, { name := "LOG2_ARRAY_LONG_INDEX_SCALE", type := .int, accessFlags := 25, slot := 7, constantValue := 0 }, { name := "LOG2_ARRAY_FLOAT_INDEX_SCALE", type := .int, accessFlags := 25, slot := 8, constantValue := 0 }, { name := "LOG2_ARRAY_DOUBLE_INDEX_SCALE", type := .int, accessFlags := 25, slot := 9, constantValue := 0 }, { name := "LOG2_BYTE_BIT_SIZE", type := .int, accessFlags := 26, slot := 10, constantValue := 0 }, { name := "T_BOOLEAN", type := .int, accessFlags := 25, slot := 11, constantValue := 0 }, { name := "T_CHAR", type := .int, accessFlags := 25, slot := 12, constantValue := 0 }, { name := "T_FLOAT", type := .int, accessFlags := 25, slot := 13, constantValue := 0 }, { name := "T_DOUBLE", type := .int, accessFlags := 25, slot := 14, constantValue := 0 }, { name := "T_BYTE", type := .int, accessFlags := 25, slot := 15, constantValue := 0 }, { name := "T_SHORT", type := .int, accessFlags := 25, slot := 16, constantValue := 0 }, { name := "T_INT", type := .int, accessFlags := 25, slot := 17, constantValue := 0 }, { name := "T_LONG", type := .int, accessFlags := 25, slot := 18, constantValue := 0 }, { name := "JLA", type := (.object "jdk/internal/access/JavaLangAccess"), accessFlags := 26, slot := 19, constantValue := 0 }, { name := "SOFT_MAX_ARRAY_LENGTH", type := .int, accessFlags := 25, slot := 20, constantValue := 0 }]
  methods := #[k21m0]
  instanceTypes := #[]
  staticTypes := #[(.object "jdk/internal/misc/Unsafe"), .boolean, .int, .int, .int, .int, .int, .int, .int, .int, .int, .int, .int, .int, .int, .int, .int, .int, .int, (.object "jdk/internal/access/JavaLangAccess"), .int]
  resolved := Array.replicate 378 none
  statics := none }

/-- the primitive byte -/
def k22 : Class := { plain "byte" none with kind := .primitive 'B', accessFlags := 0x411 }
/-- [B -/
def k23 : Class := { plain "[B" (some 0) with kind := .array 22 .byte, interfaces := #[16, 2], accessFlags := 1041 }

/-- the primitive char -/
def k24 : Class := { plain "char" none with kind := .primitive 'C', accessFlags := 0x411 }
/-- [C -/
def k25 : Class := { plain "[C" (some 0) with kind := .array 24 .char, interfaces := #[16, 2], accessFlags := 1041 }

/-- the primitive int -/
def k26 : Class := { plain "int" none with kind := .primitive 'I', accessFlags := 0x411 }
/-- [I -/
def k27 : Class := { plain "[I" (some 0) with kind := .array 26 .int, interfaces := #[16, 2], accessFlags := 1041 }

/-- [Ljava/lang/Object; -/
def k28 : Class := { plain "[Ljava/lang/Object;" (some 0) with kind := .array 0 (.object "java/lang/Object"), interfaces := #[16, 2], accessFlags := 1041 }

def heap : Heap := #[{ cls := 7, slots := #[.long 0, .int 1, .null, .int 0, .null, .int 0, .int 0], vm := .statics 7 },
  { cls := 17, slots := #[.long 0, .int 0, .ref 3, .ref 4], vm := .statics 17 },
  { cls := 20, slots := #[.null, .null, .null], vm := .statics 20 },
  { cls := 28, slots := #[], vm := .none },
  { cls := 28, slots := #[], vm := .none }]
def classes : Array Class := #[k0, k1, k2, k3, k4, k5, k6, k7, k8, k9, k10, k11, k12, k13, k14, k15, k16, k17, k18, k19, k20, k21, k22, k23, k24, k25, k26, k27, k28]
def interned : List (Array UInt16 × Addr) := []
def slotsUsed : Nat := 14
def theMethod : MethodId := ⟨1, 3⟩
def args0 : Array Value := #[.int 5, .int 5, .int 5, .int 5, .int 5]
def aboutOver (below : List Frame) : State where
  vm := { classes := classes, interned := interned.toArray }
  heap := heap
  slotsUsed := slotsUsed
  threads := #[{ frames := .invoking theMethod args0 :: below }]
def below0 : List Frame := [.native { method := ⟨0, 0⟩, args := #[] }]
def about1 : State := aboutOver below0
def p0 : Program := .bare "" "" ""
def e0 : Env := launch0.env 0 0 0
theorem w_frames : about1.frames = Frame.invoking theMethod args0 :: below0 := rfl
set_option maxRecDepth 65536 in
theorem w_args : argsFit about1.vm theMethod args0 = true := by decide +kernel
set_option maxRecDepth 65536 in
theorem w_heap : heapFits about1 = true := by decide +kernel
set_option maxRecDepth 65536 in
theorem w_runnable : about1.curStatus? = some .runnable := by decide +kernel
set_option maxRecDepth 65536 in
theorem w_alone : about1.alone = true := by decide +kernel
set_option maxRecDepth 65536 in
theorem w_named : about1.methodNamed? x = some theMethod := by decide +kernel
set_option maxRecDepth 65536 in
theorem w_hears : about1.hears theMethod below0 = true := by decide +kernel
set_option maxRecDepth 65536 in
theorem w_ripe : about1.ripe theMethod args0 below0 = true := by decide +kernel
theorem w_running : about1.status = .running := rfl
set_option maxRecDepth 65536 in
theorem w_room : about1.hasRoom e0.platform room_1 = true :=
  launch0.hasRoom_least _ room_1 (by decide +kernel) (by decide +kernel) (by decide +kernel) (by decide +kernel) (by decide +kernel) (by decide +kernel)
theorem allAtoms_all (ts : List Jvm.Cond) (a : Array Jvm.Value) (st : Jvm.State) : (allAtoms ts).before a st = ts.all (fun c => c.before a st) := by
  induction ts with
  | nil => rfl
  | cons c t ih =>
    show (Jvm.Cond.and c (allAtoms t)).before a st = _
    rw [Jvm.Cond.before_and, ih, List.all_cons]
def words1 : List Jvm.Cond := Jvm.Cond.code x code maxLocals ret :: tables_1
/-- a 'code' word, met by the world's own term for the bytes: nothing is compared byte by byte -/
theorem code_word {y : MethodName} {bytes : ByteArray} {mx : Nat} {rt : Option FieldType} {a : Array Value} {s : State} {m : MethodId} {meth : Method} {c : Code} (h1 : s.methodNamed? y = some m) (h2 : s.vm.method? m = some meth) (h3 : meth.code = some c) (h4 : c.code = bytes)
    (h5 : (c.maxLocals == mx && c.exceptionTable.isEmpty && decide (c.maxStack ≤ mostOperands) && decide (meth.sig.returnType = rt) && !meth.locks && decide (parseMethodDescriptor y.desc = some meth.sig)) = true) : (Jvm.Cond.code y bytes mx rt).before a s = true := by
  simp only [Bool.and_eq_true, beq_iff_eq, Bool.not_eq_true', decide_eq_true_eq] at h5
  obtain ⟨⟨⟨⟨⟨g1, g2⟩, g3⟩, g4⟩, g5⟩, g6⟩ := h5
  simp [Cond.before, Cond.holds, Cond.value, h1, h2, h3, h4, g1, g2, g3, g4, g5, g6]
def isCode : Jvm.Cond → Bool
  | .code _ _ _ _ => true
  | _ => false
theorem all_split {L : List Jvm.Cond} {P : Jvm.Cond → Bool} (h1 : L.all (fun c => isCode c || P c) = true) (h2 : ∀ c ∈ L.filter isCode, P c = true) : L.all P = true := by
  refine List.all_eq_true.mpr fun c hc => ?_
  have h := List.all_eq_true.mp h1 c hc
  rcases Bool.eq_false_or_eq_true (isCode c) with hi | hi
  · exact h2 c (List.mem_filter.mpr ⟨hc, hi⟩)
  · simpa [hi] using h
set_option maxRecDepth 65536 in
theorem w_c0 : (Jvm.Cond.code x code maxLocals ret).before args0 about1 = true := code_word (m := ⟨1, 3⟩) (meth := k1m3) (c := k1c3) (by decide +kernel) rfl rfl rfl (by decide +kernel)
set_option maxRecDepth 65536 in
theorem w_c1 : (Jvm.Cond.code ({ cls := "com/example/feuillet/feuillet/input/ElementIsPinLaw", name := "str", desc := "(ICC)Ljava/lang/String;" } : Jvm.MethodName) method_2_code (3 : Nat) (Option.some (Jvm.ClassFile.FieldType.object "java/lang/String"))).before args0 about1 = true := code_word (m := ⟨1, 1⟩) (meth := k1m1) (c := k1c1) (by decide +kernel) rfl rfl rfl (by decide +kernel)
set_option maxRecDepth 65536 in
theorem w_c2 : (Jvm.Cond.code ({ cls := "java/lang/String", name := "<init>", desc := "([C)V" } : Jvm.MethodName) jdk_42_method_3_code (2 : Nat) (Option.none : Option Jvm.ClassFile.FieldType)).before args0 about1 = true := code_word (m := ⟨7, 1⟩) (meth := k7m1) (c := k7c1) (by decide +kernel) rfl rfl rfl (by decide +kernel)
set_option maxRecDepth 65536 in
theorem w_c3 : (Jvm.Cond.code ({ cls := "java/lang/String", name := "<init>", desc := "([CIILjava/lang/Void;)V" } : Jvm.MethodName) jdk_42_method_149_code (6 : Nat) (Option.none : Option Jvm.ClassFile.FieldType)).before args0 about1 = true := code_word (m := ⟨7, 4⟩) (meth := k7m4) (c := k7c4) (by decide +kernel) rfl rfl rfl (by decide +kernel)
set_option maxRecDepth 65536 in
theorem w_c4 : (Jvm.Cond.code ({ cls := "java/lang/Object", name := "<init>", desc := "()V" } : Jvm.MethodName) object_method_1_code (1 : Nat) (Option.none : Option Jvm.ClassFile.FieldType)).before args0 about1 = true := code_word (m := ⟨0, 0⟩) (meth := k0m0) (c := k0c0) (by decide +kernel) rfl rfl rfl (by decide +kernel)
set_option maxRecDepth 65536 in
theorem w_c5 : (Jvm.Cond.code ({ cls := "com/example/feuillet/feuillet/input/Element", name := "<init>", desc := "(Ljava/lang/String;Ljava/lang/String;Ljava/util/Map;IIZ)V" } : Jvm.MethodName) prog_60_method_1_code (7 : Nat) (Option.none : Option Jvm.ClassFile.FieldType)).before args0 about1 = true := code_word (m := ⟨8, 0⟩) (meth := k8m0) (c := k8c0) (by decide +kernel) rfl rfl rfl (by decide +kernel)
set_option maxRecDepth 65536 in
theorem w_c6 : (Jvm.Cond.code ({ cls := "java/util/ArrayList", name := "<init>", desc := "()V" } : Jvm.MethodName) jdk_38_method_2_code (1 : Nat) (Option.none : Option Jvm.ClassFile.FieldType)).before args0 about1 = true := code_word (m := ⟨17, 0⟩) (meth := k17m0) (c := k17c0) (by decide +kernel) rfl rfl rfl (by decide +kernel)
set_option maxRecDepth 65536 in
theorem w_c7 : (Jvm.Cond.code ({ cls := "java/util/AbstractList", name := "<init>", desc := "()V" } : Jvm.MethodName) jdk_39_method_1_code (1 : Nat) (Option.none : Option Jvm.ClassFile.FieldType)).before args0 about1 = true := code_word (m := ⟨14, 0⟩) (meth := k14m0) (c := k14c0) (by decide +kernel) rfl rfl rfl (by decide +kernel)
set_option maxRecDepth 65536 in
theorem w_c8 : (Jvm.Cond.code ({ cls := "java/util/AbstractCollection", name := "<init>", desc := "()V" } : Jvm.MethodName) jdk_22_method_1_code (1 : Nat) (Option.none : Option Jvm.ClassFile.FieldType)).before args0 about1 = true := code_word (m := ⟨11, 0⟩) (meth := k11m0) (c := k11c0) (by decide +kernel) rfl rfl rfl (by decide +kernel)
set_option maxRecDepth 65536 in
theorem w_c9 : (Jvm.Cond.code ({ cls := "com/example/feuillet/feuillet/input/ElementIsPinLaw", name := "same", desc := "(ICCICC)Z" } : Jvm.MethodName) method_3_code (6 : Nat) (Option.some Jvm.ClassFile.FieldType.boolean)).before args0 about1 = true := code_word (m := ⟨1, 2⟩) (meth := k1m2) (c := k1c2) (by decide +kernel) rfl rfl rfl (by decide +kernel)
set_option maxRecDepth 65536 in
theorem w_c10 : (Jvm.Cond.code ({ cls := "com/example/feuillet/feuillet/input/Element", name := "is", desc := "(Ljava/lang/String;Ljava/lang/String;)Z" } : Jvm.MethodName) prog_60_method_5_code (3 : Nat) (Option.some Jvm.ClassFile.FieldType.boolean)).before args0 about1 = true := code_word (m := ⟨8, 1⟩) (meth := k8m1) (c := k8c1) (by decide +kernel) rfl rfl rfl (by decide +kernel)
set_option maxRecDepth 65536 in
theorem w_c11 : (Jvm.Cond.code ({ cls := "java/lang/String", name := "equals", desc := "(Ljava/lang/Object;)Z" } : Jvm.MethodName) jdk_42_method_66_code (3 : Nat) (Option.some Jvm.ClassFile.FieldType.boolean)).before args0 about1 = true := code_word (m := ⟨7, 2⟩) (meth := k7m2) (c := k7c2) (by decide +kernel) rfl rfl rfl (by decide +kernel)
set_option maxRecDepth 65536 in
theorem w_c12 : (Jvm.Cond.code ({ cls := "java/lang/StringLatin1", name := "equals", desc := "([B[B)Z" } : Jvm.MethodName) jdk_43_method_13_code (3 : Nat) (Option.some Jvm.ClassFile.FieldType.boolean)).before args0 about1 = true := code_word (m := ⟨18, 2⟩) (meth := k18m2) (c := k18c2) (by decide +kernel) rfl rfl rfl (by decide +kernel)
set_option maxRecDepth 65536 in
theorem w_c13 : (Jvm.Cond.code ({ cls := "java/lang/String", name := "valueOf", desc := "(C)Ljava/lang/String;" } : Jvm.MethodName) jdk_42_method_139_code (1 : Nat) (Option.some (Jvm.ClassFile.FieldType.object "java/lang/String"))).before args0 about1 = true := code_word (m := ⟨7, 3⟩) (meth := k7m3) (c := k7c3) (by decide +kernel) rfl rfl rfl (by decide +kernel)
set_option maxRecDepth 65536 in
theorem w_c14 : (Jvm.Cond.code ({ cls := "java/lang/StringLatin1", name := "canEncode", desc := "(C)Z" } : Jvm.MethodName) jdk_43_method_3_code (1 : Nat) (Option.some Jvm.ClassFile.FieldType.boolean)).before args0 about1 = true := code_word (m := ⟨18, 1⟩) (meth := k18m1) (c := k18c1) (by decide +kernel) rfl rfl rfl (by decide +kernel)
set_option maxRecDepth 65536 in
theorem w_c15 : (Jvm.Cond.code ({ cls := "java/lang/StringLatin1", name := "toBytes", desc := "(C)[B" } : Jvm.MethodName) jdk_43_method_46_code (1 : Nat) (Option.some (Jvm.ClassFile.FieldType.array Jvm.ClassFile.FieldType.byte))).before args0 about1 = true := code_word (m := ⟨18, 3⟩) (meth := k18m3) (c := k18c3) (by decide +kernel) rfl rfl rfl (by decide +kernel)
set_option maxRecDepth 65536 in
theorem w_c16 : (Jvm.Cond.code ({ cls := "java/lang/String", name := "<init>", desc := "([BB)V" } : Jvm.MethodName) jdk_42_method_151_code (3 : Nat) (Option.none : Option Jvm.ClassFile.FieldType)).before args0 about1 = true := code_word (m := ⟨7, 5⟩) (meth := k7m5) (c := k7c5) (by decide +kernel) rfl rfl rfl (by decide +kernel)
set_option maxRecDepth 65536 in
theorem w_c17 : (Jvm.Cond.code ({ cls := "java/lang/StringUTF16", name := "compress", desc := "([CII)[B" } : Jvm.MethodName) jdk_52_method_16_code (6 : Nat) (Option.some (Jvm.ClassFile.FieldType.array Jvm.ClassFile.FieldType.byte))).before args0 about1 = true := code_word (m := ⟨19, 2⟩) (meth := k19m2) (c := k19c2) (by decide +kernel) rfl rfl rfl (by decide +kernel)
set_option maxRecDepth 65536 in
theorem w_c18 : (Jvm.Cond.code ({ cls := "java/lang/StringUTF16", name := "compress", desc := "([CI[BII)I" } : Jvm.MethodName) jdk_52_method_21_code (7 : Nat) (Option.some Jvm.ClassFile.FieldType.int)).before args0 about1 = true := code_word (m := ⟨19, 3⟩) (meth := k19m3) (c := k19c3) (by decide +kernel) rfl rfl rfl (by decide +kernel)
set_option maxRecDepth 65536 in
theorem w_c19 : (Jvm.Cond.code ({ cls := "java/lang/StringUTF16", name := "coderFromArrayLen", desc := "([BI)B" } : Jvm.MethodName) jdk_52_method_15_code (2 : Nat) (Option.some Jvm.ClassFile.FieldType.byte)).before args0 about1 = true := code_word (m := ⟨19, 1⟩) (meth := k19m1) (c := k19c1) (by decide +kernel) rfl rfl rfl (by decide +kernel)
def codes1 : List Jvm.Cond := [Jvm.Cond.code x code maxLocals ret, Jvm.Cond.code ({ cls := "com/example/feuillet/feuillet/input/ElementIsPinLaw", name := "str", desc := "(ICC)Ljava/lang/String;" } : Jvm.MethodName) method_2_code (3 : Nat) (Option.some (Jvm.ClassFile.FieldType.object "java/lang/String")), Jvm.Cond.code ({ cls := "java/lang/String", name := "<init>", desc := "([C)V" } : Jvm.MethodName) jdk_42_method_3_code (2 : Nat) (Option.none : Option Jvm.ClassFile.FieldType), Jvm.Cond.code ({ cls := "java/lang/String", name := "<init>", desc := "([CIILjava/lang/Void;)V" } : Jvm.MethodName) jdk_42_method_149_code (6 : Nat) (Option.none : Option Jvm.ClassFile.FieldType), Jvm.Cond.code ({ cls := "java/lang/Object", name := "<init>", desc := "()V" } : Jvm.MethodName) object_method_1_code (1 : Nat) (Option.none : Option Jvm.ClassFile.FieldType), Jvm.Cond.code ({ cls := "com/example/feuillet/feuillet/input/Element", name := "<init>", desc := "(Ljava/lang/String;Ljava/lang/String;Ljava/util/Map;IIZ)V" } : Jvm.MethodName) prog_60_method_1_code (7 : Nat) (Option.none : Option Jvm.ClassFile.FieldType), Jvm.Cond.code ({ cls := "java/util/ArrayList", name := "<init>", desc := "()V" } : Jvm.MethodName) jdk_38_method_2_code (1 : Nat) (Option.none : Option Jvm.ClassFile.FieldType), Jvm.Cond.code ({ cls := "java/util/AbstractList", name := "<init>", desc := "()V" } : Jvm.MethodName) jdk_39_method_1_code (1 : Nat) (Option.none : Option Jvm.ClassFile.FieldType), Jvm.Cond.code ({ cls := "java/util/AbstractCollection", name := "<init>", desc := "()V" } : Jvm.MethodName) jdk_22_method_1_code (1 : Nat) (Option.none : Option Jvm.ClassFile.FieldType), Jvm.Cond.code ({ cls := "com/example/feuillet/feuillet/input/ElementIsPinLaw", name := "same", desc := "(ICCICC)Z" } : Jvm.MethodName) method_3_code (6 : Nat) (Option.some Jvm.ClassFile.FieldType.boolean), Jvm.Cond.code ({ cls := "com/example/feuillet/feuillet/input/Element", name := "is", desc := "(Ljava/lang/String;Ljava/lang/String;)Z" } : Jvm.MethodName) prog_60_method_5_code (3 : Nat) (Option.some Jvm.ClassFile.FieldType.boolean), Jvm.Cond.code ({ cls := "java/lang/String", name := "equals", desc := "(Ljava/lang/Object;)Z" } : Jvm.MethodName) jdk_42_method_66_code (3 : Nat) (Option.some Jvm.ClassFile.FieldType.boolean), Jvm.Cond.code ({ cls := "java/lang/StringLatin1", name := "equals", desc := "([B[B)Z" } : Jvm.MethodName) jdk_43_method_13_code (3 : Nat) (Option.some Jvm.ClassFile.FieldType.boolean), Jvm.Cond.code ({ cls := "java/lang/String", name := "valueOf", desc := "(C)Ljava/lang/String;" } : Jvm.MethodName) jdk_42_method_139_code (1 : Nat) (Option.some (Jvm.ClassFile.FieldType.object "java/lang/String")), Jvm.Cond.code ({ cls := "java/lang/StringLatin1", name := "canEncode", desc := "(C)Z" } : Jvm.MethodName) jdk_43_method_3_code (1 : Nat) (Option.some Jvm.ClassFile.FieldType.boolean), Jvm.Cond.code ({ cls := "java/lang/StringLatin1", name := "toBytes", desc := "(C)[B" } : Jvm.MethodName) jdk_43_method_46_code (1 : Nat) (Option.some (Jvm.ClassFile.FieldType.array Jvm.ClassFile.FieldType.byte)), Jvm.Cond.code ({ cls := "java/lang/String", name := "<init>", desc := "([BB)V" } : Jvm.MethodName) jdk_42_method_151_code (3 : Nat) (Option.none : Option Jvm.ClassFile.FieldType), Jvm.Cond.code ({ cls := "java/lang/StringUTF16", name := "compress", desc := "([CII)[B" } : Jvm.MethodName) jdk_52_method_16_code (6 : Nat) (Option.some (Jvm.ClassFile.FieldType.array Jvm.ClassFile.FieldType.byte)), Jvm.Cond.code ({ cls := "java/lang/StringUTF16", name := "compress", desc := "([CI[BII)I" } : Jvm.MethodName) jdk_52_method_21_code (7 : Nat) (Option.some Jvm.ClassFile.FieldType.int), Jvm.Cond.code ({ cls := "java/lang/StringUTF16", name := "coderFromArrayLen", desc := "([BI)B" } : Jvm.MethodName) jdk_52_method_15_code (2 : Nat) (Option.some Jvm.ClassFile.FieldType.byte)]
set_option maxRecDepth 65536 in
theorem codes_eq : words1.filter isCode = codes1 := rfl
theorem w_codes : ∀ c ∈ words1.filter isCode, c.before args0 about1 = true := by
  rw [codes_eq]
  intro c hc
  simp only [codes1, List.mem_cons, List.not_mem_nil, or_false] at hc
  rcases hc with rfl | rfl | rfl | rfl | rfl | rfl | rfl | rfl | rfl | rfl | rfl | rfl | rfl | rfl | rfl | rfl | rfl | rfl | rfl | rfl
  · exact w_c0
  · exact w_c1
  · exact w_c2
  · exact w_c3
  · exact w_c4
  · exact w_c5
  · exact w_c6
  · exact w_c7
  · exact w_c8
  · exact w_c9
  · exact w_c10
  · exact w_c11
  · exact w_c12
  · exact w_c13
  · exact w_c14
  · exact w_c15
  · exact w_c16
  · exact w_c17
  · exact w_c18
  · exact w_c19
set_option maxRecDepth 65536 in
theorem w_t1 : (words1.take 24).all (fun c => isCode c || c.before args0 about1) = true := by decide +kernel
set_option maxRecDepth 65536 in
theorem w_t2 : ((words1.drop 24).take 24).all (fun c => isCode c || c.before args0 about1) = true := by decide +kernel
set_option maxRecDepth 65536 in
theorem w_t3 : (((words1.drop 24).drop 24).take 24).all (fun c => isCode c || c.before args0 about1) = true := by decide +kernel
set_option maxRecDepth 65536 in
theorem w_t4 : ((((words1.drop 24).drop 24).drop 24).take 24).all (fun c => isCode c || c.before args0 about1) = true := by decide +kernel
set_option maxRecDepth 65536 in
theorem w_t5 : ((((words1.drop 24).drop 24).drop 24).drop 24).all (fun c => isCode c || c.before args0 about1) = true := by decide +kernel
theorem w_tables : (allAtoms (Jvm.Cond.code x code maxLocals ret :: tables_1)).before args0 about1 = true := by
  rw [allAtoms_all]
  show words1.all (fun c => c.before args0 about1) = true
  refine all_split ?_ w_codes
  rw [← List.take_append_drop 24 words1, List.all_append, w_t1, ← List.take_append_drop 24 (words1.drop 24), List.all_append, w_t2, ← List.take_append_drop 24 ((words1.drop 24).drop 24), List.all_append, w_t3, ← List.take_append_drop 24 (((words1.drop 24).drop 24).drop 24), List.all_append, w_t4, w_t5]
  rfl
set_option maxRecDepth 65536 in
theorem w_rest : rest_1_c.before args0 about1 = true := by decide +kernel
set_option maxRecDepth 65536 in
theorem w_case : (Jvm.Cond.and given_1 narrow_1).before args0 about1 = true := by decide +kernel
set_option maxRecDepth 65536 in
theorem w_consts : constsHeld consts_1 about1 := Jvm.Lit.constsHeldB_iff.mp (by decide +kernel)
theorem w_applies : (headSpec (Jvm.Cond.code x code maxLocals ret :: tables_1) room_1).applies x e0.platform about1 = true :=
  (Spec.applies_iff w_frames).mpr ⟨w_running, w_runnable, w_alone, w_named, w_hears, w_ripe, w_room, w_tables⟩
theorem atStart : AtStart classFile x code maxLocals ret World_1 tables_1 room_1 Calls_1 rest_1 Pre_1 launch0 p0 e0 about1 theMethod args0 below0 :=
  ⟨lists_1, trivial, launch0.admits_env _ _ _, launch0.least_env, fairChoices_fair.cas, fairChoices_fair.clock, w_frames, w_args, w_heap, w_applies, ⟨w_consts, trivial⟩, w_rest, w_case⟩
end start1
theorem witness_1 : WitnessClaimed_1 := ⟨start1.p0, start1.e0, start1.about1, start1.theMethod, start1.args0, start1.below0, start1.atStart⟩
end Jvm.Pilot.@@N@@
