import JvmDerived
import JvmDerived.Pilot.@@N@@Statement
import JvmDerived.Pilot.@@N@@Code
set_option linter.unusedVariables false
set_option linter.unusedSimpArgs false
namespace Jvm.RoadKit
open Sem ClassFile Op Lib Jvm.Stand Jvm.Free Jvm.LawKit
section New
variable {p : Program} {l : Launch} {e : Env} {R : Room} {s : State} {m : MethodId} {args : Array Value} {below : List Frame} {meth : Method} {c : Code} {T : State} {locs : List Loc} {cells slots : Nat}
theorem retI (X : Stand p l e R s m args below meth c T locs cells slots) (hx : p.tables.exec = Jvm.exec) {pc : Nat} {Ls : Array Slot} {z : Int32} {rest : List Value} (hret : meth.sig.returnType = some .int) (hd : decode c.code pc = .ok (.ireturn, 1)) {fs : List Frame}
    (hl : ∀ (f : JFrame) (acts : List Action), f.method = m → f.locked = none → f.entered = [] → (doReturn e (T.setTop f) acts (some (.int z))).1 = T.setFrames fs) : Steps p.tables e below (T.setTop (mkF m pc Ls (.int z :: rest))) (T.setFrames fs) := by
  have hm' : T.vm.method? m = some meth := X.method'
  have hn : narrow .int (.int z) = .int z := rfl
  show Steps p.tables e below (T.setTop { method := m, pc := pc, locals := Ls, stack := _ :: rest, locked := none }) _
  jvm_step X.here [X.here.top, hx, hd, hm', hret, hn]
  first | (intro acts; rw [hl _ acts rfl rfl rfl]) | rw [hl _ _ rfl rfl rfl]
  exact Steps.refl _
end New
end Jvm.RoadKit
namespace Jvm.Pilot.@@N@@
open Jvm Jvm.ClassFile Sem Op Lib Jvm.Free Jvm.Stand Jvm.LawKit Jvm.RoadKit Bundle Jvm.Pilot.@@N@@.Jvm.D
theorem own_keep_ext {h h' : Heap} (K : Keep h h' []) : Ext h h' := ⟨K.1, fun a c q => K.2.1 a c q nin0⟩
theorem own_sta_keep {Z : State} {h h' : Heap} {C n d K : String} {a : Addr} {v : Value} (F : Sta Z h C n d v) (Kp : Keep h h' [a]) (E : Exa Z h a K) : Sta Z h' C n d v := by
  obtain ⟨cf, i, k, f, st, cell, h1, h2, h3, h4, h5, h6, h7⟩ := F
  obtain ⟨cell', k', g1, -, -, g4, -⟩ := E
  have ne : st ≠ a := by
    intro q
    subst q
    rw [h5] at g1
    cases g1
    rw [h6] at g4
    cases g4
  exact ⟨cf, i, k, f, st, cell, h1, h2, h3, h4, Kp.2.1 st cell h5 (ninS ne nin0), h6, h7⟩
theorem d1_0 : decode prog_63_method_15_code 0 = .ok (.ldc2_w 102, 3) := by decide +kernel
theorem d1_3 : decode prog_63_method_15_code 3 = .ok (.lload_n 0, 1) := by decide +kernel
theorem d1_4 : decode prog_63_method_15_code 4 = .ok (.ladd, 1) := by decide +kernel
theorem d1_5 : decode prog_63_method_15_code 5 = .ok (.ldc2_w 104, 3) := by decide +kernel
theorem d1_8 : decode prog_63_method_15_code 8 = .ok (.ladd, 1) := by decide +kernel
theorem d1_9 : decode prog_63_method_15_code 9 = .ok (.ldc2_w 106, 3) := by decide +kernel
theorem d1_12 : decode prog_63_method_15_code 12 = .ok (.ldiv, 1) := by decide +kernel
theorem d1_13 : decode prog_63_method_15_code 13 = .ok (.ldc2_w 106, 3) := by decide +kernel
theorem d1_16 : decode prog_63_method_15_code 16 = .ok (.lmul, 1) := by decide +kernel
theorem d1_17 : decode prog_63_method_15_code 17 = .ok (.lreturn, 1) := by decide +kernel
theorem pn0 : plainName "com/example/feuillet/feuillet/input/Memory" = true := by first | (simp [plainName, overriddenIn]; done) | decide +kernel
theorem ef_rm_array (m : MethodId) (xa : Int64) : entryFrame m #[(.long xa)] 2 = mkF m 0 #[.val (.long xa), .second] [] := by first | (simp [entryFrame, mkF, argsToLocals, Value.category]; done) | rfl
def Q_rm_array (Z : State) (xa : Int64) (h0 : Heap) (n0 : Nat) (v : Option Value) (h : Heap) (L : List Loc) : Prop := v = some (.long (((((16 : Int64) + xa) + (7 : Int64)) / (8 : Int64)) * (8 : Int64))) ∧ Fr n0 L ∧ h = h0
set_option maxRecDepth 65536 in
set_option maxHeartbeats 40000000 in
theorem rm_array (l : Launch) (Z : State) (a0 : Array Value) (hw : ∀ d ∈ tables_1, d.before a0 Z = true) (ws : List Jvm.Cond) (xa : Int64) (h0 : Heap) (n0 : Nat) (Z0 : n0 ≤ h0.size) :
    MetFree l (⟨"com/example/feuillet/feuillet/input/Memory", "array", "(J)J"⟩ : MethodName) (head1 (Jvm.Cond.code (⟨"com/example/feuillet/feuillet/input/Memory", "array", "(J)J"⟩ : MethodName) prog_63_method_15_code 2 (some .long) :: ws) ({ frames := 0, cells := 0, slots := 0, locals := 0 } : Room)) (fun a U => a = #[(.long xa)] ∧ Z.Warmed39 U.vm ∧ U.heap = h0) (fun _ _ _ _ _ => True) (fun _ U o U' => ∃ v L, o = .returned v ∧ Q_rm_array Z xa h0 n0 v U'.heap L ∧ FrameEnd U o U' L ({ frames := 0, cells := 0, slots := 0, locals := 0 } : Room).cells ({ frames := 0, cells := 0, slots := 0, locals := 0 } : Room).slots) := by
  refine MetFree.of_bodySF (plainFor_of_name pn0) hisR ?_
  intro p e s m args below meth c s₁ Bd hml0 hP hK
  obtain ⟨rfl, hZ, hh⟩ := hP
  have hx := Bd.exec
  have hby := Bd.bytes
  have hml : c.maxLocals = 2 := hml0
  have hown : s.vm.findClass "com/example/feuillet/feuillet/input/Memory" = some m.cls := findClass_of_methodNamed Bd.named
  have hnm := (name_of_methodNamed Bd.named Bd.method).1
  have X0 : Stand p l e ({ frames := 0, cells := 0, slots := 0, locals := 0 } : Room) s m #[(.long xa)] below meth c s₁ [] 0 0 := Stand.of_body Bd
  have e0 : s₁.heap = h0 := by rw [← hh, Bd.state]; rfl
  have N0 := Fr.nil n0
  have pre0 : ∀ t, Steps p.tables e below (s₁.setTop (mkF m 0 #[.val (.long xa), .second] [])) t → Steps p.tables e below (s₁.setTop (entryFrame m #[(.long xa)] 2)) t := fun t k => castTop (ef_rm_array m xa) k
  have pre1 : ∀ t, Steps p.tables e below (s₁.setTop (mkF m 17 #[.val (.long xa), .second] [(.long (((((16 : Int64) + xa) + (7 : Int64)) / (8 : Int64)) * (8 : Int64)))])) t → Steps p.tables e below (s₁.setTop (entryFrame m #[(.long xa)] 2)) t := by
    intro t k
    refine pre0 t ?_
    refine X0.ldc2Long hx hown (mvT hZ (hw _ (List.mem_of_getElem? (i := 5) rfl))) (g := (mkF m 0 #[.val (.long xa), .second] [])) rfl (hb hby d1_0) _ ?_
    show Steps p.tables e below (s₁.setTop (mkF m 3 #[.val (.long xa), .second] [(.long (16 : Int64))])) _
    refine XS.lloadN X0.here hx rfl (hb hby d1_3) rfl ?_
    show Steps p.tables e below (s₁.setTop (mkF m 4 #[.val (.long xa), .second] [(.long xa), (.long (16 : Int64))])) _
    refine XS.ladd X0.here hx rfl (hb hby d1_4) rfl ?_
    show Steps p.tables e below (s₁.setTop (mkF m 5 #[.val (.long xa), .second] [(.long ((16 : Int64) + xa))])) _
    refine X0.ldc2Long hx hown (mvT hZ (hw _ (List.mem_of_getElem? (i := 6) rfl))) (g := (mkF m 5 #[.val (.long xa), .second] [(.long ((16 : Int64) + xa))])) rfl (hb hby d1_5) _ ?_
    show Steps p.tables e below (s₁.setTop (mkF m 8 #[.val (.long xa), .second] [(.long (7 : Int64)), (.long ((16 : Int64) + xa))])) _
    refine XS.ladd X0.here hx rfl (hb hby d1_8) rfl ?_
    show Steps p.tables e below (s₁.setTop (mkF m 9 #[.val (.long xa), .second] [(.long (((16 : Int64) + xa) + (7 : Int64)))])) _
    refine X0.ldc2Long hx hown (mvT hZ (hw _ (List.mem_of_getElem? (i := 7) rfl))) (g := (mkF m 9 #[.val (.long xa), .second] [(.long (((16 : Int64) + xa) + (7 : Int64)))])) rfl (hb hby d1_9) _ ?_
    show Steps p.tables e below (s₁.setTop (mkF m 12 #[.val (.long xa), .second] [(.long (8 : Int64)), (.long (((16 : Int64) + xa) + (7 : Int64)))])) _
    refine XS.ldiv X0.here hx rfl (hb hby d1_12) rfl (by decide) ?_
    show Steps p.tables e below (s₁.setTop (mkF m 13 #[.val (.long xa), .second] [(.long ((((16 : Int64) + xa) + (7 : Int64)) / (8 : Int64)))])) _
    refine X0.ldc2Long hx hown (mvT hZ (hw _ (List.mem_of_getElem? (i := 7) rfl))) (g := (mkF m 13 #[.val (.long xa), .second] [(.long ((((16 : Int64) + xa) + (7 : Int64)) / (8 : Int64)))])) rfl (hb hby d1_13) _ ?_
    show Steps p.tables e below (s₁.setTop (mkF m 16 #[.val (.long xa), .second] [(.long (8 : Int64)), (.long ((((16 : Int64) + xa) + (7 : Int64)) / (8 : Int64)))])) _
    refine XS.lmul X0.here hx rfl (hb hby d1_16) rfl ?_
    show Steps p.tables e below (s₁.setTop (mkF m 17 #[.val (.long xa), .second] [(.long (((((16 : Int64) + xa) + (7 : Int64)) / (8 : Int64)) * (8 : Int64)))])) _
    exact k
  obtain ⟨fs, hr, hrun, hended, hW, hsame⟩ := X0.leave (v := some (.long (((((16 : Int64) + xa) + (7 : Int64)) / (8 : Int64)) * (8 : Int64)))) (fun h => by rw [Bd.returns] at h; cases h)
  refine ⟨_, _, pre1 _ ?_, hrun, hended, _, _, rfl, ?_, ⟨_, rfl⟩, hW, hsame.mono (by decide) (by decide)⟩
  · exact retOut X0 hx Bd.returns rfl (Or.inr (Or.inl ⟨rfl, rfl, _, rfl⟩)) (hb hby d1_17) hr
  · show Q_rm_array Z xa h0 n0 _ s₁.heap _
    rw [e0]
    exact ⟨rfl, N0, rfl⟩
theorem own_law (xa bb rr need : Int64) (hbb : bb = (xa &&& (4611686018427387903 : Int64))) (hrr : rr = (((((16 : Int64) + bb) + (7 : Int64)) / (8 : Int64)) * (8 : Int64))) (hneed : need = ((16 : Int64) + bb)) :
    (rr - (rr / (8 : Int64)) * (8 : Int64)) = (0 : Int64) ∧ ¬ (rr < need) ∧ (rr - need) < (8 : Int64) := by
  have b1 : bb.toInt = xa.toInt % 4611686018427387904 := by rw [hbb]; exact c_maskL xa (4611686018427387903 : Int64) 62 (by decide) (by decide +kernel)
  clear hbb
  subst hrr hneed
  have : (16 : Int64).toInt = 16 := rfl
  have := rng64 bb
  have := c_ladd (16 : Int64) bb
  have := rng64 ((16 : Int64) + bb)
  have : (7 : Int64).toInt = 7 := rfl
  have := c_ladd ((16 : Int64) + bb) (7 : Int64)
  have := rng64 (((16 : Int64) + bb) + (7 : Int64))
  have : (8 : Int64).toInt = 8 := rfl
  have := c_ldiv (((16 : Int64) + bb) + (7 : Int64)) (8 : Int64) 8 rfl (by decide)
  have := rng64 ((((16 : Int64) + bb) + (7 : Int64)) / (8 : Int64))
  have : ((((((16 : Int64) + bb) + (7 : Int64)) / (8 : Int64)) * (8 : Int64)).toInt - (((((16 : Int64) + bb) + (7 : Int64)) / (8 : Int64)).toInt * 8)) % 18446744073709551616 = 0 := c_lmul ((((16 : Int64) + bb) + (7 : Int64)) / (8 : Int64)) (8 : Int64)
  have := rng64 (((((16 : Int64) + bb) + (7 : Int64)) / (8 : Int64)) * (8 : Int64))
  have := c_lrem (((((16 : Int64) + bb) + (7 : Int64)) / (8 : Int64)) * (8 : Int64)) (8 : Int64) 8 rfl
  have := rng64 ((((((16 : Int64) + bb) + (7 : Int64)) / (8 : Int64)) * (8 : Int64)) - (((((((16 : Int64) + bb) + (7 : Int64)) / (8 : Int64)) * (8 : Int64)) / (8 : Int64)) * (8 : Int64)))
  have := c_lsub (((((16 : Int64) + bb) + (7 : Int64)) / (8 : Int64)) * (8 : Int64)) ((16 : Int64) + bb)
  have := rng64 ((((((16 : Int64) + bb) + (7 : Int64)) / (8 : Int64)) * (8 : Int64)) - ((16 : Int64) + bb))
  have z0 : (0 : Int64).toInt = 0 := rfl
  simp only [Int32.lt_iff_toInt_lt, Int64.lt_iff_toInt_lt, ← Int32.toInt_inj, ← Int64.toInt_inj]
  omega
theorem pd0 : parseMethodDescriptor "(J)J" = some ⟨[.long], some .long⟩ := by decide +kernel
theorem pn1 : plainName "com/example/feuillet/feuillet/input/MemoryArrayPinLaw" = true := by first | (simp [plainName, overriddenIn]; done) | decide +kernel
theorem ef_rm0 (m : MethodId) (xa : Int64) : entryFrame m #[(.long xa)] maxLocals = mkF m 0 #[.val (.long xa), .second, .unset, .unset, .unset, .unset, .unset, .unset] [] := by first | (simp [entryFrame, mkF, argsToLocals, Value.category, maxLocals]; done) | rfl
def Q_rm0 (Z : State) (xa : Int64) (h0 : Heap) (n0 : Nat) (v : Option Value) (h : Heap) (L : List Loc) : Prop := v = some (.int (1 : Int32)) ∧ Fr n0 L
set_option maxRecDepth 65536 in
set_option maxHeartbeats 40000000 in
theorem rm0 (l : Launch) (Z : State) (a0 : Array Value) (hw : ∀ d ∈ tables_1, d.before a0 Z = true) (ws : List Jvm.Cond) (xa : Int64) (h0 : Heap) (n0 : Nat) (Z0 : n0 ≤ h0.size) :
    MetFree l x (head1 (Jvm.Cond.code x code maxLocals ret :: ws) room_1) (fun a U => a = #[(.long xa)] ∧ Z.Warmed39 U.vm ∧ U.heap = h0) (fun _ _ _ _ _ => True) (fun _ U o U' => ∃ v L, o = .returned v ∧ Q_rm0 Z xa h0 n0 v U'.heap L ∧ FrameEnd U o U' L room_1.cells room_1.slots) := by
  refine MetFree.of_bodySF (plainFor_of_name pn1) hisR ?_
  intro p e s m args below meth c s₁ Bd hml0 hP hK
  obtain ⟨rfl, hZ, hh⟩ := hP
  have hx := Bd.exec
  have hby := Bd.bytes
  have hml : c.maxLocals = 8 := hml0
  have hown : s.vm.findClass "com/example/feuillet/feuillet/input/MemoryArrayPinLaw" = some m.cls := findClass_of_methodNamed Bd.named
  have hnm := (name_of_methodNamed Bd.named Bd.method).1
  have X0 : Stand p l e room_1 s m #[(.long xa)] below meth c s₁ [] 0 0 := Stand.of_body Bd
  have e0 : s₁.heap = h0 := by rw [← hh, Bd.state]; rfl
  have N0 := Fr.nil n0
  have pre0 : ∀ t, Steps p.tables e below (s₁.setTop (mkF m 0 #[.val (.long xa), .second, .unset, .unset, .unset, .unset, .unset, .unset] [])) t → Steps p.tables e below (s₁.setTop (entryFrame m #[(.long xa)] maxLocals)) t := fun t k => castTop (ef_rm0 m xa) k
  have pre1 : ∀ t, Steps p.tables e below (s₁.setTop (mkF m 6 #[.val (.long xa), .second, .val (.long (xa &&& (4611686018427387903 : Int64))), .second, .unset, .unset, .unset, .unset] [])) t → Steps p.tables e below (s₁.setTop (entryFrame m #[(.long xa)] maxLocals)) t := by
    intro t k
    refine pre0 t ?_
    refine XS.lloadN X0.here hx rfl (hb hby at_0) rfl ?_
    show Steps p.tables e below (s₁.setTop (mkF m 1 #[.val (.long xa), .second, .unset, .unset, .unset, .unset, .unset, .unset] [(.long xa)])) _
    refine X0.ldc2Long hx hown (mvT hZ (hw _ (List.mem_of_getElem? (i := 0) rfl))) (g := (mkF m 1 #[.val (.long xa), .second, .unset, .unset, .unset, .unset, .unset, .unset] [(.long xa)])) rfl (hb hby at_1) _ ?_
    show Steps p.tables e below (s₁.setTop (mkF m 4 #[.val (.long xa), .second, .unset, .unset, .unset, .unset, .unset, .unset] [(.long (4611686018427387903 : Int64)), (.long xa)])) _
    refine XS.land X0.here hx rfl (hb hby at_4) rfl ?_
    show Steps p.tables e below (s₁.setTop (mkF m 5 #[.val (.long xa), .second, .unset, .unset, .unset, .unset, .unset, .unset] [(.long (xa &&& (4611686018427387903 : Int64)))])) _
    refine XS.lstoreN X0.here hx rfl (hb hby at_5) rfl (l' := #[.val (.long xa), .second, .val (.long (xa &&& (4611686018427387903 : Int64))), .second, .unset, .unset, .unset, .unset]) rfl ?_
    show Steps p.tables e below (s₁.setTop (mkF m 6 #[.val (.long xa), .second, .val (.long (xa &&& (4611686018427387903 : Int64))), .second, .unset, .unset, .unset, .unset] [])) _
    exact k
  obtain ⟨bb, hbb⟩ : ∃ z : Int64, z = (xa &&& (4611686018427387903 : Int64)) := ⟨_, rfl⟩
  rw [← hbb] at pre1
  have pre2 : ∀ t, Steps p.tables e below (s₁.setTop (mkF m 7 #[.val (.long xa), .second, .val (.long bb), .second, .unset, .unset, .unset, .unset] [(.long bb)])) t → Steps p.tables e below (s₁.setTop (entryFrame m #[(.long xa)] maxLocals)) t := by
    intro t k
    refine pre1 t ?_
    refine XS.lloadN X0.here hx rfl (hb hby at_6) rfl ?_
    show Steps p.tables e below (s₁.setTop (mkF m 7 #[.val (.long xa), .second, .val (.long bb), .second, .unset, .unset, .unset, .unset] [(.long bb)])) _
    exact k
  obtain ⟨_, _, ⟨T3, L3, k3, n3⟩, -, X3, ⟨Lc3, hQ3, l3, y3, z3⟩, st3⟩ := Jvm.LawKit.callS X0 hx (y := (⟨"com/example/feuillet/feuillet/input/Memory", "array", "(J)J"⟩ : MethodName)) hown (mvT hZ (hw _ (List.mem_of_getElem? (i := 1) rfl))) (mvT hZ (hw _ (List.mem_of_getElem? (i := 2) rfl))) (mvT hZ (hw _ (List.mem_of_getElem? (i := 3) rfl))) (mvT hZ (hw _ (List.mem_of_getElem? (i := 4) rfl))) (by decide) (backOf (W := 0) (rm_array l Z a0 hw [] bb h0 n0 Z0 ) hZ (hw _ (List.mem_of_getElem? (i := 4) rfl)) (hw _ (List.mem_of_getElem? (i := 3) rfl)) (by decide) (by decide)) (g := (mkF m 7 #[.val (.long xa), .second, .val (.long bb), .second, .unset, .unset, .unset, .unset] [(.long bb)])) rfl (by rw [hml]; rfl) (argsL := [(.long bb)]) (rest := []) (lenOf pd0 rfl) rfl (by show 2 * 0 + _ ≤ _; exact Nat.le_of_eq rfl) (hb hby at_7) (fun _ _ => ⟨rfl, e0, (by decide : 0 + 0 ≤ _), (by decide : 0 + 0 ≤ _)⟩)
  dsimp only [Pt.U, Pt.locs, Pt.cells, Pt.slots] at X3 l3 y3 z3 st3 hQ3
  subst l3 y3 z3
  obtain ⟨rfl, M3, e3⟩ := hQ3
  have N3 := Fr.app N0 M3
  have pre4 : ∀ t, Steps p.tables e below (T3.setTop (mkF m 10 #[.val (.long xa), .second, .val (.long bb), .second, .unset, .unset, .unset, .unset] [(.long (((((16 : Int64) + bb) + (7 : Int64)) / (8 : Int64)) * (8 : Int64)))])) t → Steps p.tables e below (s₁.setTop (entryFrame m #[(.long xa)] maxLocals)) t := fun t k => pre2 t (st3 t k)
  have pre5 : ∀ t, Steps p.tables e below (T3.setTop (mkF m 12 #[.val (.long xa), .second, .val (.long bb), .second, .val (.long (((((16 : Int64) + bb) + (7 : Int64)) / (8 : Int64)) * (8 : Int64))), .second, .unset, .unset] [])) t → Steps p.tables e below (s₁.setTop (entryFrame m #[(.long xa)] maxLocals)) t := by
    intro t k
    refine pre4 t ?_
    refine XS.lstore X3.here hx rfl (hb hby at_10) rfl (l' := #[.val (.long xa), .second, .val (.long bb), .second, .val (.long (((((16 : Int64) + bb) + (7 : Int64)) / (8 : Int64)) * (8 : Int64))), .second, .unset, .unset]) rfl ?_
    show Steps p.tables e below (T3.setTop (mkF m 12 #[.val (.long xa), .second, .val (.long bb), .second, .val (.long (((((16 : Int64) + bb) + (7 : Int64)) / (8 : Int64)) * (8 : Int64))), .second, .unset, .unset] [])) _
    exact k
  obtain ⟨rr, hrr⟩ : ∃ z : Int64, z = (((((16 : Int64) + bb) + (7 : Int64)) / (8 : Int64)) * (8 : Int64)) := ⟨_, rfl⟩
  rw [← hrr] at pre5
  have pre6 : ∀ t, Steps p.tables e below (T3.setTop (mkF m 19 #[.val (.long xa), .second, .val (.long bb), .second, .val (.long rr), .second, .val (.long ((16 : Int64) + bb)), .second] [])) t → Steps p.tables e below (s₁.setTop (entryFrame m #[(.long xa)] maxLocals)) t := by
    intro t k
    refine pre5 t ?_
    refine X3.ldc2Long hx hown (mvT hZ (hw _ (List.mem_of_getElem? (i := 8) rfl))) (g := (mkF m 12 #[.val (.long xa), .second, .val (.long bb), .second, .val (.long rr), .second, .unset, .unset] [])) rfl (hb hby at_12) _ ?_
    show Steps p.tables e below (T3.setTop (mkF m 15 #[.val (.long xa), .second, .val (.long bb), .second, .val (.long rr), .second, .unset, .unset] [(.long (16 : Int64))])) _
    refine XS.lloadN X3.here hx rfl (hb hby at_15) rfl ?_
    show Steps p.tables e below (T3.setTop (mkF m 16 #[.val (.long xa), .second, .val (.long bb), .second, .val (.long rr), .second, .unset, .unset] [(.long bb), (.long (16 : Int64))])) _
    refine XS.ladd X3.here hx rfl (hb hby at_16) rfl ?_
    show Steps p.tables e below (T3.setTop (mkF m 17 #[.val (.long xa), .second, .val (.long bb), .second, .val (.long rr), .second, .unset, .unset] [(.long ((16 : Int64) + bb))])) _
    refine XS.lstore X3.here hx rfl (hb hby at_17) rfl (l' := #[.val (.long xa), .second, .val (.long bb), .second, .val (.long rr), .second, .val (.long ((16 : Int64) + bb)), .second]) rfl ?_
    show Steps p.tables e below (T3.setTop (mkF m 19 #[.val (.long xa), .second, .val (.long bb), .second, .val (.long rr), .second, .val (.long ((16 : Int64) + bb)), .second] [])) _
    exact k
  obtain ⟨need, hneed⟩ : ∃ z : Int64, z = ((16 : Int64) + bb) := ⟨_, rfl⟩
  rw [← hneed] at pre6
  have pre7 : ∀ t, Steps p.tables e below (T3.setTop (mkF m 55 #[.val (.long xa), .second, .val (.long bb), .second, .val (.long rr), .second, .val (.long need), .second] [(.int (1 : Int32))])) t → Steps p.tables e below (s₁.setTop (entryFrame m #[(.long xa)] maxLocals)) t := by
    intro t k
    refine pre6 t ?_
    refine XS.lload X3.here hx rfl (hb hby at_19) rfl ?_
    show Steps p.tables e below (T3.setTop (mkF m 21 #[.val (.long xa), .second, .val (.long bb), .second, .val (.long rr), .second, .val (.long need), .second] [(.long rr)])) _
    refine X3.ldc2Long hx hown (mvT hZ (hw _ (List.mem_of_getElem? (i := 9) rfl))) (g := (mkF m 21 #[.val (.long xa), .second, .val (.long bb), .second, .val (.long rr), .second, .val (.long need), .second] [(.long rr)])) rfl (hb hby at_21) _ ?_
    show Steps p.tables e below (T3.setTop (mkF m 24 #[.val (.long xa), .second, .val (.long bb), .second, .val (.long rr), .second, .val (.long need), .second] [(.long (8 : Int64)), (.long rr)])) _
    refine XS.lrem X3.here hx rfl (hb hby at_24) rfl (by decide) ?_
    show Steps p.tables e below (T3.setTop (mkF m 25 #[.val (.long xa), .second, .val (.long bb), .second, .val (.long rr), .second, .val (.long need), .second] [(.long (rr - (rr / (8 : Int64)) * (8 : Int64)))])) _
    refine XS.lconst X3.here hx rfl (hb hby at_25) ?_
    show Steps p.tables e below (T3.setTop (mkF m 26 #[.val (.long xa), .second, .val (.long bb), .second, .val (.long rr), .second, .val (.long need), .second] [(.long (0 : Int64)), (.long (rr - (rr / (8 : Int64)) * (8 : Int64)))])) _
    refine XS.lcmp X3.here hx rfl (hb hby at_26) rfl ?_
    show Steps p.tables e below (T3.setTop (mkF m 27 #[.val (.long xa), .second, .val (.long bb), .second, .val (.long rr), .second, .val (.long need), .second] [(.int (lcmpW (rr - (rr / (8 : Int64)) * (8 : Int64)) (0 : Int64)))])) _
    refine XS.ifNo X3.here hx rfl (hb hby at_27) rfl ((if0 _ _).trans (teq ((lw_eq _ _).mpr (show (rr - (rr / (8 : Int64)) * (8 : Int64)) = (0 : Int64) from (own_law xa bb rr need hbb hrr hneed).1))).2) ?_
    show Steps p.tables e below (T3.setTop (mkF m 30 #[.val (.long xa), .second, .val (.long bb), .second, .val (.long rr), .second, .val (.long need), .second] [])) _
    refine XS.lload X3.here hx rfl (hb hby at_30) rfl ?_
    show Steps p.tables e below (T3.setTop (mkF m 32 #[.val (.long xa), .second, .val (.long bb), .second, .val (.long rr), .second, .val (.long need), .second] [(.long rr)])) _
    refine XS.lload X3.here hx rfl (hb hby at_32) rfl ?_
    show Steps p.tables e below (T3.setTop (mkF m 34 #[.val (.long xa), .second, .val (.long bb), .second, .val (.long rr), .second, .val (.long need), .second] [(.long need), (.long rr)])) _
    refine XS.lcmp X3.here hx rfl (hb hby at_34) rfl ?_
    show Steps p.tables e below (T3.setTop (mkF m 35 #[.val (.long xa), .second, .val (.long bb), .second, .val (.long rr), .second, .val (.long need), .second] [(.int (lcmpW rr need))])) _
    refine XS.ifNo X3.here hx rfl (hb hby at_35) rfl ((if0 _ _).trans (flt (mt (lw_lt _ _).mp (show ¬ (rr < need) from (own_law xa bb rr need hbb hrr hneed).2.1))).1) ?_
    show Steps p.tables e below (T3.setTop (mkF m 38 #[.val (.long xa), .second, .val (.long bb), .second, .val (.long rr), .second, .val (.long need), .second] [])) _
    refine XS.lload X3.here hx rfl (hb hby at_38) rfl ?_
    show Steps p.tables e below (T3.setTop (mkF m 40 #[.val (.long xa), .second, .val (.long bb), .second, .val (.long rr), .second, .val (.long need), .second] [(.long rr)])) _
    refine XS.lload X3.here hx rfl (hb hby at_40) rfl ?_
    show Steps p.tables e below (T3.setTop (mkF m 42 #[.val (.long xa), .second, .val (.long bb), .second, .val (.long rr), .second, .val (.long need), .second] [(.long need), (.long rr)])) _
    refine XS.lsub X3.here hx rfl (hb hby at_42) rfl ?_
    show Steps p.tables e below (T3.setTop (mkF m 43 #[.val (.long xa), .second, .val (.long bb), .second, .val (.long rr), .second, .val (.long need), .second] [(.long (rr - need))])) _
    refine X3.ldc2Long hx hown (mvT hZ (hw _ (List.mem_of_getElem? (i := 9) rfl))) (g := (mkF m 43 #[.val (.long xa), .second, .val (.long bb), .second, .val (.long rr), .second, .val (.long need), .second] [(.long (rr - need))])) rfl (hb hby at_43) _ ?_
    show Steps p.tables e below (T3.setTop (mkF m 46 #[.val (.long xa), .second, .val (.long bb), .second, .val (.long rr), .second, .val (.long need), .second] [(.long (8 : Int64)), (.long (rr - need))])) _
    refine XS.lcmp X3.here hx rfl (hb hby at_46) rfl ?_
    show Steps p.tables e below (T3.setTop (mkF m 47 #[.val (.long xa), .second, .val (.long bb), .second, .val (.long rr), .second, .val (.long need), .second] [(.int (lcmpW (rr - need) (8 : Int64)))])) _
    refine XS.ifNo X3.here hx rfl (hb hby at_47) rfl ((if0 _ _).trans (tlt ((lw_lt _ _).mpr (show (rr - need) < (8 : Int64) from (own_law xa bb rr need hbb hrr hneed).2.2))).2.1) ?_
    show Steps p.tables e below (T3.setTop (mkF m 50 #[.val (.long xa), .second, .val (.long bb), .second, .val (.long rr), .second, .val (.long need), .second] [])) _
    refine XS.iconst X3.here hx rfl (hb hby at_50) ?_
    show Steps p.tables e below (T3.setTop (mkF m 51 #[.val (.long xa), .second, .val (.long bb), .second, .val (.long rr), .second, .val (.long need), .second] [(.int (1 : Int32))])) _
    refine XS.goto X3.here hx rfl (pc0 := 51) (pc' := 55) rfl (hb hby at_51) (by decide) (by decide) ?_
    show Steps p.tables e below (T3.setTop (mkF m 55 #[.val (.long xa), .second, .val (.long bb), .second, .val (.long rr), .second, .val (.long need), .second] [(.int (1 : Int32))])) _
    exact k
  obtain ⟨fs, hr, hrun, hended, hW, hsame⟩ := X3.leave (v := some (.int (1 : Int32))) (fun h => by rw [Bd.returns] at h; cases h)
  refine ⟨_, _, pre7 _ ?_, hrun, hended, _, _, rfl, ?_, ⟨_, rfl⟩, hW, hsame.mono (by decide) (by decide)⟩
  · exact retN X3 hx (t := .boolean) Bd.returns (by simp) (hb hby at_55) hr
  · show Q_rm0 Z xa h0 n0 _ T3.heap _
    rw [e3]
    exact ⟨rfl, N3⟩
set_option maxRecDepth 65536 in
set_option maxHeartbeats 40000000 in
theorem comes_1 {Post : Tables → Env → Array Value → State → Outcome → State → Prop} (hpost : ∀ tb e args s v u, (limb_1_1.after args s (.returned v) u = true ∧ limb_1_2.after args s (.returned v) u = true ∧ True) → FrameEnd s (.returned v) u (Jvm.fieldLocs frame_1_writes args s ++ Jvm.arrayLocs frame_1_arrays args s ++ Jvm.staticLocs frame_1_statics s) 0 0 → Post tb e args s (.returned v) u) :
    ArmFor flags0 classFile x code maxLocals ret World_1 tables_1 room_1 Calls_1 rest_1 Pre_1 Post := by
  intro l hfl _ _ p e ha hc hk s m args below hf hA hF happ hP
  obtain ⟨hcalls, hrest, hpre⟩ := hP
  obtain ⟨-, -, -, hnamed, -, -, -, hat⟩ := (Spec.applies_iff hf).mp happ
  obtain ⟨hg, hn⟩ := and_e (Cond.before_iff.mp (show (Jvm.Cond.and given_1 narrow_1).before args s = true from hpre))
  obtain ⟨ga1, gb1⟩ := and_e hg
  obtain ⟨w0, rfl⟩ : ∃ w0 : Value, args = #[w0] := by
    have hs : args.size = 1 := by simpa [Cond.value, given_1] using ga1
    obtain ⟨L⟩ := args
    match L, hs with
    | [w0], _ => exact ⟨w0, rfl⟩
  have hw := fun d (hd : d ∈ tables_1) => atoms_spec (ws := Jvm.Cond.code x code maxLocals ret :: tables_1) hat d (List.mem_cons_of_mem _ hd)
  have hfit : Fit s := fun {y c} hc i hi => by
    obtain ⟨ha, rfl⟩ := Array.getElem?_eq_some_iff.mp hc
    have q := List.all_eq_true.mp ((Array.all_eq_true_iff_forall_mem.mp hF) _ (Array.getElem_mem ha)) i (List.mem_range.mpr hi)
    simpa [Array.getElem?_eq_getElem hi] using q
  obtain ⟨i0, ei0⟩ := isL_v gb1
  obtain rfl : w0 = (.long i0) := Option.some.inj ei0
  obtain ⟨n, o, h1, h2, h3, _, L, rfl, ⟨rfl, N⟩, hq⟩ := rm0 l s _ hw tables_1 i0 s.heap s.heap.size (Nat.le_refl _)  p e ha hc hk s m _ below hf ((Spec.applies_iff_loose hf).mp happ).1 ⟨rfl, State.Warmed39.refl s, rfl⟩ trivial
  refine ⟨n, _, h1, h2, h3, hpost _ _ _ _ _ _ ⟨Cond.after_iff.mpr rfl, Cond.after_iff.mpr (eq_i res_at (Term.int_eval (1)) rfl), trivial⟩ ⟨hq.1, hq.2.1, (hq.2.2.sift fun y hy => Or.inr (N y hy)).mono (by decide) (by decide)⟩⟩
theorem main_1_1 : Claimed_1_1 := comes_1 fun _ _ _ _ _ _ h hF => ⟨h.1, hF⟩
theorem main_1_2 : Claimed_1_2 := comes_1 fun _ _ _ _ _ _ h hF => ⟨h.2.1, hF⟩
end Jvm.Pilot.@@N@@
namespace Jvm.Pilot.@@N@@
open Jvm Jvm.ClassFile Sem Op Lib Jvm.Free Jvm.Stand Jvm.Pilot.@@N@@.Jvm.D
/-! MADE BY PROGRAM (witnessworld.py) out of the Statement's table words and the real class files: 9 classes; the members and pool entries that the words name. The judged class is class 1, her method 1. -/
namespace start1
open Jvm.ClassFile
def u (s : String) : CpInfo := .utf8 (stringToUtf16 s)
/-- a pool by its gaps: so many unusable entries, then the entry; so many at the end -/
def gap : Nat → List CpInfo → List CpInfo
  | 0, r => r
  | n + 1, r => .unusable :: gap n r
def poolList (es : List (Nat × CpInfo)) (last : Nat) : List CpInfo := es.foldr (fun e r => gap e.1 (e.2 :: r)) (gap last [])
def pool (es : List (Nat × CpInfo)) (last : Nat) : Array CpInfo := ⟨poolList es last⟩
def fileOf (pool : Array CpInfo) (this : Nat) (attrs : Array Attribute := #[]) (ms : Array MethodInfo := #[]) (fl : Nat := 33) (sup : Nat := 0) (ifs : Array Nat := #[]) (fds : Array FieldInfo := #[]) : ClassFile where
  minorVersion := 0
  majorVersion := 65
  constantPool := pool
  accessFlags := fl
  thisClass := this
  superClass := sup
  interfaces := ifs
  fields := fds
  methods := ms
  attributes := attrs
def plain (name : String) (sup : Option ClassId) : Class where
  name := name
  kind := .ordinary
  loader := none
  accessFlags := 33
  super := sup
  interfaces := #[]
  cf := none
  fields := #[]
  methods := #[]
  instanceTypes := #[]
  staticTypes := #[]
  resolved := #[]
  callSites := []
  init := .initialized
  statics := none
  mirror := none

def pool0 : Array CpInfo := pool [(5, u "<init>"), (0, u "()V"), (1, .class_ 10), (1, u "java/lang/Object")] 113

def k0m0 : Method := { name := "<init>", desc := "()V", sig := { parameters := [], returnType := none }, accessFlags := 1, code := none }
/-- java/lang/Object -/
def k0 : Class := { plain "java/lang/Object" none with
  accessFlags := 33
  interfaces := #[]
  cf := some (fileOf pool0 8 #[] #[{ accessFlags := 1, nameIndex := 5, descriptorIndex := 6, attributes := #[] }] 33 0 #[] #[])
  fields := #[]
  methods := #[k0m0]
  instanceTypes := #[]
  staticTypes := #[]
  resolved := Array.replicate 124 none
  statics := none }

def pool1 : Array CpInfo := pool [(2, .class_ 4), (1, u "java/lang/Object"), (0, u "<init>"), (0, u "()V"), (0, .long 4611686018427387903), (1, .methodref 10 11), (0, .class_ 12), (0, .nameAndType 13 14), (0, u "com/example/feuillet/feuillet/input/Memory"), (0, u "array"), (0, u "(J)J"), (0, .long 16), (1, .long 8), (1, .class_ 20), (0, u "com/example/feuillet/feuillet/input/MemoryArrayPinLaw"), (2, u "law"), (0, u "(J)Z")] 3

def k1m0 : Method := { name := "<init>", desc := "()V", sig := { parameters := [], returnType := none }, accessFlags := 2, code := none }
def k1c1 : Code := { maxStack := 4, maxLocals := 8, code := code, exceptionTable := #[], attributes := #[] }
def k1m1 : Method := { name := "law", desc := "(J)Z", sig := { parameters := [.long], returnType := some .boolean }, accessFlags := 9, code := some k1c1 }
/-- com/example/feuillet/feuillet/input/MemoryArrayPinLaw -/
def k1 : Class := { plain "com/example/feuillet/feuillet/input/MemoryArrayPinLaw" (some 0) with
  accessFlags := 49
  interfaces := #[]
  cf := some (fileOf pool1 19 #[] #[{ accessFlags := 2, nameIndex := 5, descriptorIndex := 6, attributes := #[] }, { accessFlags := 9, nameIndex := 23, descriptorIndex := 24, attributes := #[] }] 49 2 #[] #[])
  fields := #[]
  methods := #[k1m0, k1m1]
  instanceTypes := #[]
  staticTypes := #[]
  resolved := Array.replicate 28 none
  statics := none }

def pool2 : Array CpInfo := pool [(2, .class_ 4), (1, u "java/lang/Object"), (3, .class_ 10), (1, u "com/example/feuillet/feuillet/input/Memory"), (0, u "bytes"), (0, u "J"), (4, u "mebibytes"), (14, u "bound"), (2, u "JVM"), (0, u "Lcom/example/feuillet/feuillet/input/Memory;"), (7, u "held"), (5, .class_ 52), (1, u "com/example/feuillet/feuillet/input/Memory$Job"), (12, .class_ 67), (1, u "com/example/feuillet/feuillet/input/Memory$RanOut"), (4, u "running"), (0, u "I"), (2, u "begun"), (23, u "array"), (0, u "(J)J"), (0, .long 16), (1, .long 7), (1, .long 8), (13, u "RESERVE_MIB"), (2, u "MEBIBYTE"), (0, u "BEGUN_BESIDE_ANOTHER")] 48

def k2c0 : Code := { maxStack := 4, maxLocals := 2, code := prog_63_method_15_code, exceptionTable := #[], attributes := #[] }
def k2m0 : Method := { name := "array", desc := "(J)J", sig := { parameters := [.long], returnType := some .long }, accessFlags := 8, code := some k2c0 }
/-- com/example/feuillet/feuillet/input/Memory -/
def k2 : Class := { plain "com/example/feuillet/feuillet/input/Memory" (some 0) with
  accessFlags := 49
  interfaces := #[]
  cf := some (fileOf pool2 8 #[.nestMembers #[65, 50]] #[{ accessFlags := 8, nameIndex := 100, descriptorIndex := 101, attributes := #[] }] 49 2 #[] #[{ accessFlags := 24, nameIndex := 120, descriptorIndex := 73, attributes := #[] }, { accessFlags := 26, nameIndex := 123, descriptorIndex := 12, attributes := #[] }, { accessFlags := 26, nameIndex := 124, descriptorIndex := 12, attributes := #[] }, { accessFlags := 26, nameIndex := 35, descriptorIndex := 36, attributes := #[] }, { accessFlags := 18, nameIndex := 11, descriptorIndex := 12, attributes := #[] }, { accessFlags := 18, nameIndex := 17, descriptorIndex := 12, attributes := #[] }, { accessFlags := 18, nameIndex := 32, descriptorIndex := 12, attributes := #[] }, { accessFlags := 2, nameIndex := 44, descriptorIndex := 12, attributes := #[] }, { accessFlags := 2, nameIndex := 72, descriptorIndex := 73, attributes := #[] }, { accessFlags := 2, nameIndex := 76, descriptorIndex := 12, attributes := #[] }])
  fields := #[{ name := "RESERVE_MIB", type := .int, accessFlags := 24, slot := 0, constantValue := 0 }, { name := "MEBIBYTE", type := .long, accessFlags := 26, slot := 1, constantValue := 0 }, { name := "BEGUN_BESIDE_ANOTHER", type := .long, accessFlags := 26, slot := 2, constantValue := 0 }, { name := "JVM", type := (.object "com/example/feuillet/feuillet/input/Memory"), accessFlags := 26, slot := 3, constantValue := 0 }, { name := "bytes", type := .long, accessFlags := 18, slot := 0, constantValue := 0 }, { name := "mebibytes", type := .long, accessFlags := 18, slot := 1, constantValue := 0 }, { name := "bound", type := .long, accessFlags := 18, slot := 2, constantValue := 0 }, { name := "held", type := .long, accessFlags := 2, slot := 3, constantValue := 0 }, { name := "running", type := .int, accessFlags := 2, slot := 4, constantValue := 0 }, { name := "begun", type := .long, accessFlags := 2, slot := 5, constantValue := 0 }]
  methods := #[k2m0]
  instanceTypes := #[.long, .long, .long, .long, .int, .long]
  staticTypes := #[.int, .long, .long, (.object "com/example/feuillet/feuillet/input/Memory")]
  resolved := Array.replicate 173 none
  statics := none }

def pool3 : Array CpInfo := pool [(1, u "java/lang/Cloneable"), (0, .class_ 1), (0, u "java/lang/Object"), (0, .class_ 3)] 3

/-- java/lang/Cloneable -/
def k3 : Class := { plain "java/lang/Cloneable" (some 0) with
  accessFlags := 1537
  interfaces := #[]
  cf := some (fileOf pool3 2 #[] #[] 1537 4 #[] #[])
  fields := #[]
  methods := #[]
  instanceTypes := #[]
  staticTypes := #[]
  resolved := Array.replicate 8 none
  statics := none }

def pool4 : Array CpInfo := pool [(1, u "java/io/Serializable"), (0, .class_ 1), (0, u "java/lang/Object"), (0, .class_ 3)] 3

/-- java/io/Serializable -/
def k4 : Class := { plain "java/io/Serializable" (some 0) with
  accessFlags := 1537
  interfaces := #[]
  cf := some (fileOf pool4 2 #[] #[] 1537 4 #[] #[])
  fields := #[]
  methods := #[]
  instanceTypes := #[]
  staticTypes := #[]
  resolved := Array.replicate 8 none
  statics := none }

/-- the primitive byte -/
def k5 : Class := { plain "byte" none with kind := .primitive 'B', accessFlags := 0x411 }
/-- [B -/
def k6 : Class := { plain "[B" (some 0) with kind := .array 5 .byte, interfaces := #[3, 4], accessFlags := 1041 }

/-- the primitive int -/
def k7 : Class := { plain "int" none with kind := .primitive 'I', accessFlags := 0x411 }
/-- [I -/
def k8 : Class := { plain "[I" (some 0) with kind := .array 7 .int, interfaces := #[3, 4], accessFlags := 1041 }

def heap : Heap := #[]
def classes : Array Class := #[k0, k1, k2, k3, k4, k5, k6, k7, k8]
def interned : List (Array UInt16 × Addr) := []
def slotsUsed : Nat := 0
def theMethod : MethodId := ⟨1, 1⟩
def args0 : Array Value := #[.long 5]
def aboutOver (below : List Frame) : State where
  vm := { classes := classes, interned := interned.toArray }
  heap := heap
  slotsUsed := slotsUsed
  threads := #[{ frames := .invoking theMethod args0 :: below }]
def below0 : List Frame := [.native { method := ⟨0, 0⟩, args := #[] }]
def about1 : State := aboutOver below0
def p0 : Program := .bare "" "" ""
def e0 : Env := launch0.env 0 0 0
theorem w_frames : about1.frames = Frame.invoking theMethod args0 :: below0 := rfl
set_option maxRecDepth 65536 in
theorem w_args : argsFit about1.vm theMethod args0 = true := by decide +kernel
set_option maxRecDepth 65536 in
theorem w_heap : heapFits about1 = true := by decide +kernel
set_option maxRecDepth 65536 in
theorem w_runnable : about1.curStatus? = some .runnable := by decide +kernel
set_option maxRecDepth 65536 in
theorem w_alone : about1.alone = true := by decide +kernel
set_option maxRecDepth 65536 in
theorem w_named : about1.methodNamed? x = some theMethod := by decide +kernel
set_option maxRecDepth 65536 in
theorem w_hears : about1.hears theMethod below0 = true := by decide +kernel
set_option maxRecDepth 65536 in
theorem w_ripe : about1.ripe theMethod args0 below0 = true := by decide +kernel
theorem w_running : about1.status = .running := rfl
set_option maxRecDepth 65536 in
theorem w_room : about1.hasRoom e0.platform room_1 = true :=
  launch0.hasRoom_least _ room_1 (by decide +kernel) (by decide +kernel) (by decide +kernel) (by decide +kernel) (by decide +kernel) (by decide +kernel)
theorem allAtoms_all (ts : List Jvm.Cond) (a : Array Jvm.Value) (st : Jvm.State) : (allAtoms ts).before a st = ts.all (fun c => c.before a st) := by
  induction ts with
  | nil => rfl
  | cons c t ih =>
    show (Jvm.Cond.and c (allAtoms t)).before a st = _
    rw [Jvm.Cond.before_and, ih, List.all_cons]
def words1 : List Jvm.Cond := Jvm.Cond.code x code maxLocals ret :: tables_1
/-- a 'code' word, met by the world's own term for the bytes: nothing is compared byte by byte -/
theorem code_word {y : MethodName} {bytes : ByteArray} {mx : Nat} {rt : Option FieldType} {a : Array Value} {s : State} {m : MethodId} {meth : Method} {c : Code} (h1 : s.methodNamed? y = some m) (h2 : s.vm.method? m = some meth) (h3 : meth.code = some c) (h4 : c.code = bytes)
    (h5 : (c.maxLocals == mx && c.exceptionTable.isEmpty && decide (c.maxStack ≤ mostOperands) && decide (meth.sig.returnType = rt) && !meth.locks && decide (parseMethodDescriptor y.desc = some meth.sig)) = true) : (Jvm.Cond.code y bytes mx rt).before a s = true := by
  simp only [Bool.and_eq_true, beq_iff_eq, Bool.not_eq_true', decide_eq_true_eq] at h5
  obtain ⟨⟨⟨⟨⟨g1, g2⟩, g3⟩, g4⟩, g5⟩, g6⟩ := h5
  simp [Cond.before, Cond.holds, Cond.value, h1, h2, h3, h4, g1, g2, g3, g4, g5, g6]
def isCode : Jvm.Cond → Bool
  | .code _ _ _ _ => true
  | _ => false
theorem all_split {L : List Jvm.Cond} {P : Jvm.Cond → Bool} (h1 : L.all (fun c => isCode c || P c) = true) (h2 : ∀ c ∈ L.filter isCode, P c = true) : L.all P = true := by
  refine List.all_eq_true.mpr fun c hc => ?_
  have h := List.all_eq_true.mp h1 c hc
  rcases Bool.eq_false_or_eq_true (isCode c) with hi | hi
  · exact h2 c (List.mem_filter.mpr ⟨hc, hi⟩)
  · simpa [hi] using h
set_option maxRecDepth 65536 in
theorem w_c0 : (Jvm.Cond.code x code maxLocals ret).before args0 about1 = true := code_word (m := ⟨1, 1⟩) (meth := k1m1) (c := k1c1) (by decide +kernel) rfl rfl rfl (by decide +kernel)
set_option maxRecDepth 65536 in
theorem w_c1 : (Jvm.Cond.code ({ cls := "com/example/feuillet/feuillet/input/Memory", name := "array", desc := "(J)J" } : Jvm.MethodName) prog_63_method_15_code (2 : Nat) (Option.some Jvm.ClassFile.FieldType.long)).before args0 about1 = true := code_word (m := ⟨2, 0⟩) (meth := k2m0) (c := k2c0) (by decide +kernel) rfl rfl rfl (by decide +kernel)
def codes1 : List Jvm.Cond := [Jvm.Cond.code x code maxLocals ret, Jvm.Cond.code ({ cls := "com/example/feuillet/feuillet/input/Memory", name := "array", desc := "(J)J" } : Jvm.MethodName) prog_63_method_15_code (2 : Nat) (Option.some Jvm.ClassFile.FieldType.long)]
set_option maxRecDepth 65536 in
theorem codes_eq : words1.filter isCode = codes1 := rfl
theorem w_codes : ∀ c ∈ words1.filter isCode, c.before args0 about1 = true := by
  rw [codes_eq]
  intro c hc
  simp only [codes1, List.mem_cons, List.not_mem_nil, or_false] at hc
  rcases hc with rfl | rfl
  · exact w_c0
  · exact w_c1
set_option maxRecDepth 65536 in
theorem w_t1 : words1.all (fun c => isCode c || c.before args0 about1) = true := by decide +kernel
theorem w_tables : (allAtoms (Jvm.Cond.code x code maxLocals ret :: tables_1)).before args0 about1 = true := by
  rw [allAtoms_all]
  show words1.all (fun c => c.before args0 about1) = true
  refine all_split ?_ w_codes
  rw [w_t1]
set_option maxRecDepth 65536 in
theorem w_case : (Jvm.Cond.and given_1 narrow_1).before args0 about1 = true := by decide +kernel
theorem w_applies : (headSpec (Jvm.Cond.code x code maxLocals ret :: tables_1) room_1).applies x e0.platform about1 = true :=
  (Spec.applies_iff w_frames).mpr ⟨w_running, w_runnable, w_alone, w_named, w_hears, w_ripe, w_room, w_tables⟩
theorem atStart : AtStart classFile x code maxLocals ret World_1 tables_1 room_1 Calls_1 rest_1 Pre_1 launch0 p0 e0 about1 theMethod args0 below0 :=
  ⟨lists_1, trivial, launch0.admits_env _ _ _, launch0.least_env, fairChoices_fair.cas, fairChoices_fair.clock, w_frames, w_args, w_heap, w_applies, trivial, trivial, w_case⟩
end start1
theorem witness_1 : WitnessClaimed_1 := ⟨start1.p0, start1.e0, start1.about1, start1.theMethod, start1.args0, start1.below0, start1.atStart⟩
end Jvm.Pilot.@@N@@
