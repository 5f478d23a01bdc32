import JvmDerived
import JvmDerived.Pilot.@@N@@Statement
import JvmDerived.Pilot.@@N@@Code
set_option linter.unusedVariables false
set_option linter.unusedSimpArgs false
namespace Jvm.RoadKit
open Sem ClassFile Op Lib Jvm.Stand Jvm.Free Jvm.LawKit
section New
variable {p : Program} {l : Launch} {e : Env} {R : Room} {s : State} {m : MethodId} {args : Array Value} {below : List Frame} {meth : Method} {c : Code} {T : State} {locs : List Loc} {cells slots : Nat}
theorem retI (X : Stand p l e R s m args below meth c T locs cells slots) (hx : p.tables.exec = Jvm.exec) {pc : Nat} {Ls : Array Slot} {z : Int32} {rest : List Value} (hret : meth.sig.returnType = some .int) (hd : decode c.code pc = .ok (.ireturn, 1)) {fs : List Frame}
    (hl : ∀ (f : JFrame) (acts : List Action), f.method = m → f.locked = none → f.entered = [] → (doReturn e (T.setTop f) acts (some (.int z))).1 = T.setFrames fs) : Steps p.tables e below (T.setTop (mkF m pc Ls (.int z :: rest))) (T.setFrames fs) := by
  have hm' : T.vm.method? m = some meth := X.method'
  have hn : narrow .int (.int z) = .int z := rfl
  show Steps p.tables e below (T.setTop { method := m, pc := pc, locals := Ls, stack := _ :: rest, locked := none }) _
  jvm_step X.here [X.here.top, hx, hd, hm', hret, hn]
  first | (intro acts; rw [hl _ acts rfl rfl rfl]) | rw [hl _ _ rfl rfl rfl]
  exact Steps.refl _
end New
end Jvm.RoadKit
namespace Jvm.Pilot.@@N@@
open Jvm Jvm.ClassFile Sem Op Lib Jvm.Free Jvm.Stand Jvm.LawKit Jvm.RoadKit Bundle Jvm.Pilot.@@N@@.Jvm.D
theorem own_keep_ext {h h' : Heap} (K : Keep h h' []) : Ext h h' := ⟨K.1, fun a c q => K.2.1 a c q nin0⟩
theorem own_sta_keep {Z : State} {h h' : Heap} {C n d K : String} {a : Addr} {v : Value} (F : Sta Z h C n d v) (Kp : Keep h h' [a]) (E : Exa Z h a K) : Sta Z h' C n d v := by
  obtain ⟨cf, i, k, f, st, cell, h1, h2, h3, h4, h5, h6, h7⟩ := F
  obtain ⟨cell', k', g1, -, -, g4, -⟩ := E
  have ne : st ≠ a := by
    intro q
    subst q
    rw [h5] at g1
    cases g1
    rw [h6] at g4
    cases g4
  exact ⟨cf, i, k, f, st, cell, h1, h2, h3, h4, Kp.2.1 st cell h5 (ninS ne nin0), h6, h7⟩
theorem d1_0 : decode prog_2_method_2_code 0 = .ok (.lload_n 0, 1) := by decide +kernel
theorem d1_1 : decode prog_2_method_2_code 1 = .ok (.lconst 0, 1) := by decide +kernel
theorem d1_2 : decode prog_2_method_2_code 2 = .ok (.lcmp, 1) := by decide +kernel
theorem d1_3 : decode prog_2_method_2_code 3 = .ok (.ifCond .ge 17, 3) := by decide +kernel
theorem d1_20 : decode prog_2_method_2_code 20 = .ok (.iload_n 2, 1) := by decide +kernel
theorem d1_21 : decode prog_2_method_2_code 21 = .ok (.ifCond .lt 12, 3) := by decide +kernel
theorem d1_24 : decode prog_2_method_2_code 24 = .ok (.iload_n 2, 1) := by decide +kernel
theorem d1_25 : decode prog_2_method_2_code 25 = .ok (.i2l, 1) := by decide +kernel
theorem d1_26 : decode prog_2_method_2_code 26 = .ok (.ldc2_w 18, 3) := by decide +kernel
theorem d1_29 : decode prog_2_method_2_code 29 = .ok (.lcmp, 1) := by decide +kernel
theorem d1_30 : decode prog_2_method_2_code 30 = .ok (.ifCond .le 17, 3) := by decide +kernel
theorem d1_47 : decode prog_2_method_2_code 47 = .ok (.lload_n 0, 1) := by decide +kernel
theorem d1_48 : decode prog_2_method_2_code 48 = .ok (.ldc2_w 18, 3) := by decide +kernel
theorem d1_51 : decode prog_2_method_2_code 51 = .ok (.ldiv, 1) := by decide +kernel
theorem d1_52 : decode prog_2_method_2_code 52 = .ok (.lstore_n 3, 1) := by decide +kernel
theorem d1_53 : decode prog_2_method_2_code 53 = .ok (.lload_n 0, 1) := by decide +kernel
theorem d1_54 : decode prog_2_method_2_code 54 = .ok (.ldc2_w 18, 3) := by decide +kernel
theorem d1_57 : decode prog_2_method_2_code 57 = .ok (.lrem, 1) := by decide +kernel
theorem d1_58 : decode prog_2_method_2_code 58 = .ok (.lstore 5, 2) := by decide +kernel
theorem d1_60 : decode prog_2_method_2_code 60 = .ok (.lload_n 3, 1) := by decide +kernel
theorem d1_61 : decode prog_2_method_2_code 61 = .ok (.iload_n 2, 1) := by decide +kernel
theorem d1_62 : decode prog_2_method_2_code 62 = .ok (.i2l, 1) := by decide +kernel
theorem d1_63 : decode prog_2_method_2_code 63 = .ok (.lmul, 1) := by decide +kernel
theorem d1_64 : decode prog_2_method_2_code 64 = .ok (.lload 5, 2) := by decide +kernel
theorem d1_66 : decode prog_2_method_2_code 66 = .ok (.iload_n 2, 1) := by decide +kernel
theorem d1_67 : decode prog_2_method_2_code 67 = .ok (.i2l, 1) := by decide +kernel
theorem d1_68 : decode prog_2_method_2_code 68 = .ok (.lmul, 1) := by decide +kernel
theorem d1_69 : decode prog_2_method_2_code 69 = .ok (.ldc2_w 23, 3) := by decide +kernel
theorem d1_72 : decode prog_2_method_2_code 72 = .ok (.ladd, 1) := by decide +kernel
theorem d1_73 : decode prog_2_method_2_code 73 = .ok (.ldc2_w 18, 3) := by decide +kernel
theorem d1_76 : decode prog_2_method_2_code 76 = .ok (.ldiv, 1) := by decide +kernel
theorem d1_77 : decode prog_2_method_2_code 77 = .ok (.ladd, 1) := by decide +kernel
theorem d1_78 : decode prog_2_method_2_code 78 = .ok (.lreturn, 1) := by decide +kernel
theorem pn0 : plainName "com/example/lachesis/lachesis/Amounts" = true := by first | (simp [plainName, overriddenIn]; done) | decide +kernel
theorem ef_rm_percentOf (m : MethodId) (xa : Int64) (xp : Int32) : entryFrame m #[(.long xa), (.int xp)] 7 = mkF m 0 #[.val (.long xa), .second, .val (.int xp), .unset, .unset, .unset, .unset] [] := by first | (simp [entryFrame, mkF, argsToLocals, Value.category]; done) | rfl
def Q_rm_percentOf (Z : State) (xa : Int64) (xp : Int32) (h0 : Heap) (n0 : Nat) (v : Option Value) (h : Heap) (L : List Loc) : Prop := v = some (.long (((xa / (100 : Int64)) * (xp.toInt64)) + ((((xa - (xa / (100 : Int64)) * (100 : Int64)) * (xp.toInt64)) + (50 : Int64)) / (100 : Int64)))) ∧ Fr n0 L ∧ h = h0
set_option maxRecDepth 65536 in
set_option maxHeartbeats 40000000 in
theorem rm_percentOf (l : Launch) (Z : State) (a0 : Array Value) (hw : ∀ d ∈ tables_1, d.before a0 Z = true) (ws : List Jvm.Cond) (xa : Int64) (xp : Int32) (h0 : Heap) (n0 : Nat) (Z0 : n0 ≤ h0.size) (hA : ¬ (xa < (0 : Int64))) (hP0 : ¬ (xp < (0 : Int32))) (hP1 : ¬ ((100 : Int64) < (xp.toInt64))) :
    MetFree l (⟨"com/example/lachesis/lachesis/Amounts", "percentOf", "(JI)J"⟩ : MethodName) (head1 (Jvm.Cond.code (⟨"com/example/lachesis/lachesis/Amounts", "percentOf", "(JI)J"⟩ : MethodName) prog_2_method_2_code 7 (some .long) :: ws) ({ frames := 0, cells := 0, slots := 0, locals := 0 } : Room)) (fun a U => a = #[(.long xa), (.int xp)] ∧ Z.Warmed39 U.vm ∧ U.heap = h0) (fun _ _ _ _ _ => True) (fun _ U o U' => ∃ v L, o = .returned v ∧ Q_rm_percentOf Z xa xp h0 n0 v U'.heap L ∧ FrameEnd U o U' L ({ frames := 0, cells := 0, slots := 0, locals := 0 } : Room).cells ({ frames := 0, cells := 0, slots := 0, locals := 0 } : Room).slots) := by
  refine MetFree.of_bodySF (plainFor_of_name pn0) hisR ?_
  intro p e s m args below meth c s₁ Bd hml0 hP hK
  obtain ⟨rfl, hZ, hh⟩ := hP
  have hx := Bd.exec
  have hby := Bd.bytes
  have hml : c.maxLocals = 7 := hml0
  have hown : s.vm.findClass "com/example/lachesis/lachesis/Amounts" = some m.cls := findClass_of_methodNamed Bd.named
  have hnm := (name_of_methodNamed Bd.named Bd.method).1
  have X0 : Stand p l e ({ frames := 0, cells := 0, slots := 0, locals := 0 } : Room) s m #[(.long xa), (.int xp)] below meth c s₁ [] 0 0 := Stand.of_body Bd
  have e0 : s₁.heap = h0 := by rw [← hh, Bd.state]; rfl
  have N0 := Fr.nil n0
  have pre0 : ∀ t, Steps p.tables e below (s₁.setTop (mkF m 0 #[.val (.long xa), .second, .val (.int xp), .unset, .unset, .unset, .unset] [])) t → Steps p.tables e below (s₁.setTop (entryFrame m #[(.long xa), (.int xp)] 7)) t := fun t k => castTop (ef_rm_percentOf m xa xp) k
  have pre1 : ∀ t, Steps p.tables e below (s₁.setTop (mkF m 78 #[.val (.long xa), .second, .val (.int xp), .val (.long (xa / (100 : Int64))), .second, .val (.long (xa - (xa / (100 : Int64)) * (100 : Int64))), .second] [(.long (((xa / (100 : Int64)) * (xp.toInt64)) + ((((xa - (xa / (100 : Int64)) * (100 : Int64)) * (xp.toInt64)) + (50 : Int64)) / (100 : Int64))))])) t → Steps p.tables e below (s₁.setTop (entryFrame m #[(.long xa), (.int xp)] 7)) t := by
    intro t k
    refine pre0 t ?_
    refine XS.lloadN X0.here hx rfl (hb hby d1_0) rfl ?_
    show Steps p.tables e below (s₁.setTop (mkF m 1 #[.val (.long xa), .second, .val (.int xp), .unset, .unset, .unset, .unset] [(.long xa)])) _
    refine XS.lconst X0.here hx rfl (hb hby d1_1) ?_
    show Steps p.tables e below (s₁.setTop (mkF m 2 #[.val (.long xa), .second, .val (.int xp), .unset, .unset, .unset, .unset] [(.long (0 : Int64)), (.long xa)])) _
    refine XS.lcmp X0.here hx rfl (hb hby d1_2) rfl ?_
    show Steps p.tables e below (s₁.setTop (mkF m 3 #[.val (.long xa), .second, .val (.int xp), .unset, .unset, .unset, .unset] [(.int (lcmpW xa (0 : Int64)))])) _
    refine XS.ifYes X0.here hx rfl (pc0 := 3) (pc' := 20) rfl (hb hby d1_3) rfl ((if0 _ _).trans (flt (mt (lw_lt _ _).mp (show ¬ (xa < (0 : Int64)) from hA))).2.1) (by decide) (by decide) ?_
    show Steps p.tables e below (s₁.setTop (mkF m 20 #[.val (.long xa), .second, .val (.int xp), .unset, .unset, .unset, .unset] [])) _
    refine XS.iloadN X0.here hx rfl (hb hby d1_20) rfl ?_
    show Steps p.tables e below (s₁.setTop (mkF m 21 #[.val (.long xa), .second, .val (.int xp), .unset, .unset, .unset, .unset] [(.int xp)])) _
    refine XS.ifNo X0.here hx rfl (hb hby d1_21) rfl ((if0 _ _).trans (flt (show ¬ (xp < (0 : Int32)) from hP0)).1) ?_
    show Steps p.tables e below (s₁.setTop (mkF m 24 #[.val (.long xa), .second, .val (.int xp), .unset, .unset, .unset, .unset] [])) _
    refine XS.iloadN X0.here hx rfl (hb hby d1_24) rfl ?_
    show Steps p.tables e below (s₁.setTop (mkF m 25 #[.val (.long xa), .second, .val (.int xp), .unset, .unset, .unset, .unset] [(.int xp)])) _
    refine XS.i2l X0.here hx rfl (hb hby d1_25) rfl ?_
    show Steps p.tables e below (s₁.setTop (mkF m 26 #[.val (.long xa), .second, .val (.int xp), .unset, .unset, .unset, .unset] [(.long (xp.toInt64))])) _
    refine X0.ldc2Long hx hown (mvT hZ (hw _ (List.mem_of_getElem? (i := 6) rfl))) (g := (mkF m 26 #[.val (.long xa), .second, .val (.int xp), .unset, .unset, .unset, .unset] [(.long (xp.toInt64))])) rfl (hb hby d1_26) _ ?_
    show Steps p.tables e below (s₁.setTop (mkF m 29 #[.val (.long xa), .second, .val (.int xp), .unset, .unset, .unset, .unset] [(.long (100 : Int64)), (.long (xp.toInt64))])) _
    refine XS.lcmp X0.here hx rfl (hb hby d1_29) rfl ?_
    show Steps p.tables e below (s₁.setTop (mkF m 30 #[.val (.long xa), .second, .val (.int xp), .unset, .unset, .unset, .unset] [(.int (lcmpW (xp.toInt64) (100 : Int64)))])) _
    refine XS.ifYes X0.here hx rfl (pc0 := 30) (pc' := 47) rfl (hb hby d1_30) rfl ((if0 _ _).trans (flt (mt (lw_gt _ _).mp (show ¬ ((100 : Int64) < (xp.toInt64)) from hP1))).2.2.2) (by decide) (by decide) ?_
    show Steps p.tables e below (s₁.setTop (mkF m 47 #[.val (.long xa), .second, .val (.int xp), .unset, .unset, .unset, .unset] [])) _
    refine XS.lloadN X0.here hx rfl (hb hby d1_47) rfl ?_
    show Steps p.tables e below (s₁.setTop (mkF m 48 #[.val (.long xa), .second, .val (.int xp), .unset, .unset, .unset, .unset] [(.long xa)])) _
    refine X0.ldc2Long hx hown (mvT hZ (hw _ (List.mem_of_getElem? (i := 6) rfl))) (g := (mkF m 48 #[.val (.long xa), .second, .val (.int xp), .unset, .unset, .unset, .unset] [(.long xa)])) rfl (hb hby d1_48) _ ?_
    show Steps p.tables e below (s₁.setTop (mkF m 51 #[.val (.long xa), .second, .val (.int xp), .unset, .unset, .unset, .unset] [(.long (100 : Int64)), (.long xa)])) _
    refine XS.ldiv X0.here hx rfl (hb hby d1_51) rfl (by decide) ?_
    show Steps p.tables e below (s₁.setTop (mkF m 52 #[.val (.long xa), .second, .val (.int xp), .unset, .unset, .unset, .unset] [(.long (xa / (100 : Int64)))])) _
    refine XS.lstoreN X0.here hx rfl (hb hby d1_52) rfl (l' := #[.val (.long xa), .second, .val (.int xp), .val (.long (xa / (100 : Int64))), .second, .unset, .unset]) rfl ?_
    show Steps p.tables e below (s₁.setTop (mkF m 53 #[.val (.long xa), .second, .val (.int xp), .val (.long (xa / (100 : Int64))), .second, .unset, .unset] [])) _
    refine XS.lloadN X0.here hx rfl (hb hby d1_53) rfl ?_
    show Steps p.tables e below (s₁.setTop (mkF m 54 #[.val (.long xa), .second, .val (.int xp), .val (.long (xa / (100 : Int64))), .second, .unset, .unset] [(.long xa)])) _
    refine X0.ldc2Long hx hown (mvT hZ (hw _ (List.mem_of_getElem? (i := 6) rfl))) (g := (mkF m 54 #[.val (.long xa), .second, .val (.int xp), .val (.long (xa / (100 : Int64))), .second, .unset, .unset] [(.long xa)])) rfl (hb hby d1_54) _ ?_
    show Steps p.tables e below (s₁.setTop (mkF m 57 #[.val (.long xa), .second, .val (.int xp), .val (.long (xa / (100 : Int64))), .second, .unset, .unset] [(.long (100 : Int64)), (.long xa)])) _
    refine XS.lrem X0.here hx rfl (hb hby d1_57) rfl (by decide) ?_
    show Steps p.tables e below (s₁.setTop (mkF m 58 #[.val (.long xa), .second, .val (.int xp), .val (.long (xa / (100 : Int64))), .second, .unset, .unset] [(.long (xa - (xa / (100 : Int64)) * (100 : Int64)))])) _
    refine XS.lstore X0.here hx rfl (hb hby d1_58) rfl (l' := #[.val (.long xa), .second, .val (.int xp), .val (.long (xa / (100 : Int64))), .second, .val (.long (xa - (xa / (100 : Int64)) * (100 : Int64))), .second]) rfl ?_
    show Steps p.tables e below (s₁.setTop (mkF m 60 #[.val (.long xa), .second, .val (.int xp), .val (.long (xa / (100 : Int64))), .second, .val (.long (xa - (xa / (100 : Int64)) * (100 : Int64))), .second] [])) _
    refine XS.lloadN X0.here hx rfl (hb hby d1_60) rfl ?_
    show Steps p.tables e below (s₁.setTop (mkF m 61 #[.val (.long xa), .second, .val (.int xp), .val (.long (xa / (100 : Int64))), .second, .val (.long (xa - (xa / (100 : Int64)) * (100 : Int64))), .second] [(.long (xa / (100 : Int64)))])) _
    refine XS.iloadN X0.here hx rfl (hb hby d1_61) rfl ?_
    show Steps p.tables e below (s₁.setTop (mkF m 62 #[.val (.long xa), .second, .val (.int xp), .val (.long (xa / (100 : Int64))), .second, .val (.long (xa - (xa / (100 : Int64)) * (100 : Int64))), .second] [(.int xp), (.long (xa / (100 : Int64)))])) _
    refine XS.i2l X0.here hx rfl (hb hby d1_62) rfl ?_
    show Steps p.tables e below (s₁.setTop (mkF m 63 #[.val (.long xa), .second, .val (.int xp), .val (.long (xa / (100 : Int64))), .second, .val (.long (xa - (xa / (100 : Int64)) * (100 : Int64))), .second] [(.long (xp.toInt64)), (.long (xa / (100 : Int64)))])) _
    refine XS.lmul X0.here hx rfl (hb hby d1_63) rfl ?_
    show Steps p.tables e below (s₁.setTop (mkF m 64 #[.val (.long xa), .second, .val (.int xp), .val (.long (xa / (100 : Int64))), .second, .val (.long (xa - (xa / (100 : Int64)) * (100 : Int64))), .second] [(.long ((xa / (100 : Int64)) * (xp.toInt64)))])) _
    refine XS.lload X0.here hx rfl (hb hby d1_64) rfl ?_
    show Steps p.tables e below (s₁.setTop (mkF m 66 #[.val (.long xa), .second, .val (.int xp), .val (.long (xa / (100 : Int64))), .second, .val (.long (xa - (xa / (100 : Int64)) * (100 : Int64))), .second] [(.long (xa - (xa / (100 : Int64)) * (100 : Int64))), (.long ((xa / (100 : Int64)) * (xp.toInt64)))])) _
    refine XS.iloadN X0.here hx rfl (hb hby d1_66) rfl ?_
    show Steps p.tables e below (s₁.setTop (mkF m 67 #[.val (.long xa), .second, .val (.int xp), .val (.long (xa / (100 : Int64))), .second, .val (.long (xa - (xa / (100 : Int64)) * (100 : Int64))), .second] [(.int xp), (.long (xa - (xa / (100 : Int64)) * (100 : Int64))), (.long ((xa / (100 : Int64)) * (xp.toInt64)))])) _
    refine XS.i2l X0.here hx rfl (hb hby d1_67) rfl ?_
    show Steps p.tables e below (s₁.setTop (mkF m 68 #[.val (.long xa), .second, .val (.int xp), .val (.long (xa / (100 : Int64))), .second, .val (.long (xa - (xa / (100 : Int64)) * (100 : Int64))), .second] [(.long (xp.toInt64)), (.long (xa - (xa / (100 : Int64)) * (100 : Int64))), (.long ((xa / (100 : Int64)) * (xp.toInt64)))])) _
    refine XS.lmul X0.here hx rfl (hb hby d1_68) rfl ?_
    show Steps p.tables e below (s₁.setTop (mkF m 69 #[.val (.long xa), .second, .val (.int xp), .val (.long (xa / (100 : Int64))), .second, .val (.long (xa - (xa / (100 : Int64)) * (100 : Int64))), .second] [(.long ((xa - (xa / (100 : Int64)) * (100 : Int64)) * (xp.toInt64))), (.long ((xa / (100 : Int64)) * (xp.toInt64)))])) _
    refine X0.ldc2Long hx hown (mvT hZ (hw _ (List.mem_of_getElem? (i := 7) rfl))) (g := (mkF m 69 #[.val (.long xa), .second, .val (.int xp), .val (.long (xa / (100 : Int64))), .second, .val (.long (xa - (xa / (100 : Int64)) * (100 : Int64))), .second] [(.long ((xa - (xa / (100 : Int64)) * (100 : Int64)) * (xp.toInt64))), (.long ((xa / (100 : Int64)) * (xp.toInt64)))])) rfl (hb hby d1_69) _ ?_
    show Steps p.tables e below (s₁.setTop (mkF m 72 #[.val (.long xa), .second, .val (.int xp), .val (.long (xa / (100 : Int64))), .second, .val (.long (xa - (xa / (100 : Int64)) * (100 : Int64))), .second] [(.long (50 : Int64)), (.long ((xa - (xa / (100 : Int64)) * (100 : Int64)) * (xp.toInt64))), (.long ((xa / (100 : Int64)) * (xp.toInt64)))])) _
    refine XS.ladd X0.here hx rfl (hb hby d1_72) rfl ?_
    show Steps p.tables e below (s₁.setTop (mkF m 73 #[.val (.long xa), .second, .val (.int xp), .val (.long (xa / (100 : Int64))), .second, .val (.long (xa - (xa / (100 : Int64)) * (100 : Int64))), .second] [(.long (((xa - (xa / (100 : Int64)) * (100 : Int64)) * (xp.toInt64)) + (50 : Int64))), (.long ((xa / (100 : Int64)) * (xp.toInt64)))])) _
    refine X0.ldc2Long hx hown (mvT hZ (hw _ (List.mem_of_getElem? (i := 6) rfl))) (g := (mkF m 73 #[.val (.long xa), .second, .val (.int xp), .val (.long (xa / (100 : Int64))), .second, .val (.long (xa - (xa / (100 : Int64)) * (100 : Int64))), .second] [(.long (((xa - (xa / (100 : Int64)) * (100 : Int64)) * (xp.toInt64)) + (50 : Int64))), (.long ((xa / (100 : Int64)) * (xp.toInt64)))])) rfl (hb hby d1_73) _ ?_
    show Steps p.tables e below (s₁.setTop (mkF m 76 #[.val (.long xa), .second, .val (.int xp), .val (.long (xa / (100 : Int64))), .second, .val (.long (xa - (xa / (100 : Int64)) * (100 : Int64))), .second] [(.long (100 : Int64)), (.long (((xa - (xa / (100 : Int64)) * (100 : Int64)) * (xp.toInt64)) + (50 : Int64))), (.long ((xa / (100 : Int64)) * (xp.toInt64)))])) _
    refine XS.ldiv X0.here hx rfl (hb hby d1_76) rfl (by decide) ?_
    show Steps p.tables e below (s₁.setTop (mkF m 77 #[.val (.long xa), .second, .val (.int xp), .val (.long (xa / (100 : Int64))), .second, .val (.long (xa - (xa / (100 : Int64)) * (100 : Int64))), .second] [(.long ((((xa - (xa / (100 : Int64)) * (100 : Int64)) * (xp.toInt64)) + (50 : Int64)) / (100 : Int64))), (.long ((xa / (100 : Int64)) * (xp.toInt64)))])) _
    refine XS.ladd X0.here hx rfl (hb hby d1_77) rfl ?_
    show Steps p.tables e below (s₁.setTop (mkF m 78 #[.val (.long xa), .second, .val (.int xp), .val (.long (xa / (100 : Int64))), .second, .val (.long (xa - (xa / (100 : Int64)) * (100 : Int64))), .second] [(.long (((xa / (100 : Int64)) * (xp.toInt64)) + ((((xa - (xa / (100 : Int64)) * (100 : Int64)) * (xp.toInt64)) + (50 : Int64)) / (100 : Int64))))])) _
    exact k
  obtain ⟨fs, hr, hrun, hended, hW, hsame⟩ := X0.leave (v := some (.long (((xa / (100 : Int64)) * (xp.toInt64)) + ((((xa - (xa / (100 : Int64)) * (100 : Int64)) * (xp.toInt64)) + (50 : Int64)) / (100 : Int64))))) (fun h => by rw [Bd.returns] at h; cases h)
  refine ⟨_, _, pre1 _ ?_, hrun, hended, _, _, rfl, ?_, ⟨_, rfl⟩, hW, hsame.mono (by decide) (by decide)⟩
  · exact retOut X0 hx Bd.returns rfl (Or.inr (Or.inl ⟨rfl, rfl, _, rfl⟩)) (hb hby d1_78) hr
  · show Q_rm_percentOf Z xa xp h0 n0 _ s₁.heap _
    rw [e0]
    exact ⟨rfl, N0, rfl⟩
theorem d2_0 : decode method_2_code 0 = .ok (.lload_n 0, 1) := by decide +kernel
theorem d2_1 : decode method_2_code 1 = .ok (.bipush 32, 2) := by decide +kernel
theorem d2_3 : decode method_2_code 3 = .ok (.lushr, 1) := by decide +kernel
theorem d2_4 : decode method_2_code 4 = .ok (.iload_n 2, 1) := by decide +kernel
theorem d2_5 : decode method_2_code 5 = .ok (.i2l, 1) := by decide +kernel
theorem d2_6 : decode method_2_code 6 = .ok (.lmul, 1) := by decide +kernel
theorem d2_7 : decode method_2_code 7 = .ok (.lstore_n 3, 1) := by decide +kernel
theorem d2_8 : decode method_2_code 8 = .ok (.lload_n 0, 1) := by decide +kernel
theorem d2_9 : decode method_2_code 9 = .ok (.ldc2_w 7, 3) := by decide +kernel
theorem d2_12 : decode method_2_code 12 = .ok (.land, 1) := by decide +kernel
theorem d2_13 : decode method_2_code 13 = .ok (.iload_n 2, 1) := by decide +kernel
theorem d2_14 : decode method_2_code 14 = .ok (.i2l, 1) := by decide +kernel
theorem d2_15 : decode method_2_code 15 = .ok (.lmul, 1) := by decide +kernel
theorem d2_16 : decode method_2_code 16 = .ok (.lstore 5, 2) := by decide +kernel
theorem d2_18 : decode method_2_code 18 = .ok (.lload_n 3, 1) := by decide +kernel
theorem d2_19 : decode method_2_code 19 = .ok (.ldc2_w 9, 3) := by decide +kernel
theorem d2_22 : decode method_2_code 22 = .ok (.ldiv, 1) := by decide +kernel
theorem d2_23 : decode method_2_code 23 = .ok (.lstore 7, 2) := by decide +kernel
theorem d2_25 : decode method_2_code 25 = .ok (.lload_n 3, 1) := by decide +kernel
theorem d2_26 : decode method_2_code 26 = .ok (.ldc2_w 9, 3) := by decide +kernel
theorem d2_29 : decode method_2_code 29 = .ok (.lrem, 1) := by decide +kernel
theorem d2_30 : decode method_2_code 30 = .ok (.lstore 9, 2) := by decide +kernel
theorem d2_32 : decode method_2_code 32 = .ok (.lload 9, 2) := by decide +kernel
theorem d2_34 : decode method_2_code 34 = .ok (.bipush 32, 2) := by decide +kernel
theorem d2_36 : decode method_2_code 36 = .ok (.lshl, 1) := by decide +kernel
theorem d2_37 : decode method_2_code 37 = .ok (.lload 5, 2) := by decide +kernel
theorem d2_39 : decode method_2_code 39 = .ok (.ladd, 1) := by decide +kernel
theorem d2_40 : decode method_2_code 40 = .ok (.ldc2_w 11, 3) := by decide +kernel
theorem d2_43 : decode method_2_code 43 = .ok (.ladd, 1) := by decide +kernel
theorem d2_44 : decode method_2_code 44 = .ok (.ldc2_w 9, 3) := by decide +kernel
theorem d2_47 : decode method_2_code 47 = .ok (.ldiv, 1) := by decide +kernel
theorem d2_48 : decode method_2_code 48 = .ok (.lstore 11, 2) := by decide +kernel
theorem d2_50 : decode method_2_code 50 = .ok (.lload 7, 2) := by decide +kernel
theorem d2_52 : decode method_2_code 52 = .ok (.bipush 32, 2) := by decide +kernel
theorem d2_54 : decode method_2_code 54 = .ok (.lshl, 1) := by decide +kernel
theorem d2_55 : decode method_2_code 55 = .ok (.lload 11, 2) := by decide +kernel
theorem d2_57 : decode method_2_code 57 = .ok (.ladd, 1) := by decide +kernel
theorem d2_58 : decode method_2_code 58 = .ok (.lreturn, 1) := by decide +kernel
theorem pn1 : plainName "com/example/lachesis/lachesis/AmountsPercentOfPinLaw" = true := by first | (simp [plainName, overriddenIn]; done) | decide +kernel
theorem ef_rm_reference (m : MethodId) (xa : Int64) (xp : Int32) : entryFrame m #[(.long xa), (.int xp)] 13 = mkF m 0 #[.val (.long xa), .second, .val (.int xp), .unset, .unset, .unset, .unset, .unset, .unset, .unset, .unset, .unset, .unset] [] := by first | (simp [entryFrame, mkF, argsToLocals, Value.category]; done) | rfl
def Q_rm_reference (Z : State) (xa : Int64) (xp : Int32) (h0 : Heap) (n0 : Nat) (v : Option Value) (h : Heap) (L : List Loc) : Prop := v = some (.long ((((((xa.toUInt64 >>> ((32 : Int32) &&& 0x3f).toInt64.toUInt64).toInt64) * (xp.toInt64)) / (100 : Int64)) <<< ((32 : Int32) &&& 0x3f).toInt64) + ((((((((xa.toUInt64 >>> ((32 : Int32) &&& 0x3f).toInt64.toUInt64).toInt64) * (xp.toInt64)) - ((((xa.toUInt64 >>> ((32 : Int32) &&& 0x3f).toInt64.toUInt64).toInt64) * (xp.toInt64)) / (100 : Int64)) * (100 : Int64)) <<< ((32 : Int32) &&& 0x3f).toInt64) + ((xa &&& (4294967295 : Int64)) * (xp.toInt64))) + (50 : Int64)) / (100 : Int64)))) ∧ Fr n0 L ∧ h = h0
set_option maxRecDepth 65536 in
set_option maxHeartbeats 40000000 in
theorem rm_reference (l : Launch) (Z : State) (a0 : Array Value) (hw : ∀ d ∈ tables_1, d.before a0 Z = true) (ws : List Jvm.Cond) (xa : Int64) (xp : Int32) (h0 : Heap) (n0 : Nat) (Z0 : n0 ≤ h0.size) :
    MetFree l (⟨"com/example/lachesis/lachesis/AmountsPercentOfPinLaw", "reference", "(JI)J"⟩ : MethodName) (head1 (Jvm.Cond.code (⟨"com/example/lachesis/lachesis/AmountsPercentOfPinLaw", "reference", "(JI)J"⟩ : MethodName) method_2_code 13 (some .long) :: ws) ({ frames := 0, cells := 0, slots := 0, locals := 0 } : Room)) (fun a U => a = #[(.long xa), (.int xp)] ∧ Z.Warmed39 U.vm ∧ U.heap = h0) (fun _ _ _ _ _ => True) (fun _ U o U' => ∃ v L, o = .returned v ∧ Q_rm_reference Z xa xp h0 n0 v U'.heap L ∧ FrameEnd U o U' L ({ frames := 0, cells := 0, slots := 0, locals := 0 } : Room).cells ({ frames := 0, cells := 0, slots := 0, locals := 0 } : Room).slots) := by
  refine MetFree.of_bodySF (plainFor_of_name pn1) hisR ?_
  intro p e s m args below meth c s₁ Bd hml0 hP hK
  obtain ⟨rfl, hZ, hh⟩ := hP
  have hx := Bd.exec
  have hby := Bd.bytes
  have hml : c.maxLocals = 13 := hml0
  have hown : s.vm.findClass "com/example/lachesis/lachesis/AmountsPercentOfPinLaw" = some m.cls := findClass_of_methodNamed Bd.named
  have hnm := (name_of_methodNamed Bd.named Bd.method).1
  have X0 : Stand p l e ({ frames := 0, cells := 0, slots := 0, locals := 0 } : Room) s m #[(.long xa), (.int xp)] below meth c s₁ [] 0 0 := Stand.of_body Bd
  have e0 : s₁.heap = h0 := by rw [← hh, Bd.state]; rfl
  have N0 := Fr.nil n0
  have pre0 : ∀ t, Steps p.tables e below (s₁.setTop (mkF m 0 #[.val (.long xa), .second, .val (.int xp), .unset, .unset, .unset, .unset, .unset, .unset, .unset, .unset, .unset, .unset] [])) t → Steps p.tables e below (s₁.setTop (entryFrame m #[(.long xa), (.int xp)] 13)) t := fun t k => castTop (ef_rm_reference m xa xp) k
  have pre1 : ∀ t, Steps p.tables e below (s₁.setTop (mkF m 58 #[.val (.long xa), .second, .val (.int xp), .val (.long (((xa.toUInt64 >>> ((32 : Int32) &&& 0x3f).toInt64.toUInt64).toInt64) * (xp.toInt64))), .second, .val (.long ((xa &&& (4294967295 : Int64)) * (xp.toInt64))), .second, .val (.long ((((xa.toUInt64 >>> ((32 : Int32) &&& 0x3f).toInt64.toUInt64).toInt64) * (xp.toInt64)) / (100 : Int64))), .second, .val (.long ((((xa.toUInt64 >>> ((32 : Int32) &&& 0x3f).toInt64.toUInt64).toInt64) * (xp.toInt64)) - ((((xa.toUInt64 >>> ((32 : Int32) &&& 0x3f).toInt64.toUInt64).toInt64) * (xp.toInt64)) / (100 : Int64)) * (100 : Int64))), .second, .val (.long ((((((((xa.toUInt64 >>> ((32 : Int32) &&& 0x3f).toInt64.toUInt64).toInt64) * (xp.toInt64)) - ((((xa.toUInt64 >>> ((32 : Int32) &&& 0x3f).toInt64.toUInt64).toInt64) * (xp.toInt64)) / (100 : Int64)) * (100 : Int64)) <<< ((32 : Int32) &&& 0x3f).toInt64) + ((xa &&& (4294967295 : Int64)) * (xp.toInt64))) + (50 : Int64)) / (100 : Int64))), .second] [(.long ((((((xa.toUInt64 >>> ((32 : Int32) &&& 0x3f).toInt64.toUInt64).toInt64) * (xp.toInt64)) / (100 : Int64)) <<< ((32 : Int32) &&& 0x3f).toInt64) + ((((((((xa.toUInt64 >>> ((32 : Int32) &&& 0x3f).toInt64.toUInt64).toInt64) * (xp.toInt64)) - ((((xa.toUInt64 >>> ((32 : Int32) &&& 0x3f).toInt64.toUInt64).toInt64) * (xp.toInt64)) / (100 : Int64)) * (100 : Int64)) <<< ((32 : Int32) &&& 0x3f).toInt64) + ((xa &&& (4294967295 : Int64)) * (xp.toInt64))) + (50 : Int64)) / (100 : Int64))))])) t → Steps p.tables e below (s₁.setTop (entryFrame m #[(.long xa), (.int xp)] 13)) t := by
    intro t k
    refine pre0 t ?_
    refine XS.lloadN X0.here hx rfl (hb hby d2_0) rfl ?_
    show Steps p.tables e below (s₁.setTop (mkF m 1 #[.val (.long xa), .second, .val (.int xp), .unset, .unset, .unset, .unset, .unset, .unset, .unset, .unset, .unset, .unset] [(.long xa)])) _
    refine XS.bipush X0.here hx rfl (hb hby d2_1) ?_
    show Steps p.tables e below (s₁.setTop (mkF m 3 #[.val (.long xa), .second, .val (.int xp), .unset, .unset, .unset, .unset, .unset, .unset, .unset, .unset, .unset, .unset] [(.int (32 : Int32)), (.long xa)])) _
    refine XS.lushr X0.here hx rfl (hb hby d2_3) rfl ?_
    show Steps p.tables e below (s₁.setTop (mkF m 4 #[.val (.long xa), .second, .val (.int xp), .unset, .unset, .unset, .unset, .unset, .unset, .unset, .unset, .unset, .unset] [(.long ((xa.toUInt64 >>> ((32 : Int32) &&& 0x3f).toInt64.toUInt64).toInt64))])) _
    refine XS.iloadN X0.here hx rfl (hb hby d2_4) rfl ?_
    show Steps p.tables e below (s₁.setTop (mkF m 5 #[.val (.long xa), .second, .val (.int xp), .unset, .unset, .unset, .unset, .unset, .unset, .unset, .unset, .unset, .unset] [(.int xp), (.long ((xa.toUInt64 >>> ((32 : Int32) &&& 0x3f).toInt64.toUInt64).toInt64))])) _
    refine XS.i2l X0.here hx rfl (hb hby d2_5) rfl ?_
    show Steps p.tables e below (s₁.setTop (mkF m 6 #[.val (.long xa), .second, .val (.int xp), .unset, .unset, .unset, .unset, .unset, .unset, .unset, .unset, .unset, .unset] [(.long (xp.toInt64)), (.long ((xa.toUInt64 >>> ((32 : Int32) &&& 0x3f).toInt64.toUInt64).toInt64))])) _
    refine XS.lmul X0.here hx rfl (hb hby d2_6) rfl ?_
    show Steps p.tables e below (s₁.setTop (mkF m 7 #[.val (.long xa), .second, .val (.int xp), .unset, .unset, .unset, .unset, .unset, .unset, .unset, .unset, .unset, .unset] [(.long (((xa.toUInt64 >>> ((32 : Int32) &&& 0x3f).toInt64.toUInt64).toInt64) * (xp.toInt64)))])) _
    refine XS.lstoreN X0.here hx rfl (hb hby d2_7) rfl (l' := #[.val (.long xa), .second, .val (.int xp), .val (.long (((xa.toUInt64 >>> ((32 : Int32) &&& 0x3f).toInt64.toUInt64).toInt64) * (xp.toInt64))), .second, .unset, .unset, .unset, .unset, .unset, .unset, .unset, .unset]) rfl ?_
    show Steps p.tables e below (s₁.setTop (mkF m 8 #[.val (.long xa), .second, .val (.int xp), .val (.long (((xa.toUInt64 >>> ((32 : Int32) &&& 0x3f).toInt64.toUInt64).toInt64) * (xp.toInt64))), .second, .unset, .unset, .unset, .unset, .unset, .unset, .unset, .unset] [])) _
    refine XS.lloadN X0.here hx rfl (hb hby d2_8) rfl ?_
    show Steps p.tables e below (s₁.setTop (mkF m 9 #[.val (.long xa), .second, .val (.int xp), .val (.long (((xa.toUInt64 >>> ((32 : Int32) &&& 0x3f).toInt64.toUInt64).toInt64) * (xp.toInt64))), .second, .unset, .unset, .unset, .unset, .unset, .unset, .unset, .unset] [(.long xa)])) _
    refine X0.ldc2Long hx hown (mvT hZ (hw _ (List.mem_of_getElem? (i := 12) rfl))) (g := (mkF m 9 #[.val (.long xa), .second, .val (.int xp), .val (.long (((xa.toUInt64 >>> ((32 : Int32) &&& 0x3f).toInt64.toUInt64).toInt64) * (xp.toInt64))), .second, .unset, .unset, .unset, .unset, .unset, .unset, .unset, .unset] [(.long xa)])) rfl (hb hby d2_9) _ ?_
    show Steps p.tables e below (s₁.setTop (mkF m 12 #[.val (.long xa), .second, .val (.int xp), .val (.long (((xa.toUInt64 >>> ((32 : Int32) &&& 0x3f).toInt64.toUInt64).toInt64) * (xp.toInt64))), .second, .unset, .unset, .unset, .unset, .unset, .unset, .unset, .unset] [(.long (4294967295 : Int64)), (.long xa)])) _
    refine XS.land X0.here hx rfl (hb hby d2_12) rfl ?_
    show Steps p.tables e below (s₁.setTop (mkF m 13 #[.val (.long xa), .second, .val (.int xp), .val (.long (((xa.toUInt64 >>> ((32 : Int32) &&& 0x3f).toInt64.toUInt64).toInt64) * (xp.toInt64))), .second, .unset, .unset, .unset, .unset, .unset, .unset, .unset, .unset] [(.long (xa &&& (4294967295 : Int64)))])) _
    refine XS.iloadN X0.here hx rfl (hb hby d2_13) rfl ?_
    show Steps p.tables e below (s₁.setTop (mkF m 14 #[.val (.long xa), .second, .val (.int xp), .val (.long (((xa.toUInt64 >>> ((32 : Int32) &&& 0x3f).toInt64.toUInt64).toInt64) * (xp.toInt64))), .second, .unset, .unset, .unset, .unset, .unset, .unset, .unset, .unset] [(.int xp), (.long (xa &&& (4294967295 : Int64)))])) _
    refine XS.i2l X0.here hx rfl (hb hby d2_14) rfl ?_
    show Steps p.tables e below (s₁.setTop (mkF m 15 #[.val (.long xa), .second, .val (.int xp), .val (.long (((xa.toUInt64 >>> ((32 : Int32) &&& 0x3f).toInt64.toUInt64).toInt64) * (xp.toInt64))), .second, .unset, .unset, .unset, .unset, .unset, .unset, .unset, .unset] [(.long (xp.toInt64)), (.long (xa &&& (4294967295 : Int64)))])) _
    refine XS.lmul X0.here hx rfl (hb hby d2_15) rfl ?_
    show Steps p.tables e below (s₁.setTop (mkF m 16 #[.val (.long xa), .second, .val (.int xp), .val (.long (((xa.toUInt64 >>> ((32 : Int32) &&& 0x3f).toInt64.toUInt64).toInt64) * (xp.toInt64))), .second, .unset, .unset, .unset, .unset, .unset, .unset, .unset, .unset] [(.long ((xa &&& (4294967295 : Int64)) * (xp.toInt64)))])) _
    refine XS.lstore X0.here hx rfl (hb hby d2_16) rfl (l' := #[.val (.long xa), .second, .val (.int xp), .val (.long (((xa.toUInt64 >>> ((32 : Int32) &&& 0x3f).toInt64.toUInt64).toInt64) * (xp.toInt64))), .second, .val (.long ((xa &&& (4294967295 : Int64)) * (xp.toInt64))), .second, .unset, .unset, .unset, .unset, .unset, .unset]) rfl ?_
    show Steps p.tables e below (s₁.setTop (mkF m 18 #[.val (.long xa), .second, .val (.int xp), .val (.long (((xa.toUInt64 >>> ((32 : Int32) &&& 0x3f).toInt64.toUInt64).toInt64) * (xp.toInt64))), .second, .val (.long ((xa &&& (4294967295 : Int64)) * (xp.toInt64))), .second, .unset, .unset, .unset, .unset, .unset, .unset] [])) _
    refine XS.lloadN X0.here hx rfl (hb hby d2_18) rfl ?_
    show Steps p.tables e below (s₁.setTop (mkF m 19 #[.val (.long xa), .second, .val (.int xp), .val (.long (((xa.toUInt64 >>> ((32 : Int32) &&& 0x3f).toInt64.toUInt64).toInt64) * (xp.toInt64))), .second, .val (.long ((xa &&& (4294967295 : Int64)) * (xp.toInt64))), .second, .unset, .unset, .unset, .unset, .unset, .unset] [(.long (((xa.toUInt64 >>> ((32 : Int32) &&& 0x3f).toInt64.toUInt64).toInt64) * (xp.toInt64)))])) _
    refine X0.ldc2Long hx hown (mvT hZ (hw _ (List.mem_of_getElem? (i := 13) rfl))) (g := (mkF m 19 #[.val (.long xa), .second, .val (.int xp), .val (.long (((xa.toUInt64 >>> ((32 : Int32) &&& 0x3f).toInt64.toUInt64).toInt64) * (xp.toInt64))), .second, .val (.long ((xa &&& (4294967295 : Int64)) * (xp.toInt64))), .second, .unset, .unset, .unset, .unset, .unset, .unset] [(.long (((xa.toUInt64 >>> ((32 : Int32) &&& 0x3f).toInt64.toUInt64).toInt64) * (xp.toInt64)))])) rfl (hb hby d2_19) _ ?_
    show Steps p.tables e below (s₁.setTop (mkF m 22 #[.val (.long xa), .second, .val (.int xp), .val (.long (((xa.toUInt64 >>> ((32 : Int32) &&& 0x3f).toInt64.toUInt64).toInt64) * (xp.toInt64))), .second, .val (.long ((xa &&& (4294967295 : Int64)) * (xp.toInt64))), .second, .unset, .unset, .unset, .unset, .unset, .unset] [(.long (100 : Int64)), (.long (((xa.toUInt64 >>> ((32 : Int32) &&& 0x3f).toInt64.toUInt64).toInt64) * (xp.toInt64)))])) _
    refine XS.ldiv X0.here hx rfl (hb hby d2_22) rfl (by decide) ?_
    show Steps p.tables e below (s₁.setTop (mkF m 23 #[.val (.long xa), .second, .val (.int xp), .val (.long (((xa.toUInt64 >>> ((32 : Int32) &&& 0x3f).toInt64.toUInt64).toInt64) * (xp.toInt64))), .second, .val (.long ((xa &&& (4294967295 : Int64)) * (xp.toInt64))), .second, .unset, .unset, .unset, .unset, .unset, .unset] [(.long ((((xa.toUInt64 >>> ((32 : Int32) &&& 0x3f).toInt64.toUInt64).toInt64) * (xp.toInt64)) / (100 : Int64)))])) _
    refine XS.lstore X0.here hx rfl (hb hby d2_23) rfl (l' := #[.val (.long xa), .second, .val (.int xp), .val (.long (((xa.toUInt64 >>> ((32 : Int32) &&& 0x3f).toInt64.toUInt64).toInt64) * (xp.toInt64))), .second, .val (.long ((xa &&& (4294967295 : Int64)) * (xp.toInt64))), .second, .val (.long ((((xa.toUInt64 >>> ((32 : Int32) &&& 0x3f).toInt64.toUInt64).toInt64) * (xp.toInt64)) / (100 : Int64))), .second, .unset, .unset, .unset, .unset]) rfl ?_
    show Steps p.tables e below (s₁.setTop (mkF m 25 #[.val (.long xa), .second, .val (.int xp), .val (.long (((xa.toUInt64 >>> ((32 : Int32) &&& 0x3f).toInt64.toUInt64).toInt64) * (xp.toInt64))), .second, .val (.long ((xa &&& (4294967295 : Int64)) * (xp.toInt64))), .second, .val (.long ((((xa.toUInt64 >>> ((32 : Int32) &&& 0x3f).toInt64.toUInt64).toInt64) * (xp.toInt64)) / (100 : Int64))), .second, .unset, .unset, .unset, .unset] [])) _
    refine XS.lloadN X0.here hx rfl (hb hby d2_25) rfl ?_
    show Steps p.tables e below (s₁.setTop (mkF m 26 #[.val (.long xa), .second, .val (.int xp), .val (.long (((xa.toUInt64 >>> ((32 : Int32) &&& 0x3f).toInt64.toUInt64).toInt64) * (xp.toInt64))), .second, .val (.long ((xa &&& (4294967295 : Int64)) * (xp.toInt64))), .second, .val (.long ((((xa.toUInt64 >>> ((32 : Int32) &&& 0x3f).toInt64.toUInt64).toInt64) * (xp.toInt64)) / (100 : Int64))), .second, .unset, .unset, .unset, .unset] [(.long (((xa.toUInt64 >>> ((32 : Int32) &&& 0x3f).toInt64.toUInt64).toInt64) * (xp.toInt64)))])) _
    refine X0.ldc2Long hx hown (mvT hZ (hw _ (List.mem_of_getElem? (i := 13) rfl))) (g := (mkF m 26 #[.val (.long xa), .second, .val (.int xp), .val (.long (((xa.toUInt64 >>> ((32 : Int32) &&& 0x3f).toInt64.toUInt64).toInt64) * (xp.toInt64))), .second, .val (.long ((xa &&& (4294967295 : Int64)) * (xp.toInt64))), .second, .val (.long ((((xa.toUInt64 >>> ((32 : Int32) &&& 0x3f).toInt64.toUInt64).toInt64) * (xp.toInt64)) / (100 : Int64))), .second, .unset, .unset, .unset, .unset] [(.long (((xa.toUInt64 >>> ((32 : Int32) &&& 0x3f).toInt64.toUInt64).toInt64) * (xp.toInt64)))])) rfl (hb hby d2_26) _ ?_
    show Steps p.tables e below (s₁.setTop (mkF m 29 #[.val (.long xa), .second, .val (.int xp), .val (.long (((xa.toUInt64 >>> ((32 : Int32) &&& 0x3f).toInt64.toUInt64).toInt64) * (xp.toInt64))), .second, .val (.long ((xa &&& (4294967295 : Int64)) * (xp.toInt64))), .second, .val (.long ((((xa.toUInt64 >>> ((32 : Int32) &&& 0x3f).toInt64.toUInt64).toInt64) * (xp.toInt64)) / (100 : Int64))), .second, .unset, .unset, .unset, .unset] [(.long (100 : Int64)), (.long (((xa.toUInt64 >>> ((32 : Int32) &&& 0x3f).toInt64.toUInt64).toInt64) * (xp.toInt64)))])) _
    refine XS.lrem X0.here hx rfl (hb hby d2_29) rfl (by decide) ?_
    show Steps p.tables e below (s₁.setTop (mkF m 30 #[.val (.long xa), .second, .val (.int xp), .val (.long (((xa.toUInt64 >>> ((32 : Int32) &&& 0x3f).toInt64.toUInt64).toInt64) * (xp.toInt64))), .second, .val (.long ((xa &&& (4294967295 : Int64)) * (xp.toInt64))), .second, .val (.long ((((xa.toUInt64 >>> ((32 : Int32) &&& 0x3f).toInt64.toUInt64).toInt64) * (xp.toInt64)) / (100 : Int64))), .second, .unset, .unset, .unset, .unset] [(.long ((((xa.toUInt64 >>> ((32 : Int32) &&& 0x3f).toInt64.toUInt64).toInt64) * (xp.toInt64)) - ((((xa.toUInt64 >>> ((32 : Int32) &&& 0x3f).toInt64.toUInt64).toInt64) * (xp.toInt64)) / (100 : Int64)) * (100 : Int64)))])) _
    refine XS.lstore X0.here hx rfl (hb hby d2_30) rfl (l' := #[.val (.long xa), .second, .val (.int xp), .val (.long (((xa.toUInt64 >>> ((32 : Int32) &&& 0x3f).toInt64.toUInt64).toInt64) * (xp.toInt64))), .second, .val (.long ((xa &&& (4294967295 : Int64)) * (xp.toInt64))), .second, .val (.long ((((xa.toUInt64 >>> ((32 : Int32) &&& 0x3f).toInt64.toUInt64).toInt64) * (xp.toInt64)) / (100 : Int64))), .second, .val (.long ((((xa.toUInt64 >>> ((32 : Int32) &&& 0x3f).toInt64.toUInt64).toInt64) * (xp.toInt64)) - ((((xa.toUInt64 >>> ((32 : Int32) &&& 0x3f).toInt64.toUInt64).toInt64) * (xp.toInt64)) / (100 : Int64)) * (100 : Int64))), .second, .unset, .unset]) rfl ?_
    show Steps p.tables e below (s₁.setTop (mkF m 32 #[.val (.long xa), .second, .val (.int xp), .val (.long (((xa.toUInt64 >>> ((32 : Int32) &&& 0x3f).toInt64.toUInt64).toInt64) * (xp.toInt64))), .second, .val (.long ((xa &&& (4294967295 : Int64)) * (xp.toInt64))), .second, .val (.long ((((xa.toUInt64 >>> ((32 : Int32) &&& 0x3f).toInt64.toUInt64).toInt64) * (xp.toInt64)) / (100 : Int64))), .second, .val (.long ((((xa.toUInt64 >>> ((32 : Int32) &&& 0x3f).toInt64.toUInt64).toInt64) * (xp.toInt64)) - ((((xa.toUInt64 >>> ((32 : Int32) &&& 0x3f).toInt64.toUInt64).toInt64) * (xp.toInt64)) / (100 : Int64)) * (100 : Int64))), .second, .unset, .unset] [])) _
    refine XS.lload X0.here hx rfl (hb hby d2_32) rfl ?_
    show Steps p.tables e below (s₁.setTop (mkF m 34 #[.val (.long xa), .second, .val (.int xp), .val (.long (((xa.toUInt64 >>> ((32 : Int32) &&& 0x3f).toInt64.toUInt64).toInt64) * (xp.toInt64))), .second, .val (.long ((xa &&& (4294967295 : Int64)) * (xp.toInt64))), .second, .val (.long ((((xa.toUInt64 >>> ((32 : Int32) &&& 0x3f).toInt64.toUInt64).toInt64) * (xp.toInt64)) / (100 : Int64))), .second, .val (.long ((((xa.toUInt64 >>> ((32 : Int32) &&& 0x3f).toInt64.toUInt64).toInt64) * (xp.toInt64)) - ((((xa.toUInt64 >>> ((32 : Int32) &&& 0x3f).toInt64.toUInt64).toInt64) * (xp.toInt64)) / (100 : Int64)) * (100 : Int64))), .second, .unset, .unset] [(.long ((((xa.toUInt64 >>> ((32 : Int32) &&& 0x3f).toInt64.toUInt64).toInt64) * (xp.toInt64)) - ((((xa.toUInt64 >>> ((32 : Int32) &&& 0x3f).toInt64.toUInt64).toInt64) * (xp.toInt64)) / (100 : Int64)) * (100 : Int64)))])) _
    refine XS.bipush X0.here hx rfl (hb hby d2_34) ?_
    show Steps p.tables e below (s₁.setTop (mkF m 36 #[.val (.long xa), .second, .val (.int xp), .val (.long (((xa.toUInt64 >>> ((32 : Int32) &&& 0x3f).toInt64.toUInt64).toInt64) * (xp.toInt64))), .second, .val (.long ((xa &&& (4294967295 : Int64)) * (xp.toInt64))), .second, .val (.long ((((xa.toUInt64 >>> ((32 : Int32) &&& 0x3f).toInt64.toUInt64).toInt64) * (xp.toInt64)) / (100 : Int64))), .second, .val (.long ((((xa.toUInt64 >>> ((32 : Int32) &&& 0x3f).toInt64.toUInt64).toInt64) * (xp.toInt64)) - ((((xa.toUInt64 >>> ((32 : Int32) &&& 0x3f).toInt64.toUInt64).toInt64) * (xp.toInt64)) / (100 : Int64)) * (100 : Int64))), .second, .unset, .unset] [(.int (32 : Int32)), (.long ((((xa.toUInt64 >>> ((32 : Int32) &&& 0x3f).toInt64.toUInt64).toInt64) * (xp.toInt64)) - ((((xa.toUInt64 >>> ((32 : Int32) &&& 0x3f).toInt64.toUInt64).toInt64) * (xp.toInt64)) / (100 : Int64)) * (100 : Int64)))])) _
    refine XS.lshl X0.here hx rfl (hb hby d2_36) rfl ?_
    show Steps p.tables e below (s₁.setTop (mkF m 37 #[.val (.long xa), .second, .val (.int xp), .val (.long (((xa.toUInt64 >>> ((32 : Int32) &&& 0x3f).toInt64.toUInt64).toInt64) * (xp.toInt64))), .second, .val (.long ((xa &&& (4294967295 : Int64)) * (xp.toInt64))), .second, .val (.long ((((xa.toUInt64 >>> ((32 : Int32) &&& 0x3f).toInt64.toUInt64).toInt64) * (xp.toInt64)) / (100 : Int64))), .second, .val (.long ((((xa.toUInt64 >>> ((32 : Int32) &&& 0x3f).toInt64.toUInt64).toInt64) * (xp.toInt64)) - ((((xa.toUInt64 >>> ((32 : Int32) &&& 0x3f).toInt64.toUInt64).toInt64) * (xp.toInt64)) / (100 : Int64)) * (100 : Int64))), .second, .unset, .unset] [(.long (((((xa.toUInt64 >>> ((32 : Int32) &&& 0x3f).toInt64.toUInt64).toInt64) * (xp.toInt64)) - ((((xa.toUInt64 >>> ((32 : Int32) &&& 0x3f).toInt64.toUInt64).toInt64) * (xp.toInt64)) / (100 : Int64)) * (100 : Int64)) <<< ((32 : Int32) &&& 0x3f).toInt64))])) _
    refine XS.lload X0.here hx rfl (hb hby d2_37) rfl ?_
    show Steps p.tables e below (s₁.setTop (mkF m 39 #[.val (.long xa), .second, .val (.int xp), .val (.long (((xa.toUInt64 >>> ((32 : Int32) &&& 0x3f).toInt64.toUInt64).toInt64) * (xp.toInt64))), .second, .val (.long ((xa &&& (4294967295 : Int64)) * (xp.toInt64))), .second, .val (.long ((((xa.toUInt64 >>> ((32 : Int32) &&& 0x3f).toInt64.toUInt64).toInt64) * (xp.toInt64)) / (100 : Int64))), .second, .val (.long ((((xa.toUInt64 >>> ((32 : Int32) &&& 0x3f).toInt64.toUInt64).toInt64) * (xp.toInt64)) - ((((xa.toUInt64 >>> ((32 : Int32) &&& 0x3f).toInt64.toUInt64).toInt64) * (xp.toInt64)) / (100 : Int64)) * (100 : Int64))), .second, .unset, .unset] [(.long ((xa &&& (4294967295 : Int64)) * (xp.toInt64))), (.long (((((xa.toUInt64 >>> ((32 : Int32) &&& 0x3f).toInt64.toUInt64).toInt64) * (xp.toInt64)) - ((((xa.toUInt64 >>> ((32 : Int32) &&& 0x3f).toInt64.toUInt64).toInt64) * (xp.toInt64)) / (100 : Int64)) * (100 : Int64)) <<< ((32 : Int32) &&& 0x3f).toInt64))])) _
    refine XS.ladd X0.here hx rfl (hb hby d2_39) rfl ?_
    show Steps p.tables e below (s₁.setTop (mkF m 40 #[.val (.long xa), .second, .val (.int xp), .val (.long (((xa.toUInt64 >>> ((32 : Int32) &&& 0x3f).toInt64.toUInt64).toInt64) * (xp.toInt64))), .second, .val (.long ((xa &&& (4294967295 : Int64)) * (xp.toInt64))), .second, .val (.long ((((xa.toUInt64 >>> ((32 : Int32) &&& 0x3f).toInt64.toUInt64).toInt64) * (xp.toInt64)) / (100 : Int64))), .second, .val (.long ((((xa.toUInt64 >>> ((32 : Int32) &&& 0x3f).toInt64.toUInt64).toInt64) * (xp.toInt64)) - ((((xa.toUInt64 >>> ((32 : Int32) &&& 0x3f).toInt64.toUInt64).toInt64) * (xp.toInt64)) / (100 : Int64)) * (100 : Int64))), .second, .unset, .unset] [(.long ((((((xa.toUInt64 >>> ((32 : Int32) &&& 0x3f).toInt64.toUInt64).toInt64) * (xp.toInt64)) - ((((xa.toUInt64 >>> ((32 : Int32) &&& 0x3f).toInt64.toUInt64).toInt64) * (xp.toInt64)) / (100 : Int64)) * (100 : Int64)) <<< ((32 : Int32) &&& 0x3f).toInt64) + ((xa &&& (4294967295 : Int64)) * (xp.toInt64))))])) _
    refine X0.ldc2Long hx hown (mvT hZ (hw _ (List.mem_of_getElem? (i := 14) rfl))) (g := (mkF m 40 #[.val (.long xa), .second, .val (.int xp), .val (.long (((xa.toUInt64 >>> ((32 : Int32) &&& 0x3f).toInt64.toUInt64).toInt64) * (xp.toInt64))), .second, .val (.long ((xa &&& (4294967295 : Int64)) * (xp.toInt64))), .second, .val (.long ((((xa.toUInt64 >>> ((32 : Int32) &&& 0x3f).toInt64.toUInt64).toInt64) * (xp.toInt64)) / (100 : Int64))), .second, .val (.long ((((xa.toUInt64 >>> ((32 : Int32) &&& 0x3f).toInt64.toUInt64).toInt64) * (xp.toInt64)) - ((((xa.toUInt64 >>> ((32 : Int32) &&& 0x3f).toInt64.toUInt64).toInt64) * (xp.toInt64)) / (100 : Int64)) * (100 : Int64))), .second, .unset, .unset] [(.long ((((((xa.toUInt64 >>> ((32 : Int32) &&& 0x3f).toInt64.toUInt64).toInt64) * (xp.toInt64)) - ((((xa.toUInt64 >>> ((32 : Int32) &&& 0x3f).toInt64.toUInt64).toInt64) * (xp.toInt64)) / (100 : Int64)) * (100 : Int64)) <<< ((32 : Int32) &&& 0x3f).toInt64) + ((xa &&& (4294967295 : Int64)) * (xp.toInt64))))])) rfl (hb hby d2_40) _ ?_
    show Steps p.tables e below (s₁.setTop (mkF m 43 #[.val (.long xa), .second, .val (.int xp), .val (.long (((xa.toUInt64 >>> ((32 : Int32) &&& 0x3f).toInt64.toUInt64).toInt64) * (xp.toInt64))), .second, .val (.long ((xa &&& (4294967295 : Int64)) * (xp.toInt64))), .second, .val (.long ((((xa.toUInt64 >>> ((32 : Int32) &&& 0x3f).toInt64.toUInt64).toInt64) * (xp.toInt64)) / (100 : Int64))), .second, .val (.long ((((xa.toUInt64 >>> ((32 : Int32) &&& 0x3f).toInt64.toUInt64).toInt64) * (xp.toInt64)) - ((((xa.toUInt64 >>> ((32 : Int32) &&& 0x3f).toInt64.toUInt64).toInt64) * (xp.toInt64)) / (100 : Int64)) * (100 : Int64))), .second, .unset, .unset] [(.long (50 : Int64)), (.long ((((((xa.toUInt64 >>> ((32 : Int32) &&& 0x3f).toInt64.toUInt64).toInt64) * (xp.toInt64)) - ((((xa.toUInt64 >>> ((32 : Int32) &&& 0x3f).toInt64.toUInt64).toInt64) * (xp.toInt64)) / (100 : Int64)) * (100 : Int64)) <<< ((32 : Int32) &&& 0x3f).toInt64) + ((xa &&& (4294967295 : Int64)) * (xp.toInt64))))])) _
    refine XS.ladd X0.here hx rfl (hb hby d2_43) rfl ?_
    show Steps p.tables e below (s₁.setTop (mkF m 44 #[.val (.long xa), .second, .val (.int xp), .val (.long (((xa.toUInt64 >>> ((32 : Int32) &&& 0x3f).toInt64.toUInt64).toInt64) * (xp.toInt64))), .second, .val (.long ((xa &&& (4294967295 : Int64)) * (xp.toInt64))), .second, .val (.long ((((xa.toUInt64 >>> ((32 : Int32) &&& 0x3f).toInt64.toUInt64).toInt64) * (xp.toInt64)) / (100 : Int64))), .second, .val (.long ((((xa.toUInt64 >>> ((32 : Int32) &&& 0x3f).toInt64.toUInt64).toInt64) * (xp.toInt64)) - ((((xa.toUInt64 >>> ((32 : Int32) &&& 0x3f).toInt64.toUInt64).toInt64) * (xp.toInt64)) / (100 : Int64)) * (100 : Int64))), .second, .unset, .unset] [(.long (((((((xa.toUInt64 >>> ((32 : Int32) &&& 0x3f).toInt64.toUInt64).toInt64) * (xp.toInt64)) - ((((xa.toUInt64 >>> ((32 : Int32) &&& 0x3f).toInt64.toUInt64).toInt64) * (xp.toInt64)) / (100 : Int64)) * (100 : Int64)) <<< ((32 : Int32) &&& 0x3f).toInt64) + ((xa &&& (4294967295 : Int64)) * (xp.toInt64))) + (50 : Int64)))])) _
    refine X0.ldc2Long hx hown (mvT hZ (hw _ (List.mem_of_getElem? (i := 13) rfl))) (g := (mkF m 44 #[.val (.long xa), .second, .val (.int xp), .val (.long (((xa.toUInt64 >>> ((32 : Int32) &&& 0x3f).toInt64.toUInt64).toInt64) * (xp.toInt64))), .second, .val (.long ((xa &&& (4294967295 : Int64)) * (xp.toInt64))), .second, .val (.long ((((xa.toUInt64 >>> ((32 : Int32) &&& 0x3f).toInt64.toUInt64).toInt64) * (xp.toInt64)) / (100 : Int64))), .second, .val (.long ((((xa.toUInt64 >>> ((32 : Int32) &&& 0x3f).toInt64.toUInt64).toInt64) * (xp.toInt64)) - ((((xa.toUInt64 >>> ((32 : Int32) &&& 0x3f).toInt64.toUInt64).toInt64) * (xp.toInt64)) / (100 : Int64)) * (100 : Int64))), .second, .unset, .unset] [(.long (((((((xa.toUInt64 >>> ((32 : Int32) &&& 0x3f).toInt64.toUInt64).toInt64) * (xp.toInt64)) - ((((xa.toUInt64 >>> ((32 : Int32) &&& 0x3f).toInt64.toUInt64).toInt64) * (xp.toInt64)) / (100 : Int64)) * (100 : Int64)) <<< ((32 : Int32) &&& 0x3f).toInt64) + ((xa &&& (4294967295 : Int64)) * (xp.toInt64))) + (50 : Int64)))])) rfl (hb hby d2_44) _ ?_
    show Steps p.tables e below (s₁.setTop (mkF m 47 #[.val (.long xa), .second, .val (.int xp), .val (.long (((xa.toUInt64 >>> ((32 : Int32) &&& 0x3f).toInt64.toUInt64).toInt64) * (xp.toInt64))), .second, .val (.long ((xa &&& (4294967295 : Int64)) * (xp.toInt64))), .second, .val (.long ((((xa.toUInt64 >>> ((32 : Int32) &&& 0x3f).toInt64.toUInt64).toInt64) * (xp.toInt64)) / (100 : Int64))), .second, .val (.long ((((xa.toUInt64 >>> ((32 : Int32) &&& 0x3f).toInt64.toUInt64).toInt64) * (xp.toInt64)) - ((((xa.toUInt64 >>> ((32 : Int32) &&& 0x3f).toInt64.toUInt64).toInt64) * (xp.toInt64)) / (100 : Int64)) * (100 : Int64))), .second, .unset, .unset] [(.long (100 : Int64)), (.long (((((((xa.toUInt64 >>> ((32 : Int32) &&& 0x3f).toInt64.toUInt64).toInt64) * (xp.toInt64)) - ((((xa.toUInt64 >>> ((32 : Int32) &&& 0x3f).toInt64.toUInt64).toInt64) * (xp.toInt64)) / (100 : Int64)) * (100 : Int64)) <<< ((32 : Int32) &&& 0x3f).toInt64) + ((xa &&& (4294967295 : Int64)) * (xp.toInt64))) + (50 : Int64)))])) _
    refine XS.ldiv X0.here hx rfl (hb hby d2_47) rfl (by decide) ?_
    show Steps p.tables e below (s₁.setTop (mkF m 48 #[.val (.long xa), .second, .val (.int xp), .val (.long (((xa.toUInt64 >>> ((32 : Int32) &&& 0x3f).toInt64.toUInt64).toInt64) * (xp.toInt64))), .second, .val (.long ((xa &&& (4294967295 : Int64)) * (xp.toInt64))), .second, .val (.long ((((xa.toUInt64 >>> ((32 : Int32) &&& 0x3f).toInt64.toUInt64).toInt64) * (xp.toInt64)) / (100 : Int64))), .second, .val (.long ((((xa.toUInt64 >>> ((32 : Int32) &&& 0x3f).toInt64.toUInt64).toInt64) * (xp.toInt64)) - ((((xa.toUInt64 >>> ((32 : Int32) &&& 0x3f).toInt64.toUInt64).toInt64) * (xp.toInt64)) / (100 : Int64)) * (100 : Int64))), .second, .unset, .unset] [(.long ((((((((xa.toUInt64 >>> ((32 : Int32) &&& 0x3f).toInt64.toUInt64).toInt64) * (xp.toInt64)) - ((((xa.toUInt64 >>> ((32 : Int32) &&& 0x3f).toInt64.toUInt64).toInt64) * (xp.toInt64)) / (100 : Int64)) * (100 : Int64)) <<< ((32 : Int32) &&& 0x3f).toInt64) + ((xa &&& (4294967295 : Int64)) * (xp.toInt64))) + (50 : Int64)) / (100 : Int64)))])) _
    refine XS.lstore X0.here hx rfl (hb hby d2_48) rfl (l' := #[.val (.long xa), .second, .val (.int xp), .val (.long (((xa.toUInt64 >>> ((32 : Int32) &&& 0x3f).toInt64.toUInt64).toInt64) * (xp.toInt64))), .second, .val (.long ((xa &&& (4294967295 : Int64)) * (xp.toInt64))), .second, .val (.long ((((xa.toUInt64 >>> ((32 : Int32) &&& 0x3f).toInt64.toUInt64).toInt64) * (xp.toInt64)) / (100 : Int64))), .second, .val (.long ((((xa.toUInt64 >>> ((32 : Int32) &&& 0x3f).toInt64.toUInt64).toInt64) * (xp.toInt64)) - ((((xa.toUInt64 >>> ((32 : Int32) &&& 0x3f).toInt64.toUInt64).toInt64) * (xp.toInt64)) / (100 : Int64)) * (100 : Int64))), .second, .val (.long ((((((((xa.toUInt64 >>> ((32 : Int32) &&& 0x3f).toInt64.toUInt64).toInt64) * (xp.toInt64)) - ((((xa.toUInt64 >>> ((32 : Int32) &&& 0x3f).toInt64.toUInt64).toInt64) * (xp.toInt64)) / (100 : Int64)) * (100 : Int64)) <<< ((32 : Int32) &&& 0x3f).toInt64) + ((xa &&& (4294967295 : Int64)) * (xp.toInt64))) + (50 : Int64)) / (100 : Int64))), .second]) rfl ?_
    show Steps p.tables e below (s₁.setTop (mkF m 50 #[.val (.long xa), .second, .val (.int xp), .val (.long (((xa.toUInt64 >>> ((32 : Int32) &&& 0x3f).toInt64.toUInt64).toInt64) * (xp.toInt64))), .second, .val (.long ((xa &&& (4294967295 : Int64)) * (xp.toInt64))), .second, .val (.long ((((xa.toUInt64 >>> ((32 : Int32) &&& 0x3f).toInt64.toUInt64).toInt64) * (xp.toInt64)) / (100 : Int64))), .second, .val (.long ((((xa.toUInt64 >>> ((32 : Int32) &&& 0x3f).toInt64.toUInt64).toInt64) * (xp.toInt64)) - ((((xa.toUInt64 >>> ((32 : Int32) &&& 0x3f).toInt64.toUInt64).toInt64) * (xp.toInt64)) / (100 : Int64)) * (100 : Int64))), .second, .val (.long ((((((((xa.toUInt64 >>> ((32 : Int32) &&& 0x3f).toInt64.toUInt64).toInt64) * (xp.toInt64)) - ((((xa.toUInt64 >>> ((32 : Int32) &&& 0x3f).toInt64.toUInt64).toInt64) * (xp.toInt64)) / (100 : Int64)) * (100 : Int64)) <<< ((32 : Int32) &&& 0x3f).toInt64) + ((xa &&& (4294967295 : Int64)) * (xp.toInt64))) + (50 : Int64)) / (100 : Int64))), .second] [])) _
    refine XS.lload X0.here hx rfl (hb hby d2_50) rfl ?_
    show Steps p.tables e below (s₁.setTop (mkF m 52 #[.val (.long xa), .second, .val (.int xp), .val (.long (((xa.toUInt64 >>> ((32 : Int32) &&& 0x3f).toInt64.toUInt64).toInt64) * (xp.toInt64))), .second, .val (.long ((xa &&& (4294967295 : Int64)) * (xp.toInt64))), .second, .val (.long ((((xa.toUInt64 >>> ((32 : Int32) &&& 0x3f).toInt64.toUInt64).toInt64) * (xp.toInt64)) / (100 : Int64))), .second, .val (.long ((((xa.toUInt64 >>> ((32 : Int32) &&& 0x3f).toInt64.toUInt64).toInt64) * (xp.toInt64)) - ((((xa.toUInt64 >>> ((32 : Int32) &&& 0x3f).toInt64.toUInt64).toInt64) * (xp.toInt64)) / (100 : Int64)) * (100 : Int64))), .second, .val (.long ((((((((xa.toUInt64 >>> ((32 : Int32) &&& 0x3f).toInt64.toUInt64).toInt64) * (xp.toInt64)) - ((((xa.toUInt64 >>> ((32 : Int32) &&& 0x3f).toInt64.toUInt64).toInt64) * (xp.toInt64)) / (100 : Int64)) * (100 : Int64)) <<< ((32 : Int32) &&& 0x3f).toInt64) + ((xa &&& (4294967295 : Int64)) * (xp.toInt64))) + (50 : Int64)) / (100 : Int64))), .second] [(.long ((((xa.toUInt64 >>> ((32 : Int32) &&& 0x3f).toInt64.toUInt64).toInt64) * (xp.toInt64)) / (100 : Int64)))])) _
    refine XS.bipush X0.here hx rfl (hb hby d2_52) ?_
    show Steps p.tables e below (s₁.setTop (mkF m 54 #[.val (.long xa), .second, .val (.int xp), .val (.long (((xa.toUInt64 >>> ((32 : Int32) &&& 0x3f).toInt64.toUInt64).toInt64) * (xp.toInt64))), .second, .val (.long ((xa &&& (4294967295 : Int64)) * (xp.toInt64))), .second, .val (.long ((((xa.toUInt64 >>> ((32 : Int32) &&& 0x3f).toInt64.toUInt64).toInt64) * (xp.toInt64)) / (100 : Int64))), .second, .val (.long ((((xa.toUInt64 >>> ((32 : Int32) &&& 0x3f).toInt64.toUInt64).toInt64) * (xp.toInt64)) - ((((xa.toUInt64 >>> ((32 : Int32) &&& 0x3f).toInt64.toUInt64).toInt64) * (xp.toInt64)) / (100 : Int64)) * (100 : Int64))), .second, .val (.long ((((((((xa.toUInt64 >>> ((32 : Int32) &&& 0x3f).toInt64.toUInt64).toInt64) * (xp.toInt64)) - ((((xa.toUInt64 >>> ((32 : Int32) &&& 0x3f).toInt64.toUInt64).toInt64) * (xp.toInt64)) / (100 : Int64)) * (100 : Int64)) <<< ((32 : Int32) &&& 0x3f).toInt64) + ((xa &&& (4294967295 : Int64)) * (xp.toInt64))) + (50 : Int64)) / (100 : Int64))), .second] [(.int (32 : Int32)), (.long ((((xa.toUInt64 >>> ((32 : Int32) &&& 0x3f).toInt64.toUInt64).toInt64) * (xp.toInt64)) / (100 : Int64)))])) _
    refine XS.lshl X0.here hx rfl (hb hby d2_54) rfl ?_
    show Steps p.tables e below (s₁.setTop (mkF m 55 #[.val (.long xa), .second, .val (.int xp), .val (.long (((xa.toUInt64 >>> ((32 : Int32) &&& 0x3f).toInt64.toUInt64).toInt64) * (xp.toInt64))), .second, .val (.long ((xa &&& (4294967295 : Int64)) * (xp.toInt64))), .second, .val (.long ((((xa.toUInt64 >>> ((32 : Int32) &&& 0x3f).toInt64.toUInt64).toInt64) * (xp.toInt64)) / (100 : Int64))), .second, .val (.long ((((xa.toUInt64 >>> ((32 : Int32) &&& 0x3f).toInt64.toUInt64).toInt64) * (xp.toInt64)) - ((((xa.toUInt64 >>> ((32 : Int32) &&& 0x3f).toInt64.toUInt64).toInt64) * (xp.toInt64)) / (100 : Int64)) * (100 : Int64))), .second, .val (.long ((((((((xa.toUInt64 >>> ((32 : Int32) &&& 0x3f).toInt64.toUInt64).toInt64) * (xp.toInt64)) - ((((xa.toUInt64 >>> ((32 : Int32) &&& 0x3f).toInt64.toUInt64).toInt64) * (xp.toInt64)) / (100 : Int64)) * (100 : Int64)) <<< ((32 : Int32) &&& 0x3f).toInt64) + ((xa &&& (4294967295 : Int64)) * (xp.toInt64))) + (50 : Int64)) / (100 : Int64))), .second] [(.long (((((xa.toUInt64 >>> ((32 : Int32) &&& 0x3f).toInt64.toUInt64).toInt64) * (xp.toInt64)) / (100 : Int64)) <<< ((32 : Int32) &&& 0x3f).toInt64))])) _
    refine XS.lload X0.here hx rfl (hb hby d2_55) rfl ?_
    show Steps p.tables e below (s₁.setTop (mkF m 57 #[.val (.long xa), .second, .val (.int xp), .val (.long (((xa.toUInt64 >>> ((32 : Int32) &&& 0x3f).toInt64.toUInt64).toInt64) * (xp.toInt64))), .second, .val (.long ((xa &&& (4294967295 : Int64)) * (xp.toInt64))), .second, .val (.long ((((xa.toUInt64 >>> ((32 : Int32) &&& 0x3f).toInt64.toUInt64).toInt64) * (xp.toInt64)) / (100 : Int64))), .second, .val (.long ((((xa.toUInt64 >>> ((32 : Int32) &&& 0x3f).toInt64.toUInt64).toInt64) * (xp.toInt64)) - ((((xa.toUInt64 >>> ((32 : Int32) &&& 0x3f).toInt64.toUInt64).toInt64) * (xp.toInt64)) / (100 : Int64)) * (100 : Int64))), .second, .val (.long ((((((((xa.toUInt64 >>> ((32 : Int32) &&& 0x3f).toInt64.toUInt64).toInt64) * (xp.toInt64)) - ((((xa.toUInt64 >>> ((32 : Int32) &&& 0x3f).toInt64.toUInt64).toInt64) * (xp.toInt64)) / (100 : Int64)) * (100 : Int64)) <<< ((32 : Int32) &&& 0x3f).toInt64) + ((xa &&& (4294967295 : Int64)) * (xp.toInt64))) + (50 : Int64)) / (100 : Int64))), .second] [(.long ((((((((xa.toUInt64 >>> ((32 : Int32) &&& 0x3f).toInt64.toUInt64).toInt64) * (xp.toInt64)) - ((((xa.toUInt64 >>> ((32 : Int32) &&& 0x3f).toInt64.toUInt64).toInt64) * (xp.toInt64)) / (100 : Int64)) * (100 : Int64)) <<< ((32 : Int32) &&& 0x3f).toInt64) + ((xa &&& (4294967295 : Int64)) * (xp.toInt64))) + (50 : Int64)) / (100 : Int64))), (.long (((((xa.toUInt64 >>> ((32 : Int32) &&& 0x3f).toInt64.toUInt64).toInt64) * (xp.toInt64)) / (100 : Int64)) <<< ((32 : Int32) &&& 0x3f).toInt64))])) _
    refine XS.ladd X0.here hx rfl (hb hby d2_57) rfl ?_
    show Steps p.tables e below (s₁.setTop (mkF m 58 #[.val (.long xa), .second, .val (.int xp), .val (.long (((xa.toUInt64 >>> ((32 : Int32) &&& 0x3f).toInt64.toUInt64).toInt64) * (xp.toInt64))), .second, .val (.long ((xa &&& (4294967295 : Int64)) * (xp.toInt64))), .second, .val (.long ((((xa.toUInt64 >>> ((32 : Int32) &&& 0x3f).toInt64.toUInt64).toInt64) * (xp.toInt64)) / (100 : Int64))), .second, .val (.long ((((xa.toUInt64 >>> ((32 : Int32) &&& 0x3f).toInt64.toUInt64).toInt64) * (xp.toInt64)) - ((((xa.toUInt64 >>> ((32 : Int32) &&& 0x3f).toInt64.toUInt64).toInt64) * (xp.toInt64)) / (100 : Int64)) * (100 : Int64))), .second, .val (.long ((((((((xa.toUInt64 >>> ((32 : Int32) &&& 0x3f).toInt64.toUInt64).toInt64) * (xp.toInt64)) - ((((xa.toUInt64 >>> ((32 : Int32) &&& 0x3f).toInt64.toUInt64).toInt64) * (xp.toInt64)) / (100 : Int64)) * (100 : Int64)) <<< ((32 : Int32) &&& 0x3f).toInt64) + ((xa &&& (4294967295 : Int64)) * (xp.toInt64))) + (50 : Int64)) / (100 : Int64))), .second] [(.long ((((((xa.toUInt64 >>> ((32 : Int32) &&& 0x3f).toInt64.toUInt64).toInt64) * (xp.toInt64)) / (100 : Int64)) <<< ((32 : Int32) &&& 0x3f).toInt64) + ((((((((xa.toUInt64 >>> ((32 : Int32) &&& 0x3f).toInt64.toUInt64).toInt64) * (xp.toInt64)) - ((((xa.toUInt64 >>> ((32 : Int32) &&& 0x3f).toInt64.toUInt64).toInt64) * (xp.toInt64)) / (100 : Int64)) * (100 : Int64)) <<< ((32 : Int32) &&& 0x3f).toInt64) + ((xa &&& (4294967295 : Int64)) * (xp.toInt64))) + (50 : Int64)) / (100 : Int64))))])) _
    exact k
  obtain ⟨fs, hr, hrun, hended, hW, hsame⟩ := X0.leave (v := some (.long ((((((xa.toUInt64 >>> ((32 : Int32) &&& 0x3f).toInt64.toUInt64).toInt64) * (xp.toInt64)) / (100 : Int64)) <<< ((32 : Int32) &&& 0x3f).toInt64) + ((((((((xa.toUInt64 >>> ((32 : Int32) &&& 0x3f).toInt64.toUInt64).toInt64) * (xp.toInt64)) - ((((xa.toUInt64 >>> ((32 : Int32) &&& 0x3f).toInt64.toUInt64).toInt64) * (xp.toInt64)) / (100 : Int64)) * (100 : Int64)) <<< ((32 : Int32) &&& 0x3f).toInt64) + ((xa &&& (4294967295 : Int64)) * (xp.toInt64))) + (50 : Int64)) / (100 : Int64))))) (fun h => by rw [Bd.returns] at h; cases h)
  refine ⟨_, _, pre1 _ ?_, hrun, hended, _, _, rfl, ?_, ⟨_, rfl⟩, hW, hsame.mono (by decide) (by decide)⟩
  · exact retOut X0 hx Bd.returns rfl (Or.inr (Or.inl ⟨rfl, rfl, _, rfl⟩)) (hb hby d2_58) hr
  · show Q_rm_reference Z xa xp h0 n0 _ s₁.heap _
    rw [e0]
    exact ⟨rfl, N0, rfl⟩
theorem own_pre (ya : Int64) (yp : Int32) (xa : Int64) (xp : Int32) (hxa : xa = (ya &&& (9223372036854775807 : Int64))) (hxp : xp = ((yp &&& (2147483647 : Int32)) % (101 : Int32))) : ¬ (xa < (0 : Int64)) ∧ ¬ (xp < (0 : Int32)) ∧ ¬ ((100 : Int64) < (xp.toInt64)) := by
  subst hxa hxp
  have := rng64 ya
  have := c_maskL ya (9223372036854775807 : Int64) 63 (by decide) (by decide +kernel)
  have := rng64 (ya &&& (9223372036854775807 : Int64))
  have := rng32 yp
  have := c_mask yp (2147483647 : Int32) 31 (by decide) (by decide +kernel)
  have := rng32 (yp &&& (2147483647 : Int32))
  have : (101 : Int32).toInt = 101 := rfl
  have := c_irem (yp &&& (2147483647 : Int32)) (101 : Int32) 101 rfl
  have := rng32 ((yp &&& (2147483647 : Int32)) % (101 : Int32))
  have := c_i2l ((yp &&& (2147483647 : Int32)) % (101 : Int32))
  have := rng64 (((yp &&& (2147483647 : Int32)) % (101 : Int32)).toInt64)
  have : (0 : Int64).toInt = 0 := rfl
  have : (100 : Int64).toInt = 100 := rfl
  have : (0 : Int32).toInt = 0 := rfl
  simp only [Int32.lt_iff_toInt_lt, Int64.lt_iff_toInt_lt]
  omega
theorem own_perc (xa : Int64) (xp : Int32) (hA : 0 ≤ xa.toInt) (h0 : 0 ≤ xp.toInt) (h1 : xp.toInt ≤ 100) : (((xa / (100 : Int64)) * (xp.toInt64)) + ((((xa - (xa / (100 : Int64)) * (100 : Int64)) * (xp.toInt64)) + (50 : Int64)) / (100 : Int64))).toInt = (xa.toInt * xp.toInt + 50) / 100 := by
  have hx0 := rng64 xa
  have d1 : (xa / (100 : Int64)).toInt = xa.toInt / 100 := (c_ldiv xa (100 : Int64) 100 rfl (by decide)).1 hA
  have d2 : (xa - (xa / (100 : Int64)) * (100 : Int64)).toInt = xa.toInt % 100 := (c_lrem xa (100 : Int64) 100 rfl).1 hA
  have d3 : xp.toInt64.toInt = xp.toInt := c_i2l xp
  have e1 : xa.toInt * xp.toInt = 100 * (xa.toInt / 100 * xp.toInt) + xa.toInt % 100 * xp.toInt := by
    have : xa.toInt = 100 * (xa.toInt / 100) + xa.toInt % 100 := by omega
    conv => lhs; rw [this, Int.add_mul, Int.mul_assoc]
  have q0 : 0 ≤ xa.toInt / 100 * xp.toInt := Int.mul_nonneg (by omega) h0
  have q1 : xa.toInt / 100 * xp.toInt ≤ xa.toInt / 100 * 100 := Int.mul_le_mul_of_nonneg_left h1 (by omega)
  have r0 : 0 ≤ xa.toInt % 100 * xp.toInt := Int.mul_nonneg (by omega) h0
  have r1 : xa.toInt % 100 * xp.toInt ≤ xa.toInt % 100 * 100 := Int.mul_le_mul_of_nonneg_left h1 (by omega)
  have m1 := c_lmul (xa / (100 : Int64)) (xp.toInt64)
  have m2 := c_lmul (xa - (xa / (100 : Int64)) * (100 : Int64)) (xp.toInt64)
  rw [d1, d3] at m1
  rw [d2, d3] at m2
  generalize hA1 : xa.toInt / 100 * xp.toInt = A1 at *
  generalize hA2 : xa.toInt % 100 * xp.toInt = A2 at *
  have w1 : ((xa / (100 : Int64)) * (xp.toInt64)).toInt = A1 := by have := rng64 ((xa / (100 : Int64)) * (xp.toInt64)); omega
  have w2 : ((xa - (xa / (100 : Int64)) * (100 : Int64)) * (xp.toInt64)).toInt = A2 := by have := rng64 ((xa - (xa / (100 : Int64)) * (100 : Int64)) * (xp.toInt64)); omega
  clear m1 m2
  have l50 : (50 : Int64).toInt = 50 := rfl
  have w3 : (((xa - (xa / (100 : Int64)) * (100 : Int64)) * (xp.toInt64)) + (50 : Int64)).toInt = A2 + 50 := by
    have := c_ladd ((xa - (xa / (100 : Int64)) * (100 : Int64)) * (xp.toInt64)) (50 : Int64)
    have := rng64 (((xa - (xa / (100 : Int64)) * (100 : Int64)) * (xp.toInt64)) + (50 : Int64))
    omega
  have w4 : ((((xa - (xa / (100 : Int64)) * (100 : Int64)) * (xp.toInt64)) + (50 : Int64)) / (100 : Int64)).toInt = (A2 + 50) / 100 := by
    rw [(c_ldiv _ (100 : Int64) 100 rfl (by decide)).1 (by omega), w3]
  have a5 := c_ladd ((xa / (100 : Int64)) * (xp.toInt64)) ((((xa - (xa / (100 : Int64)) * (100 : Int64)) * (xp.toInt64)) + (50 : Int64)) / (100 : Int64))
  have a6 := rng64 (((xa / (100 : Int64)) * (xp.toInt64)) + ((((xa - (xa / (100 : Int64)) * (100 : Int64)) * (xp.toInt64)) + (50 : Int64)) / (100 : Int64)))
  rw [w1, w4] at a5
  omega
theorem own_ref (xa : Int64) (xp : Int32) (hA : 0 ≤ xa.toInt) (h0 : 0 ≤ xp.toInt) (h1 : xp.toInt ≤ 100) : ((((((xa.toUInt64 >>> ((32 : Int32) &&& 63).toInt64.toUInt64).toInt64) * (xp.toInt64)) / (100 : Int64)) <<< ((32 : Int32) &&& 63).toInt64) + ((((((((xa.toUInt64 >>> ((32 : Int32) &&& 63).toInt64.toUInt64).toInt64) * (xp.toInt64)) - ((((xa.toUInt64 >>> ((32 : Int32) &&& 63).toInt64.toUInt64).toInt64) * (xp.toInt64)) / (100 : Int64)) * (100 : Int64)) <<< ((32 : Int32) &&& 63).toInt64) + ((xa &&& (4294967295 : Int64)) * (xp.toInt64))) + (50 : Int64)) / (100 : Int64))).toInt = (xa.toInt * xp.toInt + 50) / 100 := by
  have hx0 := rng64 xa
  have hh : ((xa.toUInt64 >>> ((32 : Int32) &&& 63).toInt64.toUInt64).toInt64).toInt = xa.toInt / 4294967296 := by have := c_lushr xa (32 : Int32) 32 rfl (by decide); omega
  have hl : (xa &&& (4294967295 : Int64)).toInt = xa.toInt % 4294967296 := c_maskL xa (4294967295 : Int64) 32 (by decide) (by decide +kernel)
  generalize ((xa.toUInt64 >>> ((32 : Int32) &&& 63).toInt64.toUInt64).toInt64) = H at *
  generalize (xa &&& (4294967295 : Int64)) = Lo at *
  have d3 : xp.toInt64.toInt = xp.toInt := c_i2l xp
  have e1 : xa.toInt * xp.toInt = 4294967296 * (H.toInt * xp.toInt) + Lo.toInt * xp.toInt := by
    have : xa.toInt = 4294967296 * H.toInt + Lo.toInt := by omega
    conv => lhs; rw [this, Int.add_mul, Int.mul_assoc]
  have q0 : 0 ≤ H.toInt * xp.toInt := Int.mul_nonneg (by omega) h0
  have q1 : H.toInt * xp.toInt ≤ H.toInt * 100 := Int.mul_le_mul_of_nonneg_left h1 (by omega)
  have r0 : 0 ≤ Lo.toInt * xp.toInt := Int.mul_nonneg (by omega) h0
  have r1 : Lo.toInt * xp.toInt ≤ Lo.toInt * 100 := Int.mul_le_mul_of_nonneg_left h1 (by omega)
  have m1 := c_lmul H (xp.toInt64)
  have m2 := c_lmul Lo (xp.toInt64)
  rw [d3] at m1 m2
  have w1 : (H * (xp.toInt64)).toInt = H.toInt * xp.toInt := by have := rng64 (H * (xp.toInt64)); omega
  have w2 : (Lo * (xp.toInt64)).toInt = Lo.toInt * xp.toInt := by have := rng64 (Lo * (xp.toInt64)); omega
  clear m1 m2
  generalize (H * (xp.toInt64)) = X at *
  generalize (Lo * (xp.toInt64)) = Y at *
  generalize hA1 : H.toInt * xp.toInt = A1 at *
  generalize hA2 : Lo.toInt * xp.toInt = A2 at *
  rw [e1]
  clear e1
  have x1 : (X / (100 : Int64)).toInt = A1 / 100 := by rw [(c_ldiv X (100 : Int64) 100 rfl (by decide)).1 (by omega), w1]
  have x2 : (X - (X / (100 : Int64)) * (100 : Int64)).toInt = A1 % 100 := by rw [(c_lrem X (100 : Int64) 100 rfl).1 (by omega), w1]
  generalize (X - (X / (100 : Int64)) * (100 : Int64)) = Rr at *
  generalize (X / (100 : Int64)) = Qq at *
  have x3 : (Rr <<< ((32 : Int32) &&& 63).toInt64).toInt = A1 % 100 * 4294967296 := by
    have := c_lshl Rr (32 : Int32) 32 rfl
    have := rng64 (Rr <<< ((32 : Int32) &&& 63).toInt64)
    omega
  have x4 : (Qq <<< ((32 : Int32) &&& 63).toInt64).toInt = A1 / 100 * 4294967296 := by
    have := c_lshl Qq (32 : Int32) 32 rfl
    have := rng64 (Qq <<< ((32 : Int32) &&& 63).toInt64)
    omega
  generalize (Rr <<< ((32 : Int32) &&& 63).toInt64) = R2 at *
  generalize (Qq <<< ((32 : Int32) &&& 63).toInt64) = Q2 at *
  have x5 : (R2 + Y).toInt = A1 % 100 * 4294967296 + A2 := by
    have := c_ladd R2 Y
    have := rng64 (R2 + Y)
    omega
  have l50 : (50 : Int64).toInt = 50 := rfl
  have x6 : ((R2 + Y) + (50 : Int64)).toInt = A1 % 100 * 4294967296 + A2 + 50 := by
    have := c_ladd (R2 + Y) (50 : Int64)
    have := rng64 ((R2 + Y) + (50 : Int64))
    omega
  have x7 : (((R2 + Y) + (50 : Int64)) / (100 : Int64)).toInt = (A1 % 100 * 4294967296 + A2 + 50) / 100 := by rw [(c_ldiv _ (100 : Int64) 100 rfl (by decide)).1 (by omega), x6]
  generalize (((R2 + Y) + (50 : Int64)) / (100 : Int64)) = W at *
  have := c_ladd Q2 W
  have := rng64 (Q2 + W)
  omega
theorem own_law (ya : Int64) (yp : Int32) (xa : Int64) (xp : Int32) (hxa : xa = (ya &&& (9223372036854775807 : Int64))) (hxp : xp = ((yp &&& (2147483647 : Int32)) % (101 : Int32))) (g : Int64) (hg : g = (((xa / (100 : Int64)) * (xp.toInt64)) + ((((xa - (xa / (100 : Int64)) * (100 : Int64)) * (xp.toInt64)) + (50 : Int64)) / (100 : Int64)))) : g = ((((((xa.toUInt64 >>> ((32 : Int32) &&& 0x3f).toInt64.toUInt64).toInt64) * (xp.toInt64)) / (100 : Int64)) <<< ((32 : Int32) &&& 0x3f).toInt64) + ((((((((xa.toUInt64 >>> ((32 : Int32) &&& 0x3f).toInt64.toUInt64).toInt64) * (xp.toInt64)) - ((((xa.toUInt64 >>> ((32 : Int32) &&& 0x3f).toInt64.toUInt64).toInt64) * (xp.toInt64)) / (100 : Int64)) * (100 : Int64)) <<< ((32 : Int32) &&& 0x3f).toInt64) + ((xa &&& (4294967295 : Int64)) * (xp.toInt64))) + (50 : Int64)) / (100 : Int64))) ∧ ¬ (g < (0 : Int64)) ∧ ¬ (xa < g) := by
  have h := own_pre ya yp xa xp hxa hxp
  have : (0 : Int64).toInt = 0 := rfl
  have : (100 : Int64).toInt = 100 := rfl
  have : (0 : Int32).toInt = 0 := rfl
  simp only [Int32.lt_iff_toInt_lt, Int64.lt_iff_toInt_lt, c_i2l] at h
  have k1 := own_perc xa xp (by omega) (by omega) (by omega)
  have k2 := own_ref xa xp (by omega) (by omega) (by omega)
  rw [← hg] at k1
  have q1 : xa.toInt * xp.toInt ≤ xa.toInt * 100 := Int.mul_le_mul_of_nonneg_left (by omega) (by omega)
  have q0 : 0 ≤ xa.toInt * xp.toInt := Int.mul_nonneg (by omega) (by omega)
  refine ⟨Int64.toInt_inj.mp (k1.trans k2.symm), ?_, ?_⟩
  · rw [Int64.lt_iff_toInt_lt]; omega
  · rw [Int64.lt_iff_toInt_lt]; omega
theorem pd0 : parseMethodDescriptor "(JI)J" = some ⟨[.long, .int], some .long⟩ := by decide +kernel
theorem ef_rm0 (m : MethodId) (ya : Int64) (yp : Int32) : entryFrame m #[(.long ya), (.int yp)] maxLocals = mkF m 0 #[.val (.long ya), .second, .val (.int yp), .unset, .unset, .unset, .unset, .unset] [] := by first | (simp [entryFrame, mkF, argsToLocals, Value.category, maxLocals]; done) | rfl
def Q_rm0 (Z : State) (ya : Int64) (yp : Int32) (h0 : Heap) (n0 : Nat) (v : Option Value) (h : Heap) (L : List Loc) : Prop := v = some (.int (1 : Int32)) ∧ Fr n0 L
set_option maxRecDepth 65536 in
set_option maxHeartbeats 40000000 in
theorem rm0 (l : Launch) (Z : State) (a0 : Array Value) (hw : ∀ d ∈ tables_1, d.before a0 Z = true) (ws : List Jvm.Cond) (ya : Int64) (yp : Int32) (h0 : Heap) (n0 : Nat) (Z0 : n0 ≤ h0.size) :
    MetFree l x (head1 (Jvm.Cond.code x code maxLocals ret :: ws) room_1) (fun a U => a = #[(.long ya), (.int yp)] ∧ Z.Warmed39 U.vm ∧ U.heap = h0) (fun _ _ _ _ _ => True) (fun _ U o U' => ∃ v L, o = .returned v ∧ Q_rm0 Z ya yp h0 n0 v U'.heap L ∧ FrameEnd U o U' L room_1.cells room_1.slots) := by
  refine MetFree.of_bodySF (plainFor_of_name pn1) hisR ?_
  intro p e s m args below meth c s₁ Bd hml0 hP hK
  obtain ⟨rfl, hZ, hh⟩ := hP
  have hx := Bd.exec
  have hby := Bd.bytes
  have hml : c.maxLocals = 8 := hml0
  have hown : s.vm.findClass "com/example/lachesis/lachesis/AmountsPercentOfPinLaw" = some m.cls := findClass_of_methodNamed Bd.named
  have hnm := (name_of_methodNamed Bd.named Bd.method).1
  have X0 : Stand p l e room_1 s m #[(.long ya), (.int yp)] below meth c s₁ [] 0 0 := Stand.of_body Bd
  have e0 : s₁.heap = h0 := by rw [← hh, Bd.state]; rfl
  have N0 := Fr.nil n0
  have pre0 : ∀ t, Steps p.tables e below (s₁.setTop (mkF m 0 #[.val (.long ya), .second, .val (.int yp), .unset, .unset, .unset, .unset, .unset] [])) t → Steps p.tables e below (s₁.setTop (entryFrame m #[(.long ya), (.int yp)] maxLocals)) t := fun t k => castTop (ef_rm0 m ya yp) k
  have pre1 : ∀ t, Steps p.tables e below (s₁.setTop (mkF m 6 #[.val (.long ya), .second, .val (.int yp), .val (.long (ya &&& (9223372036854775807 : Int64))), .second, .unset, .unset, .unset] [])) t → Steps p.tables e below (s₁.setTop (entryFrame m #[(.long ya), (.int yp)] maxLocals)) t := by
    intro t k
    refine pre0 t ?_
    refine XS.lloadN X0.here hx rfl (hb hby at_0) rfl ?_
    show Steps p.tables e below (s₁.setTop (mkF m 1 #[.val (.long ya), .second, .val (.int yp), .unset, .unset, .unset, .unset, .unset] [(.long ya)])) _
    refine X0.ldc2Long hx hown (mvT hZ (hw _ (List.mem_of_getElem? (i := 0) rfl))) (g := (mkF m 1 #[.val (.long ya), .second, .val (.int yp), .unset, .unset, .unset, .unset, .unset] [(.long ya)])) rfl (hb hby at_1) _ ?_
    show Steps p.tables e below (s₁.setTop (mkF m 4 #[.val (.long ya), .second, .val (.int yp), .unset, .unset, .unset, .unset, .unset] [(.long (9223372036854775807 : Int64)), (.long ya)])) _
    refine XS.land X0.here hx rfl (hb hby at_4) rfl ?_
    show Steps p.tables e below (s₁.setTop (mkF m 5 #[.val (.long ya), .second, .val (.int yp), .unset, .unset, .unset, .unset, .unset] [(.long (ya &&& (9223372036854775807 : Int64)))])) _
    refine XS.lstoreN X0.here hx rfl (hb hby at_5) rfl (l' := #[.val (.long ya), .second, .val (.int yp), .val (.long (ya &&& (9223372036854775807 : Int64))), .second, .unset, .unset, .unset]) rfl ?_
    show Steps p.tables e below (s₁.setTop (mkF m 6 #[.val (.long ya), .second, .val (.int yp), .val (.long (ya &&& (9223372036854775807 : Int64))), .second, .unset, .unset, .unset] [])) _
    exact k
  obtain ⟨aa, haa⟩ : ∃ z : Int64, z = (ya &&& (9223372036854775807 : Int64)) := ⟨_, rfl⟩
  rw [← haa] at pre1
  have pre2 : ∀ t, Steps p.tables e below (s₁.setTop (mkF m 15 #[.val (.long ya), .second, .val (.int yp), .val (.long aa), .second, .val (.int ((yp &&& (2147483647 : Int32)) % (101 : Int32))), .unset, .unset] [])) t → Steps p.tables e below (s₁.setTop (entryFrame m #[(.long ya), (.int yp)] maxLocals)) t := by
    intro t k
    refine pre1 t ?_
    refine XS.iloadN X0.here hx rfl (hb hby at_6) rfl ?_
    show Steps p.tables e below (s₁.setTop (mkF m 7 #[.val (.long ya), .second, .val (.int yp), .val (.long aa), .second, .unset, .unset, .unset] [(.int yp)])) _
    refine X0.ldcInt hx hown (mvT hZ (hw _ (List.mem_of_getElem? (i := 1) rfl))) (g := (mkF m 7 #[.val (.long ya), .second, .val (.int yp), .val (.long aa), .second, .unset, .unset, .unset] [(.int yp)])) rfl (hb hby at_7) _ ?_
    show Steps p.tables e below (s₁.setTop (mkF m 9 #[.val (.long ya), .second, .val (.int yp), .val (.long aa), .second, .unset, .unset, .unset] [(.int (2147483647 : Int32)), (.int yp)])) _
    refine XS.iand X0.here hx rfl (hb hby at_9) rfl ?_
    show Steps p.tables e below (s₁.setTop (mkF m 10 #[.val (.long ya), .second, .val (.int yp), .val (.long aa), .second, .unset, .unset, .unset] [(.int (yp &&& (2147483647 : Int32)))])) _
    refine XS.bipush X0.here hx rfl (hb hby at_10) ?_
    show Steps p.tables e below (s₁.setTop (mkF m 12 #[.val (.long ya), .second, .val (.int yp), .val (.long aa), .second, .unset, .unset, .unset] [(.int (101 : Int32)), (.int (yp &&& (2147483647 : Int32)))])) _
    refine iremM X0 hx rfl (hb hby at_12) rfl (by decide) ?_
    show Steps p.tables e below (s₁.setTop (mkF m 13 #[.val (.long ya), .second, .val (.int yp), .val (.long aa), .second, .unset, .unset, .unset] [(.int ((yp &&& (2147483647 : Int32)) % (101 : Int32)))])) _
    refine XS.istore X0.here hx rfl (hb hby at_13) rfl (l' := #[.val (.long ya), .second, .val (.int yp), .val (.long aa), .second, .val (.int ((yp &&& (2147483647 : Int32)) % (101 : Int32))), .unset, .unset]) rfl ?_
    show Steps p.tables e below (s₁.setTop (mkF m 15 #[.val (.long ya), .second, .val (.int yp), .val (.long aa), .second, .val (.int ((yp &&& (2147483647 : Int32)) % (101 : Int32))), .unset, .unset] [])) _
    exact k
  obtain ⟨pp, hpp⟩ : ∃ z : Int32, z = ((yp &&& (2147483647 : Int32)) % (101 : Int32)) := ⟨_, rfl⟩
  rw [← hpp] at pre2
  have pre3 : ∀ t, Steps p.tables e below (s₁.setTop (mkF m 18 #[.val (.long ya), .second, .val (.int yp), .val (.long aa), .second, .val (.int pp), .unset, .unset] [(.int pp), (.long aa)])) t → Steps p.tables e below (s₁.setTop (entryFrame m #[(.long ya), (.int yp)] maxLocals)) t := by
    intro t k
    refine pre2 t ?_
    refine XS.lloadN X0.here hx rfl (hb hby at_15) rfl ?_
    show Steps p.tables e below (s₁.setTop (mkF m 16 #[.val (.long ya), .second, .val (.int yp), .val (.long aa), .second, .val (.int pp), .unset, .unset] [(.long aa)])) _
    refine XS.iload X0.here hx rfl (hb hby at_16) rfl ?_
    show Steps p.tables e below (s₁.setTop (mkF m 18 #[.val (.long ya), .second, .val (.int yp), .val (.long aa), .second, .val (.int pp), .unset, .unset] [(.int pp), (.long aa)])) _
    exact k
  obtain ⟨_, _, ⟨T4, L4, k4, n4⟩, -, X4, ⟨Lc4, hQ4, l4, y4, z4⟩, st4⟩ := Jvm.LawKit.callS X0 hx (y := (⟨"com/example/lachesis/lachesis/Amounts", "percentOf", "(JI)J"⟩ : MethodName)) hown (mvT hZ (hw _ (List.mem_of_getElem? (i := 2) rfl))) (mvT hZ (hw _ (List.mem_of_getElem? (i := 3) rfl))) (mvT hZ (hw _ (List.mem_of_getElem? (i := 4) rfl))) (mvT hZ (hw _ (List.mem_of_getElem? (i := 5) rfl))) (by decide) (backOf (W := 0) (rm_percentOf l Z a0 hw [] aa pp h0 n0 Z0 ((own_pre _ _ _ _ haa hpp).1) ((own_pre _ _ _ _ haa hpp).2.1) ((own_pre _ _ _ _ haa hpp).2.2)) hZ (hw _ (List.mem_of_getElem? (i := 5) rfl)) (hw _ (List.mem_of_getElem? (i := 4) rfl)) (by decide) (by decide)) (g := (mkF m 18 #[.val (.long ya), .second, .val (.int yp), .val (.long aa), .second, .val (.int pp), .unset, .unset] [(.int pp), (.long aa)])) rfl (by rw [hml]; rfl) (argsL := [(.long aa), (.int pp)]) (rest := []) (lenOf pd0 rfl) rfl (by show 2 * 0 + _ ≤ _; exact Nat.le_of_eq rfl) (hb hby at_18) (fun _ _ => ⟨rfl, e0, (by decide : 0 + 0 ≤ _), (by decide : 0 + 0 ≤ _)⟩)
  dsimp only [Pt.U, Pt.locs, Pt.cells, Pt.slots] at X4 l4 y4 z4 st4 hQ4
  subst l4 y4 z4
  obtain ⟨rfl, M4, e4⟩ := hQ4
  have N4 := Fr.app N0 M4
  have pre5 : ∀ t, Steps p.tables e below (T4.setTop (mkF m 21 #[.val (.long ya), .second, .val (.int yp), .val (.long aa), .second, .val (.int pp), .unset, .unset] [(.long (((aa / (100 : Int64)) * (pp.toInt64)) + ((((aa - (aa / (100 : Int64)) * (100 : Int64)) * (pp.toInt64)) + (50 : Int64)) / (100 : Int64))))])) t → Steps p.tables e below (s₁.setTop (entryFrame m #[(.long ya), (.int yp)] maxLocals)) t := fun t k => pre3 t (st4 t k)
  have pre6 : ∀ t, Steps p.tables e below (T4.setTop (mkF m 23 #[.val (.long ya), .second, .val (.int yp), .val (.long aa), .second, .val (.int pp), .val (.long (((aa / (100 : Int64)) * (pp.toInt64)) + ((((aa - (aa / (100 : Int64)) * (100 : Int64)) * (pp.toInt64)) + (50 : Int64)) / (100 : Int64)))), .second] [])) t → Steps p.tables e below (s₁.setTop (entryFrame m #[(.long ya), (.int yp)] maxLocals)) t := by
    intro t k
    refine pre5 t ?_
    refine XS.lstore X4.here hx rfl (hb hby at_21) rfl (l' := #[.val (.long ya), .second, .val (.int yp), .val (.long aa), .second, .val (.int pp), .val (.long (((aa / (100 : Int64)) * (pp.toInt64)) + ((((aa - (aa / (100 : Int64)) * (100 : Int64)) * (pp.toInt64)) + (50 : Int64)) / (100 : Int64)))), .second]) rfl ?_
    show Steps p.tables e below (T4.setTop (mkF m 23 #[.val (.long ya), .second, .val (.int yp), .val (.long aa), .second, .val (.int pp), .val (.long (((aa / (100 : Int64)) * (pp.toInt64)) + ((((aa - (aa / (100 : Int64)) * (100 : Int64)) * (pp.toInt64)) + (50 : Int64)) / (100 : Int64)))), .second] [])) _
    exact k
  obtain ⟨got, hgot⟩ : ∃ z : Int64, z = (((aa / (100 : Int64)) * (pp.toInt64)) + ((((aa - (aa / (100 : Int64)) * (100 : Int64)) * (pp.toInt64)) + (50 : Int64)) / (100 : Int64))) := ⟨_, rfl⟩
  rw [← hgot] at pre6
  have pre7 : ∀ t, Steps p.tables e below (T4.setTop (mkF m 28 #[.val (.long ya), .second, .val (.int yp), .val (.long aa), .second, .val (.int pp), .val (.long got), .second] [(.int pp), (.long aa), (.long got)])) t → Steps p.tables e below (s₁.setTop (entryFrame m #[(.long ya), (.int yp)] maxLocals)) t := by
    intro t k
    refine pre6 t ?_
    refine XS.lload X4.here hx rfl (hb hby at_23) rfl ?_
    show Steps p.tables e below (T4.setTop (mkF m 25 #[.val (.long ya), .second, .val (.int yp), .val (.long aa), .second, .val (.int pp), .val (.long got), .second] [(.long got)])) _
    refine XS.lloadN X4.here hx rfl (hb hby at_25) rfl ?_
    show Steps p.tables e below (T4.setTop (mkF m 26 #[.val (.long ya), .second, .val (.int yp), .val (.long aa), .second, .val (.int pp), .val (.long got), .second] [(.long aa), (.long got)])) _
    refine XS.iload X4.here hx rfl (hb hby at_26) rfl ?_
    show Steps p.tables e below (T4.setTop (mkF m 28 #[.val (.long ya), .second, .val (.int yp), .val (.long aa), .second, .val (.int pp), .val (.long got), .second] [(.int pp), (.long aa), (.long got)])) _
    exact k
  obtain ⟨_, _, ⟨T8, L8, k8, n8⟩, -, X8, ⟨Lc8, hQ8, l8, y8, z8⟩, st8⟩ := Jvm.LawKit.callS X4 hx (y := (⟨"com/example/lachesis/lachesis/AmountsPercentOfPinLaw", "reference", "(JI)J"⟩ : MethodName)) hown (mvT hZ (hw _ (List.mem_of_getElem? (i := 8) rfl))) (mvT hZ (hw _ (List.mem_of_getElem? (i := 9) rfl))) (mvT hZ (hw _ (List.mem_of_getElem? (i := 10) rfl))) (mvT hZ (hw _ (List.mem_of_getElem? (i := 11) rfl))) (by decide) (backOf (W := 2) (rm_reference l Z a0 hw [] aa pp h0 n0 Z0 ) hZ (hw _ (List.mem_of_getElem? (i := 11) rfl)) (hw _ (List.mem_of_getElem? (i := 10) rfl)) (by decide) (by decide)) (g := (mkF m 28 #[.val (.long ya), .second, .val (.int yp), .val (.long aa), .second, .val (.int pp), .val (.long got), .second] [(.int pp), (.long aa), (.long got)])) rfl (by rw [hml]; rfl) (argsL := [(.long aa), (.int pp)]) (rest := [(.long got)]) (lenOf pd0 rfl) rfl (by show 2 * 0 + _ ≤ _; exact Nat.le_of_eq rfl) (hb hby at_28) (fun _ _ => ⟨rfl, e4, (by decide : 0 + 0 ≤ _), (by decide : 0 + 0 ≤ _)⟩)
  dsimp only [Pt.U, Pt.locs, Pt.cells, Pt.slots] at X8 l8 y8 z8 st8 hQ8
  subst l8 y8 z8
  obtain ⟨rfl, M8, e8⟩ := hQ8
  have N8 := Fr.app N4 M8
  have pre9 : ∀ t, Steps p.tables e below (T8.setTop (mkF m 31 #[.val (.long ya), .second, .val (.int yp), .val (.long aa), .second, .val (.int pp), .val (.long got), .second] [(.long ((((((aa.toUInt64 >>> ((32 : Int32) &&& 0x3f).toInt64.toUInt64).toInt64) * (pp.toInt64)) / (100 : Int64)) <<< ((32 : Int32) &&& 0x3f).toInt64) + ((((((((aa.toUInt64 >>> ((32 : Int32) &&& 0x3f).toInt64.toUInt64).toInt64) * (pp.toInt64)) - ((((aa.toUInt64 >>> ((32 : Int32) &&& 0x3f).toInt64.toUInt64).toInt64) * (pp.toInt64)) / (100 : Int64)) * (100 : Int64)) <<< ((32 : Int32) &&& 0x3f).toInt64) + ((aa &&& (4294967295 : Int64)) * (pp.toInt64))) + (50 : Int64)) / (100 : Int64)))), (.long got)])) t → Steps p.tables e below (s₁.setTop (entryFrame m #[(.long ya), (.int yp)] maxLocals)) t := fun t k => pre7 t (st8 t k)
  have pre10 : ∀ t, Steps p.tables e below (T8.setTop (mkF m 54 #[.val (.long ya), .second, .val (.int yp), .val (.long aa), .second, .val (.int pp), .val (.long got), .second] [(.int (1 : Int32))])) t → Steps p.tables e below (s₁.setTop (entryFrame m #[(.long ya), (.int yp)] maxLocals)) t := by
    intro t k
    refine pre9 t ?_
    refine XS.lcmp X8.here hx rfl (hb hby at_31) rfl ?_
    show Steps p.tables e below (T8.setTop (mkF m 32 #[.val (.long ya), .second, .val (.int yp), .val (.long aa), .second, .val (.int pp), .val (.long got), .second] [(.int (lcmpW got ((((((aa.toUInt64 >>> ((32 : Int32) &&& 0x3f).toInt64.toUInt64).toInt64) * (pp.toInt64)) / (100 : Int64)) <<< ((32 : Int32) &&& 0x3f).toInt64) + ((((((((aa.toUInt64 >>> ((32 : Int32) &&& 0x3f).toInt64.toUInt64).toInt64) * (pp.toInt64)) - ((((aa.toUInt64 >>> ((32 : Int32) &&& 0x3f).toInt64.toUInt64).toInt64) * (pp.toInt64)) / (100 : Int64)) * (100 : Int64)) <<< ((32 : Int32) &&& 0x3f).toInt64) + ((aa &&& (4294967295 : Int64)) * (pp.toInt64))) + (50 : Int64)) / (100 : Int64)))))])) _
    refine XS.ifNo X8.here hx rfl (hb hby at_32) rfl ((if0 _ _).trans (teq ((lw_eq _ _).mpr (show got = ((((((aa.toUInt64 >>> ((32 : Int32) &&& 0x3f).toInt64.toUInt64).toInt64) * (pp.toInt64)) / (100 : Int64)) <<< ((32 : Int32) &&& 0x3f).toInt64) + ((((((((aa.toUInt64 >>> ((32 : Int32) &&& 0x3f).toInt64.toUInt64).toInt64) * (pp.toInt64)) - ((((aa.toUInt64 >>> ((32 : Int32) &&& 0x3f).toInt64.toUInt64).toInt64) * (pp.toInt64)) / (100 : Int64)) * (100 : Int64)) <<< ((32 : Int32) &&& 0x3f).toInt64) + ((aa &&& (4294967295 : Int64)) * (pp.toInt64))) + (50 : Int64)) / (100 : Int64))) from (own_law _ _ _ _ haa hpp _ hgot).1))).2) ?_
    show Steps p.tables e below (T8.setTop (mkF m 35 #[.val (.long ya), .second, .val (.int yp), .val (.long aa), .second, .val (.int pp), .val (.long got), .second] [])) _
    refine XS.lload X8.here hx rfl (hb hby at_35) rfl ?_
    show Steps p.tables e below (T8.setTop (mkF m 37 #[.val (.long ya), .second, .val (.int yp), .val (.long aa), .second, .val (.int pp), .val (.long got), .second] [(.long got)])) _
    refine XS.lconst X8.here hx rfl (hb hby at_37) ?_
    show Steps p.tables e below (T8.setTop (mkF m 38 #[.val (.long ya), .second, .val (.int yp), .val (.long aa), .second, .val (.int pp), .val (.long got), .second] [(.long (0 : Int64)), (.long got)])) _
    refine XS.lcmp X8.here hx rfl (hb hby at_38) rfl ?_
    show Steps p.tables e below (T8.setTop (mkF m 39 #[.val (.long ya), .second, .val (.int yp), .val (.long aa), .second, .val (.int pp), .val (.long got), .second] [(.int (lcmpW got (0 : Int64)))])) _
    refine XS.ifNo X8.here hx rfl (hb hby at_39) rfl ((if0 _ _).trans (flt (mt (lw_lt _ _).mp (show ¬ (got < (0 : Int64)) from (own_law _ _ _ _ haa hpp _ hgot).2.1))).1) ?_
    show Steps p.tables e below (T8.setTop (mkF m 42 #[.val (.long ya), .second, .val (.int yp), .val (.long aa), .second, .val (.int pp), .val (.long got), .second] [])) _
    refine XS.lload X8.here hx rfl (hb hby at_42) rfl ?_
    show Steps p.tables e below (T8.setTop (mkF m 44 #[.val (.long ya), .second, .val (.int yp), .val (.long aa), .second, .val (.int pp), .val (.long got), .second] [(.long got)])) _
    refine XS.lloadN X8.here hx rfl (hb hby at_44) rfl ?_
    show Steps p.tables e below (T8.setTop (mkF m 45 #[.val (.long ya), .second, .val (.int yp), .val (.long aa), .second, .val (.int pp), .val (.long got), .second] [(.long aa), (.long got)])) _
    refine XS.lcmp X8.here hx rfl (hb hby at_45) rfl ?_
    show Steps p.tables e below (T8.setTop (mkF m 46 #[.val (.long ya), .second, .val (.int yp), .val (.long aa), .second, .val (.int pp), .val (.long got), .second] [(.int (lcmpW got aa))])) _
    refine XS.ifNo X8.here hx rfl (hb hby at_46) rfl ((if0 _ _).trans (flt (mt (lw_gt _ _).mp (show ¬ (aa < got) from (own_law _ _ _ _ haa hpp _ hgot).2.2))).2.2.1) ?_
    show Steps p.tables e below (T8.setTop (mkF m 49 #[.val (.long ya), .second, .val (.int yp), .val (.long aa), .second, .val (.int pp), .val (.long got), .second] [])) _
    refine XS.iconst X8.here hx rfl (hb hby at_49) ?_
    show Steps p.tables e below (T8.setTop (mkF m 50 #[.val (.long ya), .second, .val (.int yp), .val (.long aa), .second, .val (.int pp), .val (.long got), .second] [(.int (1 : Int32))])) _
    refine XS.goto X8.here hx rfl (pc0 := 50) (pc' := 54) rfl (hb hby at_50) (by decide) (by decide) ?_
    show Steps p.tables e below (T8.setTop (mkF m 54 #[.val (.long ya), .second, .val (.int yp), .val (.long aa), .second, .val (.int pp), .val (.long got), .second] [(.int (1 : Int32))])) _
    exact k
  obtain ⟨fs, hr, hrun, hended, hW, hsame⟩ := X8.leave (v := some (.int (1 : Int32))) (fun h => by rw [Bd.returns] at h; cases h)
  refine ⟨_, _, pre10 _ ?_, hrun, hended, _, _, rfl, ?_, ⟨_, rfl⟩, hW, hsame.mono (by decide) (by decide)⟩
  · exact retN X8 hx (t := .boolean) Bd.returns (by simp) (hb hby at_54) hr
  · show Q_rm0 Z ya yp h0 n0 _ T8.heap _
    rw [e8]
    exact ⟨rfl, N8⟩
set_option maxRecDepth 65536 in
set_option maxHeartbeats 40000000 in
theorem comes_1 {Post : Tables → Env → Array Value → State → Outcome → State → Prop} (hpost : ∀ tb e args s v u, (limb_1_1.after args s (.returned v) u = true ∧ limb_1_2.after args s (.returned v) u = true ∧ True) → FrameEnd s (.returned v) u (Jvm.fieldLocs frame_1_writes args s ++ Jvm.arrayLocs frame_1_arrays args s ++ Jvm.staticLocs frame_1_statics s) 0 0 → Post tb e args s (.returned v) u) :
    ArmFor flags0 classFile x code maxLocals ret World_1 tables_1 room_1 Calls_1 rest_1 Pre_1 Post := by
  intro l hfl _ _ p e ha hc hk s m args below hf hA hF happ hP
  obtain ⟨hcalls, hrest, hpre⟩ := hP
  obtain ⟨-, -, -, hnamed, -, -, -, hat⟩ := (Spec.applies_iff hf).mp happ
  obtain ⟨hg, hn⟩ := and_e (Cond.before_iff.mp (show (Jvm.Cond.and given_1 narrow_1).before args s = true from hpre))
  obtain ⟨ga1, gb1⟩ := and_e hg
  obtain ⟨ga2, gb2⟩ := and_e gb1
  obtain ⟨w0, w1, rfl⟩ : ∃ w0 w1 : Value, args = #[w0, w1] := by
    have hs : args.size = 2 := by simpa [Cond.value, given_1] using ga1
    obtain ⟨L⟩ := args
    match L, hs with
    | [w0, w1], _ => exact ⟨w0, w1, rfl⟩
  have hw := fun d (hd : d ∈ tables_1) => atoms_spec (ws := Jvm.Cond.code x code maxLocals ret :: tables_1) hat d (List.mem_cons_of_mem _ hd)
  have hfit : Fit s := fun {y c} hc i hi => by
    obtain ⟨ha, rfl⟩ := Array.getElem?_eq_some_iff.mp hc
    have q := List.all_eq_true.mp ((Array.all_eq_true_iff_forall_mem.mp hF) _ (Array.getElem_mem ha)) i (List.mem_range.mpr hi)
    simpa [Array.getElem?_eq_getElem hi] using q
  obtain ⟨i0, ei0⟩ := isL_v ga2
  obtain rfl : w0 = (.long i0) := Option.some.inj ei0
  obtain ⟨i1, ei1⟩ := is_v gb2
  obtain rfl : w1 = (.int i1) := Option.some.inj ei1
  obtain ⟨n, o, h1, h2, h3, _, L, rfl, ⟨rfl, N⟩, hq⟩ := rm0 l s _ hw tables_1 i0 i1 s.heap s.heap.size (Nat.le_refl _)  p e ha hc hk s m _ below hf ((Spec.applies_iff_loose hf).mp happ).1 ⟨rfl, State.Warmed39.refl s, rfl⟩ trivial
  refine ⟨n, _, h1, h2, h3, hpost _ _ _ _ _ _ ⟨Cond.after_iff.mpr rfl, Cond.after_iff.mpr (eq_i res_at (Term.int_eval (1)) rfl), trivial⟩ ⟨hq.1, hq.2.1, (hq.2.2.sift fun y hy => Or.inr (N y hy)).mono (by decide) (by decide)⟩⟩
theorem main_1_1 : Claimed_1_1 := comes_1 fun _ _ _ _ _ _ h hF => ⟨h.1, hF⟩
theorem main_1_2 : Claimed_1_2 := comes_1 fun _ _ _ _ _ _ h hF => ⟨h.2.1, hF⟩
end Jvm.Pilot.@@N@@
namespace Jvm.Pilot.@@N@@
open Jvm Jvm.ClassFile Sem Op Lib Jvm.Free Jvm.Stand Jvm.Pilot.@@N@@.Jvm.D
/-! MADE BY PROGRAM (witnessworld.py) out of the Statement's table words and the real class files: 9 classes; the members and pool entries that the words name. The judged class is class 1, her method 2. -/
namespace start1
open Jvm.ClassFile
def u (s : String) : CpInfo := .utf8 (stringToUtf16 s)
/-- a pool by its gaps: so many unusable entries, then the entry; so many at the end -/
def gap : Nat → List CpInfo → List CpInfo
  | 0, r => r
  | n + 1, r => .unusable :: gap n r
def poolList (es : List (Nat × CpInfo)) (last : Nat) : List CpInfo := es.foldr (fun e r => gap e.1 (e.2 :: r)) (gap last [])
def pool (es : List (Nat × CpInfo)) (last : Nat) : Array CpInfo := ⟨poolList es last⟩
def fileOf (pool : Array CpInfo) (this : Nat) (attrs : Array Attribute := #[]) (ms : Array MethodInfo := #[]) (fl : Nat := 33) (sup : Nat := 0) (ifs : Array Nat := #[]) (fds : Array FieldInfo := #[]) : ClassFile where
  minorVersion := 0
  majorVersion := 65
  constantPool := pool
  accessFlags := fl
  thisClass := this
  superClass := sup
  interfaces := ifs
  fields := fds
  methods := ms
  attributes := attrs
def plain (name : String) (sup : Option ClassId) : Class where
  name := name
  kind := .ordinary
  loader := none
  accessFlags := 33
  super := sup
  interfaces := #[]
  cf := none
  fields := #[]
  methods := #[]
  instanceTypes := #[]
  staticTypes := #[]
  resolved := #[]
  callSites := []
  init := .initialized
  statics := none
  mirror := none

def pool0 : Array CpInfo := pool [(5, u "<init>"), (0, u "()V"), (1, .class_ 10), (1, u "java/lang/Object")] 113

def k0m0 : Method := { name := "<init>", desc := "()V", sig := { parameters := [], returnType := none }, accessFlags := 1, code := none }
/-- java/lang/Object -/
def k0 : Class := { plain "java/lang/Object" none with
  accessFlags := 33
  interfaces := #[]
  cf := some (fileOf pool0 8 #[] #[{ accessFlags := 1, nameIndex := 5, descriptorIndex := 6, attributes := #[] }] 33 0 #[] #[])
  fields := #[]
  methods := #[k0m0]
  instanceTypes := #[]
  staticTypes := #[]
  resolved := Array.replicate 124 none
  statics := none }

def pool1 : Array CpInfo := pool [(2, .class_ 4), (1, u "java/lang/Object"), (0, u "<init>"), (0, u "()V"), (0, .long 4294967295), (1, .long 100), (1, .long 50), (3, .long 9223372036854775807), (1, .integer 2147483647), (0, .methodref 19 20), (0, .class_ 21), (0, .nameAndType 22 23), (0, u "com/example/lachesis/lachesis/Amounts"), (0, u "percentOf"), (0, u "(JI)J"), (0, .methodref 25 26), (0, .class_ 27), (0, .nameAndType 28 23), (0, u "com/example/lachesis/lachesis/AmountsPercentOfPinLaw"), (0, u "reference"), (2, u "law"), (0, u "(JI)Z")] 3

def k1m0 : Method := { name := "<init>", desc := "()V", sig := { parameters := [], returnType := none }, accessFlags := 2, code := none }
def k1c1 : Code := { maxStack := 4, maxLocals := 13, code := method_2_code, exceptionTable := #[], attributes := #[] }
def k1m1 : Method := { name := "reference", desc := "(JI)J", sig := { parameters := [.long, .int], returnType := some .long }, accessFlags := 10, code := some k1c1 }
def k1c2 : Code := { maxStack := 5, maxLocals := 8, code := code, exceptionTable := #[], attributes := #[] }
def k1m2 : Method := { name := "law", desc := "(JI)Z", sig := { parameters := [.long, .int], returnType := some .boolean }, accessFlags := 9, code := some k1c2 }
/-- com/example/lachesis/lachesis/AmountsPercentOfPinLaw -/
def k1 : Class := { plain "com/example/lachesis/lachesis/AmountsPercentOfPinLaw" (some 0) with
  accessFlags := 49
  interfaces := #[]
  cf := some (fileOf pool1 25 #[] #[{ accessFlags := 2, nameIndex := 5, descriptorIndex := 6, attributes := #[] }, { accessFlags := 10, nameIndex := 28, descriptorIndex := 23, attributes := #[] }, { accessFlags := 9, nameIndex := 31, descriptorIndex := 32, attributes := #[] }] 49 2 #[] #[])
  fields := #[]
  methods := #[k1m0, k1m1, k1m2]
  instanceTypes := #[]
  staticTypes := #[]
  resolved := Array.replicate 36 none
  statics := none }

def pool2 : Array CpInfo := pool [(2, .class_ 4), (1, u "java/lang/Object"), (0, u "<init>"), (0, u "()V"), (9, .class_ 17), (0, u "com/example/lachesis/lachesis/Amounts"), (0, .long 100), (4, .long 50), (1, u "HUNDRED"), (0, u "J"), (3, u "percentOf"), (0, u "(JI)J")] 20

def k2m0 : Method := { name := "<init>", desc := "()V", sig := { parameters := [], returnType := none }, accessFlags := 2, code := none }
def k2c1 : Code := { maxStack := 6, maxLocals := 7, code := prog_2_method_2_code, exceptionTable := #[], attributes := #[] }
def k2m1 : Method := { name := "percentOf", desc := "(JI)J", sig := { parameters := [.long, .int], returnType := some .long }, accessFlags := 9, code := some k2c1 }
/-- com/example/lachesis/lachesis/Amounts -/
def k2 : Class := { plain "com/example/lachesis/lachesis/Amounts" (some 0) with
  accessFlags := 49
  interfaces := #[]
  cf := some (fileOf pool2 16 #[] #[{ accessFlags := 2, nameIndex := 5, descriptorIndex := 6, attributes := #[] }, { accessFlags := 9, nameIndex := 30, descriptorIndex := 31, attributes := #[] }] 49 2 #[] #[{ accessFlags := 26, nameIndex := 25, descriptorIndex := 26, attributes := #[] }])
  fields := #[{ name := "HUNDRED", type := .long, accessFlags := 26, slot := 0, constantValue := 0 }]
  methods := #[k2m0, k2m1]
  instanceTypes := #[]
  staticTypes := #[.long]
  resolved := Array.replicate 52 none
  statics := none }

def pool3 : Array CpInfo := pool [(1, u "java/lang/Cloneable"), (0, .class_ 1), (0, u "java/lang/Object"), (0, .class_ 3)] 3

/-- java/lang/Cloneable -/
def k3 : Class := { plain "java/lang/Cloneable" (some 0) with
  accessFlags := 1537
  interfaces := #[]
  cf := some (fileOf pool3 2 #[] #[] 1537 4 #[] #[])
  fields := #[]
  methods := #[]
  instanceTypes := #[]
  staticTypes := #[]
  resolved := Array.replicate 8 none
  statics := none }

def pool4 : Array CpInfo := pool [(1, u "java/io/Serializable"), (0, .class_ 1), (0, u "java/lang/Object"), (0, .class_ 3)] 3

/-- java/io/Serializable -/
def k4 : Class := { plain "java/io/Serializable" (some 0) with
  accessFlags := 1537
  interfaces := #[]
  cf := some (fileOf pool4 2 #[] #[] 1537 4 #[] #[])
  fields := #[]
  methods := #[]
  instanceTypes := #[]
  staticTypes := #[]
  resolved := Array.replicate 8 none
  statics := none }

/-- the primitive byte -/
def k5 : Class := { plain "byte" none with kind := .primitive 'B', accessFlags := 0x411 }
/-- [B -/
def k6 : Class := { plain "[B" (some 0) with kind := .array 5 .byte, interfaces := #[3, 4], accessFlags := 1041 }

/-- the primitive int -/
def k7 : Class := { plain "int" none with kind := .primitive 'I', accessFlags := 0x411 }
/-- [I -/
def k8 : Class := { plain "[I" (some 0) with kind := .array 7 .int, interfaces := #[3, 4], accessFlags := 1041 }

def heap : Heap := #[]
def classes : Array Class := #[k0, k1, k2, k3, k4, k5, k6, k7, k8]
def interned : List (Array UInt16 × Addr) := []
def slotsUsed : Nat := 0
def theMethod : MethodId := ⟨1, 2⟩
def args0 : Array Value := #[.long 5, .int 5]
def aboutOver (below : List Frame) : State where
  vm := { classes := classes, interned := interned.toArray }
  heap := heap
  slotsUsed := slotsUsed
  threads := #[{ frames := .invoking theMethod args0 :: below }]
def below0 : List Frame := [.native { method := ⟨0, 0⟩, args := #[] }]
def about1 : State := aboutOver below0
def p0 : Program := .bare "" "" ""
def e0 : Env := launch0.env 0 0 0
theorem w_frames : about1.frames = Frame.invoking theMethod args0 :: below0 := rfl
set_option maxRecDepth 65536 in
theorem w_args : argsFit about1.vm theMethod args0 = true := by decide +kernel
set_option maxRecDepth 65536 in
theorem w_heap : heapFits about1 = true := by decide +kernel
set_option maxRecDepth 65536 in
theorem w_runnable : about1.curStatus? = some .runnable := by decide +kernel
set_option maxRecDepth 65536 in
theorem w_alone : about1.alone = true := by decide +kernel
set_option maxRecDepth 65536 in
theorem w_named : about1.methodNamed? x = some theMethod := by decide +kernel
set_option maxRecDepth 65536 in
theorem w_hears : about1.hears theMethod below0 = true := by decide +kernel
set_option maxRecDepth 65536 in
theorem w_ripe : about1.ripe theMethod args0 below0 = true := by decide +kernel
theorem w_running : about1.status = .running := rfl
set_option maxRecDepth 65536 in
theorem w_room : about1.hasRoom e0.platform room_1 = true :=
  launch0.hasRoom_least _ room_1 (by decide +kernel) (by decide +kernel) (by decide +kernel) (by decide +kernel) (by decide +kernel) (by decide +kernel)
theorem allAtoms_all (ts : List Jvm.Cond) (a : Array Jvm.Value) (st : Jvm.State) : (allAtoms ts).before a st = ts.all (fun c => c.before a st) := by
  induction ts with
  | nil => rfl
  | cons c t ih =>
    show (Jvm.Cond.and c (allAtoms t)).before a st = _
    rw [Jvm.Cond.before_and, ih, List.all_cons]
def words1 : List Jvm.Cond := Jvm.Cond.code x code maxLocals ret :: tables_1
/-- a 'code' word, met by the world's own term for the bytes: nothing is compared byte by byte -/
theorem code_word {y : MethodName} {bytes : ByteArray} {mx : Nat} {rt : Option FieldType} {a : Array Value} {s : State} {m : MethodId} {meth : Method} {c : Code} (h1 : s.methodNamed? y = some m) (h2 : s.vm.method? m = some meth) (h3 : meth.code = some c) (h4 : c.code = bytes)
    (h5 : (c.maxLocals == mx && c.exceptionTable.isEmpty && decide (c.maxStack ≤ mostOperands) && decide (meth.sig.returnType = rt) && !meth.locks && decide (parseMethodDescriptor y.desc = some meth.sig)) = true) : (Jvm.Cond.code y bytes mx rt).before a s = true := by
  simp only [Bool.and_eq_true, beq_iff_eq, Bool.not_eq_true', decide_eq_true_eq] at h5
  obtain ⟨⟨⟨⟨⟨g1, g2⟩, g3⟩, g4⟩, g5⟩, g6⟩ := h5
  simp [Cond.before, Cond.holds, Cond.value, h1, h2, h3, h4, g1, g2, g3, g4, g5, g6]
def isCode : Jvm.Cond → Bool
  | .code _ _ _ _ => true
  | _ => false
theorem all_split {L : List Jvm.Cond} {P : Jvm.Cond → Bool} (h1 : L.all (fun c => isCode c || P c) = true) (h2 : ∀ c ∈ L.filter isCode, P c = true) : L.all P = true := by
  refine List.all_eq_true.mpr fun c hc => ?_
  have h := List.all_eq_true.mp h1 c hc
  rcases Bool.eq_false_or_eq_true (isCode c) with hi | hi
  · exact h2 c (List.mem_filter.mpr ⟨hc, hi⟩)
  · simpa [hi] using h
set_option maxRecDepth 65536 in
theorem w_c0 : (Jvm.Cond.code x code maxLocals ret).before args0 about1 = true := code_word (m := ⟨1, 2⟩) (meth := k1m2) (c := k1c2) (by decide +kernel) rfl rfl rfl (by decide +kernel)
set_option maxRecDepth 65536 in
theorem w_c1 : (Jvm.Cond.code ({ cls := "com/example/lachesis/lachesis/Amounts", name := "percentOf", desc := "(JI)J" } : Jvm.MethodName) prog_2_method_2_code (7 : Nat) (Option.some Jvm.ClassFile.FieldType.long)).before args0 about1 = true := code_word (m := ⟨2, 1⟩) (meth := k2m1) (c := k2c1) (by decide +kernel) rfl rfl rfl (by decide +kernel)
set_option maxRecDepth 65536 in
theorem w_c2 : (Jvm.Cond.code ({ cls := "com/example/lachesis/lachesis/AmountsPercentOfPinLaw", name := "reference", desc := "(JI)J" } : Jvm.MethodName) method_2_code (13 : Nat) (Option.some Jvm.ClassFile.FieldType.long)).before args0 about1 = true := code_word (m := ⟨1, 1⟩) (meth := k1m1) (c := k1c1) (by decide +kernel) rfl rfl rfl (by decide +kernel)
def codes1 : List Jvm.Cond := [Jvm.Cond.code x code maxLocals ret, Jvm.Cond.code ({ cls := "com/example/lachesis/lachesis/Amounts", name := "percentOf", desc := "(JI)J" } : Jvm.MethodName) prog_2_method_2_code (7 : Nat) (Option.some Jvm.ClassFile.FieldType.long), Jvm.Cond.code ({ cls := "com/example/lachesis/lachesis/AmountsPercentOfPinLaw", name := "reference", desc := "(JI)J" } : Jvm.MethodName) method_2_code (13 : Nat) (Option.some Jvm.ClassFile.FieldType.long)]
set_option maxRecDepth 65536 in
theorem codes_eq : words1.filter isCode = codes1 := rfl
theorem w_codes : ∀ c ∈ words1.filter isCode, c.before args0 about1 = true := by
  rw [codes_eq]
  intro c hc
  simp only [codes1, List.mem_cons, List.not_mem_nil, or_false] at hc
  rcases hc with rfl | rfl | rfl
  · exact w_c0
  · exact w_c1
  · exact w_c2
set_option maxRecDepth 65536 in
theorem w_t1 : words1.all (fun c => isCode c || c.before args0 about1) = true := by decide +kernel
theorem w_tables : (allAtoms (Jvm.Cond.code x code maxLocals ret :: tables_1)).before args0 about1 = true := by
  rw [allAtoms_all]
  show words1.all (fun c => c.before args0 about1) = true
  refine all_split ?_ w_codes
  rw [w_t1]
set_option maxRecDepth 65536 in
theorem w_case : (Jvm.Cond.and given_1 narrow_1).before args0 about1 = true := by decide +kernel
theorem w_applies : (headSpec (Jvm.Cond.code x code maxLocals ret :: tables_1) room_1).applies x e0.platform about1 = true :=
  (Spec.applies_iff w_frames).mpr ⟨w_running, w_runnable, w_alone, w_named, w_hears, w_ripe, w_room, w_tables⟩
theorem atStart : AtStart classFile x code maxLocals ret World_1 tables_1 room_1 Calls_1 rest_1 Pre_1 launch0 p0 e0 about1 theMethod args0 below0 :=
  ⟨lists_1, trivial, launch0.admits_env _ _ _, launch0.least_env, fairChoices_fair.cas, fairChoices_fair.clock, w_frames, w_args, w_heap, w_applies, trivial, trivial, w_case⟩
end start1
theorem witness_1 : WitnessClaimed_1 := ⟨start1.p0, start1.e0, start1.about1, start1.theMethod, start1.args0, start1.below0, start1.atStart⟩
end Jvm.Pilot.@@N@@
