import JvmDerived
import JvmDerived.Pilot.@@N@@Statement
import JvmDerived.Pilot.@@N@@Code
set_option linter.unusedVariables false
set_option linter.unusedSimpArgs false
namespace Jvm.RoadKit
open Sem ClassFile Op Lib Jvm.Stand Jvm.Free Jvm.LawKit
section New
variable {p : Program} {l : Launch} {e : Env} {R : Room} {s : State} {m : MethodId} {args : Array Value} {below : List Frame} {meth : Method} {c : Code} {T : State} {locs : List Loc} {cells slots : Nat}
theorem retI (X : Stand p l e R s m args below meth c T locs cells slots) (hx : p.tables.exec = Jvm.exec) {pc : Nat} {Ls : Array Slot} {z : Int32} {rest : List Value} (hret : meth.sig.returnType = some .int) (hd : decode c.code pc = .ok (.ireturn, 1)) {fs : List Frame}
    (hl : ∀ (f : JFrame) (acts : List Action), f.method = m → f.locked = none → f.entered = [] → (doReturn e (T.setTop f) acts (some (.int z))).1 = T.setFrames fs) : Steps p.tables e below (T.setTop (mkF m pc Ls (.int z :: rest))) (T.setFrames fs) := by
  have hm' : T.vm.method? m = some meth := X.method'
  have hn : narrow .int (.int z) = .int z := rfl
  show Steps p.tables e below (T.setTop { method := m, pc := pc, locals := Ls, stack := _ :: rest, locked := none }) _
  jvm_step X.here [X.here.top, hx, hd, hm', hret, hn]
  first | (intro acts; rw [hl _ acts rfl rfl rfl]) | rw [hl _ _ rfl rfl rfl]
  exact Steps.refl _
end New
end Jvm.RoadKit
namespace Jvm.Pilot.@@N@@
open Jvm Jvm.ClassFile Sem Op Lib Jvm.Free Jvm.Stand Jvm.LawKit Jvm.RoadKit Bundle Jvm.Pilot.@@N@@.Jvm.D
theorem own_keep_ext {h h' : Heap} (K : Keep h h' []) : Ext h h' := ⟨K.1, fun a c q => K.2.1 a c q nin0⟩
theorem own_sta_keep {Z : State} {h h' : Heap} {C n d K : String} {a : Addr} {v : Value} (F : Sta Z h C n d v) (Kp : Keep h h' [a]) (E : Exa Z h a K) : Sta Z h' C n d v := by
  obtain ⟨cf, i, k, f, st, cell, h1, h2, h3, h4, h5, h6, h7⟩ := F
  obtain ⟨cell', k', g1, -, -, g4, -⟩ := E
  have ne : st ≠ a := by
    intro q
    subst q
    rw [h5] at g1
    cases g1
    rw [h6] at g4
    cases g4
  exact ⟨cf, i, k, f, st, cell, h1, h2, h3, h4, Kp.2.1 st cell h5 (ninS ne nin0), h6, h7⟩
def own_perc (xa : Int64) (xp : Int32) : Int64 := (((xa / (100 : Int64)) * (xp.toInt64)) + ((((xa - (xa / (100 : Int64)) * (100 : Int64)) * (xp.toInt64)) + (50 : Int64)) / (100 : Int64)))
theorem d7_0 : decode prog_3_method_2_code 0 = .ok (.lload_n 0, 1) := by decide +kernel
theorem d7_1 : decode prog_3_method_2_code 1 = .ok (.lconst 0, 1) := by decide +kernel
theorem d7_2 : decode prog_3_method_2_code 2 = .ok (.lcmp, 1) := by decide +kernel
theorem d7_3 : decode prog_3_method_2_code 3 = .ok (.ifCond .ge 17, 3) := by decide +kernel
theorem d7_20 : decode prog_3_method_2_code 20 = .ok (.iload_n 2, 1) := by decide +kernel
theorem d7_21 : decode prog_3_method_2_code 21 = .ok (.ifCond .lt 12, 3) := by decide +kernel
theorem d7_24 : decode prog_3_method_2_code 24 = .ok (.iload_n 2, 1) := by decide +kernel
theorem d7_25 : decode prog_3_method_2_code 25 = .ok (.i2l, 1) := by decide +kernel
theorem d7_26 : decode prog_3_method_2_code 26 = .ok (.ldc2_w 18, 3) := by decide +kernel
theorem d7_29 : decode prog_3_method_2_code 29 = .ok (.lcmp, 1) := by decide +kernel
theorem d7_30 : decode prog_3_method_2_code 30 = .ok (.ifCond .le 17, 3) := by decide +kernel
theorem d7_47 : decode prog_3_method_2_code 47 = .ok (.lload_n 0, 1) := by decide +kernel
theorem d7_48 : decode prog_3_method_2_code 48 = .ok (.ldc2_w 18, 3) := by decide +kernel
theorem d7_51 : decode prog_3_method_2_code 51 = .ok (.ldiv, 1) := by decide +kernel
theorem d7_52 : decode prog_3_method_2_code 52 = .ok (.lstore_n 3, 1) := by decide +kernel
theorem d7_53 : decode prog_3_method_2_code 53 = .ok (.lload_n 0, 1) := by decide +kernel
theorem d7_54 : decode prog_3_method_2_code 54 = .ok (.ldc2_w 18, 3) := by decide +kernel
theorem d7_57 : decode prog_3_method_2_code 57 = .ok (.lrem, 1) := by decide +kernel
theorem d7_58 : decode prog_3_method_2_code 58 = .ok (.lstore 5, 2) := by decide +kernel
theorem d7_60 : decode prog_3_method_2_code 60 = .ok (.lload_n 3, 1) := by decide +kernel
theorem d7_61 : decode prog_3_method_2_code 61 = .ok (.iload_n 2, 1) := by decide +kernel
theorem d7_62 : decode prog_3_method_2_code 62 = .ok (.i2l, 1) := by decide +kernel
theorem d7_63 : decode prog_3_method_2_code 63 = .ok (.lmul, 1) := by decide +kernel
theorem d7_64 : decode prog_3_method_2_code 64 = .ok (.lload 5, 2) := by decide +kernel
theorem d7_66 : decode prog_3_method_2_code 66 = .ok (.iload_n 2, 1) := by decide +kernel
theorem d7_67 : decode prog_3_method_2_code 67 = .ok (.i2l, 1) := by decide +kernel
theorem d7_68 : decode prog_3_method_2_code 68 = .ok (.lmul, 1) := by decide +kernel
theorem d7_69 : decode prog_3_method_2_code 69 = .ok (.ldc2_w 23, 3) := by decide +kernel
theorem d7_72 : decode prog_3_method_2_code 72 = .ok (.ladd, 1) := by decide +kernel
theorem d7_73 : decode prog_3_method_2_code 73 = .ok (.ldc2_w 18, 3) := by decide +kernel
theorem d7_76 : decode prog_3_method_2_code 76 = .ok (.ldiv, 1) := by decide +kernel
theorem d7_77 : decode prog_3_method_2_code 77 = .ok (.ladd, 1) := by decide +kernel
theorem d7_78 : decode prog_3_method_2_code 78 = .ok (.lreturn, 1) := by decide +kernel
theorem pn0 : plainName "com/example/lachesis/lachesis/Amounts" = true := by first | (simp [plainName, overriddenIn]; done) | decide +kernel
theorem ef_rm_percentOf (m : MethodId) (xa : Int64) (xp : Int32) : entryFrame m #[(.long xa), (.int xp)] 7 = mkF m 0 #[.val (.long xa), .second, .val (.int xp), .unset, .unset, .unset, .unset] [] := by first | (simp [entryFrame, mkF, argsToLocals, Value.category]; done) | rfl
def Q_rm_percentOf (Z : State) (xa : Int64) (xp : Int32) (h0 : Heap) (n0 : Nat) (v : Option Value) (h : Heap) (L : List Loc) : Prop := v = some (.long (own_perc xa xp)) ∧ Fr n0 L ∧ h = h0
set_option maxRecDepth 65536 in
set_option maxHeartbeats 40000000 in
theorem rm_percentOf (l : Launch) (Z : State) (a0 : Array Value) (hw : ∀ d ∈ tables_1, d.before a0 Z = true) (ws : List Jvm.Cond) (xa : Int64) (xp : Int32) (h0 : Heap) (n0 : Nat) (Z0 : n0 ≤ h0.size) (hA : ¬ (xa < (0 : Int64))) (hP0 : ¬ (xp < (0 : Int32))) (hP1 : ¬ ((100 : Int64) < (xp.toInt64))) :
    MetFree l (⟨"com/example/lachesis/lachesis/Amounts", "percentOf", "(JI)J"⟩ : MethodName) (head1 (Jvm.Cond.code (⟨"com/example/lachesis/lachesis/Amounts", "percentOf", "(JI)J"⟩ : MethodName) prog_3_method_2_code 7 (some .long) :: ws) ({ frames := 0, cells := 0, slots := 0, locals := 0 } : Room)) (fun a U => a = #[(.long xa), (.int xp)] ∧ Z.Warmed39 U.vm ∧ U.heap = h0) (fun _ _ _ _ _ => True) (fun _ U o U' => ∃ v L, o = .returned v ∧ Q_rm_percentOf Z xa xp h0 n0 v U'.heap L ∧ FrameEnd U o U' L ({ frames := 0, cells := 0, slots := 0, locals := 0 } : Room).cells ({ frames := 0, cells := 0, slots := 0, locals := 0 } : Room).slots) := by
  refine MetFree.of_bodySF (plainFor_of_name pn0) hisR ?_
  intro p e s m args below meth c s₁ Bd hml0 hP hK
  obtain ⟨rfl, hZ, hh⟩ := hP
  have hx := Bd.exec
  have hby := Bd.bytes
  have hml : c.maxLocals = 7 := hml0
  have hown : s.vm.findClass "com/example/lachesis/lachesis/Amounts" = some m.cls := findClass_of_methodNamed Bd.named
  have hnm := (name_of_methodNamed Bd.named Bd.method).1
  have X0 : Stand p l e ({ frames := 0, cells := 0, slots := 0, locals := 0 } : Room) s m #[(.long xa), (.int xp)] below meth c s₁ [] 0 0 := Stand.of_body Bd
  have e0 : s₁.heap = h0 := by rw [← hh, Bd.state]; rfl
  have N0 := Fr.nil n0
  have pre0 : ∀ t, Steps p.tables e below (s₁.setTop (mkF m 0 #[.val (.long xa), .second, .val (.int xp), .unset, .unset, .unset, .unset] [])) t → Steps p.tables e below (s₁.setTop (entryFrame m #[(.long xa), (.int xp)] 7)) t := fun t k => castTop (ef_rm_percentOf m xa xp) k
  have pre1 : ∀ t, Steps p.tables e below (s₁.setTop (mkF m 78 #[.val (.long xa), .second, .val (.int xp), .val (.long (xa / (100 : Int64))), .second, .val (.long (xa - (xa / (100 : Int64)) * (100 : Int64))), .second] [(.long (((xa / (100 : Int64)) * (xp.toInt64)) + ((((xa - (xa / (100 : Int64)) * (100 : Int64)) * (xp.toInt64)) + (50 : Int64)) / (100 : Int64))))])) t → Steps p.tables e below (s₁.setTop (entryFrame m #[(.long xa), (.int xp)] 7)) t := by
    intro t k
    refine pre0 t ?_
    refine XS.lloadN X0.here hx rfl (hb hby d7_0) rfl ?_
    show Steps p.tables e below (s₁.setTop (mkF m 1 #[.val (.long xa), .second, .val (.int xp), .unset, .unset, .unset, .unset] [(.long xa)])) _
    refine XS.lconst X0.here hx rfl (hb hby d7_1) ?_
    show Steps p.tables e below (s₁.setTop (mkF m 2 #[.val (.long xa), .second, .val (.int xp), .unset, .unset, .unset, .unset] [(.long (0 : Int64)), (.long xa)])) _
    refine XS.lcmp X0.here hx rfl (hb hby d7_2) rfl ?_
    show Steps p.tables e below (s₁.setTop (mkF m 3 #[.val (.long xa), .second, .val (.int xp), .unset, .unset, .unset, .unset] [(.int (lcmpW xa (0 : Int64)))])) _
    refine XS.ifYes X0.here hx rfl (pc0 := 3) (pc' := 20) rfl (hb hby d7_3) rfl ((if0 _ _).trans (flt (mt (lw_lt _ _).mp (show ¬ (xa < (0 : Int64)) from hA))).2.1) (by decide) (by decide) ?_
    show Steps p.tables e below (s₁.setTop (mkF m 20 #[.val (.long xa), .second, .val (.int xp), .unset, .unset, .unset, .unset] [])) _
    refine XS.iloadN X0.here hx rfl (hb hby d7_20) rfl ?_
    show Steps p.tables e below (s₁.setTop (mkF m 21 #[.val (.long xa), .second, .val (.int xp), .unset, .unset, .unset, .unset] [(.int xp)])) _
    refine XS.ifNo X0.here hx rfl (hb hby d7_21) rfl ((if0 _ _).trans (flt (show ¬ (xp < (0 : Int32)) from hP0)).1) ?_
    show Steps p.tables e below (s₁.setTop (mkF m 24 #[.val (.long xa), .second, .val (.int xp), .unset, .unset, .unset, .unset] [])) _
    refine XS.iloadN X0.here hx rfl (hb hby d7_24) rfl ?_
    show Steps p.tables e below (s₁.setTop (mkF m 25 #[.val (.long xa), .second, .val (.int xp), .unset, .unset, .unset, .unset] [(.int xp)])) _
    refine XS.i2l X0.here hx rfl (hb hby d7_25) rfl ?_
    show Steps p.tables e below (s₁.setTop (mkF m 26 #[.val (.long xa), .second, .val (.int xp), .unset, .unset, .unset, .unset] [(.long (xp.toInt64))])) _
    refine X0.ldc2Long hx hown (mvT hZ (hw _ (List.mem_of_getElem? (i := 37) rfl))) (g := (mkF m 26 #[.val (.long xa), .second, .val (.int xp), .unset, .unset, .unset, .unset] [(.long (xp.toInt64))])) rfl (hb hby d7_26) _ ?_
    show Steps p.tables e below (s₁.setTop (mkF m 29 #[.val (.long xa), .second, .val (.int xp), .unset, .unset, .unset, .unset] [(.long (100 : Int64)), (.long (xp.toInt64))])) _
    refine XS.lcmp X0.here hx rfl (hb hby d7_29) rfl ?_
    show Steps p.tables e below (s₁.setTop (mkF m 30 #[.val (.long xa), .second, .val (.int xp), .unset, .unset, .unset, .unset] [(.int (lcmpW (xp.toInt64) (100 : Int64)))])) _
    refine XS.ifYes X0.here hx rfl (pc0 := 30) (pc' := 47) rfl (hb hby d7_30) rfl ((if0 _ _).trans (flt (mt (lw_gt _ _).mp (show ¬ ((100 : Int64) < (xp.toInt64)) from hP1))).2.2.2) (by decide) (by decide) ?_
    show Steps p.tables e below (s₁.setTop (mkF m 47 #[.val (.long xa), .second, .val (.int xp), .unset, .unset, .unset, .unset] [])) _
    refine XS.lloadN X0.here hx rfl (hb hby d7_47) rfl ?_
    show Steps p.tables e below (s₁.setTop (mkF m 48 #[.val (.long xa), .second, .val (.int xp), .unset, .unset, .unset, .unset] [(.long xa)])) _
    refine X0.ldc2Long hx hown (mvT hZ (hw _ (List.mem_of_getElem? (i := 37) rfl))) (g := (mkF m 48 #[.val (.long xa), .second, .val (.int xp), .unset, .unset, .unset, .unset] [(.long xa)])) rfl (hb hby d7_48) _ ?_
    show Steps p.tables e below (s₁.setTop (mkF m 51 #[.val (.long xa), .second, .val (.int xp), .unset, .unset, .unset, .unset] [(.long (100 : Int64)), (.long xa)])) _
    refine XS.ldiv X0.here hx rfl (hb hby d7_51) rfl (by decide) ?_
    show Steps p.tables e below (s₁.setTop (mkF m 52 #[.val (.long xa), .second, .val (.int xp), .unset, .unset, .unset, .unset] [(.long (xa / (100 : Int64)))])) _
    refine XS.lstoreN X0.here hx rfl (hb hby d7_52) rfl (l' := #[.val (.long xa), .second, .val (.int xp), .val (.long (xa / (100 : Int64))), .second, .unset, .unset]) rfl ?_
    show Steps p.tables e below (s₁.setTop (mkF m 53 #[.val (.long xa), .second, .val (.int xp), .val (.long (xa / (100 : Int64))), .second, .unset, .unset] [])) _
    refine XS.lloadN X0.here hx rfl (hb hby d7_53) rfl ?_
    show Steps p.tables e below (s₁.setTop (mkF m 54 #[.val (.long xa), .second, .val (.int xp), .val (.long (xa / (100 : Int64))), .second, .unset, .unset] [(.long xa)])) _
    refine X0.ldc2Long hx hown (mvT hZ (hw _ (List.mem_of_getElem? (i := 37) rfl))) (g := (mkF m 54 #[.val (.long xa), .second, .val (.int xp), .val (.long (xa / (100 : Int64))), .second, .unset, .unset] [(.long xa)])) rfl (hb hby d7_54) _ ?_
    show Steps p.tables e below (s₁.setTop (mkF m 57 #[.val (.long xa), .second, .val (.int xp), .val (.long (xa / (100 : Int64))), .second, .unset, .unset] [(.long (100 : Int64)), (.long xa)])) _
    refine XS.lrem X0.here hx rfl (hb hby d7_57) rfl (by decide) ?_
    show Steps p.tables e below (s₁.setTop (mkF m 58 #[.val (.long xa), .second, .val (.int xp), .val (.long (xa / (100 : Int64))), .second, .unset, .unset] [(.long (xa - (xa / (100 : Int64)) * (100 : Int64)))])) _
    refine XS.lstore X0.here hx rfl (hb hby d7_58) rfl (l' := #[.val (.long xa), .second, .val (.int xp), .val (.long (xa / (100 : Int64))), .second, .val (.long (xa - (xa / (100 : Int64)) * (100 : Int64))), .second]) rfl ?_
    show Steps p.tables e below (s₁.setTop (mkF m 60 #[.val (.long xa), .second, .val (.int xp), .val (.long (xa / (100 : Int64))), .second, .val (.long (xa - (xa / (100 : Int64)) * (100 : Int64))), .second] [])) _
    refine XS.lloadN X0.here hx rfl (hb hby d7_60) rfl ?_
    show Steps p.tables e below (s₁.setTop (mkF m 61 #[.val (.long xa), .second, .val (.int xp), .val (.long (xa / (100 : Int64))), .second, .val (.long (xa - (xa / (100 : Int64)) * (100 : Int64))), .second] [(.long (xa / (100 : Int64)))])) _
    refine XS.iloadN X0.here hx rfl (hb hby d7_61) rfl ?_
    show Steps p.tables e below (s₁.setTop (mkF m 62 #[.val (.long xa), .second, .val (.int xp), .val (.long (xa / (100 : Int64))), .second, .val (.long (xa - (xa / (100 : Int64)) * (100 : Int64))), .second] [(.int xp), (.long (xa / (100 : Int64)))])) _
    refine XS.i2l X0.here hx rfl (hb hby d7_62) rfl ?_
    show Steps p.tables e below (s₁.setTop (mkF m 63 #[.val (.long xa), .second, .val (.int xp), .val (.long (xa / (100 : Int64))), .second, .val (.long (xa - (xa / (100 : Int64)) * (100 : Int64))), .second] [(.long (xp.toInt64)), (.long (xa / (100 : Int64)))])) _
    refine XS.lmul X0.here hx rfl (hb hby d7_63) rfl ?_
    show Steps p.tables e below (s₁.setTop (mkF m 64 #[.val (.long xa), .second, .val (.int xp), .val (.long (xa / (100 : Int64))), .second, .val (.long (xa - (xa / (100 : Int64)) * (100 : Int64))), .second] [(.long ((xa / (100 : Int64)) * (xp.toInt64)))])) _
    refine XS.lload X0.here hx rfl (hb hby d7_64) rfl ?_
    show Steps p.tables e below (s₁.setTop (mkF m 66 #[.val (.long xa), .second, .val (.int xp), .val (.long (xa / (100 : Int64))), .second, .val (.long (xa - (xa / (100 : Int64)) * (100 : Int64))), .second] [(.long (xa - (xa / (100 : Int64)) * (100 : Int64))), (.long ((xa / (100 : Int64)) * (xp.toInt64)))])) _
    refine XS.iloadN X0.here hx rfl (hb hby d7_66) rfl ?_
    show Steps p.tables e below (s₁.setTop (mkF m 67 #[.val (.long xa), .second, .val (.int xp), .val (.long (xa / (100 : Int64))), .second, .val (.long (xa - (xa / (100 : Int64)) * (100 : Int64))), .second] [(.int xp), (.long (xa - (xa / (100 : Int64)) * (100 : Int64))), (.long ((xa / (100 : Int64)) * (xp.toInt64)))])) _
    refine XS.i2l X0.here hx rfl (hb hby d7_67) rfl ?_
    show Steps p.tables e below (s₁.setTop (mkF m 68 #[.val (.long xa), .second, .val (.int xp), .val (.long (xa / (100 : Int64))), .second, .val (.long (xa - (xa / (100 : Int64)) * (100 : Int64))), .second] [(.long (xp.toInt64)), (.long (xa - (xa / (100 : Int64)) * (100 : Int64))), (.long ((xa / (100 : Int64)) * (xp.toInt64)))])) _
    refine XS.lmul X0.here hx rfl (hb hby d7_68) rfl ?_
    show Steps p.tables e below (s₁.setTop (mkF m 69 #[.val (.long xa), .second, .val (.int xp), .val (.long (xa / (100 : Int64))), .second, .val (.long (xa - (xa / (100 : Int64)) * (100 : Int64))), .second] [(.long ((xa - (xa / (100 : Int64)) * (100 : Int64)) * (xp.toInt64))), (.long ((xa / (100 : Int64)) * (xp.toInt64)))])) _
    refine X0.ldc2Long hx hown (mvT hZ (hw _ (List.mem_of_getElem? (i := 38) rfl))) (g := (mkF m 69 #[.val (.long xa), .second, .val (.int xp), .val (.long (xa / (100 : Int64))), .second, .val (.long (xa - (xa / (100 : Int64)) * (100 : Int64))), .second] [(.long ((xa - (xa / (100 : Int64)) * (100 : Int64)) * (xp.toInt64))), (.long ((xa / (100 : Int64)) * (xp.toInt64)))])) rfl (hb hby d7_69) _ ?_
    show Steps p.tables e below (s₁.setTop (mkF m 72 #[.val (.long xa), .second, .val (.int xp), .val (.long (xa / (100 : Int64))), .second, .val (.long (xa - (xa / (100 : Int64)) * (100 : Int64))), .second] [(.long (50 : Int64)), (.long ((xa - (xa / (100 : Int64)) * (100 : Int64)) * (xp.toInt64))), (.long ((xa / (100 : Int64)) * (xp.toInt64)))])) _
    refine XS.ladd X0.here hx rfl (hb hby d7_72) rfl ?_
    show Steps p.tables e below (s₁.setTop (mkF m 73 #[.val (.long xa), .second, .val (.int xp), .val (.long (xa / (100 : Int64))), .second, .val (.long (xa - (xa / (100 : Int64)) * (100 : Int64))), .second] [(.long (((xa - (xa / (100 : Int64)) * (100 : Int64)) * (xp.toInt64)) + (50 : Int64))), (.long ((xa / (100 : Int64)) * (xp.toInt64)))])) _
    refine X0.ldc2Long hx hown (mvT hZ (hw _ (List.mem_of_getElem? (i := 37) rfl))) (g := (mkF m 73 #[.val (.long xa), .second, .val (.int xp), .val (.long (xa / (100 : Int64))), .second, .val (.long (xa - (xa / (100 : Int64)) * (100 : Int64))), .second] [(.long (((xa - (xa / (100 : Int64)) * (100 : Int64)) * (xp.toInt64)) + (50 : Int64))), (.long ((xa / (100 : Int64)) * (xp.toInt64)))])) rfl (hb hby d7_73) _ ?_
    show Steps p.tables e below (s₁.setTop (mkF m 76 #[.val (.long xa), .second, .val (.int xp), .val (.long (xa / (100 : Int64))), .second, .val (.long (xa - (xa / (100 : Int64)) * (100 : Int64))), .second] [(.long (100 : Int64)), (.long (((xa - (xa / (100 : Int64)) * (100 : Int64)) * (xp.toInt64)) + (50 : Int64))), (.long ((xa / (100 : Int64)) * (xp.toInt64)))])) _
    refine XS.ldiv X0.here hx rfl (hb hby d7_76) rfl (by decide) ?_
    show Steps p.tables e below (s₁.setTop (mkF m 77 #[.val (.long xa), .second, .val (.int xp), .val (.long (xa / (100 : Int64))), .second, .val (.long (xa - (xa / (100 : Int64)) * (100 : Int64))), .second] [(.long ((((xa - (xa / (100 : Int64)) * (100 : Int64)) * (xp.toInt64)) + (50 : Int64)) / (100 : Int64))), (.long ((xa / (100 : Int64)) * (xp.toInt64)))])) _
    refine XS.ladd X0.here hx rfl (hb hby d7_77) rfl ?_
    show Steps p.tables e below (s₁.setTop (mkF m 78 #[.val (.long xa), .second, .val (.int xp), .val (.long (xa / (100 : Int64))), .second, .val (.long (xa - (xa / (100 : Int64)) * (100 : Int64))), .second] [(.long (((xa / (100 : Int64)) * (xp.toInt64)) + ((((xa - (xa / (100 : Int64)) * (100 : Int64)) * (xp.toInt64)) + (50 : Int64)) / (100 : Int64))))])) _
    exact k
  obtain ⟨fs, hr, hrun, hended, hW, hsame⟩ := X0.leave (v := some (.long (((xa / (100 : Int64)) * (xp.toInt64)) + ((((xa - (xa / (100 : Int64)) * (100 : Int64)) * (xp.toInt64)) + (50 : Int64)) / (100 : Int64))))) (fun h => by rw [Bd.returns] at h; cases h)
  refine ⟨_, _, pre1 _ ?_, hrun, hended, _, _, rfl, ?_, ⟨_, rfl⟩, hW, hsame.mono (by decide) (by decide)⟩
  · exact retOut X0 hx Bd.returns rfl (Or.inr (Or.inl ⟨rfl, rfl, _, rfl⟩)) (hb hby d7_78) hr
  · show Q_rm_percentOf Z xa xp h0 n0 _ s₁.heap _
    rw [e0]
    exact ⟨rfl, N0, rfl⟩
theorem d2_0 : decode prog_1_method_1_code 0 = .ok (.aload_n 0, 1) := by decide +kernel
theorem d2_1 : decode prog_1_method_1_code 1 = .ok (.invokespecial 1, 3) := by decide +kernel
theorem d2_4 : decode prog_1_method_1_code 4 = .ok (.aload_n 0, 1) := by decide +kernel
theorem d2_5 : decode prog_1_method_1_code 5 = .ok (.iload_n 1, 1) := by decide +kernel
theorem d2_6 : decode prog_1_method_1_code 6 = .ok (.putfield 7, 3) := by decide +kernel
theorem d2_9 : decode prog_1_method_1_code 9 = .ok (.aload_n 0, 1) := by decide +kernel
theorem d2_10 : decode prog_1_method_1_code 10 = .ok (.iload_n 2, 1) := by decide +kernel
theorem d2_11 : decode prog_1_method_1_code 11 = .ok (.putfield 13, 3) := by decide +kernel
theorem d2_14 : decode prog_1_method_1_code 14 = .ok (.return_, 1) := by decide +kernel
theorem pn1 : plainName "com/example/lachesis/lachesis/AmountRule" = true := by first | (simp [plainName, overriddenIn]; done) | decide +kernel
theorem ef_rm_init (m : MethodId) (ra : Addr) (xz : Int32) (xp : Int32) : entryFrame m #[(.ref ra), (.int xz), (.int xp)] 3 = mkF m 0 #[.val (.ref ra), .val (.int xz), .val (.int xp)] [] := by first | (simp [entryFrame, mkF, argsToLocals, Value.category]; done) | rfl
def Q_rm_init (Z : State) (ra : Addr) (xz : Int32) (xp : Int32) (h0 : Heap) (n0 : Nat) (v : Option Value) (h : Heap) (L : List Loc) : Prop := v = none ∧ Fr n0 L ∧ Keep h0 h [ra] ∧ Exa Z h ra "com/example/lachesis/lachesis/AmountRule" ∧ Fld Z h ra "com/example/lachesis/lachesis/AmountRule" "partial" "Z" (.int (nar .boolean xz)) ∧ Fld Z h ra "com/example/lachesis/lachesis/AmountRule" "percent" "I" (.int xp)
set_option maxRecDepth 65536 in
set_option maxHeartbeats 40000000 in
theorem rm_init (l : Launch) (Z : State) (a0 : Array Value) (hw : ∀ d ∈ tables_1, d.before a0 Z = true) (ws : List Jvm.Cond) (ra : Addr) (xz : Int32) (xp : Int32) (h0 : Heap) (n0 : Nat) (Z0 : n0 ≤ h0.size) (E_ra : Exa Z h0 ra "com/example/lachesis/lachesis/AmountRule") (g_ra : n0 ≤ ra) (F_partial_ra : Fld Z h0 ra "com/example/lachesis/lachesis/AmountRule" "partial" "Z" (.int (0 : Int32))) (F_percent_ra : Fld Z h0 ra "com/example/lachesis/lachesis/AmountRule" "percent" "I" (.int (0 : Int32))) :
    MetFree l (⟨"com/example/lachesis/lachesis/AmountRule", "<init>", "(ZI)V"⟩ : MethodName) (head1 (Jvm.Cond.code (⟨"com/example/lachesis/lachesis/AmountRule", "<init>", "(ZI)V"⟩ : MethodName) prog_1_method_1_code 3 none :: ws) ({ frames := 1, cells := 0, slots := 0, locals := 12 } : Room)) (fun a U => a = #[(.ref ra), (.int xz), (.int xp)] ∧ Z.Warmed39 U.vm ∧ U.heap = h0) (fun _ _ _ _ _ => True) (fun _ U o U' => ∃ v L, o = .returned v ∧ Q_rm_init Z ra xz xp h0 n0 v U'.heap L ∧ FrameEnd U o U' L ({ frames := 1, cells := 0, slots := 0, locals := 12 } : Room).cells ({ frames := 1, cells := 0, slots := 0, locals := 12 } : Room).slots) := by
  refine MetFree.of_bodySF (plainFor_of_name pn1) hisR ?_
  intro p e s m args below meth c s₁ Bd hml0 hP hK
  obtain ⟨rfl, hZ, hh⟩ := hP
  have hx := Bd.exec
  have hby := Bd.bytes
  have hml : c.maxLocals = 3 := hml0
  have hown : s.vm.findClass "com/example/lachesis/lachesis/AmountRule" = some m.cls := findClass_of_methodNamed Bd.named
  have hnm := (name_of_methodNamed Bd.named Bd.method).1
  have X0 : Stand p l e ({ frames := 1, cells := 0, slots := 0, locals := 12 } : Room) s m #[(.ref ra), (.int xz), (.int xp)] below meth c s₁ [] 0 0 := Stand.of_body Bd
  have e0 : s₁.heap = h0 := by rw [← hh, Bd.state]; rfl
  have N0 := Fr.nil n0
  have pre0 : ∀ t, Steps p.tables e below (s₁.setTop (mkF m 0 #[.val (.ref ra), .val (.int xz), .val (.int xp)] [])) t → Steps p.tables e below (s₁.setTop (entryFrame m #[(.ref ra), (.int xz), (.int xp)] 3)) t := fun t k => castTop (ef_rm_init m ra xz xp) k
  have pre1 : ∀ t, Steps p.tables e below (s₁.setTop (mkF m 1 #[.val (.ref ra), .val (.int xz), .val (.int xp)] [(.ref ra)])) t → Steps p.tables e below (s₁.setTop (entryFrame m #[(.ref ra), (.int xz), (.int xp)] 3)) t := by
    intro t k
    refine pre0 t ?_
    refine XS.aloadN X0.here hx rfl (hb hby d2_0) rfl rfl ?_
    show Steps p.tables e below (s₁.setTop (mkF m 1 #[.val (.ref ra), .val (.int xz), .val (.int xp)] [(.ref ra)])) _
    exact k
  obtain ⟨T2, X2, e2, st2⟩ := initO X0 hx hZ hown (hw _ (List.mem_of_getElem? (i := 11) rfl)) (hw _ (List.mem_of_getElem? (i := 12) rfl)) (hw _ (List.mem_of_getElem? (i := 13) rfl)) e0 (g := (mkF m 1 #[.val (.ref ra), .val (.int xz), .val (.int xp)] [(.ref ra)])) rfl (by rw [hml]; rfl) rfl (hb hby d2_1) (by decide) (W := 0) (by show 2 * 0 + _ ≤ _; exact Nat.le_of_eq rfl) (by decide)
  have pre3 : ∀ t, Steps p.tables e below (T2.setTop (mkF m 4 #[.val (.ref ra), .val (.int xz), .val (.int xp)] [])) t → Steps p.tables e below (s₁.setTop (entryFrame m #[(.ref ra), (.int xz), (.int xp)] 3)) t := fun t k => pre1 t (st2 t k)
  have pre4 : ∀ t, Steps p.tables e below (T2.setTop (mkF m 6 #[.val (.ref ra), .val (.int xz), .val (.int xp)] [(.int xz), (.ref ra)])) t → Steps p.tables e below (s₁.setTop (entryFrame m #[(.ref ra), (.int xz), (.int xp)] 3)) t := by
    intro t k
    refine pre3 t ?_
    refine XS.aloadN X2.here hx rfl (hb hby d2_4) rfl rfl ?_
    show Steps p.tables e below (T2.setTop (mkF m 5 #[.val (.ref ra), .val (.int xz), .val (.int xp)] [(.ref ra)])) _
    refine XS.iloadN X2.here hx rfl (hb hby d2_5) rfl ?_
    show Steps p.tables e below (T2.setTop (mkF m 6 #[.val (.ref ra), .val (.int xz), .val (.int xp)] [(.int xz), (.ref ra)])) _
    exact k
  obtain ⟨T5, h5, X5, e5, W5, st5⟩ := putFN X2 hx hZ hown (hw _ (List.mem_of_getElem? (i := 14) rfl)) Via.refl e2 F_partial_ra E_ra (Or.inr ⟨(hw _ (List.mem_of_getElem? (i := 15) rfl)), rfl, hnm⟩) (hw _ (List.mem_of_getElem? (i := 7) rfl)) (ty := .boolean) (v' := (.int (nar .boolean xz))) (by decide) rfl (fits_nar_bool _) (g := (mkF m 6 #[.val (.ref ra), .val (.int xz), .val (.int xp)] [(.int xz), (.ref ra)])) rfl rfl (hb hby d2_6)
  have K5 : Keep h0 h5 [ra] := (Keep.refl h0 [ra]).wr W5 (Or.inl (by simp))
  have z5 : n0 ≤ h5.size := Nat.le_trans Z0 K5.1
  have N5 := Fr.snoc X5 N0 g_ra
  have Fw5 := F_partial_ra.same W5
  have pre6 : ∀ t, Steps p.tables e below (T5.setTop (mkF m 9 #[.val (.ref ra), .val (.int xz), .val (.int xp)] [])) t → Steps p.tables e below (s₁.setTop (entryFrame m #[(.ref ra), (.int xz), (.int xp)] 3)) t := fun t k => pre4 t (st5 t k)
  have pre7 : ∀ t, Steps p.tables e below (T5.setTop (mkF m 11 #[.val (.ref ra), .val (.int xz), .val (.int xp)] [(.int xp), (.ref ra)])) t → Steps p.tables e below (s₁.setTop (entryFrame m #[(.ref ra), (.int xz), (.int xp)] 3)) t := by
    intro t k
    refine pre6 t ?_
    refine XS.aloadN X5.here hx rfl (hb hby d2_9) rfl rfl ?_
    show Steps p.tables e below (T5.setTop (mkF m 10 #[.val (.ref ra), .val (.int xz), .val (.int xp)] [(.ref ra)])) _
    refine XS.iloadN X5.here hx rfl (hb hby d2_10) rfl ?_
    show Steps p.tables e below (T5.setTop (mkF m 11 #[.val (.ref ra), .val (.int xz), .val (.int xp)] [(.int xp), (.ref ra)])) _
    exact k
  have f8 := (E_ra.wr W5)
  have f9 := (F_percent_ra.other W5 (Or.inr (slot_ne (Or.inr (hw _ (List.mem_of_getElem? (i := 17) rfl))) (Or.inr (hw _ (List.mem_of_getElem? (i := 15) rfl))) (by decide) (t := .int) (t' := .boolean) (by decide) (by decide))))
  obtain ⟨T10, h10, X10, e10, W10, st10⟩ := putF X5 hx hZ hown (host := "") (Or.inl (hw _ (List.mem_of_getElem? (i := 16) rfl))) Via.refl e5 f9 f8 (Or.inr ⟨(hw _ (List.mem_of_getElem? (i := 17) rfl)), rfl, hnm⟩) (hw _ (List.mem_of_getElem? (i := 7) rfl)) (ty := .int) (by decide) rfl rfl (g := (mkF m 11 #[.val (.ref ra), .val (.int xz), .val (.int xp)] [(.int xp), (.ref ra)])) rfl rfl (hb hby d2_11)
  have K10 : Keep h0 h10 [ra] := K5.wr W10 (Or.inl (by simp))
  have z10 : n0 ≤ h10.size := Nat.le_trans Z0 K10.1
  have N10 := Fr.snoc X10 N5 g_ra
  have Fw10 := f9.same W10
  have pre11 : ∀ t, Steps p.tables e below (T10.setTop (mkF m 14 #[.val (.ref ra), .val (.int xz), .val (.int xp)] [])) t → Steps p.tables e below (s₁.setTop (entryFrame m #[(.ref ra), (.int xz), (.int xp)] 3)) t := fun t k => pre7 t (st10 t k)
  obtain ⟨fs, hr, hrun, hended, hW, hsame⟩ := X10.leave (v := none) (fun _ => rfl)
  refine ⟨_, _, pre11 _ ?_, hrun, hended, _, _, rfl, ?_, ⟨_, rfl⟩, hW, hsame.mono (by decide) (by decide)⟩
  · exact X10.returnOut hx Bd.returns (hb hby d2_14) hr
  · show Q_rm_init Z ra xz xp h0 n0 _ T10.heap _
    rw [e10]
    exact ⟨rfl, N10, K10, (f8.wr W10), (Fw5.other W10 (Or.inr (slot_ne (Or.inr (hw _ (List.mem_of_getElem? (i := 15) rfl))) (Or.inr (hw _ (List.mem_of_getElem? (i := 17) rfl))) (by decide) (t := .boolean) (t' := .int) (by decide) (by decide)))), Fw10⟩
theorem d1_0 : decode prog_1_method_3_code 0 = .ok (.iload_n 0, 1) := by decide +kernel
theorem d1_1 : decode prog_1_method_3_code 1 = .ok (.iconst 1, 1) := by decide +kernel
theorem d1_2 : decode prog_1_method_3_code 2 = .ok (.if_icmp .lt 9, 3) := by decide +kernel
theorem d1_5 : decode prog_1_method_3_code 5 = .ok (.iload_n 0, 1) := by decide +kernel
theorem d1_6 : decode prog_1_method_3_code 6 = .ok (.bipush 100, 2) := by decide +kernel
theorem d1_8 : decode prog_1_method_3_code 8 = .ok (.if_icmp .le 17, 3) := by decide +kernel
theorem d1_25 : decode prog_1_method_3_code 25 = .ok (.new 8, 3) := by decide +kernel
theorem d1_28 : decode prog_1_method_3_code 28 = .ok (.dup, 1) := by decide +kernel
theorem d1_29 : decode prog_1_method_3_code 29 = .ok (.iconst 1, 1) := by decide +kernel
theorem d1_30 : decode prog_1_method_3_code 30 = .ok (.iload_n 0, 1) := by decide +kernel
theorem d1_31 : decode prog_1_method_3_code 31 = .ok (.invokespecial 26, 3) := by decide +kernel
theorem pd0 : parseMethodDescriptor "(ZI)V" = some ⟨[.boolean, .int], none⟩ := by decide +kernel
theorem d1_34 : decode prog_1_method_3_code 34 = .ok (.areturn, 1) := by decide +kernel
theorem ef_rm_charge (m : MethodId) (xp : Int32) : entryFrame m #[(.int xp)] 1 = mkF m 0 #[.val (.int xp)] [] := by first | (simp [entryFrame, mkF, argsToLocals, Value.category]; done) | rfl
def Q_rm_charge (Z : State) (xp : Int32) (h0 : Heap) (n0 : Nat) (v : Option Value) (h : Heap) (L : List Loc) : Prop := ∃ bo : Addr, v = some (.ref bo) ∧ Fr n0 L ∧ n0 ≤ bo ∧ h0.size ≤ bo ∧ Keep h0 h ([] : List Addr) ∧ Exa Z h bo "com/example/lachesis/lachesis/AmountRule" ∧ Fld Z h bo "com/example/lachesis/lachesis/AmountRule" "partial" "Z" (.int (nar .boolean (1 : Int32))) ∧ Fld Z h bo "com/example/lachesis/lachesis/AmountRule" "percent" "I" (.int xp)
set_option maxRecDepth 65536 in
set_option maxHeartbeats 40000000 in
theorem rm_charge (l : Launch) (Z : State) (a0 : Array Value) (hw : ∀ d ∈ tables_1, d.before a0 Z = true) (ws : List Jvm.Cond) (xp : Int32) (h0 : Heap) (n0 : Nat) (Z0 : n0 ≤ h0.size) (hq0 : ¬ (xp < (1 : Int32))) (hq1 : ¬ ((100 : Int32) < xp)) :
    MetFree l (⟨"com/example/lachesis/lachesis/AmountRule", "charge", "(I)Lcom/example/lachesis/lachesis/AmountRule;"⟩ : MethodName) (head1 (Jvm.Cond.code (⟨"com/example/lachesis/lachesis/AmountRule", "charge", "(I)Lcom/example/lachesis/lachesis/AmountRule;"⟩ : MethodName) prog_1_method_3_code 1 (some (.object "com/example/lachesis/lachesis/AmountRule")) :: ws) ({ frames := 2, cells := 1, slots := 2, locals := 27 } : Room)) (fun a U => a = #[(.int xp)] ∧ Z.Warmed39 U.vm ∧ U.heap = h0) (fun _ _ _ _ _ => True) (fun _ U o U' => ∃ v L, o = .returned v ∧ Q_rm_charge Z xp h0 n0 v U'.heap L ∧ FrameEnd U o U' L ({ frames := 2, cells := 1, slots := 2, locals := 27 } : Room).cells ({ frames := 2, cells := 1, slots := 2, locals := 27 } : Room).slots) := by
  refine MetFree.of_bodySF (plainFor_of_name pn1) hisR ?_
  intro p e s m args below meth c s₁ Bd hml0 hP hK
  obtain ⟨rfl, hZ, hh⟩ := hP
  have hx := Bd.exec
  have hby := Bd.bytes
  have hml : c.maxLocals = 1 := hml0
  have hown : s.vm.findClass "com/example/lachesis/lachesis/AmountRule" = some m.cls := findClass_of_methodNamed Bd.named
  have hnm := (name_of_methodNamed Bd.named Bd.method).1
  have X0 : Stand p l e ({ frames := 2, cells := 1, slots := 2, locals := 27 } : Room) s m #[(.int xp)] below meth c s₁ [] 0 0 := Stand.of_body Bd
  have e0 : s₁.heap = h0 := by rw [← hh, Bd.state]; rfl
  have N0 := Fr.nil n0
  have pre0 : ∀ t, Steps p.tables e below (s₁.setTop (mkF m 0 #[.val (.int xp)] [])) t → Steps p.tables e below (s₁.setTop (entryFrame m #[(.int xp)] 1)) t := fun t k => castTop (ef_rm_charge m xp) k
  have pre1 : ∀ t, Steps p.tables e below (s₁.setTop (mkF m 25 #[.val (.int xp)] [])) t → Steps p.tables e below (s₁.setTop (entryFrame m #[(.int xp)] 1)) t := by
    intro t k
    refine pre0 t ?_
    refine XS.iloadN X0.here hx rfl (hb hby d1_0) rfl ?_
    show Steps p.tables e below (s₁.setTop (mkF m 1 #[.val (.int xp)] [(.int xp)])) _
    refine XS.iconst X0.here hx rfl (hb hby d1_1) ?_
    show Steps p.tables e below (s₁.setTop (mkF m 2 #[.val (.int xp)] [(.int (1 : Int32)), (.int xp)])) _
    refine XS.icmpNo X0.here hx rfl (hb hby d1_2) rfl (flt (show ¬ (xp < (1 : Int32)) from hq0)).1 ?_
    show Steps p.tables e below (s₁.setTop (mkF m 5 #[.val (.int xp)] [])) _
    refine XS.iloadN X0.here hx rfl (hb hby d1_5) rfl ?_
    show Steps p.tables e below (s₁.setTop (mkF m 6 #[.val (.int xp)] [(.int xp)])) _
    refine XS.bipush X0.here hx rfl (hb hby d1_6) ?_
    show Steps p.tables e below (s₁.setTop (mkF m 8 #[.val (.int xp)] [(.int (100 : Int32)), (.int xp)])) _
    refine XS.icmpYes X0.here hx rfl (pc0 := 8) (pc' := 25) rfl (hb hby d1_8) rfl (flt (show ¬ ((100 : Int32) < xp) from hq1)).2.2.2 (by decide) (by decide) ?_
    show Steps p.tables e below (s₁.setTop (mkF m 25 #[.val (.int xp)] [])) _
    exact k
  obtain ⟨T2, h2, X2, e2, E2, A2, D2, -, st2⟩ := newO X0 hx hZ hown (hw _ (List.mem_of_getElem? (i := 6) rfl)) (hw _ (List.mem_of_getElem? (i := 7) rfl)) (hw _ (List.mem_of_getElem? (i := 4) rfl)) e0 (g := (mkF m 25 #[.val (.int xp)] [])) rfl (hb hby d1_25) (by decide) (by decide)
  obtain ⟨b2, g2⟩ : ∃ z, z = h0.size := ⟨_, rfl⟩
  rw [← g2] at A2 D2 st2
  have g_b2 : n0 ≤ b2 := Nat.le_trans Z0 (Nat.le_of_eq g2.symm)
  have sz_b2 : h0.size ≤ b2 := Nat.le_trans (Keep.refl h0 ([] : List Addr)).1 (Nat.le_of_eq g2.symm)
  have K2 : Keep h0 h2 ([] : List Addr) := (Keep.refl h0 ([] : List Addr)).ext E2
  have z2 : n0 ≤ h2.size := Nat.le_trans Z0 K2.1
  have F_partial_b2 : Fld Z h2 b2 "com/example/lachesis/lachesis/AmountRule" "partial" "Z" (.int (0 : Int32)) := D2 (Or.inr (hw _ (List.mem_of_getElem? (i := 15) rfl))) (ty := .boolean) (by decide)
  have F_percent_b2 : Fld Z h2 b2 "com/example/lachesis/lachesis/AmountRule" "percent" "I" (.int (0 : Int32)) := D2 (Or.inr (hw _ (List.mem_of_getElem? (i := 17) rfl))) (ty := .int) (by decide)
  have pre3 : ∀ t, Steps p.tables e below (T2.setTop (mkF m 28 #[.val (.int xp)] [(.ref b2)])) t → Steps p.tables e below (s₁.setTop (entryFrame m #[(.int xp)] 1)) t := fun t k => pre1 t (st2 t k)
  have pre4 : ∀ t, Steps p.tables e below (T2.setTop (mkF m 31 #[.val (.int xp)] [(.int xp), (.int (1 : Int32)), (.ref b2), (.ref b2)])) t → Steps p.tables e below (s₁.setTop (entryFrame m #[(.int xp)] 1)) t := by
    intro t k
    refine pre3 t ?_
    refine XS.dup X2.here hx rfl (hb hby d1_28) rfl rfl ?_
    show Steps p.tables e below (T2.setTop (mkF m 29 #[.val (.int xp)] [(.ref b2), (.ref b2)])) _
    refine XS.iconst X2.here hx rfl (hb hby d1_29) ?_
    show Steps p.tables e below (T2.setTop (mkF m 30 #[.val (.int xp)] [(.int (1 : Int32)), (.ref b2), (.ref b2)])) _
    refine XS.iloadN X2.here hx rfl (hb hby d1_30) rfl ?_
    show Steps p.tables e below (T2.setTop (mkF m 31 #[.val (.int xp)] [(.int xp), (.int (1 : Int32)), (.ref b2), (.ref b2)])) _
    exact k
  obtain ⟨_, _, ⟨T5, L5, k5, n5⟩, -, X5, ⟨Lc5, hQ5, l5, y5, z5⟩, st5⟩ := X2.specialBack hx (y := (⟨"com/example/lachesis/lachesis/AmountRule", "<init>", "(ZI)V"⟩ : MethodName)) rfl hown (mvT hZ (hw _ (List.mem_of_getElem? (i := 8) rfl))) (mvT hZ (hw _ (List.mem_of_getElem? (i := 9) rfl))) (mvT hZ (hw _ (List.mem_of_getElem? (i := 10) rfl))) (by decide) (backOf (W := 1) (rm_init l Z a0 hw [] b2 (1 : Int32) xp h2 n0 z2 A2 (g_b2) F_partial_b2 F_percent_b2) hZ (hw _ (List.mem_of_getElem? (i := 10) rfl)) (hw _ (List.mem_of_getElem? (i := 4) rfl)) (by decide) (by decide)) (g := (mkF m 31 #[.val (.int xp)] [(.int xp), (.int (1 : Int32)), (.ref b2), (.ref b2)])) rfl (by rw [hml]; rfl) (Steps.refl _) (a := b2) (argsL := [(.int (1 : Int32)), (.int xp)]) (rest := [(.ref b2)]) (lenOf pd0 rfl) rfl (by show 2 * 0 + _ ≤ _; exact Nat.le_of_eq rfl) (hb hby d1_31) (fun _ _ => ⟨rfl, e2, (by decide : 1 + 0 ≤ _), (by decide : 2 + 0 ≤ _)⟩)
  dsimp only [Pt.U, Pt.locs, Pt.cells, Pt.slots] at X5 l5 y5 z5 st5 hQ5
  subst l5 y5 z5
  obtain ⟨rfl, M5, kp5, f5_0, f5_1, f5_2⟩ := hQ5
  have K5 : Keep h0 T5.heap ([] : List Addr) := K2.trans kp5 (allS (P := fun x => x ∈ ([] : List Addr) ∨ h0.size ≤ x) (Or.inr sz_b2) all0)
  have zz5 : n0 ≤ T5.heap.size := Nat.le_trans Z0 K5.1
  have N5 := Fr.app N0 M5
  have pre6 : ∀ t, Steps p.tables e below (T5.setTop (mkF m 34 #[.val (.int xp)] [(.ref b2)])) t → Steps p.tables e below (s₁.setTop (entryFrame m #[(.int xp)] 1)) t := fun t k => pre4 t (st5.trans k)
  obtain ⟨fs, hr, hrun, hended, hW, hsame⟩ := X5.leave (v := some (.ref b2)) (fun h => by rw [Bd.returns] at h; cases h)
  refine ⟨_, _, pre6 _ ?_, hrun, hended, _, _, rfl, ?_, ⟨_, rfl⟩, hW, hsame.mono (by decide) (by decide)⟩
  · exact retOut X5 hx Bd.returns rfl (Or.inr (Or.inr (Or.inr (Or.inr ⟨rfl, rfl, rfl⟩)))) (hb hby d1_34) hr
  · show Q_rm_charge Z xp h0 n0 _ T5.heap _
    exact ⟨b2, rfl, N5, g_b2, sz_b2, K5, f5_0, f5_1, f5_2⟩
theorem d8_0 : decode prog_1_method_2_code 0 = .ok (.iload_n 0, 1) := by decide +kernel
theorem d8_1 : decode prog_1_method_2_code 1 = .ok (.ifCond .lt 9, 3) := by decide +kernel
theorem d8_4 : decode prog_1_method_2_code 4 = .ok (.iload_n 0, 1) := by decide +kernel
theorem d8_5 : decode prog_1_method_2_code 5 = .ok (.bipush 100, 2) := by decide +kernel
theorem d8_7 : decode prog_1_method_2_code 7 = .ok (.if_icmp .le 17, 3) := by decide +kernel
theorem d8_24 : decode prog_1_method_2_code 24 = .ok (.new 8, 3) := by decide +kernel
theorem d8_27 : decode prog_1_method_2_code 27 = .ok (.dup, 1) := by decide +kernel
theorem d8_28 : decode prog_1_method_2_code 28 = .ok (.iconst 0, 1) := by decide +kernel
theorem d8_29 : decode prog_1_method_2_code 29 = .ok (.iload_n 0, 1) := by decide +kernel
theorem d8_30 : decode prog_1_method_2_code 30 = .ok (.invokespecial 26, 3) := by decide +kernel
theorem d8_33 : decode prog_1_method_2_code 33 = .ok (.areturn, 1) := by decide +kernel
theorem ef_rm_discount (m : MethodId) (xp : Int32) : entryFrame m #[(.int xp)] 1 = mkF m 0 #[.val (.int xp)] [] := by first | (simp [entryFrame, mkF, argsToLocals, Value.category]; done) | rfl
def Q_rm_discount (Z : State) (xp : Int32) (h0 : Heap) (n0 : Nat) (v : Option Value) (h : Heap) (L : List Loc) : Prop := ∃ bo : Addr, v = some (.ref bo) ∧ Fr n0 L ∧ n0 ≤ bo ∧ h0.size ≤ bo ∧ Keep h0 h ([] : List Addr) ∧ Exa Z h bo "com/example/lachesis/lachesis/AmountRule" ∧ Fld Z h bo "com/example/lachesis/lachesis/AmountRule" "partial" "Z" (.int (nar .boolean (0 : Int32))) ∧ Fld Z h bo "com/example/lachesis/lachesis/AmountRule" "percent" "I" (.int xp)
set_option maxRecDepth 65536 in
set_option maxHeartbeats 40000000 in
theorem rm_discount (l : Launch) (Z : State) (a0 : Array Value) (hw : ∀ d ∈ tables_1, d.before a0 Z = true) (ws : List Jvm.Cond) (xp : Int32) (h0 : Heap) (n0 : Nat) (Z0 : n0 ≤ h0.size) (hq0 : ¬ (xp < (0 : Int32))) (hq1 : ¬ ((100 : Int32) < xp)) :
    MetFree l (⟨"com/example/lachesis/lachesis/AmountRule", "discount", "(I)Lcom/example/lachesis/lachesis/AmountRule;"⟩ : MethodName) (head1 (Jvm.Cond.code (⟨"com/example/lachesis/lachesis/AmountRule", "discount", "(I)Lcom/example/lachesis/lachesis/AmountRule;"⟩ : MethodName) prog_1_method_2_code 1 (some (.object "com/example/lachesis/lachesis/AmountRule")) :: ws) ({ frames := 2, cells := 1, slots := 2, locals := 27 } : Room)) (fun a U => a = #[(.int xp)] ∧ Z.Warmed39 U.vm ∧ U.heap = h0) (fun _ _ _ _ _ => True) (fun _ U o U' => ∃ v L, o = .returned v ∧ Q_rm_discount Z xp h0 n0 v U'.heap L ∧ FrameEnd U o U' L ({ frames := 2, cells := 1, slots := 2, locals := 27 } : Room).cells ({ frames := 2, cells := 1, slots := 2, locals := 27 } : Room).slots) := by
  refine MetFree.of_bodySF (plainFor_of_name pn1) hisR ?_
  intro p e s m args below meth c s₁ Bd hml0 hP hK
  obtain ⟨rfl, hZ, hh⟩ := hP
  have hx := Bd.exec
  have hby := Bd.bytes
  have hml : c.maxLocals = 1 := hml0
  have hown : s.vm.findClass "com/example/lachesis/lachesis/AmountRule" = some m.cls := findClass_of_methodNamed Bd.named
  have hnm := (name_of_methodNamed Bd.named Bd.method).1
  have X0 : Stand p l e ({ frames := 2, cells := 1, slots := 2, locals := 27 } : Room) s m #[(.int xp)] below meth c s₁ [] 0 0 := Stand.of_body Bd
  have e0 : s₁.heap = h0 := by rw [← hh, Bd.state]; rfl
  have N0 := Fr.nil n0
  have pre0 : ∀ t, Steps p.tables e below (s₁.setTop (mkF m 0 #[.val (.int xp)] [])) t → Steps p.tables e below (s₁.setTop (entryFrame m #[(.int xp)] 1)) t := fun t k => castTop (ef_rm_discount m xp) k
  have pre1 : ∀ t, Steps p.tables e below (s₁.setTop (mkF m 24 #[.val (.int xp)] [])) t → Steps p.tables e below (s₁.setTop (entryFrame m #[(.int xp)] 1)) t := by
    intro t k
    refine pre0 t ?_
    refine XS.iloadN X0.here hx rfl (hb hby d8_0) rfl ?_
    show Steps p.tables e below (s₁.setTop (mkF m 1 #[.val (.int xp)] [(.int xp)])) _
    refine XS.ifNo X0.here hx rfl (hb hby d8_1) rfl ((if0 _ _).trans (flt (show ¬ (xp < (0 : Int32)) from hq0)).1) ?_
    show Steps p.tables e below (s₁.setTop (mkF m 4 #[.val (.int xp)] [])) _
    refine XS.iloadN X0.here hx rfl (hb hby d8_4) rfl ?_
    show Steps p.tables e below (s₁.setTop (mkF m 5 #[.val (.int xp)] [(.int xp)])) _
    refine XS.bipush X0.here hx rfl (hb hby d8_5) ?_
    show Steps p.tables e below (s₁.setTop (mkF m 7 #[.val (.int xp)] [(.int (100 : Int32)), (.int xp)])) _
    refine XS.icmpYes X0.here hx rfl (pc0 := 7) (pc' := 24) rfl (hb hby d8_7) rfl (flt (show ¬ ((100 : Int32) < xp) from hq1)).2.2.2 (by decide) (by decide) ?_
    show Steps p.tables e below (s₁.setTop (mkF m 24 #[.val (.int xp)] [])) _
    exact k
  obtain ⟨T2, h2, X2, e2, E2, A2, D2, -, st2⟩ := newO X0 hx hZ hown (hw _ (List.mem_of_getElem? (i := 6) rfl)) (hw _ (List.mem_of_getElem? (i := 7) rfl)) (hw _ (List.mem_of_getElem? (i := 4) rfl)) e0 (g := (mkF m 24 #[.val (.int xp)] [])) rfl (hb hby d8_24) (by decide) (by decide)
  obtain ⟨b2, g2⟩ : ∃ z, z = h0.size := ⟨_, rfl⟩
  rw [← g2] at A2 D2 st2
  have g_b2 : n0 ≤ b2 := Nat.le_trans Z0 (Nat.le_of_eq g2.symm)
  have sz_b2 : h0.size ≤ b2 := Nat.le_trans (Keep.refl h0 ([] : List Addr)).1 (Nat.le_of_eq g2.symm)
  have K2 : Keep h0 h2 ([] : List Addr) := (Keep.refl h0 ([] : List Addr)).ext E2
  have z2 : n0 ≤ h2.size := Nat.le_trans Z0 K2.1
  have F_partial_b2 : Fld Z h2 b2 "com/example/lachesis/lachesis/AmountRule" "partial" "Z" (.int (0 : Int32)) := D2 (Or.inr (hw _ (List.mem_of_getElem? (i := 15) rfl))) (ty := .boolean) (by decide)
  have F_percent_b2 : Fld Z h2 b2 "com/example/lachesis/lachesis/AmountRule" "percent" "I" (.int (0 : Int32)) := D2 (Or.inr (hw _ (List.mem_of_getElem? (i := 17) rfl))) (ty := .int) (by decide)
  have pre3 : ∀ t, Steps p.tables e below (T2.setTop (mkF m 27 #[.val (.int xp)] [(.ref b2)])) t → Steps p.tables e below (s₁.setTop (entryFrame m #[(.int xp)] 1)) t := fun t k => pre1 t (st2 t k)
  have pre4 : ∀ t, Steps p.tables e below (T2.setTop (mkF m 30 #[.val (.int xp)] [(.int xp), (.int (0 : Int32)), (.ref b2), (.ref b2)])) t → Steps p.tables e below (s₁.setTop (entryFrame m #[(.int xp)] 1)) t := by
    intro t k
    refine pre3 t ?_
    refine XS.dup X2.here hx rfl (hb hby d8_27) rfl rfl ?_
    show Steps p.tables e below (T2.setTop (mkF m 28 #[.val (.int xp)] [(.ref b2), (.ref b2)])) _
    refine XS.iconst X2.here hx rfl (hb hby d8_28) ?_
    show Steps p.tables e below (T2.setTop (mkF m 29 #[.val (.int xp)] [(.int (0 : Int32)), (.ref b2), (.ref b2)])) _
    refine XS.iloadN X2.here hx rfl (hb hby d8_29) rfl ?_
    show Steps p.tables e below (T2.setTop (mkF m 30 #[.val (.int xp)] [(.int xp), (.int (0 : Int32)), (.ref b2), (.ref b2)])) _
    exact k
  obtain ⟨_, _, ⟨T5, L5, k5, n5⟩, -, X5, ⟨Lc5, hQ5, l5, y5, z5⟩, st5⟩ := X2.specialBack hx (y := (⟨"com/example/lachesis/lachesis/AmountRule", "<init>", "(ZI)V"⟩ : MethodName)) rfl hown (mvT hZ (hw _ (List.mem_of_getElem? (i := 8) rfl))) (mvT hZ (hw _ (List.mem_of_getElem? (i := 9) rfl))) (mvT hZ (hw _ (List.mem_of_getElem? (i := 10) rfl))) (by decide) (backOf (W := 1) (rm_init l Z a0 hw [] b2 (0 : Int32) xp h2 n0 z2 A2 (g_b2) F_partial_b2 F_percent_b2) hZ (hw _ (List.mem_of_getElem? (i := 10) rfl)) (hw _ (List.mem_of_getElem? (i := 4) rfl)) (by decide) (by decide)) (g := (mkF m 30 #[.val (.int xp)] [(.int xp), (.int (0 : Int32)), (.ref b2), (.ref b2)])) rfl (by rw [hml]; rfl) (Steps.refl _) (a := b2) (argsL := [(.int (0 : Int32)), (.int xp)]) (rest := [(.ref b2)]) (lenOf pd0 rfl) rfl (by show 2 * 0 + _ ≤ _; exact Nat.le_of_eq rfl) (hb hby d8_30) (fun _ _ => ⟨rfl, e2, (by decide : 1 + 0 ≤ _), (by decide : 2 + 0 ≤ _)⟩)
  dsimp only [Pt.U, Pt.locs, Pt.cells, Pt.slots] at X5 l5 y5 z5 st5 hQ5
  subst l5 y5 z5
  obtain ⟨rfl, M5, kp5, f5_0, f5_1, f5_2⟩ := hQ5
  have K5 : Keep h0 T5.heap ([] : List Addr) := K2.trans kp5 (allS (P := fun x => x ∈ ([] : List Addr) ∨ h0.size ≤ x) (Or.inr sz_b2) all0)
  have zz5 : n0 ≤ T5.heap.size := Nat.le_trans Z0 K5.1
  have N5 := Fr.app N0 M5
  have pre6 : ∀ t, Steps p.tables e below (T5.setTop (mkF m 33 #[.val (.int xp)] [(.ref b2)])) t → Steps p.tables e below (s₁.setTop (entryFrame m #[(.int xp)] 1)) t := fun t k => pre4 t (st5.trans k)
  obtain ⟨fs, hr, hrun, hended, hW, hsame⟩ := X5.leave (v := some (.ref b2)) (fun h => by rw [Bd.returns] at h; cases h)
  refine ⟨_, _, pre6 _ ?_, hrun, hended, _, _, rfl, ?_, ⟨_, rfl⟩, hW, hsame.mono (by decide) (by decide)⟩
  · exact retOut X5 hx Bd.returns rfl (Or.inr (Or.inr (Or.inr (Or.inr ⟨rfl, rfl, rfl⟩)))) (hb hby d8_33) hr
  · show Q_rm_discount Z xp h0 n0 _ T5.heap _
    exact ⟨b2, rfl, N5, g_b2, sz_b2, K5, f5_0, f5_1, f5_2⟩
theorem d4_0 : decode prog_1_method_4_code 0 = .ok (.aload_n 0, 1) := by decide +kernel
theorem d4_1 : decode prog_1_method_4_code 1 = .ok (.getfield 7, 3) := by decide +kernel
theorem d4_4 : decode prog_1_method_4_code 4 = .ok (.ireturn, 1) := by decide +kernel
theorem ef_rm_part (m : MethodId) (ra : Addr) : entryFrame m #[(.ref ra)] 1 = mkF m 0 #[.val (.ref ra)] [] := by first | (simp [entryFrame, mkF, argsToLocals, Value.category]; done) | rfl
def Q_rm_part (Z : State) (ra : Addr) (xz : Int32) (h0 : Heap) (n0 : Nat) (v : Option Value) (h : Heap) (L : List Loc) : Prop := v = some (.int (nar .boolean xz)) ∧ Fr n0 L ∧ h = h0
set_option maxRecDepth 65536 in
set_option maxHeartbeats 40000000 in
theorem rm_part (l : Launch) (Z : State) (a0 : Array Value) (hw : ∀ d ∈ tables_1, d.before a0 Z = true) (ws : List Jvm.Cond) (ra : Addr) (xz : Int32) (h0 : Heap) (n0 : Nat) (Z0 : n0 ≤ h0.size) (F1 : Fld Z h0 ra "com/example/lachesis/lachesis/AmountRule" "partial" "Z" (.int xz)) :
    MetFree l (⟨"com/example/lachesis/lachesis/AmountRule", "partial", "()Z"⟩ : MethodName) (head1 (Jvm.Cond.code (⟨"com/example/lachesis/lachesis/AmountRule", "partial", "()Z"⟩ : MethodName) prog_1_method_4_code 1 (some .boolean) :: ws) ({ frames := 0, cells := 0, slots := 0, locals := 0 } : Room)) (fun a U => a = #[(.ref ra)] ∧ Z.Warmed39 U.vm ∧ U.heap = h0) (fun _ _ _ _ _ => True) (fun _ U o U' => ∃ v L, o = .returned v ∧ Q_rm_part Z ra xz h0 n0 v U'.heap L ∧ FrameEnd U o U' L ({ frames := 0, cells := 0, slots := 0, locals := 0 } : Room).cells ({ frames := 0, cells := 0, slots := 0, locals := 0 } : Room).slots) := by
  refine MetFree.of_bodySF (plainFor_of_name pn1) hisR ?_
  intro p e s m args below meth c s₁ Bd hml0 hP hK
  obtain ⟨rfl, hZ, hh⟩ := hP
  have hx := Bd.exec
  have hby := Bd.bytes
  have hml : c.maxLocals = 1 := hml0
  have hown : s.vm.findClass "com/example/lachesis/lachesis/AmountRule" = some m.cls := findClass_of_methodNamed Bd.named
  have hnm := (name_of_methodNamed Bd.named Bd.method).1
  have X0 : Stand p l e ({ frames := 0, cells := 0, slots := 0, locals := 0 } : Room) s m #[(.ref ra)] below meth c s₁ [] 0 0 := Stand.of_body Bd
  have e0 : s₁.heap = h0 := by rw [← hh, Bd.state]; rfl
  have N0 := Fr.nil n0
  have pre0 : ∀ t, Steps p.tables e below (s₁.setTop (mkF m 0 #[.val (.ref ra)] [])) t → Steps p.tables e below (s₁.setTop (entryFrame m #[(.ref ra)] 1)) t := fun t k => castTop (ef_rm_part m ra) k
  have pre1 : ∀ t, Steps p.tables e below (s₁.setTop (mkF m 1 #[.val (.ref ra)] [(.ref ra)])) t → Steps p.tables e below (s₁.setTop (entryFrame m #[(.ref ra)] 1)) t := by
    intro t k
    refine pre0 t ?_
    refine XS.aloadN X0.here hx rfl (hb hby d4_0) rfl rfl ?_
    show Steps p.tables e below (s₁.setTop (mkF m 1 #[.val (.ref ra)] [(.ref ra)])) _
    exact k
  obtain ⟨T2, X2, e2, st2⟩ := getF X0 hx hZ hown (host := "") (Or.inl (hw _ (List.mem_of_getElem? (i := 14) rfl))) Via.refl e0 F1 (g := (mkF m 1 #[.val (.ref ra)] [(.ref ra)])) rfl rfl (hb hby d4_1)
  have pre3 : ∀ t, Steps p.tables e below (T2.setTop (mkF m 4 #[.val (.ref ra)] [(.int xz)])) t → Steps p.tables e below (s₁.setTop (entryFrame m #[(.ref ra)] 1)) t := fun t k => pre1 t (st2 t k)
  obtain ⟨fs, hr, hrun, hended, hW, hsame⟩ := X2.leave (v := some (.int (nar .boolean xz))) (fun h => by rw [Bd.returns] at h; cases h)
  refine ⟨_, _, pre3 _ ?_, hrun, hended, _, _, rfl, ?_, ⟨_, rfl⟩, hW, hsame.mono (by decide) (by decide)⟩
  · exact retN X2 hx (t := .boolean) Bd.returns (by simp) (hb hby d4_4) hr
  · show Q_rm_part Z ra xz h0 n0 _ T2.heap _
    rw [e2]
    exact ⟨rfl, N0, rfl⟩
theorem d5_0 : decode prog_1_method_5_code 0 = .ok (.aload_n 0, 1) := by decide +kernel
theorem d5_1 : decode prog_1_method_5_code 1 = .ok (.getfield 13, 3) := by decide +kernel
theorem d5_4 : decode prog_1_method_5_code 4 = .ok (.ireturn, 1) := by decide +kernel
theorem ef_rm_perc (m : MethodId) (ra : Addr) : entryFrame m #[(.ref ra)] 1 = mkF m 0 #[.val (.ref ra)] [] := by first | (simp [entryFrame, mkF, argsToLocals, Value.category]; done) | rfl
def Q_rm_perc (Z : State) (ra : Addr) (xp : Int32) (h0 : Heap) (n0 : Nat) (v : Option Value) (h : Heap) (L : List Loc) : Prop := v = some (.int xp) ∧ Fr n0 L ∧ h = h0
set_option maxRecDepth 65536 in
set_option maxHeartbeats 40000000 in
theorem rm_perc (l : Launch) (Z : State) (a0 : Array Value) (hw : ∀ d ∈ tables_1, d.before a0 Z = true) (ws : List Jvm.Cond) (ra : Addr) (xp : Int32) (h0 : Heap) (n0 : Nat) (Z0 : n0 ≤ h0.size) (F1 : Fld Z h0 ra "com/example/lachesis/lachesis/AmountRule" "percent" "I" (.int xp)) :
    MetFree l (⟨"com/example/lachesis/lachesis/AmountRule", "percent", "()I"⟩ : MethodName) (head1 (Jvm.Cond.code (⟨"com/example/lachesis/lachesis/AmountRule", "percent", "()I"⟩ : MethodName) prog_1_method_5_code 1 (some .int) :: ws) ({ frames := 0, cells := 0, slots := 0, locals := 0 } : Room)) (fun a U => a = #[(.ref ra)] ∧ Z.Warmed39 U.vm ∧ U.heap = h0) (fun _ _ _ _ _ => True) (fun _ U o U' => ∃ v L, o = .returned v ∧ Q_rm_perc Z ra xp h0 n0 v U'.heap L ∧ FrameEnd U o U' L ({ frames := 0, cells := 0, slots := 0, locals := 0 } : Room).cells ({ frames := 0, cells := 0, slots := 0, locals := 0 } : Room).slots) := by
  refine MetFree.of_bodySF (plainFor_of_name pn1) hisR ?_
  intro p e s m args below meth c s₁ Bd hml0 hP hK
  obtain ⟨rfl, hZ, hh⟩ := hP
  have hx := Bd.exec
  have hby := Bd.bytes
  have hml : c.maxLocals = 1 := hml0
  have hown : s.vm.findClass "com/example/lachesis/lachesis/AmountRule" = some m.cls := findClass_of_methodNamed Bd.named
  have hnm := (name_of_methodNamed Bd.named Bd.method).1
  have X0 : Stand p l e ({ frames := 0, cells := 0, slots := 0, locals := 0 } : Room) s m #[(.ref ra)] below meth c s₁ [] 0 0 := Stand.of_body Bd
  have e0 : s₁.heap = h0 := by rw [← hh, Bd.state]; rfl
  have N0 := Fr.nil n0
  have pre0 : ∀ t, Steps p.tables e below (s₁.setTop (mkF m 0 #[.val (.ref ra)] [])) t → Steps p.tables e below (s₁.setTop (entryFrame m #[(.ref ra)] 1)) t := fun t k => castTop (ef_rm_perc m ra) k
  have pre1 : ∀ t, Steps p.tables e below (s₁.setTop (mkF m 1 #[.val (.ref ra)] [(.ref ra)])) t → Steps p.tables e below (s₁.setTop (entryFrame m #[(.ref ra)] 1)) t := by
    intro t k
    refine pre0 t ?_
    refine XS.aloadN X0.here hx rfl (hb hby d5_0) rfl rfl ?_
    show Steps p.tables e below (s₁.setTop (mkF m 1 #[.val (.ref ra)] [(.ref ra)])) _
    exact k
  obtain ⟨T2, X2, e2, st2⟩ := getF X0 hx hZ hown (host := "") (Or.inl (hw _ (List.mem_of_getElem? (i := 16) rfl))) Via.refl e0 F1 (g := (mkF m 1 #[.val (.ref ra)] [(.ref ra)])) rfl rfl (hb hby d5_1)
  have pre3 : ∀ t, Steps p.tables e below (T2.setTop (mkF m 4 #[.val (.ref ra)] [(.int xp)])) t → Steps p.tables e below (s₁.setTop (entryFrame m #[(.ref ra)] 1)) t := fun t k => pre1 t (st2 t k)
  obtain ⟨fs, hr, hrun, hended, hW, hsame⟩ := X2.leave (v := some (.int xp)) (fun h => by rw [Bd.returns] at h; cases h)
  refine ⟨_, _, pre3 _ ?_, hrun, hended, _, _, rfl, ?_, ⟨_, rfl⟩, hW, hsame.mono (by decide) (by decide)⟩
  · exact retI X2 hx Bd.returns (hb hby d5_4) hr
  · show Q_rm_perc Z ra xp h0 n0 _ T2.heap _
    rw [e2]
    exact ⟨rfl, N0, rfl⟩
theorem d6_0 : decode prog_1_method_6_code 0 = .ok (.lload_n 1, 1) := by decide +kernel
theorem d6_1 : decode prog_1_method_6_code 1 = .ok (.aload_n 0, 1) := by decide +kernel
theorem d6_2 : decode prog_1_method_6_code 2 = .ok (.getfield 7, 3) := by decide +kernel
theorem d6_5 : decode prog_1_method_6_code 5 = .ok (.ifCond .eq 10, 3) := by decide +kernel
theorem d6_8 : decode prog_1_method_6_code 8 = .ok (.aload_n 0, 1) := by decide +kernel
theorem d6_9 : decode prog_1_method_6_code 9 = .ok (.getfield 13, 3) := by decide +kernel
theorem d6_12 : decode prog_1_method_6_code 12 = .ok (.goto 10, 3) := by decide +kernel
theorem d6_22 : decode prog_1_method_6_code 22 = .ok (.invokestatic 30, 3) := by decide +kernel
theorem pd1 : parseMethodDescriptor "(JI)J" = some ⟨[.long, .int], some .long⟩ := by decide +kernel
theorem d6_25 : decode prog_1_method_6_code 25 = .ok (.lreturn, 1) := by decide +kernel
theorem ef_rm_amountA (m : MethodId) (ra : Addr) (xa : Int64) : entryFrame m #[(.ref ra), (.long xa)] 3 = mkF m 0 #[.val (.ref ra), .val (.long xa), .second] [] := by first | (simp [entryFrame, mkF, argsToLocals, Value.category]; done) | rfl
def Q_rm_amountA (Z : State) (ra : Addr) (xa : Int64) (xz : Int32) (xp : Int32) (h0 : Heap) (n0 : Nat) (v : Option Value) (h : Heap) (L : List Loc) : Prop := v = some (.long (own_perc xa xp)) ∧ Fr n0 L ∧ h = h0
set_option maxRecDepth 65536 in
set_option maxHeartbeats 40000000 in
theorem rm_amountA (l : Launch) (Z : State) (a0 : Array Value) (hw : ∀ d ∈ tables_1, d.before a0 Z = true) (ws : List Jvm.Cond) (ra : Addr) (xa : Int64) (xz : Int32) (xp : Int32) (h0 : Heap) (n0 : Nat) (Z0 : n0 ≤ h0.size) (F1 : Fld Z h0 ra "com/example/lachesis/lachesis/AmountRule" "partial" "Z" (.int xz)) (F2 : Fld Z h0 ra "com/example/lachesis/lachesis/AmountRule" "percent" "I" (.int xp)) (hz : ¬ (xz = (0 : Int32))) (hA : ¬ (xa < (0 : Int64))) (hP0 : ¬ (xp < (0 : Int32))) (hP1 : ¬ ((100 : Int64) < (xp.toInt64))) :
    MetFree l (⟨"com/example/lachesis/lachesis/AmountRule", "amountOf", "(J)J"⟩ : MethodName) (head1 (Jvm.Cond.code (⟨"com/example/lachesis/lachesis/AmountRule", "amountOf", "(J)J"⟩ : MethodName) prog_1_method_6_code 3 (some .long) :: ws) ({ frames := 1, cells := 0, slots := 0, locals := 18 } : Room)) (fun a U => a = #[(.ref ra), (.long xa)] ∧ Z.Warmed39 U.vm ∧ U.heap = h0) (fun _ _ _ _ _ => True) (fun _ U o U' => ∃ v L, o = .returned v ∧ Q_rm_amountA Z ra xa xz xp h0 n0 v U'.heap L ∧ FrameEnd U o U' L ({ frames := 1, cells := 0, slots := 0, locals := 18 } : Room).cells ({ frames := 1, cells := 0, slots := 0, locals := 18 } : Room).slots) := by
  refine MetFree.of_bodySF (plainFor_of_name pn1) hisR ?_
  intro p e s m args below meth c s₁ Bd hml0 hP hK
  obtain ⟨rfl, hZ, hh⟩ := hP
  have hx := Bd.exec
  have hby := Bd.bytes
  have hml : c.maxLocals = 3 := hml0
  have hown : s.vm.findClass "com/example/lachesis/lachesis/AmountRule" = some m.cls := findClass_of_methodNamed Bd.named
  have hnm := (name_of_methodNamed Bd.named Bd.method).1
  have X0 : Stand p l e ({ frames := 1, cells := 0, slots := 0, locals := 18 } : Room) s m #[(.ref ra), (.long xa)] below meth c s₁ [] 0 0 := Stand.of_body Bd
  have e0 : s₁.heap = h0 := by rw [← hh, Bd.state]; rfl
  have N0 := Fr.nil n0
  have pre0 : ∀ t, Steps p.tables e below (s₁.setTop (mkF m 0 #[.val (.ref ra), .val (.long xa), .second] [])) t → Steps p.tables e below (s₁.setTop (entryFrame m #[(.ref ra), (.long xa)] 3)) t := fun t k => castTop (ef_rm_amountA m ra xa) k
  have pre1 : ∀ t, Steps p.tables e below (s₁.setTop (mkF m 2 #[.val (.ref ra), .val (.long xa), .second] [(.ref ra), (.long xa)])) t → Steps p.tables e below (s₁.setTop (entryFrame m #[(.ref ra), (.long xa)] 3)) t := by
    intro t k
    refine pre0 t ?_
    refine XS.lloadN X0.here hx rfl (hb hby d6_0) rfl ?_
    show Steps p.tables e below (s₁.setTop (mkF m 1 #[.val (.ref ra), .val (.long xa), .second] [(.long xa)])) _
    refine XS.aloadN X0.here hx rfl (hb hby d6_1) rfl rfl ?_
    show Steps p.tables e below (s₁.setTop (mkF m 2 #[.val (.ref ra), .val (.long xa), .second] [(.ref ra), (.long xa)])) _
    exact k
  obtain ⟨T2, X2, e2, st2⟩ := getF X0 hx hZ hown (host := "") (Or.inl (hw _ (List.mem_of_getElem? (i := 14) rfl))) Via.refl e0 F1 (g := (mkF m 2 #[.val (.ref ra), .val (.long xa), .second] [(.ref ra), (.long xa)])) rfl rfl (hb hby d6_2)
  have pre3 : ∀ t, Steps p.tables e below (T2.setTop (mkF m 5 #[.val (.ref ra), .val (.long xa), .second] [(.int xz), (.long xa)])) t → Steps p.tables e below (s₁.setTop (entryFrame m #[(.ref ra), (.long xa)] 3)) t := fun t k => pre1 t (st2 t k)
  have pre4 : ∀ t, Steps p.tables e below (T2.setTop (mkF m 9 #[.val (.ref ra), .val (.long xa), .second] [(.ref ra), (.long xa)])) t → Steps p.tables e below (s₁.setTop (entryFrame m #[(.ref ra), (.long xa)] 3)) t := by
    intro t k
    refine pre3 t ?_
    refine XS.ifNo X2.here hx rfl (hb hby d6_5) rfl ((if0 _ _).trans (feq (show ¬ (xz = (0 : Int32)) from hz)).1) ?_
    show Steps p.tables e below (T2.setTop (mkF m 8 #[.val (.ref ra), .val (.long xa), .second] [(.long xa)])) _
    refine XS.aloadN X2.here hx rfl (hb hby d6_8) rfl rfl ?_
    show Steps p.tables e below (T2.setTop (mkF m 9 #[.val (.ref ra), .val (.long xa), .second] [(.ref ra), (.long xa)])) _
    exact k
  obtain ⟨T5, X5, e5, st5⟩ := getF X2 hx hZ hown (host := "") (Or.inl (hw _ (List.mem_of_getElem? (i := 16) rfl))) Via.refl e2 F2 (g := (mkF m 9 #[.val (.ref ra), .val (.long xa), .second] [(.ref ra), (.long xa)])) rfl rfl (hb hby d6_9)
  have pre6 : ∀ t, Steps p.tables e below (T5.setTop (mkF m 12 #[.val (.ref ra), .val (.long xa), .second] [(.int xp), (.long xa)])) t → Steps p.tables e below (s₁.setTop (entryFrame m #[(.ref ra), (.long xa)] 3)) t := fun t k => pre4 t (st5 t k)
  have pre7 : ∀ t, Steps p.tables e below (T5.setTop (mkF m 22 #[.val (.ref ra), .val (.long xa), .second] [(.int xp), (.long xa)])) t → Steps p.tables e below (s₁.setTop (entryFrame m #[(.ref ra), (.long xa)] 3)) t := by
    intro t k
    refine pre6 t ?_
    refine XS.goto X5.here hx rfl (pc0 := 12) (pc' := 22) rfl (hb hby d6_12) (by decide) (by decide) ?_
    show Steps p.tables e below (T5.setTop (mkF m 22 #[.val (.ref ra), .val (.long xa), .second] [(.int xp), (.long xa)])) _
    exact k
  obtain ⟨_, _, ⟨T8, L8, k8, n8⟩, -, X8, ⟨Lc8, hQ8, l8, y8, z8⟩, st8⟩ := Jvm.LawKit.callS X5 hx (y := (⟨"com/example/lachesis/lachesis/Amounts", "percentOf", "(JI)J"⟩ : MethodName)) hown (mvT hZ (hw _ (List.mem_of_getElem? (i := 33) rfl))) (mvT hZ (hw _ (List.mem_of_getElem? (i := 34) rfl))) (mvT hZ (hw _ (List.mem_of_getElem? (i := 35) rfl))) (mvT hZ (hw _ (List.mem_of_getElem? (i := 36) rfl))) (by decide) (backOf (W := 0) (rm_percentOf l Z a0 hw [] xa xp h0 n0 Z0 (hA) (hP0) (hP1)) hZ (hw _ (List.mem_of_getElem? (i := 36) rfl)) (hw _ (List.mem_of_getElem? (i := 35) rfl)) (by decide) (by decide)) (g := (mkF m 22 #[.val (.ref ra), .val (.long xa), .second] [(.int xp), (.long xa)])) rfl (by rw [hml]; rfl) (argsL := [(.long xa), (.int xp)]) (rest := []) (lenOf pd1 rfl) rfl (by show 2 * 0 + _ ≤ _; exact Nat.le_of_eq rfl) (hb hby d6_22) (fun _ _ => ⟨rfl, e5, (by decide : 0 + 0 ≤ _), (by decide : 0 + 0 ≤ _)⟩)
  dsimp only [Pt.U, Pt.locs, Pt.cells, Pt.slots] at X8 l8 y8 z8 st8 hQ8
  subst l8 y8 z8
  obtain ⟨rfl, M8, e8⟩ := hQ8
  have N8 := Fr.app N0 M8
  have pre9 : ∀ t, Steps p.tables e below (T8.setTop (mkF m 25 #[.val (.ref ra), .val (.long xa), .second] [(.long (own_perc xa xp))])) t → Steps p.tables e below (s₁.setTop (entryFrame m #[(.ref ra), (.long xa)] 3)) t := fun t k => pre7 t (st8 t k)
  obtain ⟨fs, hr, hrun, hended, hW, hsame⟩ := X8.leave (v := some (.long (own_perc xa xp))) (fun h => by rw [Bd.returns] at h; cases h)
  refine ⟨_, _, pre9 _ ?_, hrun, hended, _, _, rfl, ?_, ⟨_, rfl⟩, hW, hsame.mono (by decide) (by decide)⟩
  · exact retOut X8 hx Bd.returns rfl (Or.inr (Or.inl ⟨rfl, rfl, _, rfl⟩)) (hb hby d6_25) hr
  · show Q_rm_amountA Z ra xa xz xp h0 n0 _ T8.heap _
    rw [e8]
    exact ⟨rfl, N8, rfl⟩
theorem d6_15 : decode prog_1_method_6_code 15 = .ok (.bipush 100, 2) := by decide +kernel
theorem d6_17 : decode prog_1_method_6_code 17 = .ok (.aload_n 0, 1) := by decide +kernel
theorem d6_18 : decode prog_1_method_6_code 18 = .ok (.getfield 13, 3) := by decide +kernel
theorem d6_21 : decode prog_1_method_6_code 21 = .ok (.isub, 1) := by decide +kernel
theorem ef_rm_amountB (m : MethodId) (ra : Addr) (xa : Int64) : entryFrame m #[(.ref ra), (.long xa)] 3 = mkF m 0 #[.val (.ref ra), .val (.long xa), .second] [] := by first | (simp [entryFrame, mkF, argsToLocals, Value.category]; done) | rfl
def Q_rm_amountB (Z : State) (ra : Addr) (xa : Int64) (xz : Int32) (xp : Int32) (h0 : Heap) (n0 : Nat) (v : Option Value) (h : Heap) (L : List Loc) : Prop := v = some (.long (own_perc xa ((100 : Int32) - xp))) ∧ Fr n0 L ∧ h = h0
set_option maxRecDepth 65536 in
set_option maxHeartbeats 40000000 in
theorem rm_amountB (l : Launch) (Z : State) (a0 : Array Value) (hw : ∀ d ∈ tables_1, d.before a0 Z = true) (ws : List Jvm.Cond) (ra : Addr) (xa : Int64) (xz : Int32) (xp : Int32) (h0 : Heap) (n0 : Nat) (Z0 : n0 ≤ h0.size) (F1 : Fld Z h0 ra "com/example/lachesis/lachesis/AmountRule" "partial" "Z" (.int xz)) (F2 : Fld Z h0 ra "com/example/lachesis/lachesis/AmountRule" "percent" "I" (.int xp)) (hz : xz = (0 : Int32)) (hA : ¬ (xa < (0 : Int64))) (hP0 : ¬ (((100 : Int32) - xp) < (0 : Int32))) (hP1 : ¬ ((100 : Int64) < (((100 : Int32) - xp).toInt64))) :
    MetFree l (⟨"com/example/lachesis/lachesis/AmountRule", "amountOf", "(J)J"⟩ : MethodName) (head1 (Jvm.Cond.code (⟨"com/example/lachesis/lachesis/AmountRule", "amountOf", "(J)J"⟩ : MethodName) prog_1_method_6_code 3 (some .long) :: ws) ({ frames := 1, cells := 0, slots := 0, locals := 18 } : Room)) (fun a U => a = #[(.ref ra), (.long xa)] ∧ Z.Warmed39 U.vm ∧ U.heap = h0) (fun _ _ _ _ _ => True) (fun _ U o U' => ∃ v L, o = .returned v ∧ Q_rm_amountB Z ra xa xz xp h0 n0 v U'.heap L ∧ FrameEnd U o U' L ({ frames := 1, cells := 0, slots := 0, locals := 18 } : Room).cells ({ frames := 1, cells := 0, slots := 0, locals := 18 } : Room).slots) := by
  refine MetFree.of_bodySF (plainFor_of_name pn1) hisR ?_
  intro p e s m args below meth c s₁ Bd hml0 hP hK
  obtain ⟨rfl, hZ, hh⟩ := hP
  have hx := Bd.exec
  have hby := Bd.bytes
  have hml : c.maxLocals = 3 := hml0
  have hown : s.vm.findClass "com/example/lachesis/lachesis/AmountRule" = some m.cls := findClass_of_methodNamed Bd.named
  have hnm := (name_of_methodNamed Bd.named Bd.method).1
  have X0 : Stand p l e ({ frames := 1, cells := 0, slots := 0, locals := 18 } : Room) s m #[(.ref ra), (.long xa)] below meth c s₁ [] 0 0 := Stand.of_body Bd
  have e0 : s₁.heap = h0 := by rw [← hh, Bd.state]; rfl
  have N0 := Fr.nil n0
  have pre0 : ∀ t, Steps p.tables e below (s₁.setTop (mkF m 0 #[.val (.ref ra), .val (.long xa), .second] [])) t → Steps p.tables e below (s₁.setTop (entryFrame m #[(.ref ra), (.long xa)] 3)) t := fun t k => castTop (ef_rm_amountB m ra xa) k
  have pre1 : ∀ t, Steps p.tables e below (s₁.setTop (mkF m 2 #[.val (.ref ra), .val (.long xa), .second] [(.ref ra), (.long xa)])) t → Steps p.tables e below (s₁.setTop (entryFrame m #[(.ref ra), (.long xa)] 3)) t := by
    intro t k
    refine pre0 t ?_
    refine XS.lloadN X0.here hx rfl (hb hby d6_0) rfl ?_
    show Steps p.tables e below (s₁.setTop (mkF m 1 #[.val (.ref ra), .val (.long xa), .second] [(.long xa)])) _
    refine XS.aloadN X0.here hx rfl (hb hby d6_1) rfl rfl ?_
    show Steps p.tables e below (s₁.setTop (mkF m 2 #[.val (.ref ra), .val (.long xa), .second] [(.ref ra), (.long xa)])) _
    exact k
  obtain ⟨T2, X2, e2, st2⟩ := getF X0 hx hZ hown (host := "") (Or.inl (hw _ (List.mem_of_getElem? (i := 14) rfl))) Via.refl e0 F1 (g := (mkF m 2 #[.val (.ref ra), .val (.long xa), .second] [(.ref ra), (.long xa)])) rfl rfl (hb hby d6_2)
  have pre3 : ∀ t, Steps p.tables e below (T2.setTop (mkF m 5 #[.val (.ref ra), .val (.long xa), .second] [(.int xz), (.long xa)])) t → Steps p.tables e below (s₁.setTop (entryFrame m #[(.ref ra), (.long xa)] 3)) t := fun t k => pre1 t (st2 t k)
  have pre4 : ∀ t, Steps p.tables e below (T2.setTop (mkF m 18 #[.val (.ref ra), .val (.long xa), .second] [(.ref ra), (.int (100 : Int32)), (.long xa)])) t → Steps p.tables e below (s₁.setTop (entryFrame m #[(.ref ra), (.long xa)] 3)) t := by
    intro t k
    refine pre3 t ?_
    refine XS.ifYes X2.here hx rfl (pc0 := 5) (pc' := 15) rfl (hb hby d6_5) rfl ((if0 _ _).trans (teq (show xz = (0 : Int32) from hz)).1) (by decide) (by decide) ?_
    show Steps p.tables e below (T2.setTop (mkF m 15 #[.val (.ref ra), .val (.long xa), .second] [(.long xa)])) _
    refine XS.bipush X2.here hx rfl (hb hby d6_15) ?_
    show Steps p.tables e below (T2.setTop (mkF m 17 #[.val (.ref ra), .val (.long xa), .second] [(.int (100 : Int32)), (.long xa)])) _
    refine XS.aloadN X2.here hx rfl (hb hby d6_17) rfl rfl ?_
    show Steps p.tables e below (T2.setTop (mkF m 18 #[.val (.ref ra), .val (.long xa), .second] [(.ref ra), (.int (100 : Int32)), (.long xa)])) _
    exact k
  obtain ⟨T5, X5, e5, st5⟩ := getF X2 hx hZ hown (host := "") (Or.inl (hw _ (List.mem_of_getElem? (i := 16) rfl))) Via.refl e2 F2 (g := (mkF m 18 #[.val (.ref ra), .val (.long xa), .second] [(.ref ra), (.int (100 : Int32)), (.long xa)])) rfl rfl (hb hby d6_18)
  have pre6 : ∀ t, Steps p.tables e below (T5.setTop (mkF m 21 #[.val (.ref ra), .val (.long xa), .second] [(.int xp), (.int (100 : Int32)), (.long xa)])) t → Steps p.tables e below (s₁.setTop (entryFrame m #[(.ref ra), (.long xa)] 3)) t := fun t k => pre4 t (st5 t k)
  have pre7 : ∀ t, Steps p.tables e below (T5.setTop (mkF m 22 #[.val (.ref ra), .val (.long xa), .second] [(.int ((100 : Int32) - xp)), (.long xa)])) t → Steps p.tables e below (s₁.setTop (entryFrame m #[(.ref ra), (.long xa)] 3)) t := by
    intro t k
    refine pre6 t ?_
    refine XS.isub X5.here hx rfl (hb hby d6_21) rfl ?_
    show Steps p.tables e below (T5.setTop (mkF m 22 #[.val (.ref ra), .val (.long xa), .second] [(.int ((100 : Int32) - xp)), (.long xa)])) _
    exact k
  obtain ⟨_, _, ⟨T8, L8, k8, n8⟩, -, X8, ⟨Lc8, hQ8, l8, y8, z8⟩, st8⟩ := Jvm.LawKit.callS X5 hx (y := (⟨"com/example/lachesis/lachesis/Amounts", "percentOf", "(JI)J"⟩ : MethodName)) hown (mvT hZ (hw _ (List.mem_of_getElem? (i := 33) rfl))) (mvT hZ (hw _ (List.mem_of_getElem? (i := 34) rfl))) (mvT hZ (hw _ (List.mem_of_getElem? (i := 35) rfl))) (mvT hZ (hw _ (List.mem_of_getElem? (i := 36) rfl))) (by decide) (backOf (W := 0) (rm_percentOf l Z a0 hw [] xa ((100 : Int32) - xp) h0 n0 Z0 (hA) (hP0) (hP1)) hZ (hw _ (List.mem_of_getElem? (i := 36) rfl)) (hw _ (List.mem_of_getElem? (i := 35) rfl)) (by decide) (by decide)) (g := (mkF m 22 #[.val (.ref ra), .val (.long xa), .second] [(.int ((100 : Int32) - xp)), (.long xa)])) rfl (by rw [hml]; rfl) (argsL := [(.long xa), (.int ((100 : Int32) - xp))]) (rest := []) (lenOf pd1 rfl) rfl (by show 2 * 0 + _ ≤ _; exact Nat.le_of_eq rfl) (hb hby d6_22) (fun _ _ => ⟨rfl, e5, (by decide : 0 + 0 ≤ _), (by decide : 0 + 0 ≤ _)⟩)
  dsimp only [Pt.U, Pt.locs, Pt.cells, Pt.slots] at X8 l8 y8 z8 st8 hQ8
  subst l8 y8 z8
  obtain ⟨rfl, M8, e8⟩ := hQ8
  have N8 := Fr.app N0 M8
  have pre9 : ∀ t, Steps p.tables e below (T8.setTop (mkF m 25 #[.val (.ref ra), .val (.long xa), .second] [(.long (own_perc xa ((100 : Int32) - xp)))])) t → Steps p.tables e below (s₁.setTop (entryFrame m #[(.ref ra), (.long xa)] 3)) t := fun t k => pre7 t (st8 t k)
  obtain ⟨fs, hr, hrun, hended, hW, hsame⟩ := X8.leave (v := some (.long (own_perc xa ((100 : Int32) - xp)))) (fun h => by rw [Bd.returns] at h; cases h)
  refine ⟨_, _, pre9 _ ?_, hrun, hended, _, _, rfl, ?_, ⟨_, rfl⟩, hW, hsame.mono (by decide) (by decide)⟩
  · exact retOut X8 hx Bd.returns rfl (Or.inr (Or.inl ⟨rfl, rfl, _, rfl⟩)) (hb hby d6_25) hr
  · show Q_rm_amountB Z ra xa xz xp h0 n0 _ T8.heap _
    rw [e8]
    exact ⟨rfl, N8, rfl⟩
theorem own_p0 (xpc pp : Int32) (h : pp = (((xpc &&& (2147483647 : Int32)) % (100 : Int32)) + (1 : Int32))) : 1 ≤ pp.toInt ∧ pp.toInt ≤ 100 := by
  subst h
  have := rng32 xpc
  have := c_mask xpc (2147483647 : Int32) 31 (by decide) (by decide +kernel)
  have := rng32 (xpc &&& (2147483647 : Int32))
  have : (100 : Int32).toInt = 100 := rfl
  have := c_irem (xpc &&& (2147483647 : Int32)) (100 : Int32) 100 rfl
  have := rng32 ((xpc &&& (2147483647 : Int32)) % (100 : Int32))
  have : (1 : Int32).toInt = 1 := rfl
  have := c_iadd ((xpc &&& (2147483647 : Int32)) % (100 : Int32)) (1 : Int32)
  have := rng32 (((xpc &&& (2147483647 : Int32)) % (100 : Int32)) + (1 : Int32))
  omega
theorem own_p (xpc pp : Int32) (h : pp = (((xpc &&& (2147483647 : Int32)) % (100 : Int32)) + (1 : Int32))) : ¬ (pp < (1 : Int32)) ∧ ¬ ((100 : Int32) < pp) ∧ ¬ (pp < (0 : Int32)) ∧ ¬ ((100 : Int64) < (pp.toInt64)) := by
  have := own_p0 xpc pp h
  have : (0 : Int32).toInt = 0 := rfl
  have : (0 : Int64).toInt = 0 := rfl
  have : (1 : Int32).toInt = 1 := rfl
  have : (1 : Int64).toInt = 1 := rfl
  have : (50 : Int32).toInt = 50 := rfl
  have : (50 : Int64).toInt = 50 := rfl
  have : (100 : Int32).toInt = 100 := rfl
  have : (100 : Int64).toInt = 100 := rfl
  simp only [Int32.lt_iff_toInt_lt, Int64.lt_iff_toInt_lt, c_i2l]
  omega
theorem own_q (xpc pp : Int32) (h : pp = (((xpc &&& (2147483647 : Int32)) % (100 : Int32)) + (1 : Int32))) : ¬ (((100 : Int32) - pp) < (0 : Int32)) ∧ ¬ ((100 : Int32) < ((100 : Int32) - pp)) ∧ True := by
  have := own_p0 xpc pp h
  have : (0 : Int32).toInt = 0 := rfl
  have : (0 : Int64).toInt = 0 := rfl
  have : (1 : Int32).toInt = 1 := rfl
  have : (1 : Int64).toInt = 1 := rfl
  have : (50 : Int32).toInt = 50 := rfl
  have : (50 : Int64).toInt = 50 := rfl
  have : (100 : Int32).toInt = 100 := rfl
  have : (100 : Int64).toInt = 100 := rfl
  have : (100 : Int32).toInt = 100 := rfl
  have := rng32 pp
  have := c_isub (100 : Int32) pp
  have := rng32 ((100 : Int32) - pp)
  simp only [Int32.lt_iff_toInt_lt]
  refine ⟨?_, ?_, trivial⟩ <;> omega
theorem own_s (z : Int32) : ((100 : Int32) - ((100 : Int32) - z)) = z := by
  have : (100 : Int32).toInt = 100 := rfl
  have := rng32 z
  have := c_isub (100 : Int32) z
  have := rng32 ((100 : Int32) - z)
  have := c_isub (100 : Int32) ((100 : Int32) - z)
  have := rng32 ((100 : Int32) - ((100 : Int32) - z))
  apply Int32.toInt_inj.mp
  omega
theorem own_a0 (xam v : Int64) (P : Prop) [Decidable P] (h : v = (if P then (xam &&& (72057594037927935 : Int64)) else (xam &&& (9223372036854775807 : Int64)))) : 0 ≤ v.toInt := by
  rw [h]
  have a := c_maskL xam (72057594037927935 : Int64) 56 (by decide) (by decide +kernel)
  have b := c_maskL xam (9223372036854775807 : Int64) 63 (by decide) (by decide +kernel)
  split <;> omega
theorem own_a (xam v : Int64) (P : Prop) [Decidable P] (h : v = (if P then (xam &&& (72057594037927935 : Int64)) else (xam &&& (9223372036854775807 : Int64)))) : ¬ (v < (0 : Int64)) := by
  have := own_a0 xam v P h
  have : (0 : Int64).toInt = 0 := rfl
  rw [Int64.lt_iff_toInt_lt]
  omega
theorem own_perc_eq (xa : Int64) (xp : Int32) (hA : 0 ≤ xa.toInt) (h0 : 0 ≤ xp.toInt) (h1 : xp.toInt ≤ 100) : (own_perc xa xp).toInt = (xa.toInt * xp.toInt + 50) / 100 := by
  unfold own_perc
  have hx0 := rng64 xa
  have d1 : (xa / (100 : Int64)).toInt = xa.toInt / 100 := (c_ldiv xa (100 : Int64) 100 rfl (by decide)).1 hA
  have d2 : (xa - (xa / (100 : Int64)) * (100 : Int64)).toInt = xa.toInt % 100 := (c_lrem xa (100 : Int64) 100 rfl).1 hA
  have d3 : xp.toInt64.toInt = xp.toInt := c_i2l xp
  have e1 : xa.toInt * xp.toInt = 100 * (xa.toInt / 100 * xp.toInt) + xa.toInt % 100 * xp.toInt := by
    have : xa.toInt = 100 * (xa.toInt / 100) + xa.toInt % 100 := by omega
    conv => lhs; rw [this, Int.add_mul, Int.mul_assoc]
  have q0 : 0 ≤ xa.toInt / 100 * xp.toInt := Int.mul_nonneg (by omega) h0
  have q1 : xa.toInt / 100 * xp.toInt ≤ xa.toInt / 100 * 100 := Int.mul_le_mul_of_nonneg_left h1 (by omega)
  have r0 : 0 ≤ xa.toInt % 100 * xp.toInt := Int.mul_nonneg (by omega) h0
  have r1 : xa.toInt % 100 * xp.toInt ≤ xa.toInt % 100 * 100 := Int.mul_le_mul_of_nonneg_left h1 (by omega)
  have m1 := c_lmul (xa / (100 : Int64)) (xp.toInt64)
  have m2 := c_lmul (xa - (xa / (100 : Int64)) * (100 : Int64)) (xp.toInt64)
  rw [d1, d3] at m1
  rw [d2, d3] at m2
  generalize hA1 : xa.toInt / 100 * xp.toInt = A1 at *
  generalize hA2 : xa.toInt % 100 * xp.toInt = A2 at *
  have w1 : ((xa / (100 : Int64)) * (xp.toInt64)).toInt = A1 := by have := rng64 ((xa / (100 : Int64)) * (xp.toInt64)); omega
  have w2 : ((xa - (xa / (100 : Int64)) * (100 : Int64)) * (xp.toInt64)).toInt = A2 := by have := rng64 ((xa - (xa / (100 : Int64)) * (100 : Int64)) * (xp.toInt64)); omega
  clear m1 m2
  have l50 : (50 : Int64).toInt = 50 := rfl
  have w3 : (((xa - (xa / (100 : Int64)) * (100 : Int64)) * (xp.toInt64)) + (50 : Int64)).toInt = A2 + 50 := by
    have := c_ladd ((xa - (xa / (100 : Int64)) * (100 : Int64)) * (xp.toInt64)) (50 : Int64)
    have := rng64 (((xa - (xa / (100 : Int64)) * (100 : Int64)) * (xp.toInt64)) + (50 : Int64))
    omega
  have w4 : ((((xa - (xa / (100 : Int64)) * (100 : Int64)) * (xp.toInt64)) + (50 : Int64)) / (100 : Int64)).toInt = (A2 + 50) / 100 := by
    rw [(c_ldiv _ (100 : Int64) 100 rfl (by decide)).1 (by omega), w3]
  have a5 := c_ladd ((xa / (100 : Int64)) * (xp.toInt64)) ((((xa - (xa / (100 : Int64)) * (100 : Int64)) * (xp.toInt64)) + (50 : Int64)) / (100 : Int64))
  have a6 := rng64 (((xa / (100 : Int64)) * (xp.toInt64)) + ((((xa - (xa / (100 : Int64)) * (100 : Int64)) * (xp.toInt64)) + (50 : Int64)) / (100 : Int64)))
  rw [w1, w4] at a5
  omega
theorem own_ref (xa : Int64) (xp : Int32) (hA : 0 ≤ xa.toInt) (h0 : 0 ≤ xp.toInt) (h1 : xp.toInt ≤ 100) (hn : ¬ ((72057594037927935 : Int64) < xa)) : own_perc xa xp = (((xa * (xp.toInt64)) + (50 : Int64)) / (100 : Int64)) := by
  apply Int64.toInt_inj.mp
  rw [own_perc_eq xa xp hA h0 h1]
  rw [Int64.lt_iff_toInt_lt] at hn
  have : (72057594037927935 : Int64).toInt = 72057594037927935 := rfl
  have := rng64 xa
  have := rng32 xp
  have := c_i2l xp
  have := rng64 (xp.toInt64)
  have := c_lmul xa xp.toInt64
  have := rng64 (xa * xp.toInt64)
  have : (50 : Int64).toInt = 50 := rfl
  have := c_ladd (xa * xp.toInt64) (50 : Int64)
  have := rng64 ((xa * xp.toInt64) + (50 : Int64))
  have : (100 : Int64).toInt = 100 := rfl
  have := c_ldiv ((xa * xp.toInt64) + (50 : Int64)) (100 : Int64) 100 rfl (by decide)
  have := rng64 (((xa * xp.toInt64) + (50 : Int64)) / (100 : Int64))
  have q0 : 0 ≤ xa.toInt * xp.toInt := Int.mul_nonneg hA h0
  have q1 : xa.toInt * xp.toInt ≤ xa.toInt * 100 := Int.mul_le_mul_of_nonneg_left h1 hA
  have d3 : xp.toInt64.toInt = xp.toInt := c_i2l xp
  have m1 := c_lmul xa (xp.toInt64)
  rw [d3] at m1
  omega
theorem pd2 : parseMethodDescriptor "(I)Lcom/example/lachesis/lachesis/AmountRule;" = some ⟨[.int], some (.object "com/example/lachesis/lachesis/AmountRule")⟩ := by decide +kernel
theorem pd3 : parseMethodDescriptor "()Z" = some ⟨[], some .boolean⟩ := by decide +kernel
theorem pd4 : parseMethodDescriptor "()I" = some ⟨[], some .int⟩ := by decide +kernel
theorem pd5 : parseMethodDescriptor "(J)J" = some ⟨[.long], some .long⟩ := by decide +kernel
theorem pn2 : plainName "com/example/lachesis/lachesis/AmountRuleChargePinLaw" = true := by first | (simp [plainName, overriddenIn]; done) | decide +kernel
theorem ef_rm0 (m : MethodId) (xpc : Int32) (xam : Int64) (xfl : Int32) : entryFrame m #[(.int xpc), (.long xam), (.int xfl)] maxLocals = mkF m 0 #[.val (.int xpc), .val (.long xam), .second, .val (.int xfl), .unset, .unset, .unset, .unset, .unset, .unset, .unset, .unset, .unset, .unset] [] := by first | (simp [entryFrame, mkF, argsToLocals, Value.category, maxLocals]; done) | rfl
def Q_rm0 (Z : State) (xpc : Int32) (xam : Int64) (xfl : Int32) (h0 : Heap) (n0 : Nat) (v : Option Value) (h : Heap) (L : List Loc) : Prop := v = some (.int (1 : Int32)) ∧ Fr n0 L
set_option maxRecDepth 65536 in
set_option maxHeartbeats 40000000 in
theorem rm0 (l : Launch) (Z : State) (a0 : Array Value) (hw : ∀ d ∈ tables_1, d.before a0 Z = true) (ws : List Jvm.Cond) (xpc : Int32) (xam : Int64) (xfl : Int32) (h0 : Heap) (n0 : Nat) (Z0 : n0 ≤ h0.size) :
    MetFree l x (head1 (Jvm.Cond.code x code maxLocals ret :: ws) room_1) (fun a U => a = #[(.int xpc), (.long xam), (.int xfl)] ∧ Z.Warmed39 U.vm ∧ U.heap = h0) (fun _ _ _ _ _ => True) (fun _ U o U' => ∃ v L, o = .returned v ∧ Q_rm0 Z xpc xam xfl h0 n0 v U'.heap L ∧ FrameEnd U o U' L room_1.cells room_1.slots) := by
  refine MetFree.of_bodySF (plainFor_of_name pn2) hisR ?_
  intro p e s m args below meth c s₁ Bd hml0 hP hK
  obtain ⟨rfl, hZ, hh⟩ := hP
  have hx := Bd.exec
  have hby := Bd.bytes
  have hml : c.maxLocals = 14 := hml0
  have hown : s.vm.findClass "com/example/lachesis/lachesis/AmountRuleChargePinLaw" = some m.cls := findClass_of_methodNamed Bd.named
  have hnm := (name_of_methodNamed Bd.named Bd.method).1
  have X0 : Stand p l e room_1 s m #[(.int xpc), (.long xam), (.int xfl)] below meth c s₁ [] 0 0 := Stand.of_body Bd
  have e0 : s₁.heap = h0 := by rw [← hh, Bd.state]; rfl
  have N0 := Fr.nil n0
  have pre0 : ∀ t, Steps p.tables e below (s₁.setTop (mkF m 0 #[.val (.int xpc), .val (.long xam), .second, .val (.int xfl), .unset, .unset, .unset, .unset, .unset, .unset, .unset, .unset, .unset, .unset] [])) t → Steps p.tables e below (s₁.setTop (entryFrame m #[(.int xpc), (.long xam), (.int xfl)] maxLocals)) t := fun t k => castTop (ef_rm0 m xpc xam xfl) k
  have pre1 : ∀ t, Steps p.tables e below (s₁.setTop (mkF m 11 #[.val (.int xpc), .val (.long xam), .second, .val (.int xfl), .val (.int (((xpc &&& (2147483647 : Int32)) % (100 : Int32)) + (1 : Int32))), .unset, .unset, .unset, .unset, .unset, .unset, .unset, .unset, .unset] [])) t → Steps p.tables e below (s₁.setTop (entryFrame m #[(.int xpc), (.long xam), (.int xfl)] maxLocals)) t := by
    intro t k
    refine pre0 t ?_
    refine XS.iloadN X0.here hx rfl (hb hby at_0) rfl ?_
    show Steps p.tables e below (s₁.setTop (mkF m 1 #[.val (.int xpc), .val (.long xam), .second, .val (.int xfl), .unset, .unset, .unset, .unset, .unset, .unset, .unset, .unset, .unset, .unset] [(.int xpc)])) _
    refine X0.ldcInt hx hown (mvT hZ (hw _ (List.mem_of_getElem? (i := 0) rfl))) (g := (mkF m 1 #[.val (.int xpc), .val (.long xam), .second, .val (.int xfl), .unset, .unset, .unset, .unset, .unset, .unset, .unset, .unset, .unset, .unset] [(.int xpc)])) rfl (hb hby at_1) _ ?_
    show Steps p.tables e below (s₁.setTop (mkF m 3 #[.val (.int xpc), .val (.long xam), .second, .val (.int xfl), .unset, .unset, .unset, .unset, .unset, .unset, .unset, .unset, .unset, .unset] [(.int (2147483647 : Int32)), (.int xpc)])) _
    refine XS.iand X0.here hx rfl (hb hby at_3) rfl ?_
    show Steps p.tables e below (s₁.setTop (mkF m 4 #[.val (.int xpc), .val (.long xam), .second, .val (.int xfl), .unset, .unset, .unset, .unset, .unset, .unset, .unset, .unset, .unset, .unset] [(.int (xpc &&& (2147483647 : Int32)))])) _
    refine XS.bipush X0.here hx rfl (hb hby at_4) ?_
    show Steps p.tables e below (s₁.setTop (mkF m 6 #[.val (.int xpc), .val (.long xam), .second, .val (.int xfl), .unset, .unset, .unset, .unset, .unset, .unset, .unset, .unset, .unset, .unset] [(.int (100 : Int32)), (.int (xpc &&& (2147483647 : Int32)))])) _
    refine iremM X0 hx rfl (hb hby at_6) rfl (by decide) ?_
    show Steps p.tables e below (s₁.setTop (mkF m 7 #[.val (.int xpc), .val (.long xam), .second, .val (.int xfl), .unset, .unset, .unset, .unset, .unset, .unset, .unset, .unset, .unset, .unset] [(.int ((xpc &&& (2147483647 : Int32)) % (100 : Int32)))])) _
    refine XS.iconst X0.here hx rfl (hb hby at_7) ?_
    show Steps p.tables e below (s₁.setTop (mkF m 8 #[.val (.int xpc), .val (.long xam), .second, .val (.int xfl), .unset, .unset, .unset, .unset, .unset, .unset, .unset, .unset, .unset, .unset] [(.int (1 : Int32)), (.int ((xpc &&& (2147483647 : Int32)) % (100 : Int32)))])) _
    refine XS.iadd X0.here hx rfl (hb hby at_8) rfl ?_
    show Steps p.tables e below (s₁.setTop (mkF m 9 #[.val (.int xpc), .val (.long xam), .second, .val (.int xfl), .unset, .unset, .unset, .unset, .unset, .unset, .unset, .unset, .unset, .unset] [(.int (((xpc &&& (2147483647 : Int32)) % (100 : Int32)) + (1 : Int32)))])) _
    refine XS.istore X0.here hx rfl (hb hby at_9) rfl (l' := #[.val (.int xpc), .val (.long xam), .second, .val (.int xfl), .val (.int (((xpc &&& (2147483647 : Int32)) % (100 : Int32)) + (1 : Int32))), .unset, .unset, .unset, .unset, .unset, .unset, .unset, .unset, .unset]) rfl ?_
    show Steps p.tables e below (s₁.setTop (mkF m 11 #[.val (.int xpc), .val (.long xam), .second, .val (.int xfl), .val (.int (((xpc &&& (2147483647 : Int32)) % (100 : Int32)) + (1 : Int32))), .unset, .unset, .unset, .unset, .unset, .unset, .unset, .unset, .unset] [])) _
    exact k
  obtain ⟨pp, hpp⟩ : ∃ z : Int32, z = (((xpc &&& (2147483647 : Int32)) % (100 : Int32)) + (1 : Int32)) := ⟨_, rfl⟩
  rw [← hpp] at pre1
  have pre2 : ∀ t, Steps p.tables e below (s₁.setTop (mkF m 14 #[.val (.int xpc), .val (.long xam), .second, .val (.int xfl), .val (.int pp), .unset, .unset, .unset, .unset, .unset, .unset, .unset, .unset, .unset] [(.int (xfl &&& (1 : Int32)))])) t → Steps p.tables e below (s₁.setTop (entryFrame m #[(.int xpc), (.long xam), (.int xfl)] maxLocals)) t := by
    intro t k
    refine pre1 t ?_
    refine XS.iloadN X0.here hx rfl (hb hby at_11) rfl ?_
    show Steps p.tables e below (s₁.setTop (mkF m 12 #[.val (.int xpc), .val (.long xam), .second, .val (.int xfl), .val (.int pp), .unset, .unset, .unset, .unset, .unset, .unset, .unset, .unset, .unset] [(.int xfl)])) _
    refine XS.iconst X0.here hx rfl (hb hby at_12) ?_
    show Steps p.tables e below (s₁.setTop (mkF m 13 #[.val (.int xpc), .val (.long xam), .second, .val (.int xfl), .val (.int pp), .unset, .unset, .unset, .unset, .unset, .unset, .unset, .unset, .unset] [(.int (1 : Int32)), (.int xfl)])) _
    refine XS.iand X0.here hx rfl (hb hby at_13) rfl ?_
    show Steps p.tables e below (s₁.setTop (mkF m 14 #[.val (.int xpc), .val (.long xam), .second, .val (.int xfl), .val (.int pp), .unset, .unset, .unset, .unset, .unset, .unset, .unset, .unset, .unset] [(.int (xfl &&& (1 : Int32)))])) _
    exact k
  obtain ⟨v14, hv14⟩ : ∃ z : Int64, z = (if (xfl &&& (1 : Int32)) = (0 : Int32) then (xam &&& (72057594037927935 : Int64)) else (xam &&& (9223372036854775807 : Int64))) := ⟨_, rfl⟩
  have pre3 : ∀ t, Steps p.tables e below (s₁.setTop (mkF m 30 #[.val (.int xpc), .val (.long xam), .second, .val (.int xfl), .val (.int pp), .unset, .unset, .unset, .unset, .unset, .unset, .unset, .unset, .unset] [(.long v14)])) t → Steps p.tables e below (s₁.setTop (entryFrame m #[(.int xpc), (.long xam), (.int xfl)] maxLocals)) t := by
    intro t k
    refine pre2 t ?_
    by_cases hc14 : (xfl &&& (1 : Int32)) = (0 : Int32)
    · refine XS.ifYes X0.here hx rfl (pc0 := 14) (pc' := 25) rfl (hb hby at_14) rfl ((if0 _ _).trans (teq hc14).1) (by decide) (by decide) ?_
      show Steps p.tables e below (s₁.setTop (mkF m 25 #[.val (.int xpc), .val (.long xam), .second, .val (.int xfl), .val (.int pp), .unset, .unset, .unset, .unset, .unset, .unset, .unset, .unset, .unset] [])) _
      refine XS.lloadN X0.here hx rfl (hb hby at_25) rfl ?_
      show Steps p.tables e below (s₁.setTop (mkF m 26 #[.val (.int xpc), .val (.long xam), .second, .val (.int xfl), .val (.int pp), .unset, .unset, .unset, .unset, .unset, .unset, .unset, .unset, .unset] [(.long xam)])) _
      refine X0.ldc2Long hx hown (mvT hZ (hw _ (List.mem_of_getElem? (i := 42) rfl))) (g := (mkF m 26 #[.val (.int xpc), .val (.long xam), .second, .val (.int xfl), .val (.int pp), .unset, .unset, .unset, .unset, .unset, .unset, .unset, .unset, .unset] [(.long xam)])) rfl (hb hby at_26) _ ?_
      show Steps p.tables e below (s₁.setTop (mkF m 29 #[.val (.int xpc), .val (.long xam), .second, .val (.int xfl), .val (.int pp), .unset, .unset, .unset, .unset, .unset, .unset, .unset, .unset, .unset] [(.long (72057594037927935 : Int64)), (.long xam)])) _
      refine XS.land X0.here hx rfl (hb hby at_29) rfl ?_
      show Steps p.tables e below (s₁.setTop (mkF m 30 #[.val (.int xpc), .val (.long xam), .second, .val (.int xfl), .val (.int pp), .unset, .unset, .unset, .unset, .unset, .unset, .unset, .unset, .unset] [(.long (xam &&& (72057594037927935 : Int64)))])) _
      rw [show v14 = (xam &&& (72057594037927935 : Int64)) from by rw [hv14, if_pos hc14]] at k
      exact k
    · refine XS.ifNo X0.here hx rfl (hb hby at_14) rfl ((if0 _ _).trans (feq hc14).1) ?_
      show Steps p.tables e below (s₁.setTop (mkF m 17 #[.val (.int xpc), .val (.long xam), .second, .val (.int xfl), .val (.int pp), .unset, .unset, .unset, .unset, .unset, .unset, .unset, .unset, .unset] [])) _
      refine XS.lloadN X0.here hx rfl (hb hby at_17) rfl ?_
      show Steps p.tables e below (s₁.setTop (mkF m 18 #[.val (.int xpc), .val (.long xam), .second, .val (.int xfl), .val (.int pp), .unset, .unset, .unset, .unset, .unset, .unset, .unset, .unset, .unset] [(.long xam)])) _
      refine X0.ldc2Long hx hown (mvT hZ (hw _ (List.mem_of_getElem? (i := 1) rfl))) (g := (mkF m 18 #[.val (.int xpc), .val (.long xam), .second, .val (.int xfl), .val (.int pp), .unset, .unset, .unset, .unset, .unset, .unset, .unset, .unset, .unset] [(.long xam)])) rfl (hb hby at_18) _ ?_
      show Steps p.tables e below (s₁.setTop (mkF m 21 #[.val (.int xpc), .val (.long xam), .second, .val (.int xfl), .val (.int pp), .unset, .unset, .unset, .unset, .unset, .unset, .unset, .unset, .unset] [(.long (9223372036854775807 : Int64)), (.long xam)])) _
      refine XS.land X0.here hx rfl (hb hby at_21) rfl ?_
      show Steps p.tables e below (s₁.setTop (mkF m 22 #[.val (.int xpc), .val (.long xam), .second, .val (.int xfl), .val (.int pp), .unset, .unset, .unset, .unset, .unset, .unset, .unset, .unset, .unset] [(.long (xam &&& (9223372036854775807 : Int64)))])) _
      refine XS.goto X0.here hx rfl (pc0 := 22) (pc' := 30) rfl (hb hby at_22) (by decide) (by decide) ?_
      show Steps p.tables e below (s₁.setTop (mkF m 30 #[.val (.int xpc), .val (.long xam), .second, .val (.int xfl), .val (.int pp), .unset, .unset, .unset, .unset, .unset, .unset, .unset, .unset, .unset] [(.long (xam &&& (9223372036854775807 : Int64)))])) _
      rw [show v14 = (xam &&& (9223372036854775807 : Int64)) from by rw [hv14, if_neg hc14]] at k
      exact k
  have pre4 : ∀ t, Steps p.tables e below (s₁.setTop (mkF m 34 #[.val (.int xpc), .val (.long xam), .second, .val (.int xfl), .val (.int pp), .val (.long v14), .second, .unset, .unset, .unset, .unset, .unset, .unset, .unset] [(.int pp)])) t → Steps p.tables e below (s₁.setTop (entryFrame m #[(.int xpc), (.long xam), (.int xfl)] maxLocals)) t := by
    intro t k
    refine pre3 t ?_
    refine XS.lstore X0.here hx rfl (hb hby at_30) rfl (l' := #[.val (.int xpc), .val (.long xam), .second, .val (.int xfl), .val (.int pp), .val (.long v14), .second, .unset, .unset, .unset, .unset, .unset, .unset, .unset]) rfl ?_
    show Steps p.tables e below (s₁.setTop (mkF m 32 #[.val (.int xpc), .val (.long xam), .second, .val (.int xfl), .val (.int pp), .val (.long v14), .second, .unset, .unset, .unset, .unset, .unset, .unset, .unset] [])) _
    refine XS.iload X0.here hx rfl (hb hby at_32) rfl ?_
    show Steps p.tables e below (s₁.setTop (mkF m 34 #[.val (.int xpc), .val (.long xam), .second, .val (.int xfl), .val (.int pp), .val (.long v14), .second, .unset, .unset, .unset, .unset, .unset, .unset, .unset] [(.int pp)])) _
    exact k
  obtain ⟨_, _, ⟨T5, L5, k5, n5⟩, -, X5, ⟨Lc5, hQ5, l5, y5, z5⟩, st5⟩ := Jvm.LawKit.callS X0 hx (y := (⟨"com/example/lachesis/lachesis/AmountRule", "charge", "(I)Lcom/example/lachesis/lachesis/AmountRule;"⟩ : MethodName)) hown (mvT hZ (hw _ (List.mem_of_getElem? (i := 2) rfl))) (mvT hZ (hw _ (List.mem_of_getElem? (i := 3) rfl))) (mvT hZ (hw _ (List.mem_of_getElem? (i := 4) rfl))) (mvT hZ (hw _ (List.mem_of_getElem? (i := 5) rfl))) (by decide) (backOf (W := 0) (rm_charge l Z a0 hw [] pp h0 n0 Z0 ((own_p xpc pp hpp).1) ((own_p xpc pp hpp).2.1)) hZ (hw _ (List.mem_of_getElem? (i := 5) rfl)) (hw _ (List.mem_of_getElem? (i := 4) rfl)) (by decide) (by decide)) (g := (mkF m 34 #[.val (.int xpc), .val (.long xam), .second, .val (.int xfl), .val (.int pp), .val (.long v14), .second, .unset, .unset, .unset, .unset, .unset, .unset, .unset] [(.int pp)])) rfl (by rw [hml]; rfl) (argsL := [(.int pp)]) (rest := []) (lenOf pd2 rfl) rfl (by show 2 * 0 + _ ≤ _; exact Nat.le_of_eq rfl) (hb hby at_34) (fun _ _ => ⟨rfl, e0, (by decide : 0 + 1 ≤ _), (by decide : 0 + 2 ≤ _)⟩)
  dsimp only [Pt.U, Pt.locs, Pt.cells, Pt.slots] at X5 l5 y5 z5 st5 hQ5
  subst l5 y5 z5
  obtain ⟨b5, rfl, M5, g_b5, zs5, kp5, f5_0, f5_1, f5_2⟩ := hQ5
  have sz_b5 : h0.size ≤ b5 := Nat.le_trans (Keep.refl h0 ([] : List Addr)).1 zs5
  have K5 : Keep h0 T5.heap ([] : List Addr) := (Keep.refl h0 ([] : List Addr)).trans kp5 all0
  have zz5 : n0 ≤ T5.heap.size := Nat.le_trans Z0 K5.1
  have N5 := Fr.app N0 M5
  have pre6 : ∀ t, Steps p.tables e below (T5.setTop (mkF m 37 #[.val (.int xpc), .val (.long xam), .second, .val (.int xfl), .val (.int pp), .val (.long v14), .second, .unset, .unset, .unset, .unset, .unset, .unset, .unset] [(.ref b5)])) t → Steps p.tables e below (s₁.setTop (entryFrame m #[(.int xpc), (.long xam), (.int xfl)] maxLocals)) t := fun t k => pre4 t (st5 t k)
  have pre7 : ∀ t, Steps p.tables e below (T5.setTop (mkF m 41 #[.val (.int xpc), .val (.long xam), .second, .val (.int xfl), .val (.int pp), .val (.long v14), .second, .val (.ref b5), .unset, .unset, .unset, .unset, .unset, .unset] [(.ref b5)])) t → Steps p.tables e below (s₁.setTop (entryFrame m #[(.int xpc), (.long xam), (.int xfl)] maxLocals)) t := by
    intro t k
    refine pre6 t ?_
    refine XS.astore X5.here hx rfl (hb hby at_37) rfl rfl (l' := #[.val (.int xpc), .val (.long xam), .second, .val (.int xfl), .val (.int pp), .val (.long v14), .second, .val (.ref b5), .unset, .unset, .unset, .unset, .unset, .unset]) rfl ?_
    show Steps p.tables e below (T5.setTop (mkF m 39 #[.val (.int xpc), .val (.long xam), .second, .val (.int xfl), .val (.int pp), .val (.long v14), .second, .val (.ref b5), .unset, .unset, .unset, .unset, .unset, .unset] [])) _
    refine XS.aload X5.here hx rfl (hb hby at_39) rfl rfl ?_
    show Steps p.tables e below (T5.setTop (mkF m 41 #[.val (.int xpc), .val (.long xam), .second, .val (.int xfl), .val (.int pp), .val (.long v14), .second, .val (.ref b5), .unset, .unset, .unset, .unset, .unset, .unset] [(.ref b5)])) _
    exact k
  obtain ⟨cq8, kq8, q8a, q8b, q8c⟩ := isOf hZ rfl f5_0
  obtain ⟨_, _, ⟨T8, L8, k8, n8⟩, -, X8, ⟨Lc8, hQ8, l8, y8, z8⟩, st8⟩ := X5.virtualBack hx (y := (⟨"com/example/lachesis/lachesis/AmountRule", "partial", "()Z"⟩ : MethodName)) (z := (⟨"com/example/lachesis/lachesis/AmountRule", "partial", "()Z"⟩ : MethodName)) hown (mvT hZ (hw _ (List.mem_of_getElem? (i := 18) rfl))) (mvT hZ (hw _ (List.mem_of_getElem? (i := 19) rfl))) (notFace_of_selects (args := #[]) (mvT hZ (hw _ (List.mem_of_getElem? (i := 21) rfl)))) (mvT hZ (hw _ (List.mem_of_getElem? (i := 21) rfl))) (mvT hZ (hw _ (List.mem_of_getElem? (i := 20) rfl))) (by decide) (backOf (W := 0) (rm_part l Z a0 hw [] b5 (nar .boolean (1 : Int32)) T5.heap n0 zz5 f5_1) hZ (hw _ (List.mem_of_getElem? (i := 22) rfl)) (hw _ (List.mem_of_getElem? (i := 4) rfl)) (by decide) (by decide)) q8a q8c (g := (mkF m 41 #[.val (.int xpc), .val (.long xam), .second, .val (.int xfl), .val (.int pp), .val (.long v14), .second, .val (.ref b5), .unset, .unset, .unset, .unset, .unset, .unset] [(.ref b5)])) rfl (by rw [hml]; rfl) (Steps.refl _) (argsL := []) (rest := []) (lenOf pd3 rfl) rfl (by show 2 * 0 + _ ≤ _; exact Nat.le_of_eq rfl) (hb hby at_41) (fun _ _ => ⟨rfl, rfl, (by decide : 1 + 0 ≤ _), (by decide : 2 + 0 ≤ _)⟩)
  dsimp only [Pt.U, Pt.locs, Pt.cells, Pt.slots] at X8 l8 y8 z8 st8 hQ8
  subst l8 y8 z8
  obtain ⟨rfl, M8, e8⟩ := hQ8
  have N8 := Fr.app N5 M8
  have pre9 : ∀ t, Steps p.tables e below (T8.setTop (mkF m 44 #[.val (.int xpc), .val (.long xam), .second, .val (.int xfl), .val (.int pp), .val (.long v14), .second, .val (.ref b5), .unset, .unset, .unset, .unset, .unset, .unset] [(.int (nar .boolean (nar .boolean (1 : Int32))))])) t → Steps p.tables e below (s₁.setTop (entryFrame m #[(.int xpc), (.long xam), (.int xfl)] maxLocals)) t := fun t k => pre7 t (st8.trans k)
  have pre10 : ∀ t, Steps p.tables e below (T8.setTop (mkF m 51 #[.val (.int xpc), .val (.long xam), .second, .val (.int xfl), .val (.int pp), .val (.long v14), .second, .val (.ref b5), .unset, .unset, .unset, .unset, .unset, .unset] [(.ref b5)])) t → Steps p.tables e below (s₁.setTop (entryFrame m #[(.int xpc), (.long xam), (.int xfl)] maxLocals)) t := by
    intro t k
    refine pre9 t ?_
    refine XS.ifYes X8.here hx rfl (pc0 := 44) (pc' := 49) rfl (hb hby at_44) rfl ((if0 _ _).trans (feq (show ¬ ((nar .boolean (nar .boolean (1 : Int32))) = (0 : Int32)) from by decide)).2) (by decide) (by decide) ?_
    show Steps p.tables e below (T8.setTop (mkF m 49 #[.val (.int xpc), .val (.long xam), .second, .val (.int xfl), .val (.int pp), .val (.long v14), .second, .val (.ref b5), .unset, .unset, .unset, .unset, .unset, .unset] [])) _
    refine XS.aload X8.here hx rfl (hb hby at_49) rfl rfl ?_
    show Steps p.tables e below (T8.setTop (mkF m 51 #[.val (.int xpc), .val (.long xam), .second, .val (.int xfl), .val (.int pp), .val (.long v14), .second, .val (.ref b5), .unset, .unset, .unset, .unset, .unset, .unset] [(.ref b5)])) _
    exact k
  obtain ⟨cq11, kq11, q11a, q11b, q11c⟩ := isOf hZ e8 f5_0
  obtain ⟨_, _, ⟨T11, L11, k11, n11⟩, -, X11, ⟨Lc11, hQ11, l11, y11, z11⟩, st11⟩ := X8.virtualBack hx (y := (⟨"com/example/lachesis/lachesis/AmountRule", "percent", "()I"⟩ : MethodName)) (z := (⟨"com/example/lachesis/lachesis/AmountRule", "percent", "()I"⟩ : MethodName)) hown (mvT hZ (hw _ (List.mem_of_getElem? (i := 23) rfl))) (mvT hZ (hw _ (List.mem_of_getElem? (i := 24) rfl))) (notFace_of_selects (args := #[]) (mvT hZ (hw _ (List.mem_of_getElem? (i := 26) rfl)))) (mvT hZ (hw _ (List.mem_of_getElem? (i := 26) rfl))) (mvT hZ (hw _ (List.mem_of_getElem? (i := 25) rfl))) (by decide) (backOf (W := 0) (rm_perc l Z a0 hw [] b5 pp T5.heap n0 zz5 f5_2) hZ (hw _ (List.mem_of_getElem? (i := 27) rfl)) (hw _ (List.mem_of_getElem? (i := 4) rfl)) (by decide) (by decide)) q11a q11c (g := (mkF m 51 #[.val (.int xpc), .val (.long xam), .second, .val (.int xfl), .val (.int pp), .val (.long v14), .second, .val (.ref b5), .unset, .unset, .unset, .unset, .unset, .unset] [(.ref b5)])) rfl (by rw [hml]; rfl) (Steps.refl _) (argsL := []) (rest := []) (lenOf pd4 rfl) rfl (by show 2 * 0 + _ ≤ _; exact Nat.le_of_eq rfl) (hb hby at_51) (fun _ _ => ⟨rfl, e8, (by decide : 1 + 0 ≤ _), (by decide : 2 + 0 ≤ _)⟩)
  dsimp only [Pt.U, Pt.locs, Pt.cells, Pt.slots] at X11 l11 y11 z11 st11 hQ11
  subst l11 y11 z11
  obtain ⟨rfl, M11, e11⟩ := hQ11
  have N11 := Fr.app N8 M11
  have pre12 : ∀ t, Steps p.tables e below (T11.setTop (mkF m 54 #[.val (.int xpc), .val (.long xam), .second, .val (.int xfl), .val (.int pp), .val (.long v14), .second, .val (.ref b5), .unset, .unset, .unset, .unset, .unset, .unset] [(.int pp)])) t → Steps p.tables e below (s₁.setTop (entryFrame m #[(.int xpc), (.long xam), (.int xfl)] maxLocals)) t := fun t k => pre10 t (st11.trans k)
  have pre13 : ∀ t, Steps p.tables e below (T11.setTop (mkF m 65 #[.val (.int xpc), .val (.long xam), .second, .val (.int xfl), .val (.int pp), .val (.long v14), .second, .val (.ref b5), .unset, .unset, .unset, .unset, .unset, .unset] [(.long v14), (.ref b5)])) t → Steps p.tables e below (s₁.setTop (entryFrame m #[(.int xpc), (.long xam), (.int xfl)] maxLocals)) t := by
    intro t k
    refine pre12 t ?_
    refine XS.iload X11.here hx rfl (hb hby at_54) rfl ?_
    show Steps p.tables e below (T11.setTop (mkF m 56 #[.val (.int xpc), .val (.long xam), .second, .val (.int xfl), .val (.int pp), .val (.long v14), .second, .val (.ref b5), .unset, .unset, .unset, .unset, .unset, .unset] [(.int pp), (.int pp)])) _
    refine XS.icmpYes X11.here hx rfl (pc0 := 56) (pc' := 61) rfl (hb hby at_56) rfl (teq (show pp = pp from rfl)).1 (by decide) (by decide) ?_
    show Steps p.tables e below (T11.setTop (mkF m 61 #[.val (.int xpc), .val (.long xam), .second, .val (.int xfl), .val (.int pp), .val (.long v14), .second, .val (.ref b5), .unset, .unset, .unset, .unset, .unset, .unset] [])) _
    refine XS.aload X11.here hx rfl (hb hby at_61) rfl rfl ?_
    show Steps p.tables e below (T11.setTop (mkF m 63 #[.val (.int xpc), .val (.long xam), .second, .val (.int xfl), .val (.int pp), .val (.long v14), .second, .val (.ref b5), .unset, .unset, .unset, .unset, .unset, .unset] [(.ref b5)])) _
    refine XS.lload X11.here hx rfl (hb hby at_63) rfl ?_
    show Steps p.tables e below (T11.setTop (mkF m 65 #[.val (.int xpc), .val (.long xam), .second, .val (.int xfl), .val (.int pp), .val (.long v14), .second, .val (.ref b5), .unset, .unset, .unset, .unset, .unset, .unset] [(.long v14), (.ref b5)])) _
    exact k
  obtain ⟨cq14, kq14, q14a, q14b, q14c⟩ := isOf hZ e11 f5_0
  obtain ⟨_, _, ⟨T14, L14, k14, n14⟩, -, X14, ⟨Lc14, hQ14, l14, y14, z14⟩, st14⟩ := X11.virtualBack hx (y := (⟨"com/example/lachesis/lachesis/AmountRule", "amountOf", "(J)J"⟩ : MethodName)) (z := (⟨"com/example/lachesis/lachesis/AmountRule", "amountOf", "(J)J"⟩ : MethodName)) hown (mvT hZ (hw _ (List.mem_of_getElem? (i := 28) rfl))) (mvT hZ (hw _ (List.mem_of_getElem? (i := 29) rfl))) (notFace_of_selects (args := #[]) (mvT hZ (hw _ (List.mem_of_getElem? (i := 31) rfl)))) (mvT hZ (hw _ (List.mem_of_getElem? (i := 31) rfl))) (mvT hZ (hw _ (List.mem_of_getElem? (i := 30) rfl))) (by decide) (backOf (W := 0) (rm_amountA l Z a0 hw [] b5 v14 (nar .boolean (1 : Int32)) pp T5.heap n0 zz5 f5_1 f5_2 (by decide) (own_a xam v14 _ hv14) ((own_p xpc pp hpp).2.2.1) ((own_p xpc pp hpp).2.2.2)) hZ (hw _ (List.mem_of_getElem? (i := 32) rfl)) (hw _ (List.mem_of_getElem? (i := 4) rfl)) (by decide) (by decide)) q14a q14c (g := (mkF m 65 #[.val (.int xpc), .val (.long xam), .second, .val (.int xfl), .val (.int pp), .val (.long v14), .second, .val (.ref b5), .unset, .unset, .unset, .unset, .unset, .unset] [(.long v14), (.ref b5)])) rfl (by rw [hml]; rfl) (Steps.refl _) (argsL := [(.long v14)]) (rest := []) (lenOf pd5 rfl) rfl (by show 2 * 0 + _ ≤ _; exact Nat.le_of_eq rfl) (hb hby at_65) (fun _ _ => ⟨rfl, e11, (by decide : 1 + 0 ≤ _), (by decide : 2 + 0 ≤ _)⟩)
  dsimp only [Pt.U, Pt.locs, Pt.cells, Pt.slots] at X14 l14 y14 z14 st14 hQ14
  subst l14 y14 z14
  obtain ⟨rfl, M14, e14⟩ := hQ14
  have N14 := Fr.app N11 M14
  have pre15 : ∀ t, Steps p.tables e below (T14.setTop (mkF m 68 #[.val (.int xpc), .val (.long xam), .second, .val (.int xfl), .val (.int pp), .val (.long v14), .second, .val (.ref b5), .unset, .unset, .unset, .unset, .unset, .unset] [(.long (own_perc v14 pp))])) t → Steps p.tables e below (s₁.setTop (entryFrame m #[(.int xpc), (.long xam), (.int xfl)] maxLocals)) t := fun t k => pre13 t (st14.trans k)
  have pre16 : ∀ t, Steps p.tables e below (T14.setTop (mkF m 70 #[.val (.int xpc), .val (.long xam), .second, .val (.int xfl), .val (.int pp), .val (.long v14), .second, .val (.ref b5), .val (.long (own_perc v14 pp)), .second, .unset, .unset, .unset, .unset] [])) t → Steps p.tables e below (s₁.setTop (entryFrame m #[(.int xpc), (.long xam), (.int xfl)] maxLocals)) t := by
    intro t k
    refine pre15 t ?_
    refine XS.lstore X14.here hx rfl (hb hby at_68) rfl (l' := #[.val (.int xpc), .val (.long xam), .second, .val (.int xfl), .val (.int pp), .val (.long v14), .second, .val (.ref b5), .val (.long (own_perc v14 pp)), .second, .unset, .unset, .unset, .unset]) rfl ?_
    show Steps p.tables e below (T14.setTop (mkF m 70 #[.val (.int xpc), .val (.long xam), .second, .val (.int xfl), .val (.int pp), .val (.long v14), .second, .val (.ref b5), .val (.long (own_perc v14 pp)), .second, .unset, .unset, .unset, .unset] [])) _
    exact k
  obtain ⟨got, hgot⟩ : ∃ z : Int64, z = (own_perc v14 pp) := ⟨_, rfl⟩
  rw [← hgot] at pre16
  have pre17 : ∀ t, Steps p.tables e below (T14.setTop (mkF m 75 #[.val (.int xpc), .val (.long xam), .second, .val (.int xfl), .val (.int pp), .val (.long v14), .second, .val (.ref b5), .val (.long got), .second, .unset, .unset, .unset, .unset] [(.int ((100 : Int32) - pp))])) t → Steps p.tables e below (s₁.setTop (entryFrame m #[(.int xpc), (.long xam), (.int xfl)] maxLocals)) t := by
    intro t k
    refine pre16 t ?_
    refine XS.bipush X14.here hx rfl (hb hby at_70) ?_
    show Steps p.tables e below (T14.setTop (mkF m 72 #[.val (.int xpc), .val (.long xam), .second, .val (.int xfl), .val (.int pp), .val (.long v14), .second, .val (.ref b5), .val (.long got), .second, .unset, .unset, .unset, .unset] [(.int (100 : Int32))])) _
    refine XS.iload X14.here hx rfl (hb hby at_72) rfl ?_
    show Steps p.tables e below (T14.setTop (mkF m 74 #[.val (.int xpc), .val (.long xam), .second, .val (.int xfl), .val (.int pp), .val (.long v14), .second, .val (.ref b5), .val (.long got), .second, .unset, .unset, .unset, .unset] [(.int pp), (.int (100 : Int32))])) _
    refine XS.isub X14.here hx rfl (hb hby at_74) rfl ?_
    show Steps p.tables e below (T14.setTop (mkF m 75 #[.val (.int xpc), .val (.long xam), .second, .val (.int xfl), .val (.int pp), .val (.long v14), .second, .val (.ref b5), .val (.long got), .second, .unset, .unset, .unset, .unset] [(.int ((100 : Int32) - pp))])) _
    exact k
  obtain ⟨_, _, ⟨T18, L18, k18, n18⟩, -, X18, ⟨Lc18, hQ18, l18, y18, z18⟩, st18⟩ := Jvm.LawKit.callS X14 hx (y := (⟨"com/example/lachesis/lachesis/AmountRule", "discount", "(I)Lcom/example/lachesis/lachesis/AmountRule;"⟩ : MethodName)) hown (mvT hZ (hw _ (List.mem_of_getElem? (i := 39) rfl))) (mvT hZ (hw _ (List.mem_of_getElem? (i := 40) rfl))) (mvT hZ (hw _ (List.mem_of_getElem? (i := 4) rfl))) (mvT hZ (hw _ (List.mem_of_getElem? (i := 41) rfl))) (by decide) (backOf (W := 0) (rm_discount l Z a0 hw [] ((100 : Int32) - pp) T5.heap n0 zz5 ((own_q xpc pp hpp).1) ((own_q xpc pp hpp).2.1)) hZ (hw _ (List.mem_of_getElem? (i := 41) rfl)) (hw _ (List.mem_of_getElem? (i := 4) rfl)) (by decide) (by decide)) (g := (mkF m 75 #[.val (.int xpc), .val (.long xam), .second, .val (.int xfl), .val (.int pp), .val (.long v14), .second, .val (.ref b5), .val (.long got), .second, .unset, .unset, .unset, .unset] [(.int ((100 : Int32) - pp))])) rfl (by rw [hml]; rfl) (argsL := [(.int ((100 : Int32) - pp))]) (rest := []) (lenOf pd2 rfl) rfl (by show 2 * 0 + _ ≤ _; exact Nat.le_of_eq rfl) (hb hby at_75) (fun _ _ => ⟨rfl, e14, (by decide : 1 + 1 ≤ _), (by decide : 2 + 2 ≤ _)⟩)
  dsimp only [Pt.U, Pt.locs, Pt.cells, Pt.slots] at X18 l18 y18 z18 st18 hQ18
  subst l18 y18 z18
  obtain ⟨b18, rfl, M18, g_b18, zs18, kp18, f18_0, f18_1, f18_2⟩ := hQ18
  have sz_b18 : h0.size ≤ b18 := Nat.le_trans K5.1 zs18
  have K18 : Keep h0 T18.heap ([] : List Addr) := K5.trans kp18 all0
  have zz18 : n0 ≤ T18.heap.size := Nat.le_trans Z0 K18.1
  have N18 := Fr.app N14 M18
  have pre19 : ∀ t, Steps p.tables e below (T18.setTop (mkF m 78 #[.val (.int xpc), .val (.long xam), .second, .val (.int xfl), .val (.int pp), .val (.long v14), .second, .val (.ref b5), .val (.long got), .second, .unset, .unset, .unset, .unset] [(.ref b18)])) t → Steps p.tables e below (s₁.setTop (entryFrame m #[(.int xpc), (.long xam), (.int xfl)] maxLocals)) t := fun t k => pre17 t (st18 t k)
  have pre20 : ∀ t, Steps p.tables e below (T18.setTop (mkF m 80 #[.val (.int xpc), .val (.long xam), .second, .val (.int xfl), .val (.int pp), .val (.long v14), .second, .val (.ref b5), .val (.long got), .second, .unset, .unset, .unset, .unset] [(.long v14), (.ref b18)])) t → Steps p.tables e below (s₁.setTop (entryFrame m #[(.int xpc), (.long xam), (.int xfl)] maxLocals)) t := by
    intro t k
    refine pre19 t ?_
    refine XS.lload X18.here hx rfl (hb hby at_78) rfl ?_
    show Steps p.tables e below (T18.setTop (mkF m 80 #[.val (.int xpc), .val (.long xam), .second, .val (.int xfl), .val (.int pp), .val (.long v14), .second, .val (.ref b5), .val (.long got), .second, .unset, .unset, .unset, .unset] [(.long v14), (.ref b18)])) _
    exact k
  obtain ⟨cq21, kq21, q21a, q21b, q21c⟩ := isOf hZ rfl f18_0
  obtain ⟨_, _, ⟨T21, L21, k21, n21⟩, -, X21, ⟨Lc21, hQ21, l21, y21, z21⟩, st21⟩ := X18.virtualBack hx (y := (⟨"com/example/lachesis/lachesis/AmountRule", "amountOf", "(J)J"⟩ : MethodName)) (z := (⟨"com/example/lachesis/lachesis/AmountRule", "amountOf", "(J)J"⟩ : MethodName)) hown (mvT hZ (hw _ (List.mem_of_getElem? (i := 28) rfl))) (mvT hZ (hw _ (List.mem_of_getElem? (i := 29) rfl))) (notFace_of_selects (args := #[]) (mvT hZ (hw _ (List.mem_of_getElem? (i := 31) rfl)))) (mvT hZ (hw _ (List.mem_of_getElem? (i := 31) rfl))) (mvT hZ (hw _ (List.mem_of_getElem? (i := 30) rfl))) (by decide) (backOf (W := 0) (rm_amountB l Z a0 hw [] b18 v14 (nar .boolean (0 : Int32)) ((100 : Int32) - pp) T18.heap n0 zz18 f18_1 f18_2 (by decide) (own_a xam v14 _ hv14) (by rw [own_s]; exact (own_p xpc pp hpp).2.2.1) (by rw [own_s]; exact (own_p xpc pp hpp).2.2.2)) hZ (hw _ (List.mem_of_getElem? (i := 32) rfl)) (hw _ (List.mem_of_getElem? (i := 4) rfl)) (by decide) (by decide)) q21a q21c (g := (mkF m 80 #[.val (.int xpc), .val (.long xam), .second, .val (.int xfl), .val (.int pp), .val (.long v14), .second, .val (.ref b5), .val (.long got), .second, .unset, .unset, .unset, .unset] [(.long v14), (.ref b18)])) rfl (by rw [hml]; rfl) (Steps.refl _) (argsL := [(.long v14)]) (rest := []) (lenOf pd5 rfl) rfl (by show 2 * 0 + _ ≤ _; exact Nat.le_of_eq rfl) (hb hby at_80) (fun _ _ => ⟨rfl, rfl, (by decide : 2 + 0 ≤ _), (by decide : 4 + 0 ≤ _)⟩)
  dsimp only [Pt.U, Pt.locs, Pt.cells, Pt.slots] at X21 l21 y21 z21 st21 hQ21
  subst l21 y21 z21
  obtain ⟨rfl, M21, e21⟩ := hQ21
  have N21 := Fr.app N18 M21
  have pre22 : ∀ t, Steps p.tables e below (T21.setTop (mkF m 83 #[.val (.int xpc), .val (.long xam), .second, .val (.int xfl), .val (.int pp), .val (.long v14), .second, .val (.ref b5), .val (.long got), .second, .unset, .unset, .unset, .unset] [(.long (own_perc v14 ((100 : Int32) - ((100 : Int32) - pp))))])) t → Steps p.tables e below (s₁.setTop (entryFrame m #[(.int xpc), (.long xam), (.int xfl)] maxLocals)) t := fun t k => pre20 t (st21.trans k)
  have pre23 : ∀ t, Steps p.tables e below (T21.setTop (mkF m 85 #[.val (.int xpc), .val (.long xam), .second, .val (.int xfl), .val (.int pp), .val (.long v14), .second, .val (.ref b5), .val (.long got), .second, .val (.long (own_perc v14 ((100 : Int32) - ((100 : Int32) - pp)))), .second, .unset, .unset] [])) t → Steps p.tables e below (s₁.setTop (entryFrame m #[(.int xpc), (.long xam), (.int xfl)] maxLocals)) t := by
    intro t k
    refine pre22 t ?_
    refine XS.lstore X21.here hx rfl (hb hby at_83) rfl (l' := #[.val (.int xpc), .val (.long xam), .second, .val (.int xfl), .val (.int pp), .val (.long v14), .second, .val (.ref b5), .val (.long got), .second, .val (.long (own_perc v14 ((100 : Int32) - ((100 : Int32) - pp)))), .second, .unset, .unset]) rfl ?_
    show Steps p.tables e below (T21.setTop (mkF m 85 #[.val (.int xpc), .val (.long xam), .second, .val (.int xfl), .val (.int pp), .val (.long v14), .second, .val (.ref b5), .val (.long got), .second, .val (.long (own_perc v14 ((100 : Int32) - ((100 : Int32) - pp)))), .second, .unset, .unset] [])) _
    exact k
  obtain ⟨via, hvia⟩ : ∃ z : Int64, z = (own_perc v14 ((100 : Int32) - ((100 : Int32) - pp))) := ⟨_, rfl⟩
  rw [← hvia] at pre23
  have pre24 : ∀ t, Steps p.tables e below (T21.setTop (mkF m 101 #[.val (.int xpc), .val (.long xam), .second, .val (.int xfl), .val (.int pp), .val (.long v14), .second, .val (.ref b5), .val (.long got), .second, .val (.long via), .second, .unset, .unset] [(.int (lcmpW v14 (72057594037927935 : Int64)))])) t → Steps p.tables e below (s₁.setTop (entryFrame m #[(.int xpc), (.long xam), (.int xfl)] maxLocals)) t := by
    intro t k
    refine pre23 t ?_
    refine XS.lload X21.here hx rfl (hb hby at_85) rfl ?_
    show Steps p.tables e below (T21.setTop (mkF m 87 #[.val (.int xpc), .val (.long xam), .second, .val (.int xfl), .val (.int pp), .val (.long v14), .second, .val (.ref b5), .val (.long got), .second, .val (.long via), .second, .unset, .unset] [(.long got)])) _
    refine XS.lload X21.here hx rfl (hb hby at_87) rfl ?_
    show Steps p.tables e below (T21.setTop (mkF m 89 #[.val (.int xpc), .val (.long xam), .second, .val (.int xfl), .val (.int pp), .val (.long v14), .second, .val (.ref b5), .val (.long got), .second, .val (.long via), .second, .unset, .unset] [(.long via), (.long got)])) _
    refine XS.lcmp X21.here hx rfl (hb hby at_89) rfl ?_
    show Steps p.tables e below (T21.setTop (mkF m 90 #[.val (.int xpc), .val (.long xam), .second, .val (.int xfl), .val (.int pp), .val (.long v14), .second, .val (.ref b5), .val (.long got), .second, .val (.long via), .second, .unset, .unset] [(.int (lcmpW got via))])) _
    refine XS.ifYes X21.here hx rfl (pc0 := 90) (pc' := 95) rfl (hb hby at_90) rfl ((if0 _ _).trans (teq ((lw_eq _ _).mpr (show got = via from by rw [hgot, hvia, own_s]))).1) (by decide) (by decide) ?_
    show Steps p.tables e below (T21.setTop (mkF m 95 #[.val (.int xpc), .val (.long xam), .second, .val (.int xfl), .val (.int pp), .val (.long v14), .second, .val (.ref b5), .val (.long got), .second, .val (.long via), .second, .unset, .unset] [])) _
    refine XS.lload X21.here hx rfl (hb hby at_95) rfl ?_
    show Steps p.tables e below (T21.setTop (mkF m 97 #[.val (.int xpc), .val (.long xam), .second, .val (.int xfl), .val (.int pp), .val (.long v14), .second, .val (.ref b5), .val (.long got), .second, .val (.long via), .second, .unset, .unset] [(.long v14)])) _
    refine X21.ldc2Long hx hown (mvT hZ (hw _ (List.mem_of_getElem? (i := 42) rfl))) (g := (mkF m 97 #[.val (.int xpc), .val (.long xam), .second, .val (.int xfl), .val (.int pp), .val (.long v14), .second, .val (.ref b5), .val (.long got), .second, .val (.long via), .second, .unset, .unset] [(.long v14)])) rfl (hb hby at_97) _ ?_
    show Steps p.tables e below (T21.setTop (mkF m 100 #[.val (.int xpc), .val (.long xam), .second, .val (.int xfl), .val (.int pp), .val (.long v14), .second, .val (.ref b5), .val (.long got), .second, .val (.long via), .second, .unset, .unset] [(.long (72057594037927935 : Int64)), (.long v14)])) _
    refine XS.lcmp X21.here hx rfl (hb hby at_100) rfl ?_
    show Steps p.tables e below (T21.setTop (mkF m 101 #[.val (.int xpc), .val (.long xam), .second, .val (.int xfl), .val (.int pp), .val (.long v14), .second, .val (.ref b5), .val (.long got), .second, .val (.long via), .second, .unset, .unset] [(.int (lcmpW v14 (72057594037927935 : Int64)))])) _
    exact k
  by_cases hc101 : (72057594037927935 : Int64) < v14
  · have pre25 : ∀ t, Steps p.tables e below (T21.setTop (mkF m 131 #[.val (.int xpc), .val (.long xam), .second, .val (.int xfl), .val (.int pp), .val (.long v14), .second, .val (.ref b5), .val (.long got), .second, .val (.long via), .second, .unset, .unset] [(.int (1 : Int32))])) t → Steps p.tables e below (s₁.setTop (entryFrame m #[(.int xpc), (.long xam), (.int xfl)] maxLocals)) t := by
      intro t k
      refine pre24 t ?_
      refine XS.ifYes X21.here hx rfl (pc0 := 101) (pc' := 130) rfl (hb hby at_101) rfl ((if0 _ _).trans (tlt ((lw_gt _ _).mpr hc101)).2.2.1) (by decide) (by decide) ?_
      show Steps p.tables e below (T21.setTop (mkF m 130 #[.val (.int xpc), .val (.long xam), .second, .val (.int xfl), .val (.int pp), .val (.long v14), .second, .val (.ref b5), .val (.long got), .second, .val (.long via), .second, .unset, .unset] [])) _
      refine XS.iconst X21.here hx rfl (hb hby at_130) ?_
      show Steps p.tables e below (T21.setTop (mkF m 131 #[.val (.int xpc), .val (.long xam), .second, .val (.int xfl), .val (.int pp), .val (.long v14), .second, .val (.ref b5), .val (.long got), .second, .val (.long via), .second, .unset, .unset] [(.int (1 : Int32))])) _
      exact k
    obtain ⟨fs, hr, hrun, hended, hW, hsame⟩ := X21.leave (v := some (.int (1 : Int32))) (fun h => by rw [Bd.returns] at h; cases h)
    refine ⟨_, _, pre25 _ ?_, hrun, hended, _, _, rfl, ?_, ⟨_, rfl⟩, hW, hsame.mono (by decide) (by decide)⟩
    · exact retN X21 hx (t := .boolean) Bd.returns (by simp) (hb hby at_131) hr
    · show Q_rm0 Z xpc xam xfl h0 n0 _ T21.heap _
      rw [e21]
      exact ⟨rfl, N21⟩
  · have pre26 : ∀ t, Steps p.tables e below (T21.setTop (mkF m 131 #[.val (.int xpc), .val (.long xam), .second, .val (.int xfl), .val (.int pp), .val (.long v14), .second, .val (.ref b5), .val (.long got), .second, .val (.long via), .second, .val (.long (((v14 * (pp.toInt64)) + (50 : Int64)) / (100 : Int64))), .second] [(.int (1 : Int32))])) t → Steps p.tables e below (s₁.setTop (entryFrame m #[(.int xpc), (.long xam), (.int xfl)] maxLocals)) t := by
      intro t k
      refine pre24 t ?_
      refine XS.ifNo X21.here hx rfl (hb hby at_101) rfl ((if0 _ _).trans (flt (mt (lw_gt _ _).mp hc101)).2.2.1) ?_
      show Steps p.tables e below (T21.setTop (mkF m 104 #[.val (.int xpc), .val (.long xam), .second, .val (.int xfl), .val (.int pp), .val (.long v14), .second, .val (.ref b5), .val (.long got), .second, .val (.long via), .second, .unset, .unset] [])) _
      refine XS.lload X21.here hx rfl (hb hby at_104) rfl ?_
      show Steps p.tables e below (T21.setTop (mkF m 106 #[.val (.int xpc), .val (.long xam), .second, .val (.int xfl), .val (.int pp), .val (.long v14), .second, .val (.ref b5), .val (.long got), .second, .val (.long via), .second, .unset, .unset] [(.long v14)])) _
      refine XS.iload X21.here hx rfl (hb hby at_106) rfl ?_
      show Steps p.tables e below (T21.setTop (mkF m 108 #[.val (.int xpc), .val (.long xam), .second, .val (.int xfl), .val (.int pp), .val (.long v14), .second, .val (.ref b5), .val (.long got), .second, .val (.long via), .second, .unset, .unset] [(.int pp), (.long v14)])) _
      refine XS.i2l X21.here hx rfl (hb hby at_108) rfl ?_
      show Steps p.tables e below (T21.setTop (mkF m 109 #[.val (.int xpc), .val (.long xam), .second, .val (.int xfl), .val (.int pp), .val (.long v14), .second, .val (.ref b5), .val (.long got), .second, .val (.long via), .second, .unset, .unset] [(.long (pp.toInt64)), (.long v14)])) _
      refine XS.lmul X21.here hx rfl (hb hby at_109) rfl ?_
      show Steps p.tables e below (T21.setTop (mkF m 110 #[.val (.int xpc), .val (.long xam), .second, .val (.int xfl), .val (.int pp), .val (.long v14), .second, .val (.ref b5), .val (.long got), .second, .val (.long via), .second, .unset, .unset] [(.long (v14 * (pp.toInt64)))])) _
      refine X21.ldc2Long hx hown (mvT hZ (hw _ (List.mem_of_getElem? (i := 43) rfl))) (g := (mkF m 110 #[.val (.int xpc), .val (.long xam), .second, .val (.int xfl), .val (.int pp), .val (.long v14), .second, .val (.ref b5), .val (.long got), .second, .val (.long via), .second, .unset, .unset] [(.long (v14 * (pp.toInt64)))])) rfl (hb hby at_110) _ ?_
      show Steps p.tables e below (T21.setTop (mkF m 113 #[.val (.int xpc), .val (.long xam), .second, .val (.int xfl), .val (.int pp), .val (.long v14), .second, .val (.ref b5), .val (.long got), .second, .val (.long via), .second, .unset, .unset] [(.long (50 : Int64)), (.long (v14 * (pp.toInt64)))])) _
      refine XS.ladd X21.here hx rfl (hb hby at_113) rfl ?_
      show Steps p.tables e below (T21.setTop (mkF m 114 #[.val (.int xpc), .val (.long xam), .second, .val (.int xfl), .val (.int pp), .val (.long v14), .second, .val (.ref b5), .val (.long got), .second, .val (.long via), .second, .unset, .unset] [(.long ((v14 * (pp.toInt64)) + (50 : Int64)))])) _
      refine X21.ldc2Long hx hown (mvT hZ (hw _ (List.mem_of_getElem? (i := 44) rfl))) (g := (mkF m 114 #[.val (.int xpc), .val (.long xam), .second, .val (.int xfl), .val (.int pp), .val (.long v14), .second, .val (.ref b5), .val (.long got), .second, .val (.long via), .second, .unset, .unset] [(.long ((v14 * (pp.toInt64)) + (50 : Int64)))])) rfl (hb hby at_114) _ ?_
      show Steps p.tables e below (T21.setTop (mkF m 117 #[.val (.int xpc), .val (.long xam), .second, .val (.int xfl), .val (.int pp), .val (.long v14), .second, .val (.ref b5), .val (.long got), .second, .val (.long via), .second, .unset, .unset] [(.long (100 : Int64)), (.long ((v14 * (pp.toInt64)) + (50 : Int64)))])) _
      refine XS.ldiv X21.here hx rfl (hb hby at_117) rfl (by decide) ?_
      show Steps p.tables e below (T21.setTop (mkF m 118 #[.val (.int xpc), .val (.long xam), .second, .val (.int xfl), .val (.int pp), .val (.long v14), .second, .val (.ref b5), .val (.long got), .second, .val (.long via), .second, .unset, .unset] [(.long (((v14 * (pp.toInt64)) + (50 : Int64)) / (100 : Int64)))])) _
      refine XS.lstore X21.here hx rfl (hb hby at_118) rfl (l' := #[.val (.int xpc), .val (.long xam), .second, .val (.int xfl), .val (.int pp), .val (.long v14), .second, .val (.ref b5), .val (.long got), .second, .val (.long via), .second, .val (.long (((v14 * (pp.toInt64)) + (50 : Int64)) / (100 : Int64))), .second]) rfl ?_
      show Steps p.tables e below (T21.setTop (mkF m 120 #[.val (.int xpc), .val (.long xam), .second, .val (.int xfl), .val (.int pp), .val (.long v14), .second, .val (.ref b5), .val (.long got), .second, .val (.long via), .second, .val (.long (((v14 * (pp.toInt64)) + (50 : Int64)) / (100 : Int64))), .second] [])) _
      refine XS.lload X21.here hx rfl (hb hby at_120) rfl ?_
      show Steps p.tables e below (T21.setTop (mkF m 122 #[.val (.int xpc), .val (.long xam), .second, .val (.int xfl), .val (.int pp), .val (.long v14), .second, .val (.ref b5), .val (.long got), .second, .val (.long via), .second, .val (.long (((v14 * (pp.toInt64)) + (50 : Int64)) / (100 : Int64))), .second] [(.long got)])) _
      refine XS.lload X21.here hx rfl (hb hby at_122) rfl ?_
      show Steps p.tables e below (T21.setTop (mkF m 124 #[.val (.int xpc), .val (.long xam), .second, .val (.int xfl), .val (.int pp), .val (.long v14), .second, .val (.ref b5), .val (.long got), .second, .val (.long via), .second, .val (.long (((v14 * (pp.toInt64)) + (50 : Int64)) / (100 : Int64))), .second] [(.long (((v14 * (pp.toInt64)) + (50 : Int64)) / (100 : Int64))), (.long got)])) _
      refine XS.lcmp X21.here hx rfl (hb hby at_124) rfl ?_
      show Steps p.tables e below (T21.setTop (mkF m 125 #[.val (.int xpc), .val (.long xam), .second, .val (.int xfl), .val (.int pp), .val (.long v14), .second, .val (.ref b5), .val (.long got), .second, .val (.long via), .second, .val (.long (((v14 * (pp.toInt64)) + (50 : Int64)) / (100 : Int64))), .second] [(.int (lcmpW got (((v14 * (pp.toInt64)) + (50 : Int64)) / (100 : Int64))))])) _
      refine XS.ifYes X21.here hx rfl (pc0 := 125) (pc' := 130) rfl (hb hby at_125) rfl ((if0 _ _).trans (teq ((lw_eq _ _).mpr (show got = (((v14 * (pp.toInt64)) + (50 : Int64)) / (100 : Int64)) from by rw [hgot]; exact own_ref _ _ (own_a0 xam v14 _ hv14) (Int.le_trans (by decide) (own_p0 xpc pp hpp).1) (own_p0 xpc pp hpp).2 hc101))).1) (by decide) (by decide) ?_
      show Steps p.tables e below (T21.setTop (mkF m 130 #[.val (.int xpc), .val (.long xam), .second, .val (.int xfl), .val (.int pp), .val (.long v14), .second, .val (.ref b5), .val (.long got), .second, .val (.long via), .second, .val (.long (((v14 * (pp.toInt64)) + (50 : Int64)) / (100 : Int64))), .second] [])) _
      refine XS.iconst X21.here hx rfl (hb hby at_130) ?_
      show Steps p.tables e below (T21.setTop (mkF m 131 #[.val (.int xpc), .val (.long xam), .second, .val (.int xfl), .val (.int pp), .val (.long v14), .second, .val (.ref b5), .val (.long got), .second, .val (.long via), .second, .val (.long (((v14 * (pp.toInt64)) + (50 : Int64)) / (100 : Int64))), .second] [(.int (1 : Int32))])) _
      exact k
    obtain ⟨fs, hr, hrun, hended, hW, hsame⟩ := X21.leave (v := some (.int (1 : Int32))) (fun h => by rw [Bd.returns] at h; cases h)
    refine ⟨_, _, pre26 _ ?_, hrun, hended, _, _, rfl, ?_, ⟨_, rfl⟩, hW, hsame.mono (by decide) (by decide)⟩
    · exact retN X21 hx (t := .boolean) Bd.returns (by simp) (hb hby at_131) hr
    · show Q_rm0 Z xpc xam xfl h0 n0 _ T21.heap _
      rw [e21]
      exact ⟨rfl, N21⟩
set_option maxRecDepth 65536 in
set_option maxHeartbeats 40000000 in
theorem comes_1 {Post : Tables → Env → Array Value → State → Outcome → State → Prop} (hpost : ∀ tb e args s v u, (limb_1_1.after args s (.returned v) u = true ∧ limb_1_2.after args s (.returned v) u = true ∧ True) → FrameEnd s (.returned v) u (Jvm.fieldLocs frame_1_writes args s ++ Jvm.arrayLocs frame_1_arrays args s ++ Jvm.staticLocs frame_1_statics s) 16 128 → Post tb e args s (.returned v) u) :
    ArmFor flags0 classFile x code maxLocals ret World_1 tables_1 room_1 Calls_1 rest_1 Pre_1 Post := by
  intro l hfl _ _ p e ha hc hk s m args below hf hA hF happ hP
  obtain ⟨hcalls, hrest, hpre⟩ := hP
  obtain ⟨-, -, -, hnamed, -, -, -, hat⟩ := (Spec.applies_iff hf).mp happ
  obtain ⟨hg, hn⟩ := and_e (Cond.before_iff.mp (show (Jvm.Cond.and given_1 narrow_1).before args s = true from hpre))
  obtain ⟨ga1, gb1⟩ := and_e hg
  obtain ⟨ga2, gb2⟩ := and_e gb1
  obtain ⟨ga3, gb3⟩ := and_e gb2
  obtain ⟨w0, w1, w2, rfl⟩ : ∃ w0 w1 w2 : Value, args = #[w0, w1, w2] := by
    have hs : args.size = 3 := by simpa [Cond.value, given_1] using ga1
    obtain ⟨L⟩ := args
    match L, hs with
    | [w0, w1, w2], _ => exact ⟨w0, w1, w2, rfl⟩
  have hw := fun d (hd : d ∈ tables_1) => atoms_spec (ws := Jvm.Cond.code x code maxLocals ret :: tables_1) hat d (List.mem_cons_of_mem _ hd)
  have hfit : Fit s := fun {y c} hc i hi => by
    obtain ⟨ha, rfl⟩ := Array.getElem?_eq_some_iff.mp hc
    have q := List.all_eq_true.mp ((Array.all_eq_true_iff_forall_mem.mp hF) _ (Array.getElem_mem ha)) i (List.mem_range.mpr hi)
    simpa [Array.getElem?_eq_getElem hi] using q
  obtain ⟨i0, ei0⟩ := is_v ga2
  obtain rfl : w0 = (.int i0) := Option.some.inj ei0
  obtain ⟨i1, ei1⟩ := isL_v ga3
  obtain rfl : w1 = (.long i1) := Option.some.inj ei1
  obtain ⟨i2, ei2⟩ := is_v gb3
  obtain rfl : w2 = (.int i2) := Option.some.inj ei2
  obtain ⟨n, o, h1, h2, h3, _, L, rfl, ⟨rfl, N⟩, hq⟩ := rm0 l s _ hw tables_1 i0 i1 i2 s.heap s.heap.size (Nat.le_refl _)  p e ha hc hk s m _ below hf ((Spec.applies_iff_loose hf).mp happ).1 ⟨rfl, State.Warmed39.refl s, rfl⟩ trivial
  refine ⟨n, _, h1, h2, h3, hpost _ _ _ _ _ _ ⟨Cond.after_iff.mpr rfl, Cond.after_iff.mpr (eq_i res_at (Term.int_eval (1)) rfl), trivial⟩ ⟨hq.1, hq.2.1, (hq.2.2.sift fun y hy => Or.inr (N y hy)).mono (by decide) (by decide)⟩⟩
theorem main_1_1 : Claimed_1_1 := comes_1 fun _ _ _ _ _ _ h hF => ⟨h.1, hF⟩
theorem main_1_2 : Claimed_1_2 := comes_1 fun _ _ _ _ _ _ h hF => ⟨h.2.1, hF⟩
end Jvm.Pilot.@@N@@
namespace Jvm.Pilot.@@N@@
open Jvm Jvm.ClassFile Sem Op Lib Jvm.Free Jvm.Stand Jvm.Pilot.@@N@@.Jvm.D
/-! MADE BY PROGRAM (witnessworld.py) out of the Statement's table words and the real class files: 10 classes; the members and pool entries that the words name. The judged class is class 1, her method 1. -/
namespace start1
open Jvm.ClassFile
def u (s : String) : CpInfo := .utf8 (stringToUtf16 s)
/-- a pool by its gaps: so many unusable entries, then the entry; so many at the end -/
def gap : Nat → List CpInfo → List CpInfo
  | 0, r => r
  | n + 1, r => .unusable :: gap n r
def poolList (es : List (Nat × CpInfo)) (last : Nat) : List CpInfo := es.foldr (fun e r => gap e.1 (e.2 :: r)) (gap last [])
def pool (es : List (Nat × CpInfo)) (last : Nat) : Array CpInfo := ⟨poolList es last⟩
def fileOf (pool : Array CpInfo) (this : Nat) (attrs : Array Attribute := #[]) (ms : Array MethodInfo := #[]) (fl : Nat := 33) (sup : Nat := 0) (ifs : Array Nat := #[]) (fds : Array FieldInfo := #[]) : ClassFile where
  minorVersion := 0
  majorVersion := 65
  constantPool := pool
  accessFlags := fl
  thisClass := this
  superClass := sup
  interfaces := ifs
  fields := fds
  methods := ms
  attributes := attrs
def plain (name : String) (sup : Option ClassId) : Class where
  name := name
  kind := .ordinary
  loader := none
  accessFlags := 33
  super := sup
  interfaces := #[]
  cf := none
  fields := #[]
  methods := #[]
  instanceTypes := #[]
  staticTypes := #[]
  resolved := #[]
  callSites := []
  init := .initialized
  statics := none
  mirror := none

def pool0 : Array CpInfo := pool [(5, u "<init>"), (0, u "()V"), (1, .class_ 10), (1, u "java/lang/Object")] 113

def k0c0 : Code := { maxStack := 0, maxLocals := 1, code := object_method_1_code, exceptionTable := #[], attributes := #[] }
def k0m0 : Method := { name := "<init>", desc := "()V", sig := { parameters := [], returnType := none }, accessFlags := 1, code := some k0c0 }
/-- java/lang/Object -/
def k0 : Class := { plain "java/lang/Object" none with
  accessFlags := 33
  interfaces := #[]
  cf := some (fileOf pool0 8 #[] #[{ accessFlags := 1, nameIndex := 5, descriptorIndex := 6, attributes := #[] }] 33 0 #[] #[])
  fields := #[]
  methods := #[k0m0]
  instanceTypes := #[]
  staticTypes := #[]
  resolved := Array.replicate 124 none
  statics := none }

def pool1 : Array CpInfo := pool [(2, .class_ 4), (1, u "java/lang/Object"), (0, u "<init>"), (0, u "()V"), (0, .integer 2147483647), (2, .long 9223372036854775807), (1, .class_ 13), (0, u "com/example/lachesis/lachesis/AmountRuleChargePinLaw"), (0, .long 72057594037927935), (1, .methodref 17 18), (0, .class_ 19), (0, .nameAndType 20 21), (0, u "com/example/lachesis/lachesis/AmountRule"), (0, u "charge"), (0, u "(I)Lcom/example/lachesis/lachesis/AmountRule;"), (0, .methodref 17 23), (0, .nameAndType 24 25), (0, u "partial"), (0, u "()Z"), (0, .methodref 17 27), (0, .nameAndType 28 29), (0, u "percent"), (0, u "()I"), (0, .methodref 17 31), (0, .nameAndType 32 33), (0, u "amountOf"), (0, u "(J)J"), (0, .methodref 17 35), (0, .nameAndType 36 21), (0, u "discount"), (0, .long 50), (1, .long 100), (1, u "MASK56"), (0, u "J"), (3, u "law"), (0, u "(IJI)Z")] 3

def k1m0 : Method := { name := "<init>", desc := "()V", sig := { parameters := [], returnType := none }, accessFlags := 1, code := none }
def k1c1 : Code := { maxStack := 4, maxLocals := 14, code := code, exceptionTable := #[], attributes := #[] }
def k1m1 : Method := { name := "law", desc := "(IJI)Z", sig := { parameters := [.int, .long, .int], returnType := some .boolean }, accessFlags := 9, code := some k1c1 }
/-- com/example/lachesis/lachesis/AmountRuleChargePinLaw -/
def k1 : Class := { plain "com/example/lachesis/lachesis/AmountRuleChargePinLaw" (some 0) with
  accessFlags := 49
  interfaces := #[]
  cf := some (fileOf pool1 12 #[] #[{ accessFlags := 1, nameIndex := 5, descriptorIndex := 6, attributes := #[] }, { accessFlags := 9, nameIndex := 46, descriptorIndex := 47, attributes := #[] }] 49 2 #[] #[{ accessFlags := 26, nameIndex := 41, descriptorIndex := 42, attributes := #[] }])
  fields := #[{ name := "MASK56", type := .long, accessFlags := 26, slot := 0, constantValue := 0 }]
  methods := #[k1m0, k1m1]
  instanceTypes := #[]
  staticTypes := #[.long]
  resolved := Array.replicate 51 none
  statics := none }

def pool2 : Array CpInfo := pool [(1, .methodref 2 3), (0, .class_ 4), (0, .nameAndType 5 6), (0, u "java/lang/Object"), (0, u "<init>"), (0, u "()V"), (0, .fieldref 8 9), (0, .class_ 10), (0, .nameAndType 11 12), (0, u "com/example/lachesis/lachesis/AmountRule"), (0, u "partial"), (0, u "Z"), (0, .fieldref 8 14), (0, .nameAndType 15 16), (0, u "percent"), (0, u "I"), (9, .methodref 8 27), (0, .nameAndType 5 28), (0, u "(ZI)V"), (1, .methodref 31 32), (0, .class_ 33), (0, .nameAndType 34 35), (0, u "com/example/lachesis/lachesis/Amounts"), (0, u "percentOf"), (0, u "(JI)J"), (0, u "HUNDRED"), (4, u "discount"), (0, u "(I)Lcom/example/lachesis/lachesis/AmountRule;"), (1, u "charge"), (0, u "()Z"), (0, u "()I"), (0, u "amountOf"), (0, u "(J)J")] 19

def k2c0 : Code := { maxStack := 2, maxLocals := 3, code := prog_1_method_1_code, exceptionTable := #[], attributes := #[] }
def k2m0 : Method := { name := "<init>", desc := "(ZI)V", sig := { parameters := [.boolean, .int], returnType := none }, accessFlags := 2, code := some k2c0 }
def k2c1 : Code := { maxStack := 4, maxLocals := 1, code := prog_1_method_2_code, exceptionTable := #[], attributes := #[] }
def k2m1 : Method := { name := "discount", desc := "(I)Lcom/example/lachesis/lachesis/AmountRule;", sig := { parameters := [.int], returnType := some (.object "com/example/lachesis/lachesis/AmountRule") }, accessFlags := 8, code := some k2c1 }
def k2c2 : Code := { maxStack := 4, maxLocals := 1, code := prog_1_method_3_code, exceptionTable := #[], attributes := #[] }
def k2m2 : Method := { name := "charge", desc := "(I)Lcom/example/lachesis/lachesis/AmountRule;", sig := { parameters := [.int], returnType := some (.object "com/example/lachesis/lachesis/AmountRule") }, accessFlags := 8, code := some k2c2 }
def k2c3 : Code := { maxStack := 1, maxLocals := 1, code := prog_1_method_4_code, exceptionTable := #[], attributes := #[] }
def k2m3 : Method := { name := "partial", desc := "()Z", sig := { parameters := [], returnType := some .boolean }, accessFlags := 0, code := some k2c3 }
def k2c4 : Code := { maxStack := 1, maxLocals := 1, code := prog_1_method_5_code, exceptionTable := #[], attributes := #[] }
def k2m4 : Method := { name := "percent", desc := "()I", sig := { parameters := [], returnType := some .int }, accessFlags := 0, code := some k2c4 }
def k2c5 : Code := { maxStack := 4, maxLocals := 3, code := prog_1_method_6_code, exceptionTable := #[], attributes := #[] }
def k2m5 : Method := { name := "amountOf", desc := "(J)J", sig := { parameters := [.long], returnType := some .long }, accessFlags := 0, code := some k2c5 }
/-- com/example/lachesis/lachesis/AmountRule -/
def k2 : Class := { plain "com/example/lachesis/lachesis/AmountRule" (some 0) with
  accessFlags := 48
  interfaces := #[]
  cf := some (fileOf pool2 8 #[] #[{ accessFlags := 2, nameIndex := 5, descriptorIndex := 28, attributes := #[] }, { accessFlags := 8, nameIndex := 41, descriptorIndex := 42, attributes := #[] }, { accessFlags := 8, nameIndex := 44, descriptorIndex := 42, attributes := #[] }, { accessFlags := 0, nameIndex := 11, descriptorIndex := 45, attributes := #[] }, { accessFlags := 0, nameIndex := 15, descriptorIndex := 46, attributes := #[] }, { accessFlags := 0, nameIndex := 47, descriptorIndex := 48, attributes := #[] }] 48 2 #[] #[{ accessFlags := 26, nameIndex := 36, descriptorIndex := 16, attributes := #[] }, { accessFlags := 18, nameIndex := 11, descriptorIndex := 12, attributes := #[] }, { accessFlags := 18, nameIndex := 15, descriptorIndex := 16, attributes := #[] }])
  fields := #[{ name := "HUNDRED", type := .int, accessFlags := 26, slot := 0, constantValue := 0 }, { name := "partial", type := .boolean, accessFlags := 18, slot := 0, constantValue := 0 }, { name := "percent", type := .int, accessFlags := 18, slot := 1, constantValue := 0 }]
  methods := #[k2m0, k2m1, k2m2, k2m3, k2m4, k2m5]
  instanceTypes := #[.boolean, .int]
  staticTypes := #[.int]
  resolved := Array.replicate 68 none
  statics := none }

def pool3 : Array CpInfo := pool [(2, .class_ 4), (1, u "java/lang/Object"), (0, u "<init>"), (0, u "()V"), (9, .class_ 17), (0, u "com/example/lachesis/lachesis/Amounts"), (0, .long 100), (4, .long 50), (1, u "HUNDRED"), (0, u "J"), (3, u "percentOf"), (0, u "(JI)J")] 20

def k3m0 : Method := { name := "<init>", desc := "()V", sig := { parameters := [], returnType := none }, accessFlags := 2, code := none }
def k3c1 : Code := { maxStack := 6, maxLocals := 7, code := prog_3_method_2_code, exceptionTable := #[], attributes := #[] }
def k3m1 : Method := { name := "percentOf", desc := "(JI)J", sig := { parameters := [.long, .int], returnType := some .long }, accessFlags := 9, code := some k3c1 }
/-- com/example/lachesis/lachesis/Amounts -/
def k3 : Class := { plain "com/example/lachesis/lachesis/Amounts" (some 0) with
  accessFlags := 49
  interfaces := #[]
  cf := some (fileOf pool3 16 #[] #[{ accessFlags := 2, nameIndex := 5, descriptorIndex := 6, attributes := #[] }, { accessFlags := 9, nameIndex := 30, descriptorIndex := 31, attributes := #[] }] 49 2 #[] #[{ accessFlags := 26, nameIndex := 25, descriptorIndex := 26, attributes := #[] }])
  fields := #[{ name := "HUNDRED", type := .long, accessFlags := 26, slot := 0, constantValue := 0 }]
  methods := #[k3m0, k3m1]
  instanceTypes := #[]
  staticTypes := #[.long]
  resolved := Array.replicate 52 none
  statics := none }

def pool4 : Array CpInfo := pool [(1, u "java/lang/Cloneable"), (0, .class_ 1), (0, u "java/lang/Object"), (0, .class_ 3)] 3

/-- java/lang/Cloneable -/
def k4 : Class := { plain "java/lang/Cloneable" (some 0) with
  accessFlags := 1537
  interfaces := #[]
  cf := some (fileOf pool4 2 #[] #[] 1537 4 #[] #[])
  fields := #[]
  methods := #[]
  instanceTypes := #[]
  staticTypes := #[]
  resolved := Array.replicate 8 none
  statics := none }

def pool5 : Array CpInfo := pool [(1, u "java/io/Serializable"), (0, .class_ 1), (0, u "java/lang/Object"), (0, .class_ 3)] 3

/-- java/io/Serializable -/
def k5 : Class := { plain "java/io/Serializable" (some 0) with
  accessFlags := 1537
  interfaces := #[]
  cf := some (fileOf pool5 2 #[] #[] 1537 4 #[] #[])
  fields := #[]
  methods := #[]
  instanceTypes := #[]
  staticTypes := #[]
  resolved := Array.replicate 8 none
  statics := none }

/-- the primitive byte -/
def k6 : Class := { plain "byte" none with kind := .primitive 'B', accessFlags := 0x411 }
/-- [B -/
def k7 : Class := { plain "[B" (some 0) with kind := .array 6 .byte, interfaces := #[4, 5], accessFlags := 1041 }

/-- the primitive int -/
def k8 : Class := { plain "int" none with kind := .primitive 'I', accessFlags := 0x411 }
/-- [I -/
def k9 : Class := { plain "[I" (some 0) with kind := .array 8 .int, interfaces := #[4, 5], accessFlags := 1041 }

def heap : Heap := #[]
def classes : Array Class := #[k0, k1, k2, k3, k4, k5, k6, k7, k8, k9]
def interned : List (Array UInt16 × Addr) := []
def slotsUsed : Nat := 0
def theMethod : MethodId := ⟨1, 1⟩
def args0 : Array Value := #[.int 5, .long 5, .int 5]
def aboutOver (below : List Frame) : State where
  vm := { classes := classes, interned := interned.toArray }
  heap := heap
  slotsUsed := slotsUsed
  threads := #[{ frames := .invoking theMethod args0 :: below }]
def below0 : List Frame := [.native { method := ⟨0, 0⟩, args := #[] }]
def about1 : State := aboutOver below0
def p0 : Program := .bare "" "" ""
def e0 : Env := launch0.env 0 0 0
theorem w_frames : about1.frames = Frame.invoking theMethod args0 :: below0 := rfl
set_option maxRecDepth 65536 in
theorem w_args : argsFit about1.vm theMethod args0 = true := by decide +kernel
set_option maxRecDepth 65536 in
theorem w_heap : heapFits about1 = true := by decide +kernel
set_option maxRecDepth 65536 in
theorem w_runnable : about1.curStatus? = some .runnable := by decide +kernel
set_option maxRecDepth 65536 in
theorem w_alone : about1.alone = true := by decide +kernel
set_option maxRecDepth 65536 in
theorem w_named : about1.methodNamed? x = some theMethod := by decide +kernel
set_option maxRecDepth 65536 in
theorem w_hears : about1.hears theMethod below0 = true := by decide +kernel
set_option maxRecDepth 65536 in
theorem w_ripe : about1.ripe theMethod args0 below0 = true := by decide +kernel
theorem w_running : about1.status = .running := rfl
set_option maxRecDepth 65536 in
theorem w_room : about1.hasRoom e0.platform room_1 = true :=
  launch0.hasRoom_least _ room_1 (by decide +kernel) (by decide +kernel) (by decide +kernel) (by decide +kernel) (by decide +kernel) (by decide +kernel)
theorem allAtoms_all (ts : List Jvm.Cond) (a : Array Jvm.Value) (st : Jvm.State) : (allAtoms ts).before a st = ts.all (fun c => c.before a st) := by
  induction ts with
  | nil => rfl
  | cons c t ih =>
    show (Jvm.Cond.and c (allAtoms t)).before a st = _
    rw [Jvm.Cond.before_and, ih, List.all_cons]
def words1 : List Jvm.Cond := Jvm.Cond.code x code maxLocals ret :: tables_1
/-- a 'code' word, met by the world's own term for the bytes: nothing is compared byte by byte -/
theorem code_word {y : MethodName} {bytes : ByteArray} {mx : Nat} {rt : Option FieldType} {a : Array Value} {s : State} {m : MethodId} {meth : Method} {c : Code} (h1 : s.methodNamed? y = some m) (h2 : s.vm.method? m = some meth) (h3 : meth.code = some c) (h4 : c.code = bytes)
    (h5 : (c.maxLocals == mx && c.exceptionTable.isEmpty && decide (c.maxStack ≤ mostOperands) && decide (meth.sig.returnType = rt) && !meth.locks && decide (parseMethodDescriptor y.desc = some meth.sig)) = true) : (Jvm.Cond.code y bytes mx rt).before a s = true := by
  simp only [Bool.and_eq_true, beq_iff_eq, Bool.not_eq_true', decide_eq_true_eq] at h5
  obtain ⟨⟨⟨⟨⟨g1, g2⟩, g3⟩, g4⟩, g5⟩, g6⟩ := h5
  simp [Cond.before, Cond.holds, Cond.value, h1, h2, h3, h4, g1, g2, g3, g4, g5, g6]
def isCode : Jvm.Cond → Bool
  | .code _ _ _ _ => true
  | _ => false
theorem all_split {L : List Jvm.Cond} {P : Jvm.Cond → Bool} (h1 : L.all (fun c => isCode c || P c) = true) (h2 : ∀ c ∈ L.filter isCode, P c = true) : L.all P = true := by
  refine List.all_eq_true.mpr fun c hc => ?_
  have h := List.all_eq_true.mp h1 c hc
  rcases Bool.eq_false_or_eq_true (isCode c) with hi | hi
  · exact h2 c (List.mem_filter.mpr ⟨hc, hi⟩)
  · simpa [hi] using h
set_option maxRecDepth 65536 in
theorem w_c0 : (Jvm.Cond.code x code maxLocals ret).before args0 about1 = true := code_word (m := ⟨1, 1⟩) (meth := k1m1) (c := k1c1) (by decide +kernel) rfl rfl rfl (by decide +kernel)
set_option maxRecDepth 65536 in
theorem w_c1 : (Jvm.Cond.code ({ cls := "com/example/lachesis/lachesis/AmountRule", name := "charge", desc := "(I)Lcom/example/lachesis/lachesis/AmountRule;" } : Jvm.MethodName) prog_1_method_3_code (1 : Nat) (Option.some (Jvm.ClassFile.FieldType.object "com/example/lachesis/lachesis/AmountRule"))).before args0 about1 = true := code_word (m := ⟨2, 2⟩) (meth := k2m2) (c := k2c2) (by decide +kernel) rfl rfl rfl (by decide +kernel)
set_option maxRecDepth 65536 in
theorem w_c2 : (Jvm.Cond.code ({ cls := "com/example/lachesis/lachesis/AmountRule", name := "<init>", desc := "(ZI)V" } : Jvm.MethodName) prog_1_method_1_code (3 : Nat) (Option.none : Option Jvm.ClassFile.FieldType)).before args0 about1 = true := code_word (m := ⟨2, 0⟩) (meth := k2m0) (c := k2c0) (by decide +kernel) rfl rfl rfl (by decide +kernel)
set_option maxRecDepth 65536 in
theorem w_c3 : (Jvm.Cond.code ({ cls := "java/lang/Object", name := "<init>", desc := "()V" } : Jvm.MethodName) object_method_1_code (1 : Nat) (Option.none : Option Jvm.ClassFile.FieldType)).before args0 about1 = true := code_word (m := ⟨0, 0⟩) (meth := k0m0) (c := k0c0) (by decide +kernel) rfl rfl rfl (by decide +kernel)
set_option maxRecDepth 65536 in
theorem w_c4 : (Jvm.Cond.code ({ cls := "com/example/lachesis/lachesis/AmountRule", name := "partial", desc := "()Z" } : Jvm.MethodName) prog_1_method_4_code (1 : Nat) (Option.some Jvm.ClassFile.FieldType.boolean)).before args0 about1 = true := code_word (m := ⟨2, 3⟩) (meth := k2m3) (c := k2c3) (by decide +kernel) rfl rfl rfl (by decide +kernel)
set_option maxRecDepth 65536 in
theorem w_c5 : (Jvm.Cond.code ({ cls := "com/example/lachesis/lachesis/AmountRule", name := "percent", desc := "()I" } : Jvm.MethodName) prog_1_method_5_code (1 : Nat) (Option.some Jvm.ClassFile.FieldType.int)).before args0 about1 = true := code_word (m := ⟨2, 4⟩) (meth := k2m4) (c := k2c4) (by decide +kernel) rfl rfl rfl (by decide +kernel)
set_option maxRecDepth 65536 in
theorem w_c6 : (Jvm.Cond.code ({ cls := "com/example/lachesis/lachesis/AmountRule", name := "amountOf", desc := "(J)J" } : Jvm.MethodName) prog_1_method_6_code (3 : Nat) (Option.some Jvm.ClassFile.FieldType.long)).before args0 about1 = true := code_word (m := ⟨2, 5⟩) (meth := k2m5) (c := k2c5) (by decide +kernel) rfl rfl rfl (by decide +kernel)
set_option maxRecDepth 65536 in
theorem w_c7 : (Jvm.Cond.code ({ cls := "com/example/lachesis/lachesis/Amounts", name := "percentOf", desc := "(JI)J" } : Jvm.MethodName) prog_3_method_2_code (7 : Nat) (Option.some Jvm.ClassFile.FieldType.long)).before args0 about1 = true := code_word (m := ⟨3, 1⟩) (meth := k3m1) (c := k3c1) (by decide +kernel) rfl rfl rfl (by decide +kernel)
set_option maxRecDepth 65536 in
theorem w_c8 : (Jvm.Cond.code ({ cls := "com/example/lachesis/lachesis/AmountRule", name := "discount", desc := "(I)Lcom/example/lachesis/lachesis/AmountRule;" } : Jvm.MethodName) prog_1_method_2_code (1 : Nat) (Option.some (Jvm.ClassFile.FieldType.object "com/example/lachesis/lachesis/AmountRule"))).before args0 about1 = true := code_word (m := ⟨2, 1⟩) (meth := k2m1) (c := k2c1) (by decide +kernel) rfl rfl rfl (by decide +kernel)
def codes1 : List Jvm.Cond := [Jvm.Cond.code x code maxLocals ret, Jvm.Cond.code ({ cls := "com/example/lachesis/lachesis/AmountRule", name := "charge", desc := "(I)Lcom/example/lachesis/lachesis/AmountRule;" } : Jvm.MethodName) prog_1_method_3_code (1 : Nat) (Option.some (Jvm.ClassFile.FieldType.object "com/example/lachesis/lachesis/AmountRule")), Jvm.Cond.code ({ cls := "com/example/lachesis/lachesis/AmountRule", name := "<init>", desc := "(ZI)V" } : Jvm.MethodName) prog_1_method_1_code (3 : Nat) (Option.none : Option Jvm.ClassFile.FieldType), Jvm.Cond.code ({ cls := "java/lang/Object", name := "<init>", desc := "()V" } : Jvm.MethodName) object_method_1_code (1 : Nat) (Option.none : Option Jvm.ClassFile.FieldType), Jvm.Cond.code ({ cls := "com/example/lachesis/lachesis/AmountRule", name := "partial", desc := "()Z" } : Jvm.MethodName) prog_1_method_4_code (1 : Nat) (Option.some Jvm.ClassFile.FieldType.boolean), Jvm.Cond.code ({ cls := "com/example/lachesis/lachesis/AmountRule", name := "percent", desc := "()I" } : Jvm.MethodName) prog_1_method_5_code (1 : Nat) (Option.some Jvm.ClassFile.FieldType.int), Jvm.Cond.code ({ cls := "com/example/lachesis/lachesis/AmountRule", name := "amountOf", desc := "(J)J" } : Jvm.MethodName) prog_1_method_6_code (3 : Nat) (Option.some Jvm.ClassFile.FieldType.long), Jvm.Cond.code ({ cls := "com/example/lachesis/lachesis/Amounts", name := "percentOf", desc := "(JI)J" } : Jvm.MethodName) prog_3_method_2_code (7 : Nat) (Option.some Jvm.ClassFile.FieldType.long), Jvm.Cond.code ({ cls := "com/example/lachesis/lachesis/AmountRule", name := "discount", desc := "(I)Lcom/example/lachesis/lachesis/AmountRule;" } : Jvm.MethodName) prog_1_method_2_code (1 : Nat) (Option.some (Jvm.ClassFile.FieldType.object "com/example/lachesis/lachesis/AmountRule"))]
set_option maxRecDepth 65536 in
theorem codes_eq : words1.filter isCode = codes1 := rfl
theorem w_codes : ∀ c ∈ words1.filter isCode, c.before args0 about1 = true := by
  rw [codes_eq]
  intro c hc
  simp only [codes1, List.mem_cons, List.not_mem_nil, or_false] at hc
  rcases hc with rfl | rfl | rfl | rfl | rfl | rfl | rfl | rfl | rfl
  · exact w_c0
  · exact w_c1
  · exact w_c2
  · exact w_c3
  · exact w_c4
  · exact w_c5
  · exact w_c6
  · exact w_c7
  · exact w_c8
set_option maxRecDepth 65536 in
theorem w_t1 : (words1.take 24).all (fun c => isCode c || c.before args0 about1) = true := by decide +kernel
set_option maxRecDepth 65536 in
theorem w_t2 : (words1.drop 24).all (fun c => isCode c || c.before args0 about1) = true := by decide +kernel
theorem w_tables : (allAtoms (Jvm.Cond.code x code maxLocals ret :: tables_1)).before args0 about1 = true := by
  rw [allAtoms_all]
  show words1.all (fun c => c.before args0 about1) = true
  refine all_split ?_ w_codes
  rw [← List.take_append_drop 24 words1, List.all_append, w_t1, w_t2]
  rfl
set_option maxRecDepth 65536 in
theorem w_case : (Jvm.Cond.and given_1 narrow_1).before args0 about1 = true := by decide +kernel
theorem w_applies : (headSpec (Jvm.Cond.code x code maxLocals ret :: tables_1) room_1).applies x e0.platform about1 = true :=
  (Spec.applies_iff w_frames).mpr ⟨w_running, w_runnable, w_alone, w_named, w_hears, w_ripe, w_room, w_tables⟩
theorem atStart : AtStart classFile x code maxLocals ret World_1 tables_1 room_1 Calls_1 rest_1 Pre_1 launch0 p0 e0 about1 theMethod args0 below0 :=
  ⟨lists_1, trivial, launch0.admits_env _ _ _, launch0.least_env, fairChoices_fair.cas, fairChoices_fair.clock, w_frames, w_args, w_heap, w_applies, trivial, trivial, w_case⟩
end start1
theorem witness_1 : WitnessClaimed_1 := ⟨start1.p0, start1.e0, start1.about1, start1.theMethod, start1.args0, start1.below0, start1.atStart⟩
end Jvm.Pilot.@@N@@
