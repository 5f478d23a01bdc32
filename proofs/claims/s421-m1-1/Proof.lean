import JvmDerived
import JvmDerived.Pilot.@@N@@Statement
import JvmDerived.Pilot.@@N@@Code
set_option linter.unusedVariables false
set_option linter.unusedSimpArgs false
namespace Jvm.RoadKit
open Sem ClassFile Op Lib Jvm.Stand Jvm.Free Jvm.LawKit
section New
variable {p : Program} {l : Launch} {e : Env} {R : Room} {s : State} {m : MethodId} {args : Array Value} {below : List Frame} {meth : Method} {c : Code} {T : State} {locs : List Loc} {cells slots : Nat}
theorem retI (X : Stand p l e R s m args below meth c T locs cells slots) (hx : p.tables.exec = Jvm.exec) {pc : Nat} {Ls : Array Slot} {z : Int32} {rest : List Value} (hret : meth.sig.returnType = some .int) (hd : decode c.code pc = .ok (.ireturn, 1)) {fs : List Frame}
    (hl : ∀ (f : JFrame) (acts : List Action), f.method = m → f.locked = none → f.entered = [] → (doReturn e (T.setTop f) acts (some (.int z))).1 = T.setFrames fs) : Steps p.tables e below (T.setTop (mkF m pc Ls (.int z :: rest))) (T.setFrames fs) := by
  have hm' : T.vm.method? m = some meth := X.method'
  have hn : narrow .int (.int z) = .int z := rfl
  show Steps p.tables e below (T.setTop { method := m, pc := pc, locals := Ls, stack := _ :: rest, locked := none }) _
  jvm_step X.here [X.here.top, hx, hd, hm', hret, hn]
  first | (intro acts; rw [hl _ acts rfl rfl rfl]) | rw [hl _ _ rfl rfl rfl]
  exact Steps.refl _
end New
end Jvm.RoadKit
namespace Jvm.Pilot.@@N@@
open Jvm Jvm.ClassFile Sem Op Lib Jvm.Free Jvm.Stand Jvm.LawKit Jvm.RoadKit Bundle Jvm.Pilot.@@N@@.Jvm.D
theorem own_keep_ext {h h' : Heap} (K : Keep h h' []) : Ext h h' := ⟨K.1, fun a c q => K.2.1 a c q nin0⟩
theorem own_sta_keep {Z : State} {h h' : Heap} {C n d K : String} {a : Addr} {v : Value} (F : Sta Z h C n d v) (Kp : Keep h h' [a]) (E : Exa Z h a K) : Sta Z h' C n d v := by
  obtain ⟨cf, i, k, f, st, cell, h1, h2, h3, h4, h5, h6, h7⟩ := F
  obtain ⟨cell', k', g1, -, -, g4, -⟩ := E
  have ne : st ≠ a := by
    intro q
    subst q
    rw [h5] at g1
    cases g1
    rw [h6] at g4
    cases g4
  exact ⟨cf, i, k, f, st, cell, h1, h2, h3, h4, Kp.2.1 st cell h5 (ninS ne nin0), h6, h7⟩
theorem d2_0 : decode prog_8_method_2_code 0 = .ok (.iload_n 0, 1) := by decide +kernel
theorem d2_1 : decode prog_8_method_2_code 1 = .ok (.bipush 9, 2) := by decide +kernel
theorem d2_3 : decode prog_8_method_2_code 3 = .ok (.if_icmp .eq 51, 3) := by decide +kernel
theorem d2_54 : decode prog_8_method_2_code 54 = .ok (.iconst 1, 1) := by decide +kernel
theorem d2_55 : decode prog_8_method_2_code 55 = .ok (.goto 4, 3) := by decide +kernel
theorem d2_59 : decode prog_8_method_2_code 59 = .ok (.ireturn, 1) := by decide +kernel
theorem d2_6 : decode prog_8_method_2_code 6 = .ok (.iload_n 0, 1) := by decide +kernel
theorem d2_7 : decode prog_8_method_2_code 7 = .ok (.bipush 10, 2) := by decide +kernel
theorem d2_9 : decode prog_8_method_2_code 9 = .ok (.if_icmp .eq 45, 3) := by decide +kernel
theorem d2_12 : decode prog_8_method_2_code 12 = .ok (.iload_n 0, 1) := by decide +kernel
theorem d2_13 : decode prog_8_method_2_code 13 = .ok (.bipush 13, 2) := by decide +kernel
theorem d2_15 : decode prog_8_method_2_code 15 = .ok (.if_icmp .eq 39, 3) := by decide +kernel
theorem d2_18 : decode prog_8_method_2_code 18 = .ok (.iload_n 0, 1) := by decide +kernel
theorem d2_19 : decode prog_8_method_2_code 19 = .ok (.bipush 32, 2) := by decide +kernel
theorem d2_21 : decode prog_8_method_2_code 21 = .ok (.if_icmp .lt 9, 3) := by decide +kernel
theorem d2_30 : decode prog_8_method_2_code 30 = .ok (.iload_n 0, 1) := by decide +kernel
theorem d2_31 : decode prog_8_method_2_code 31 = .ok (.ldc 32, 2) := by decide +kernel
theorem d2_33 : decode prog_8_method_2_code 33 = .ok (.if_icmp .lt 9, 3) := by decide +kernel
theorem d2_42 : decode prog_8_method_2_code 42 = .ok (.iload_n 0, 1) := by decide +kernel
theorem d2_43 : decode prog_8_method_2_code 43 = .ok (.ldc 34, 2) := by decide +kernel
theorem d2_45 : decode prog_8_method_2_code 45 = .ok (.if_icmp .lt 13, 3) := by decide +kernel
theorem d2_58 : decode prog_8_method_2_code 58 = .ok (.iconst 0, 1) := by decide +kernel
theorem d2_48 : decode prog_8_method_2_code 48 = .ok (.iload_n 0, 1) := by decide +kernel
theorem d2_49 : decode prog_8_method_2_code 49 = .ok (.ldc 35, 2) := by decide +kernel
theorem d2_51 : decode prog_8_method_2_code 51 = .ok (.if_icmp .gt 7, 3) := by decide +kernel
theorem d2_36 : decode prog_8_method_2_code 36 = .ok (.iload_n 0, 1) := by decide +kernel
theorem d2_37 : decode prog_8_method_2_code 37 = .ok (.ldc 33, 2) := by decide +kernel
theorem d2_39 : decode prog_8_method_2_code 39 = .ok (.if_icmp .le 15, 3) := by decide +kernel
theorem d2_24 : decode prog_8_method_2_code 24 = .ok (.iload_n 0, 1) := by decide +kernel
theorem d2_25 : decode prog_8_method_2_code 25 = .ok (.ldc 31, 2) := by decide +kernel
theorem d2_27 : decode prog_8_method_2_code 27 = .ok (.if_icmp .le 27, 3) := by decide +kernel
theorem pn0 : plainName "com/example/feuillet/feuillet/build/XmlWriter" = true := by first | (simp [plainName, overriddenIn]; done) | decide +kernel
def F_rm_isXml (xa : Int32) : Int32 := (if xa = (9 : Int32) then (1 : Int32) else (if xa = (10 : Int32) then (1 : Int32) else (if xa = (13 : Int32) then (1 : Int32) else (if xa < (32 : Int32) then (if xa < (57344 : Int32) then (if xa < (65536 : Int32) then (0 : Int32) else (if (1114111 : Int32) < xa then (0 : Int32) else (1 : Int32))) else (if (65533 : Int32) < xa then (if xa < (65536 : Int32) then (0 : Int32) else (if (1114111 : Int32) < xa then (0 : Int32) else (1 : Int32))) else (1 : Int32))) else (if (55295 : Int32) < xa then (if xa < (57344 : Int32) then (if xa < (65536 : Int32) then (0 : Int32) else (if (1114111 : Int32) < xa then (0 : Int32) else (1 : Int32))) else (if (65533 : Int32) < xa then (if xa < (65536 : Int32) then (0 : Int32) else (if (1114111 : Int32) < xa then (0 : Int32) else (1 : Int32))) else (1 : Int32))) else (1 : Int32))))))
theorem ef_rm_isXml (m : MethodId) (xa : Int32) : entryFrame m #[(.int xa)] 1 = mkF m 0 #[.val (.int xa)] [] := by first | (simp [entryFrame, mkF, argsToLocals, Value.category]; done) | rfl
def Q_rm_isXml (Z : State) (xa : Int32) (h0 : Heap) (n0 : Nat) (v : Option Value) (h : Heap) (L : List Loc) : Prop := v = some (.int (F_rm_isXml xa)) ∧ Fr n0 L ∧ h = h0
set_option maxRecDepth 65536 in
set_option maxHeartbeats 40000000 in
theorem rm_isXml (l : Launch) (Z : State) (a0 : Array Value) (hw : ∀ d ∈ tables_1, d.before a0 Z = true) (ws : List Jvm.Cond) (xa : Int32) (h0 : Heap) (n0 : Nat) (Z0 : n0 ≤ h0.size) :
    MetFree l (⟨"com/example/feuillet/feuillet/build/XmlWriter", "isXmlCharacter", "(I)Z"⟩ : MethodName) (head1 (Jvm.Cond.code (⟨"com/example/feuillet/feuillet/build/XmlWriter", "isXmlCharacter", "(I)Z"⟩ : MethodName) prog_8_method_2_code 1 (some .boolean) :: ws) ({ frames := 0, cells := 0, slots := 0, locals := 0 } : Room)) (fun a U => a = #[(.int xa)] ∧ Z.Warmed39 U.vm ∧ U.heap = h0) (fun _ _ _ _ _ => True) (fun _ U o U' => ∃ v L, o = .returned v ∧ Q_rm_isXml Z xa h0 n0 v U'.heap L ∧ FrameEnd U o U' L ({ frames := 0, cells := 0, slots := 0, locals := 0 } : Room).cells ({ frames := 0, cells := 0, slots := 0, locals := 0 } : Room).slots) := by
  refine MetFree.of_bodySF (plainFor_of_name pn0) hisR ?_
  intro p e s m args below meth c s₁ Bd hml0 hP hK
  obtain ⟨rfl, hZ, hh⟩ := hP
  have hx := Bd.exec
  have hby := Bd.bytes
  have hml : c.maxLocals = 1 := hml0
  have hown : s.vm.findClass "com/example/feuillet/feuillet/build/XmlWriter" = some m.cls := findClass_of_methodNamed Bd.named
  have hnm := (name_of_methodNamed Bd.named Bd.method).1
  have X0 : Stand p l e ({ frames := 0, cells := 0, slots := 0, locals := 0 } : Room) s m #[(.int xa)] below meth c s₁ [] 0 0 := Stand.of_body Bd
  have e0 : s₁.heap = h0 := by rw [← hh, Bd.state]; rfl
  have N0 := Fr.nil n0
  have pre0 : ∀ t, Steps p.tables e below (s₁.setTop (mkF m 0 #[.val (.int xa)] [])) t → Steps p.tables e below (s₁.setTop (entryFrame m #[(.int xa)] 1)) t := fun t k => castTop (ef_rm_isXml m xa) k
  have pre1 : ∀ t, Steps p.tables e below (s₁.setTop (mkF m 3 #[.val (.int xa)] [(.int (9 : Int32)), (.int xa)])) t → Steps p.tables e below (s₁.setTop (entryFrame m #[(.int xa)] 1)) t := by
    intro t k
    refine pre0 t ?_
    refine XS.iloadN X0.here hx rfl (hb hby d2_0) rfl ?_
    show Steps p.tables e below (s₁.setTop (mkF m 1 #[.val (.int xa)] [(.int xa)])) _
    refine XS.bipush X0.here hx rfl (hb hby d2_1) ?_
    show Steps p.tables e below (s₁.setTop (mkF m 3 #[.val (.int xa)] [(.int (9 : Int32)), (.int xa)])) _
    exact k
  by_cases hc3 : xa = (9 : Int32)
  · have pre2 : ∀ t, Steps p.tables e below (s₁.setTop (mkF m 59 #[.val (.int xa)] [(.int (1 : Int32))])) t → Steps p.tables e below (s₁.setTop (entryFrame m #[(.int xa)] 1)) t := by
      intro t k
      refine pre1 t ?_
      refine XS.icmpYes X0.here hx rfl (pc0 := 3) (pc' := 54) rfl (hb hby d2_3) rfl (teq hc3).1 (by decide) (by decide) ?_
      show Steps p.tables e below (s₁.setTop (mkF m 54 #[.val (.int xa)] [])) _
      refine XS.iconst X0.here hx rfl (hb hby d2_54) ?_
      show Steps p.tables e below (s₁.setTop (mkF m 55 #[.val (.int xa)] [(.int (1 : Int32))])) _
      refine XS.goto X0.here hx rfl (pc0 := 55) (pc' := 59) rfl (hb hby d2_55) (by decide) (by decide) ?_
      show Steps p.tables e below (s₁.setTop (mkF m 59 #[.val (.int xa)] [(.int (1 : Int32))])) _
      exact k
    obtain ⟨fs, hr, hrun, hended, hW, hsame⟩ := X0.leave (v := some (.int (1 : Int32))) (fun h => by rw [Bd.returns] at h; cases h)
    refine ⟨_, _, pre2 _ ?_, hrun, hended, _, _, rfl, ?_, ⟨_, rfl⟩, hW, hsame.mono (by decide) (by decide)⟩
    · exact retN X0 hx (t := .boolean) Bd.returns (by simp) (hb hby d2_59) hr
    · show Q_rm_isXml Z xa h0 n0 _ s₁.heap _
      rw [e0]
      exact ⟨congrArg (fun z => some (Value.int z)) (show (1 : Int32) = (F_rm_isXml xa) from by rw [F_rm_isXml, if_pos hc3]), N0, rfl⟩
  · have pre3 : ∀ t, Steps p.tables e below (s₁.setTop (mkF m 9 #[.val (.int xa)] [(.int (10 : Int32)), (.int xa)])) t → Steps p.tables e below (s₁.setTop (entryFrame m #[(.int xa)] 1)) t := by
      intro t k
      refine pre1 t ?_
      refine XS.icmpNo X0.here hx rfl (hb hby d2_3) rfl (feq hc3).1 ?_
      show Steps p.tables e below (s₁.setTop (mkF m 6 #[.val (.int xa)] [])) _
      refine XS.iloadN X0.here hx rfl (hb hby d2_6) rfl ?_
      show Steps p.tables e below (s₁.setTop (mkF m 7 #[.val (.int xa)] [(.int xa)])) _
      refine XS.bipush X0.here hx rfl (hb hby d2_7) ?_
      show Steps p.tables e below (s₁.setTop (mkF m 9 #[.val (.int xa)] [(.int (10 : Int32)), (.int xa)])) _
      exact k
    by_cases hc9 : xa = (10 : Int32)
    · have pre4 : ∀ t, Steps p.tables e below (s₁.setTop (mkF m 59 #[.val (.int xa)] [(.int (1 : Int32))])) t → Steps p.tables e below (s₁.setTop (entryFrame m #[(.int xa)] 1)) t := by
        intro t k
        refine pre3 t ?_
        refine XS.icmpYes X0.here hx rfl (pc0 := 9) (pc' := 54) rfl (hb hby d2_9) rfl (teq hc9).1 (by decide) (by decide) ?_
        show Steps p.tables e below (s₁.setTop (mkF m 54 #[.val (.int xa)] [])) _
        refine XS.iconst X0.here hx rfl (hb hby d2_54) ?_
        show Steps p.tables e below (s₁.setTop (mkF m 55 #[.val (.int xa)] [(.int (1 : Int32))])) _
        refine XS.goto X0.here hx rfl (pc0 := 55) (pc' := 59) rfl (hb hby d2_55) (by decide) (by decide) ?_
        show Steps p.tables e below (s₁.setTop (mkF m 59 #[.val (.int xa)] [(.int (1 : Int32))])) _
        exact k
      obtain ⟨fs, hr, hrun, hended, hW, hsame⟩ := X0.leave (v := some (.int (1 : Int32))) (fun h => by rw [Bd.returns] at h; cases h)
      refine ⟨_, _, pre4 _ ?_, hrun, hended, _, _, rfl, ?_, ⟨_, rfl⟩, hW, hsame.mono (by decide) (by decide)⟩
      · exact retN X0 hx (t := .boolean) Bd.returns (by simp) (hb hby d2_59) hr
      · show Q_rm_isXml Z xa h0 n0 _ s₁.heap _
        rw [e0]
        exact ⟨congrArg (fun z => some (Value.int z)) (show (1 : Int32) = (F_rm_isXml xa) from by rw [F_rm_isXml, if_neg hc3, if_pos hc9]), N0, rfl⟩
    · have pre5 : ∀ t, Steps p.tables e below (s₁.setTop (mkF m 15 #[.val (.int xa)] [(.int (13 : Int32)), (.int xa)])) t → Steps p.tables e below (s₁.setTop (entryFrame m #[(.int xa)] 1)) t := by
        intro t k
        refine pre3 t ?_
        refine XS.icmpNo X0.here hx rfl (hb hby d2_9) rfl (feq hc9).1 ?_
        show Steps p.tables e below (s₁.setTop (mkF m 12 #[.val (.int xa)] [])) _
        refine XS.iloadN X0.here hx rfl (hb hby d2_12) rfl ?_
        show Steps p.tables e below (s₁.setTop (mkF m 13 #[.val (.int xa)] [(.int xa)])) _
        refine XS.bipush X0.here hx rfl (hb hby d2_13) ?_
        show Steps p.tables e below (s₁.setTop (mkF m 15 #[.val (.int xa)] [(.int (13 : Int32)), (.int xa)])) _
        exact k
      by_cases hc15 : xa = (13 : Int32)
      · have pre6 : ∀ t, Steps p.tables e below (s₁.setTop (mkF m 59 #[.val (.int xa)] [(.int (1 : Int32))])) t → Steps p.tables e below (s₁.setTop (entryFrame m #[(.int xa)] 1)) t := by
          intro t k
          refine pre5 t ?_
          refine XS.icmpYes X0.here hx rfl (pc0 := 15) (pc' := 54) rfl (hb hby d2_15) rfl (teq hc15).1 (by decide) (by decide) ?_
          show Steps p.tables e below (s₁.setTop (mkF m 54 #[.val (.int xa)] [])) _
          refine XS.iconst X0.here hx rfl (hb hby d2_54) ?_
          show Steps p.tables e below (s₁.setTop (mkF m 55 #[.val (.int xa)] [(.int (1 : Int32))])) _
          refine XS.goto X0.here hx rfl (pc0 := 55) (pc' := 59) rfl (hb hby d2_55) (by decide) (by decide) ?_
          show Steps p.tables e below (s₁.setTop (mkF m 59 #[.val (.int xa)] [(.int (1 : Int32))])) _
          exact k
        obtain ⟨fs, hr, hrun, hended, hW, hsame⟩ := X0.leave (v := some (.int (1 : Int32))) (fun h => by rw [Bd.returns] at h; cases h)
        refine ⟨_, _, pre6 _ ?_, hrun, hended, _, _, rfl, ?_, ⟨_, rfl⟩, hW, hsame.mono (by decide) (by decide)⟩
        · exact retN X0 hx (t := .boolean) Bd.returns (by simp) (hb hby d2_59) hr
        · show Q_rm_isXml Z xa h0 n0 _ s₁.heap _
          rw [e0]
          exact ⟨congrArg (fun z => some (Value.int z)) (show (1 : Int32) = (F_rm_isXml xa) from by rw [F_rm_isXml, if_neg hc3, if_neg hc9, if_pos hc15]), N0, rfl⟩
      · have pre7 : ∀ t, Steps p.tables e below (s₁.setTop (mkF m 21 #[.val (.int xa)] [(.int (32 : Int32)), (.int xa)])) t → Steps p.tables e below (s₁.setTop (entryFrame m #[(.int xa)] 1)) t := by
          intro t k
          refine pre5 t ?_
          refine XS.icmpNo X0.here hx rfl (hb hby d2_15) rfl (feq hc15).1 ?_
          show Steps p.tables e below (s₁.setTop (mkF m 18 #[.val (.int xa)] [])) _
          refine XS.iloadN X0.here hx rfl (hb hby d2_18) rfl ?_
          show Steps p.tables e below (s₁.setTop (mkF m 19 #[.val (.int xa)] [(.int xa)])) _
          refine XS.bipush X0.here hx rfl (hb hby d2_19) ?_
          show Steps p.tables e below (s₁.setTop (mkF m 21 #[.val (.int xa)] [(.int (32 : Int32)), (.int xa)])) _
          exact k
        by_cases hc21 : xa < (32 : Int32)
        · have pre8 : ∀ t, Steps p.tables e below (s₁.setTop (mkF m 33 #[.val (.int xa)] [(.int (57344 : Int32)), (.int xa)])) t → Steps p.tables e below (s₁.setTop (entryFrame m #[(.int xa)] 1)) t := by
            intro t k
            refine pre7 t ?_
            refine XS.icmpYes X0.here hx rfl (pc0 := 21) (pc' := 30) rfl (hb hby d2_21) rfl (tlt hc21).1 (by decide) (by decide) ?_
            show Steps p.tables e below (s₁.setTop (mkF m 30 #[.val (.int xa)] [])) _
            refine XS.iloadN X0.here hx rfl (hb hby d2_30) rfl ?_
            show Steps p.tables e below (s₁.setTop (mkF m 31 #[.val (.int xa)] [(.int xa)])) _
            refine X0.ldcInt hx hown (mvT hZ (hw _ (List.mem_of_getElem? (i := 21) rfl))) (g := (mkF m 31 #[.val (.int xa)] [(.int xa)])) rfl (hb hby d2_31) _ ?_
            show Steps p.tables e below (s₁.setTop (mkF m 33 #[.val (.int xa)] [(.int (57344 : Int32)), (.int xa)])) _
            exact k
          by_cases hc33 : xa < (57344 : Int32)
          · have pre9 : ∀ t, Steps p.tables e below (s₁.setTop (mkF m 45 #[.val (.int xa)] [(.int (65536 : Int32)), (.int xa)])) t → Steps p.tables e below (s₁.setTop (entryFrame m #[(.int xa)] 1)) t := by
              intro t k
              refine pre8 t ?_
              refine XS.icmpYes X0.here hx rfl (pc0 := 33) (pc' := 42) rfl (hb hby d2_33) rfl (tlt hc33).1 (by decide) (by decide) ?_
              show Steps p.tables e below (s₁.setTop (mkF m 42 #[.val (.int xa)] [])) _
              refine XS.iloadN X0.here hx rfl (hb hby d2_42) rfl ?_
              show Steps p.tables e below (s₁.setTop (mkF m 43 #[.val (.int xa)] [(.int xa)])) _
              refine X0.ldcInt hx hown (mvT hZ (hw _ (List.mem_of_getElem? (i := 22) rfl))) (g := (mkF m 43 #[.val (.int xa)] [(.int xa)])) rfl (hb hby d2_43) _ ?_
              show Steps p.tables e below (s₁.setTop (mkF m 45 #[.val (.int xa)] [(.int (65536 : Int32)), (.int xa)])) _
              exact k
            by_cases hc45 : xa < (65536 : Int32)
            · have pre10 : ∀ t, Steps p.tables e below (s₁.setTop (mkF m 59 #[.val (.int xa)] [(.int (0 : Int32))])) t → Steps p.tables e below (s₁.setTop (entryFrame m #[(.int xa)] 1)) t := by
                intro t k
                refine pre9 t ?_
                refine XS.icmpYes X0.here hx rfl (pc0 := 45) (pc' := 58) rfl (hb hby d2_45) rfl (tlt hc45).1 (by decide) (by decide) ?_
                show Steps p.tables e below (s₁.setTop (mkF m 58 #[.val (.int xa)] [])) _
                refine XS.iconst X0.here hx rfl (hb hby d2_58) ?_
                show Steps p.tables e below (s₁.setTop (mkF m 59 #[.val (.int xa)] [(.int (0 : Int32))])) _
                exact k
              obtain ⟨fs, hr, hrun, hended, hW, hsame⟩ := X0.leave (v := some (.int (0 : Int32))) (fun h => by rw [Bd.returns] at h; cases h)
              refine ⟨_, _, pre10 _ ?_, hrun, hended, _, _, rfl, ?_, ⟨_, rfl⟩, hW, hsame.mono (by decide) (by decide)⟩
              · exact retN X0 hx (t := .boolean) Bd.returns (by simp) (hb hby d2_59) hr
              · show Q_rm_isXml Z xa h0 n0 _ s₁.heap _
                rw [e0]
                exact ⟨congrArg (fun z => some (Value.int z)) (show (0 : Int32) = (F_rm_isXml xa) from by rw [F_rm_isXml, if_neg hc3, if_neg hc9, if_neg hc15, if_pos hc21, if_pos hc33, if_pos hc45]), N0, rfl⟩
            · have pre11 : ∀ t, Steps p.tables e below (s₁.setTop (mkF m 51 #[.val (.int xa)] [(.int (1114111 : Int32)), (.int xa)])) t → Steps p.tables e below (s₁.setTop (entryFrame m #[(.int xa)] 1)) t := by
                intro t k
                refine pre9 t ?_
                refine XS.icmpNo X0.here hx rfl (hb hby d2_45) rfl (flt hc45).1 ?_
                show Steps p.tables e below (s₁.setTop (mkF m 48 #[.val (.int xa)] [])) _
                refine XS.iloadN X0.here hx rfl (hb hby d2_48) rfl ?_
                show Steps p.tables e below (s₁.setTop (mkF m 49 #[.val (.int xa)] [(.int xa)])) _
                refine X0.ldcInt hx hown (mvT hZ (hw _ (List.mem_of_getElem? (i := 28) rfl))) (g := (mkF m 49 #[.val (.int xa)] [(.int xa)])) rfl (hb hby d2_49) _ ?_
                show Steps p.tables e below (s₁.setTop (mkF m 51 #[.val (.int xa)] [(.int (1114111 : Int32)), (.int xa)])) _
                exact k
              by_cases hc51 : (1114111 : Int32) < xa
              · have pre12 : ∀ t, Steps p.tables e below (s₁.setTop (mkF m 59 #[.val (.int xa)] [(.int (0 : Int32))])) t → Steps p.tables e below (s₁.setTop (entryFrame m #[(.int xa)] 1)) t := by
                  intro t k
                  refine pre11 t ?_
                  refine XS.icmpYes X0.here hx rfl (pc0 := 51) (pc' := 58) rfl (hb hby d2_51) rfl (tlt hc51).2.2.1 (by decide) (by decide) ?_
                  show Steps p.tables e below (s₁.setTop (mkF m 58 #[.val (.int xa)] [])) _
                  refine XS.iconst X0.here hx rfl (hb hby d2_58) ?_
                  show Steps p.tables e below (s₁.setTop (mkF m 59 #[.val (.int xa)] [(.int (0 : Int32))])) _
                  exact k
                obtain ⟨fs, hr, hrun, hended, hW, hsame⟩ := X0.leave (v := some (.int (0 : Int32))) (fun h => by rw [Bd.returns] at h; cases h)
                refine ⟨_, _, pre12 _ ?_, hrun, hended, _, _, rfl, ?_, ⟨_, rfl⟩, hW, hsame.mono (by decide) (by decide)⟩
                · exact retN X0 hx (t := .boolean) Bd.returns (by simp) (hb hby d2_59) hr
                · show Q_rm_isXml Z xa h0 n0 _ s₁.heap _
                  rw [e0]
                  exact ⟨congrArg (fun z => some (Value.int z)) (show (0 : Int32) = (F_rm_isXml xa) from by rw [F_rm_isXml, if_neg hc3, if_neg hc9, if_neg hc15, if_pos hc21, if_pos hc33, if_neg hc45, if_pos hc51]), N0, rfl⟩
              · have pre13 : ∀ t, Steps p.tables e below (s₁.setTop (mkF m 59 #[.val (.int xa)] [(.int (1 : Int32))])) t → Steps p.tables e below (s₁.setTop (entryFrame m #[(.int xa)] 1)) t := by
                  intro t k
                  refine pre11 t ?_
                  refine XS.icmpNo X0.here hx rfl (hb hby d2_51) rfl (flt hc51).2.2.1 ?_
                  show Steps p.tables e below (s₁.setTop (mkF m 54 #[.val (.int xa)] [])) _
                  refine XS.iconst X0.here hx rfl (hb hby d2_54) ?_
                  show Steps p.tables e below (s₁.setTop (mkF m 55 #[.val (.int xa)] [(.int (1 : Int32))])) _
                  refine XS.goto X0.here hx rfl (pc0 := 55) (pc' := 59) rfl (hb hby d2_55) (by decide) (by decide) ?_
                  show Steps p.tables e below (s₁.setTop (mkF m 59 #[.val (.int xa)] [(.int (1 : Int32))])) _
                  exact k
                obtain ⟨fs, hr, hrun, hended, hW, hsame⟩ := X0.leave (v := some (.int (1 : Int32))) (fun h => by rw [Bd.returns] at h; cases h)
                refine ⟨_, _, pre13 _ ?_, hrun, hended, _, _, rfl, ?_, ⟨_, rfl⟩, hW, hsame.mono (by decide) (by decide)⟩
                · exact retN X0 hx (t := .boolean) Bd.returns (by simp) (hb hby d2_59) hr
                · show Q_rm_isXml Z xa h0 n0 _ s₁.heap _
                  rw [e0]
                  exact ⟨congrArg (fun z => some (Value.int z)) (show (1 : Int32) = (F_rm_isXml xa) from by rw [F_rm_isXml, if_neg hc3, if_neg hc9, if_neg hc15, if_pos hc21, if_pos hc33, if_neg hc45, if_neg hc51]), N0, rfl⟩
          · have pre14 : ∀ t, Steps p.tables e below (s₁.setTop (mkF m 39 #[.val (.int xa)] [(.int (65533 : Int32)), (.int xa)])) t → Steps p.tables e below (s₁.setTop (entryFrame m #[(.int xa)] 1)) t := by
              intro t k
              refine pre8 t ?_
              refine XS.icmpNo X0.here hx rfl (hb hby d2_33) rfl (flt hc33).1 ?_
              show Steps p.tables e below (s₁.setTop (mkF m 36 #[.val (.int xa)] [])) _
              refine XS.iloadN X0.here hx rfl (hb hby d2_36) rfl ?_
              show Steps p.tables e below (s₁.setTop (mkF m 37 #[.val (.int xa)] [(.int xa)])) _
              refine X0.ldcInt hx hown (mvT hZ (hw _ (List.mem_of_getElem? (i := 27) rfl))) (g := (mkF m 37 #[.val (.int xa)] [(.int xa)])) rfl (hb hby d2_37) _ ?_
              show Steps p.tables e below (s₁.setTop (mkF m 39 #[.val (.int xa)] [(.int (65533 : Int32)), (.int xa)])) _
              exact k
            by_cases hc39 : (65533 : Int32) < xa
            · have pre15 : ∀ t, Steps p.tables e below (s₁.setTop (mkF m 45 #[.val (.int xa)] [(.int (65536 : Int32)), (.int xa)])) t → Steps p.tables e below (s₁.setTop (entryFrame m #[(.int xa)] 1)) t := by
                intro t k
                refine pre14 t ?_
                refine XS.icmpNo X0.here hx rfl (hb hby d2_39) rfl (tlt hc39).2.2.2 ?_
                show Steps p.tables e below (s₁.setTop (mkF m 42 #[.val (.int xa)] [])) _
                refine XS.iloadN X0.here hx rfl (hb hby d2_42) rfl ?_
                show Steps p.tables e below (s₁.setTop (mkF m 43 #[.val (.int xa)] [(.int xa)])) _
                refine X0.ldcInt hx hown (mvT hZ (hw _ (List.mem_of_getElem? (i := 22) rfl))) (g := (mkF m 43 #[.val (.int xa)] [(.int xa)])) rfl (hb hby d2_43) _ ?_
                show Steps p.tables e below (s₁.setTop (mkF m 45 #[.val (.int xa)] [(.int (65536 : Int32)), (.int xa)])) _
                exact k
              by_cases hc45 : xa < (65536 : Int32)
              · have pre16 : ∀ t, Steps p.tables e below (s₁.setTop (mkF m 59 #[.val (.int xa)] [(.int (0 : Int32))])) t → Steps p.tables e below (s₁.setTop (entryFrame m #[(.int xa)] 1)) t := by
                  intro t k
                  refine pre15 t ?_
                  refine XS.icmpYes X0.here hx rfl (pc0 := 45) (pc' := 58) rfl (hb hby d2_45) rfl (tlt hc45).1 (by decide) (by decide) ?_
                  show Steps p.tables e below (s₁.setTop (mkF m 58 #[.val (.int xa)] [])) _
                  refine XS.iconst X0.here hx rfl (hb hby d2_58) ?_
                  show Steps p.tables e below (s₁.setTop (mkF m 59 #[.val (.int xa)] [(.int (0 : Int32))])) _
                  exact k
                obtain ⟨fs, hr, hrun, hended, hW, hsame⟩ := X0.leave (v := some (.int (0 : Int32))) (fun h => by rw [Bd.returns] at h; cases h)
                refine ⟨_, _, pre16 _ ?_, hrun, hended, _, _, rfl, ?_, ⟨_, rfl⟩, hW, hsame.mono (by decide) (by decide)⟩
                · exact retN X0 hx (t := .boolean) Bd.returns (by simp) (hb hby d2_59) hr
                · show Q_rm_isXml Z xa h0 n0 _ s₁.heap _
                  rw [e0]
                  exact ⟨congrArg (fun z => some (Value.int z)) (show (0 : Int32) = (F_rm_isXml xa) from by rw [F_rm_isXml, if_neg hc3, if_neg hc9, if_neg hc15, if_pos hc21, if_neg hc33, if_pos hc39, if_pos hc45]), N0, rfl⟩
              · have pre17 : ∀ t, Steps p.tables e below (s₁.setTop (mkF m 51 #[.val (.int xa)] [(.int (1114111 : Int32)), (.int xa)])) t → Steps p.tables e below (s₁.setTop (entryFrame m #[(.int xa)] 1)) t := by
                  intro t k
                  refine pre15 t ?_
                  refine XS.icmpNo X0.here hx rfl (hb hby d2_45) rfl (flt hc45).1 ?_
                  show Steps p.tables e below (s₁.setTop (mkF m 48 #[.val (.int xa)] [])) _
                  refine XS.iloadN X0.here hx rfl (hb hby d2_48) rfl ?_
                  show Steps p.tables e below (s₁.setTop (mkF m 49 #[.val (.int xa)] [(.int xa)])) _
                  refine X0.ldcInt hx hown (mvT hZ (hw _ (List.mem_of_getElem? (i := 28) rfl))) (g := (mkF m 49 #[.val (.int xa)] [(.int xa)])) rfl (hb hby d2_49) _ ?_
                  show Steps p.tables e below (s₁.setTop (mkF m 51 #[.val (.int xa)] [(.int (1114111 : Int32)), (.int xa)])) _
                  exact k
                by_cases hc51 : (1114111 : Int32) < xa
                · have pre18 : ∀ t, Steps p.tables e below (s₁.setTop (mkF m 59 #[.val (.int xa)] [(.int (0 : Int32))])) t → Steps p.tables e below (s₁.setTop (entryFrame m #[(.int xa)] 1)) t := by
                    intro t k
                    refine pre17 t ?_
                    refine XS.icmpYes X0.here hx rfl (pc0 := 51) (pc' := 58) rfl (hb hby d2_51) rfl (tlt hc51).2.2.1 (by decide) (by decide) ?_
                    show Steps p.tables e below (s₁.setTop (mkF m 58 #[.val (.int xa)] [])) _
                    refine XS.iconst X0.here hx rfl (hb hby d2_58) ?_
                    show Steps p.tables e below (s₁.setTop (mkF m 59 #[.val (.int xa)] [(.int (0 : Int32))])) _
                    exact k
                  obtain ⟨fs, hr, hrun, hended, hW, hsame⟩ := X0.leave (v := some (.int (0 : Int32))) (fun h => by rw [Bd.returns] at h; cases h)
                  refine ⟨_, _, pre18 _ ?_, hrun, hended, _, _, rfl, ?_, ⟨_, rfl⟩, hW, hsame.mono (by decide) (by decide)⟩
                  · exact retN X0 hx (t := .boolean) Bd.returns (by simp) (hb hby d2_59) hr
                  · show Q_rm_isXml Z xa h0 n0 _ s₁.heap _
                    rw [e0]
                    exact ⟨congrArg (fun z => some (Value.int z)) (show (0 : Int32) = (F_rm_isXml xa) from by rw [F_rm_isXml, if_neg hc3, if_neg hc9, if_neg hc15, if_pos hc21, if_neg hc33, if_pos hc39, if_neg hc45, if_pos hc51]), N0, rfl⟩
                · have pre19 : ∀ t, Steps p.tables e below (s₁.setTop (mkF m 59 #[.val (.int xa)] [(.int (1 : Int32))])) t → Steps p.tables e below (s₁.setTop (entryFrame m #[(.int xa)] 1)) t := by
                    intro t k
                    refine pre17 t ?_
                    refine XS.icmpNo X0.here hx rfl (hb hby d2_51) rfl (flt hc51).2.2.1 ?_
                    show Steps p.tables e below (s₁.setTop (mkF m 54 #[.val (.int xa)] [])) _
                    refine XS.iconst X0.here hx rfl (hb hby d2_54) ?_
                    show Steps p.tables e below (s₁.setTop (mkF m 55 #[.val (.int xa)] [(.int (1 : Int32))])) _
                    refine XS.goto X0.here hx rfl (pc0 := 55) (pc' := 59) rfl (hb hby d2_55) (by decide) (by decide) ?_
                    show Steps p.tables e below (s₁.setTop (mkF m 59 #[.val (.int xa)] [(.int (1 : Int32))])) _
                    exact k
                  obtain ⟨fs, hr, hrun, hended, hW, hsame⟩ := X0.leave (v := some (.int (1 : Int32))) (fun h => by rw [Bd.returns] at h; cases h)
                  refine ⟨_, _, pre19 _ ?_, hrun, hended, _, _, rfl, ?_, ⟨_, rfl⟩, hW, hsame.mono (by decide) (by decide)⟩
                  · exact retN X0 hx (t := .boolean) Bd.returns (by simp) (hb hby d2_59) hr
                  · show Q_rm_isXml Z xa h0 n0 _ s₁.heap _
                    rw [e0]
                    exact ⟨congrArg (fun z => some (Value.int z)) (show (1 : Int32) = (F_rm_isXml xa) from by rw [F_rm_isXml, if_neg hc3, if_neg hc9, if_neg hc15, if_pos hc21, if_neg hc33, if_pos hc39, if_neg hc45, if_neg hc51]), N0, rfl⟩
            · have pre20 : ∀ t, Steps p.tables e below (s₁.setTop (mkF m 59 #[.val (.int xa)] [(.int (1 : Int32))])) t → Steps p.tables e below (s₁.setTop (entryFrame m #[(.int xa)] 1)) t := by
                intro t k
                refine pre14 t ?_
                refine XS.icmpYes X0.here hx rfl (pc0 := 39) (pc' := 54) rfl (hb hby d2_39) rfl (flt hc39).2.2.2 (by decide) (by decide) ?_
                show Steps p.tables e below (s₁.setTop (mkF m 54 #[.val (.int xa)] [])) _
                refine XS.iconst X0.here hx rfl (hb hby d2_54) ?_
                show Steps p.tables e below (s₁.setTop (mkF m 55 #[.val (.int xa)] [(.int (1 : Int32))])) _
                refine XS.goto X0.here hx rfl (pc0 := 55) (pc' := 59) rfl (hb hby d2_55) (by decide) (by decide) ?_
                show Steps p.tables e below (s₁.setTop (mkF m 59 #[.val (.int xa)] [(.int (1 : Int32))])) _
                exact k
              obtain ⟨fs, hr, hrun, hended, hW, hsame⟩ := X0.leave (v := some (.int (1 : Int32))) (fun h => by rw [Bd.returns] at h; cases h)
              refine ⟨_, _, pre20 _ ?_, hrun, hended, _, _, rfl, ?_, ⟨_, rfl⟩, hW, hsame.mono (by decide) (by decide)⟩
              · exact retN X0 hx (t := .boolean) Bd.returns (by simp) (hb hby d2_59) hr
              · show Q_rm_isXml Z xa h0 n0 _ s₁.heap _
                rw [e0]
                exact ⟨congrArg (fun z => some (Value.int z)) (show (1 : Int32) = (F_rm_isXml xa) from by rw [F_rm_isXml, if_neg hc3, if_neg hc9, if_neg hc15, if_pos hc21, if_neg hc33, if_neg hc39]), N0, rfl⟩
        · have pre21 : ∀ t, Steps p.tables e below (s₁.setTop (mkF m 27 #[.val (.int xa)] [(.int (55295 : Int32)), (.int xa)])) t → Steps p.tables e below (s₁.setTop (entryFrame m #[(.int xa)] 1)) t := by
            intro t k
            refine pre7 t ?_
            refine XS.icmpNo X0.here hx rfl (hb hby d2_21) rfl (flt hc21).1 ?_
            show Steps p.tables e below (s₁.setTop (mkF m 24 #[.val (.int xa)] [])) _
            refine XS.iloadN X0.here hx rfl (hb hby d2_24) rfl ?_
            show Steps p.tables e below (s₁.setTop (mkF m 25 #[.val (.int xa)] [(.int xa)])) _
            refine X0.ldcInt hx hown (mvT hZ (hw _ (List.mem_of_getElem? (i := 26) rfl))) (g := (mkF m 25 #[.val (.int xa)] [(.int xa)])) rfl (hb hby d2_25) _ ?_
            show Steps p.tables e below (s₁.setTop (mkF m 27 #[.val (.int xa)] [(.int (55295 : Int32)), (.int xa)])) _
            exact k
          by_cases hc27 : (55295 : Int32) < xa
          · have pre22 : ∀ t, Steps p.tables e below (s₁.setTop (mkF m 33 #[.val (.int xa)] [(.int (57344 : Int32)), (.int xa)])) t → Steps p.tables e below (s₁.setTop (entryFrame m #[(.int xa)] 1)) t := by
              intro t k
              refine pre21 t ?_
              refine XS.icmpNo X0.here hx rfl (hb hby d2_27) rfl (tlt hc27).2.2.2 ?_
              show Steps p.tables e below (s₁.setTop (mkF m 30 #[.val (.int xa)] [])) _
              refine XS.iloadN X0.here hx rfl (hb hby d2_30) rfl ?_
              show Steps p.tables e below (s₁.setTop (mkF m 31 #[.val (.int xa)] [(.int xa)])) _
              refine X0.ldcInt hx hown (mvT hZ (hw _ (List.mem_of_getElem? (i := 21) rfl))) (g := (mkF m 31 #[.val (.int xa)] [(.int xa)])) rfl (hb hby d2_31) _ ?_
              show Steps p.tables e below (s₁.setTop (mkF m 33 #[.val (.int xa)] [(.int (57344 : Int32)), (.int xa)])) _
              exact k
            by_cases hc33 : xa < (57344 : Int32)
            · have pre23 : ∀ t, Steps p.tables e below (s₁.setTop (mkF m 45 #[.val (.int xa)] [(.int (65536 : Int32)), (.int xa)])) t → Steps p.tables e below (s₁.setTop (entryFrame m #[(.int xa)] 1)) t := by
                intro t k
                refine pre22 t ?_
                refine XS.icmpYes X0.here hx rfl (pc0 := 33) (pc' := 42) rfl (hb hby d2_33) rfl (tlt hc33).1 (by decide) (by decide) ?_
                show Steps p.tables e below (s₁.setTop (mkF m 42 #[.val (.int xa)] [])) _
                refine XS.iloadN X0.here hx rfl (hb hby d2_42) rfl ?_
                show Steps p.tables e below (s₁.setTop (mkF m 43 #[.val (.int xa)] [(.int xa)])) _
                refine X0.ldcInt hx hown (mvT hZ (hw _ (List.mem_of_getElem? (i := 22) rfl))) (g := (mkF m 43 #[.val (.int xa)] [(.int xa)])) rfl (hb hby d2_43) _ ?_
                show Steps p.tables e below (s₁.setTop (mkF m 45 #[.val (.int xa)] [(.int (65536 : Int32)), (.int xa)])) _
                exact k
              by_cases hc45 : xa < (65536 : Int32)
              · have pre24 : ∀ t, Steps p.tables e below (s₁.setTop (mkF m 59 #[.val (.int xa)] [(.int (0 : Int32))])) t → Steps p.tables e below (s₁.setTop (entryFrame m #[(.int xa)] 1)) t := by
                  intro t k
                  refine pre23 t ?_
                  refine XS.icmpYes X0.here hx rfl (pc0 := 45) (pc' := 58) rfl (hb hby d2_45) rfl (tlt hc45).1 (by decide) (by decide) ?_
                  show Steps p.tables e below (s₁.setTop (mkF m 58 #[.val (.int xa)] [])) _
                  refine XS.iconst X0.here hx rfl (hb hby d2_58) ?_
                  show Steps p.tables e below (s₁.setTop (mkF m 59 #[.val (.int xa)] [(.int (0 : Int32))])) _
                  exact k
                obtain ⟨fs, hr, hrun, hended, hW, hsame⟩ := X0.leave (v := some (.int (0 : Int32))) (fun h => by rw [Bd.returns] at h; cases h)
                refine ⟨_, _, pre24 _ ?_, hrun, hended, _, _, rfl, ?_, ⟨_, rfl⟩, hW, hsame.mono (by decide) (by decide)⟩
                · exact retN X0 hx (t := .boolean) Bd.returns (by simp) (hb hby d2_59) hr
                · show Q_rm_isXml Z xa h0 n0 _ s₁.heap _
                  rw [e0]
                  exact ⟨congrArg (fun z => some (Value.int z)) (show (0 : Int32) = (F_rm_isXml xa) from by rw [F_rm_isXml, if_neg hc3, if_neg hc9, if_neg hc15, if_neg hc21, if_pos hc27, if_pos hc33, if_pos hc45]), N0, rfl⟩
              · have pre25 : ∀ t, Steps p.tables e below (s₁.setTop (mkF m 51 #[.val (.int xa)] [(.int (1114111 : Int32)), (.int xa)])) t → Steps p.tables e below (s₁.setTop (entryFrame m #[(.int xa)] 1)) t := by
                  intro t k
                  refine pre23 t ?_
                  refine XS.icmpNo X0.here hx rfl (hb hby d2_45) rfl (flt hc45).1 ?_
                  show Steps p.tables e below (s₁.setTop (mkF m 48 #[.val (.int xa)] [])) _
                  refine XS.iloadN X0.here hx rfl (hb hby d2_48) rfl ?_
                  show Steps p.tables e below (s₁.setTop (mkF m 49 #[.val (.int xa)] [(.int xa)])) _
                  refine X0.ldcInt hx hown (mvT hZ (hw _ (List.mem_of_getElem? (i := 28) rfl))) (g := (mkF m 49 #[.val (.int xa)] [(.int xa)])) rfl (hb hby d2_49) _ ?_
                  show Steps p.tables e below (s₁.setTop (mkF m 51 #[.val (.int xa)] [(.int (1114111 : Int32)), (.int xa)])) _
                  exact k
                by_cases hc51 : (1114111 : Int32) < xa
                · have pre26 : ∀ t, Steps p.tables e below (s₁.setTop (mkF m 59 #[.val (.int xa)] [(.int (0 : Int32))])) t → Steps p.tables e below (s₁.setTop (entryFrame m #[(.int xa)] 1)) t := by
                    intro t k
                    refine pre25 t ?_
                    refine XS.icmpYes X0.here hx rfl (pc0 := 51) (pc' := 58) rfl (hb hby d2_51) rfl (tlt hc51).2.2.1 (by decide) (by decide) ?_
                    show Steps p.tables e below (s₁.setTop (mkF m 58 #[.val (.int xa)] [])) _
                    refine XS.iconst X0.here hx rfl (hb hby d2_58) ?_
                    show Steps p.tables e below (s₁.setTop (mkF m 59 #[.val (.int xa)] [(.int (0 : Int32))])) _
                    exact k
                  obtain ⟨fs, hr, hrun, hended, hW, hsame⟩ := X0.leave (v := some (.int (0 : Int32))) (fun h => by rw [Bd.returns] at h; cases h)
                  refine ⟨_, _, pre26 _ ?_, hrun, hended, _, _, rfl, ?_, ⟨_, rfl⟩, hW, hsame.mono (by decide) (by decide)⟩
                  · exact retN X0 hx (t := .boolean) Bd.returns (by simp) (hb hby d2_59) hr
                  · show Q_rm_isXml Z xa h0 n0 _ s₁.heap _
                    rw [e0]
                    exact ⟨congrArg (fun z => some (Value.int z)) (show (0 : Int32) = (F_rm_isXml xa) from by rw [F_rm_isXml, if_neg hc3, if_neg hc9, if_neg hc15, if_neg hc21, if_pos hc27, if_pos hc33, if_neg hc45, if_pos hc51]), N0, rfl⟩
                · have pre27 : ∀ t, Steps p.tables e below (s₁.setTop (mkF m 59 #[.val (.int xa)] [(.int (1 : Int32))])) t → Steps p.tables e below (s₁.setTop (entryFrame m #[(.int xa)] 1)) t := by
                    intro t k
                    refine pre25 t ?_
                    refine XS.icmpNo X0.here hx rfl (hb hby d2_51) rfl (flt hc51).2.2.1 ?_
                    show Steps p.tables e below (s₁.setTop (mkF m 54 #[.val (.int xa)] [])) _
                    refine XS.iconst X0.here hx rfl (hb hby d2_54) ?_
                    show Steps p.tables e below (s₁.setTop (mkF m 55 #[.val (.int xa)] [(.int (1 : Int32))])) _
                    refine XS.goto X0.here hx rfl (pc0 := 55) (pc' := 59) rfl (hb hby d2_55) (by decide) (by decide) ?_
                    show Steps p.tables e below (s₁.setTop (mkF m 59 #[.val (.int xa)] [(.int (1 : Int32))])) _
                    exact k
                  obtain ⟨fs, hr, hrun, hended, hW, hsame⟩ := X0.leave (v := some (.int (1 : Int32))) (fun h => by rw [Bd.returns] at h; cases h)
                  refine ⟨_, _, pre27 _ ?_, hrun, hended, _, _, rfl, ?_, ⟨_, rfl⟩, hW, hsame.mono (by decide) (by decide)⟩
                  · exact retN X0 hx (t := .boolean) Bd.returns (by simp) (hb hby d2_59) hr
                  · show Q_rm_isXml Z xa h0 n0 _ s₁.heap _
                    rw [e0]
                    exact ⟨congrArg (fun z => some (Value.int z)) (show (1 : Int32) = (F_rm_isXml xa) from by rw [F_rm_isXml, if_neg hc3, if_neg hc9, if_neg hc15, if_neg hc21, if_pos hc27, if_pos hc33, if_neg hc45, if_neg hc51]), N0, rfl⟩
            · have pre28 : ∀ t, Steps p.tables e below (s₁.setTop (mkF m 39 #[.val (.int xa)] [(.int (65533 : Int32)), (.int xa)])) t → Steps p.tables e below (s₁.setTop (entryFrame m #[(.int xa)] 1)) t := by
                intro t k
                refine pre22 t ?_
                refine XS.icmpNo X0.here hx rfl (hb hby d2_33) rfl (flt hc33).1 ?_
                show Steps p.tables e below (s₁.setTop (mkF m 36 #[.val (.int xa)] [])) _
                refine XS.iloadN X0.here hx rfl (hb hby d2_36) rfl ?_
                show Steps p.tables e below (s₁.setTop (mkF m 37 #[.val (.int xa)] [(.int xa)])) _
                refine X0.ldcInt hx hown (mvT hZ (hw _ (List.mem_of_getElem? (i := 27) rfl))) (g := (mkF m 37 #[.val (.int xa)] [(.int xa)])) rfl (hb hby d2_37) _ ?_
                show Steps p.tables e below (s₁.setTop (mkF m 39 #[.val (.int xa)] [(.int (65533 : Int32)), (.int xa)])) _
                exact k
              by_cases hc39 : (65533 : Int32) < xa
              · have pre29 : ∀ t, Steps p.tables e below (s₁.setTop (mkF m 45 #[.val (.int xa)] [(.int (65536 : Int32)), (.int xa)])) t → Steps p.tables e below (s₁.setTop (entryFrame m #[(.int xa)] 1)) t := by
                  intro t k
                  refine pre28 t ?_
                  refine XS.icmpNo X0.here hx rfl (hb hby d2_39) rfl (tlt hc39).2.2.2 ?_
                  show Steps p.tables e below (s₁.setTop (mkF m 42 #[.val (.int xa)] [])) _
                  refine XS.iloadN X0.here hx rfl (hb hby d2_42) rfl ?_
                  show Steps p.tables e below (s₁.setTop (mkF m 43 #[.val (.int xa)] [(.int xa)])) _
                  refine X0.ldcInt hx hown (mvT hZ (hw _ (List.mem_of_getElem? (i := 22) rfl))) (g := (mkF m 43 #[.val (.int xa)] [(.int xa)])) rfl (hb hby d2_43) _ ?_
                  show Steps p.tables e below (s₁.setTop (mkF m 45 #[.val (.int xa)] [(.int (65536 : Int32)), (.int xa)])) _
                  exact k
                by_cases hc45 : xa < (65536 : Int32)
                · have pre30 : ∀ t, Steps p.tables e below (s₁.setTop (mkF m 59 #[.val (.int xa)] [(.int (0 : Int32))])) t → Steps p.tables e below (s₁.setTop (entryFrame m #[(.int xa)] 1)) t := by
                    intro t k
                    refine pre29 t ?_
                    refine XS.icmpYes X0.here hx rfl (pc0 := 45) (pc' := 58) rfl (hb hby d2_45) rfl (tlt hc45).1 (by decide) (by decide) ?_
                    show Steps p.tables e below (s₁.setTop (mkF m 58 #[.val (.int xa)] [])) _
                    refine XS.iconst X0.here hx rfl (hb hby d2_58) ?_
                    show Steps p.tables e below (s₁.setTop (mkF m 59 #[.val (.int xa)] [(.int (0 : Int32))])) _
                    exact k
                  obtain ⟨fs, hr, hrun, hended, hW, hsame⟩ := X0.leave (v := some (.int (0 : Int32))) (fun h => by rw [Bd.returns] at h; cases h)
                  refine ⟨_, _, pre30 _ ?_, hrun, hended, _, _, rfl, ?_, ⟨_, rfl⟩, hW, hsame.mono (by decide) (by decide)⟩
                  · exact retN X0 hx (t := .boolean) Bd.returns (by simp) (hb hby d2_59) hr
                  · show Q_rm_isXml Z xa h0 n0 _ s₁.heap _
                    rw [e0]
                    exact ⟨congrArg (fun z => some (Value.int z)) (show (0 : Int32) = (F_rm_isXml xa) from by rw [F_rm_isXml, if_neg hc3, if_neg hc9, if_neg hc15, if_neg hc21, if_pos hc27, if_neg hc33, if_pos hc39, if_pos hc45]), N0, rfl⟩
                · have pre31 : ∀ t, Steps p.tables e below (s₁.setTop (mkF m 51 #[.val (.int xa)] [(.int (1114111 : Int32)), (.int xa)])) t → Steps p.tables e below (s₁.setTop (entryFrame m #[(.int xa)] 1)) t := by
                    intro t k
                    refine pre29 t ?_
                    refine XS.icmpNo X0.here hx rfl (hb hby d2_45) rfl (flt hc45).1 ?_
                    show Steps p.tables e below (s₁.setTop (mkF m 48 #[.val (.int xa)] [])) _
                    refine XS.iloadN X0.here hx rfl (hb hby d2_48) rfl ?_
                    show Steps p.tables e below (s₁.setTop (mkF m 49 #[.val (.int xa)] [(.int xa)])) _
                    refine X0.ldcInt hx hown (mvT hZ (hw _ (List.mem_of_getElem? (i := 28) rfl))) (g := (mkF m 49 #[.val (.int xa)] [(.int xa)])) rfl (hb hby d2_49) _ ?_
                    show Steps p.tables e below (s₁.setTop (mkF m 51 #[.val (.int xa)] [(.int (1114111 : Int32)), (.int xa)])) _
                    exact k
                  by_cases hc51 : (1114111 : Int32) < xa
                  · have pre32 : ∀ t, Steps p.tables e below (s₁.setTop (mkF m 59 #[.val (.int xa)] [(.int (0 : Int32))])) t → Steps p.tables e below (s₁.setTop (entryFrame m #[(.int xa)] 1)) t := by
                      intro t k
                      refine pre31 t ?_
                      refine XS.icmpYes X0.here hx rfl (pc0 := 51) (pc' := 58) rfl (hb hby d2_51) rfl (tlt hc51).2.2.1 (by decide) (by decide) ?_
                      show Steps p.tables e below (s₁.setTop (mkF m 58 #[.val (.int xa)] [])) _
                      refine XS.iconst X0.here hx rfl (hb hby d2_58) ?_
                      show Steps p.tables e below (s₁.setTop (mkF m 59 #[.val (.int xa)] [(.int (0 : Int32))])) _
                      exact k
                    obtain ⟨fs, hr, hrun, hended, hW, hsame⟩ := X0.leave (v := some (.int (0 : Int32))) (fun h => by rw [Bd.returns] at h; cases h)
                    refine ⟨_, _, pre32 _ ?_, hrun, hended, _, _, rfl, ?_, ⟨_, rfl⟩, hW, hsame.mono (by decide) (by decide)⟩
                    · exact retN X0 hx (t := .boolean) Bd.returns (by simp) (hb hby d2_59) hr
                    · show Q_rm_isXml Z xa h0 n0 _ s₁.heap _
                      rw [e0]
                      exact ⟨congrArg (fun z => some (Value.int z)) (show (0 : Int32) = (F_rm_isXml xa) from by rw [F_rm_isXml, if_neg hc3, if_neg hc9, if_neg hc15, if_neg hc21, if_pos hc27, if_neg hc33, if_pos hc39, if_neg hc45, if_pos hc51]), N0, rfl⟩
                  · have pre33 : ∀ t, Steps p.tables e below (s₁.setTop (mkF m 59 #[.val (.int xa)] [(.int (1 : Int32))])) t → Steps p.tables e below (s₁.setTop (entryFrame m #[(.int xa)] 1)) t := by
                      intro t k
                      refine pre31 t ?_
                      refine XS.icmpNo X0.here hx rfl (hb hby d2_51) rfl (flt hc51).2.2.1 ?_
                      show Steps p.tables e below (s₁.setTop (mkF m 54 #[.val (.int xa)] [])) _
                      refine XS.iconst X0.here hx rfl (hb hby d2_54) ?_
                      show Steps p.tables e below (s₁.setTop (mkF m 55 #[.val (.int xa)] [(.int (1 : Int32))])) _
                      refine XS.goto X0.here hx rfl (pc0 := 55) (pc' := 59) rfl (hb hby d2_55) (by decide) (by decide) ?_
                      show Steps p.tables e below (s₁.setTop (mkF m 59 #[.val (.int xa)] [(.int (1 : Int32))])) _
                      exact k
                    obtain ⟨fs, hr, hrun, hended, hW, hsame⟩ := X0.leave (v := some (.int (1 : Int32))) (fun h => by rw [Bd.returns] at h; cases h)
                    refine ⟨_, _, pre33 _ ?_, hrun, hended, _, _, rfl, ?_, ⟨_, rfl⟩, hW, hsame.mono (by decide) (by decide)⟩
                    · exact retN X0 hx (t := .boolean) Bd.returns (by simp) (hb hby d2_59) hr
                    · show Q_rm_isXml Z xa h0 n0 _ s₁.heap _
                      rw [e0]
                      exact ⟨congrArg (fun z => some (Value.int z)) (show (1 : Int32) = (F_rm_isXml xa) from by rw [F_rm_isXml, if_neg hc3, if_neg hc9, if_neg hc15, if_neg hc21, if_pos hc27, if_neg hc33, if_pos hc39, if_neg hc45, if_neg hc51]), N0, rfl⟩
              · have pre34 : ∀ t, Steps p.tables e below (s₁.setTop (mkF m 59 #[.val (.int xa)] [(.int (1 : Int32))])) t → Steps p.tables e below (s₁.setTop (entryFrame m #[(.int xa)] 1)) t := by
                  intro t k
                  refine pre28 t ?_
                  refine XS.icmpYes X0.here hx rfl (pc0 := 39) (pc' := 54) rfl (hb hby d2_39) rfl (flt hc39).2.2.2 (by decide) (by decide) ?_
                  show Steps p.tables e below (s₁.setTop (mkF m 54 #[.val (.int xa)] [])) _
                  refine XS.iconst X0.here hx rfl (hb hby d2_54) ?_
                  show Steps p.tables e below (s₁.setTop (mkF m 55 #[.val (.int xa)] [(.int (1 : Int32))])) _
                  refine XS.goto X0.here hx rfl (pc0 := 55) (pc' := 59) rfl (hb hby d2_55) (by decide) (by decide) ?_
                  show Steps p.tables e below (s₁.setTop (mkF m 59 #[.val (.int xa)] [(.int (1 : Int32))])) _
                  exact k
                obtain ⟨fs, hr, hrun, hended, hW, hsame⟩ := X0.leave (v := some (.int (1 : Int32))) (fun h => by rw [Bd.returns] at h; cases h)
                refine ⟨_, _, pre34 _ ?_, hrun, hended, _, _, rfl, ?_, ⟨_, rfl⟩, hW, hsame.mono (by decide) (by decide)⟩
                · exact retN X0 hx (t := .boolean) Bd.returns (by simp) (hb hby d2_59) hr
                · show Q_rm_isXml Z xa h0 n0 _ s₁.heap _
                  rw [e0]
                  exact ⟨congrArg (fun z => some (Value.int z)) (show (1 : Int32) = (F_rm_isXml xa) from by rw [F_rm_isXml, if_neg hc3, if_neg hc9, if_neg hc15, if_neg hc21, if_pos hc27, if_neg hc33, if_neg hc39]), N0, rfl⟩
          · have pre35 : ∀ t, Steps p.tables e below (s₁.setTop (mkF m 59 #[.val (.int xa)] [(.int (1 : Int32))])) t → Steps p.tables e below (s₁.setTop (entryFrame m #[(.int xa)] 1)) t := by
              intro t k
              refine pre21 t ?_
              refine XS.icmpYes X0.here hx rfl (pc0 := 27) (pc' := 54) rfl (hb hby d2_27) rfl (flt hc27).2.2.2 (by decide) (by decide) ?_
              show Steps p.tables e below (s₁.setTop (mkF m 54 #[.val (.int xa)] [])) _
              refine XS.iconst X0.here hx rfl (hb hby d2_54) ?_
              show Steps p.tables e below (s₁.setTop (mkF m 55 #[.val (.int xa)] [(.int (1 : Int32))])) _
              refine XS.goto X0.here hx rfl (pc0 := 55) (pc' := 59) rfl (hb hby d2_55) (by decide) (by decide) ?_
              show Steps p.tables e below (s₁.setTop (mkF m 59 #[.val (.int xa)] [(.int (1 : Int32))])) _
              exact k
            obtain ⟨fs, hr, hrun, hended, hW, hsame⟩ := X0.leave (v := some (.int (1 : Int32))) (fun h => by rw [Bd.returns] at h; cases h)
            refine ⟨_, _, pre35 _ ?_, hrun, hended, _, _, rfl, ?_, ⟨_, rfl⟩, hW, hsame.mono (by decide) (by decide)⟩
            · exact retN X0 hx (t := .boolean) Bd.returns (by simp) (hb hby d2_59) hr
            · show Q_rm_isXml Z xa h0 n0 _ s₁.heap _
              rw [e0]
              exact ⟨congrArg (fun z => some (Value.int z)) (show (1 : Int32) = (F_rm_isXml xa) from by rw [F_rm_isXml, if_neg hc3, if_neg hc9, if_neg hc15, if_neg hc21, if_neg hc27]), N0, rfl⟩
theorem d3_0 : decode method_2_code 0 = .ok (.iload_n 0, 1) := by decide +kernel
theorem d3_1 : decode method_2_code 1 = .ok (.ifCond .ge 5, 3) := by decide +kernel
theorem d3_4 : decode method_2_code 4 = .ok (.iconst 1, 1) := by decide +kernel
theorem d3_5 : decode method_2_code 5 = .ok (.ireturn, 1) := by decide +kernel
theorem d3_6 : decode method_2_code 6 = .ok (.iload_n 0, 1) := by decide +kernel
theorem d3_7 : decode method_2_code 7 = .ok (.bipush 8, 2) := by decide +kernel
theorem d3_9 : decode method_2_code 9 = .ok (.if_icmp .gt 5, 3) := by decide +kernel
theorem d3_14 : decode method_2_code 14 = .ok (.iload_n 0, 1) := by decide +kernel
theorem d3_15 : decode method_2_code 15 = .ok (.bipush 11, 2) := by decide +kernel
theorem d3_17 : decode method_2_code 17 = .ok (.if_icmp .eq 9, 3) := by decide +kernel
theorem d3_26 : decode method_2_code 26 = .ok (.iconst 1, 1) := by decide +kernel
theorem d3_27 : decode method_2_code 27 = .ok (.ireturn, 1) := by decide +kernel
theorem d3_20 : decode method_2_code 20 = .ok (.iload_n 0, 1) := by decide +kernel
theorem d3_21 : decode method_2_code 21 = .ok (.bipush 12, 2) := by decide +kernel
theorem d3_23 : decode method_2_code 23 = .ok (.if_icmp .ne 5, 3) := by decide +kernel
theorem d3_28 : decode method_2_code 28 = .ok (.iload_n 0, 1) := by decide +kernel
theorem d3_29 : decode method_2_code 29 = .ok (.bipush 14, 2) := by decide +kernel
theorem d3_31 : decode method_2_code 31 = .ok (.if_icmp .lt 11, 3) := by decide +kernel
theorem d3_42 : decode method_2_code 42 = .ok (.iload_n 0, 1) := by decide +kernel
theorem d3_43 : decode method_2_code 43 = .ok (.ldc 7, 2) := by decide +kernel
theorem d3_45 : decode method_2_code 45 = .ok (.if_icmp .lt 11, 3) := by decide +kernel
theorem d3_56 : decode method_2_code 56 = .ok (.iload_n 0, 1) := by decide +kernel
theorem d3_57 : decode method_2_code 57 = .ok (.ldc 9, 2) := by decide +kernel
theorem d3_59 : decode method_2_code 59 = .ok (.if_icmp .eq 9, 3) := by decide +kernel
theorem d3_68 : decode method_2_code 68 = .ok (.iconst 1, 1) := by decide +kernel
theorem d3_69 : decode method_2_code 69 = .ok (.ireturn, 1) := by decide +kernel
theorem d3_62 : decode method_2_code 62 = .ok (.iload_n 0, 1) := by decide +kernel
theorem d3_63 : decode method_2_code 63 = .ok (.ldc 10, 2) := by decide +kernel
theorem d3_65 : decode method_2_code 65 = .ok (.if_icmp .ne 5, 3) := by decide +kernel
theorem d3_70 : decode method_2_code 70 = .ok (.iload_n 0, 1) := by decide +kernel
theorem d3_71 : decode method_2_code 71 = .ok (.ldc 11, 2) := by decide +kernel
theorem d3_73 : decode method_2_code 73 = .ok (.if_icmp .le 7, 3) := by decide +kernel
theorem d3_76 : decode method_2_code 76 = .ok (.iconst 1, 1) := by decide +kernel
theorem d3_77 : decode method_2_code 77 = .ok (.goto 4, 3) := by decide +kernel
theorem d3_81 : decode method_2_code 81 = .ok (.ireturn, 1) := by decide +kernel
theorem d3_80 : decode method_2_code 80 = .ok (.iconst 0, 1) := by decide +kernel
theorem d3_48 : decode method_2_code 48 = .ok (.iload_n 0, 1) := by decide +kernel
theorem d3_49 : decode method_2_code 49 = .ok (.ldc 8, 2) := by decide +kernel
theorem d3_51 : decode method_2_code 51 = .ok (.if_icmp .gt 5, 3) := by decide +kernel
theorem d3_54 : decode method_2_code 54 = .ok (.iconst 1, 1) := by decide +kernel
theorem d3_55 : decode method_2_code 55 = .ok (.ireturn, 1) := by decide +kernel
theorem d3_34 : decode method_2_code 34 = .ok (.iload_n 0, 1) := by decide +kernel
theorem d3_35 : decode method_2_code 35 = .ok (.bipush 31, 2) := by decide +kernel
theorem d3_37 : decode method_2_code 37 = .ok (.if_icmp .gt 5, 3) := by decide +kernel
theorem d3_40 : decode method_2_code 40 = .ok (.iconst 1, 1) := by decide +kernel
theorem d3_41 : decode method_2_code 41 = .ok (.ireturn, 1) := by decide +kernel
theorem d3_12 : decode method_2_code 12 = .ok (.iconst 1, 1) := by decide +kernel
theorem d3_13 : decode method_2_code 13 = .ok (.ireturn, 1) := by decide +kernel
theorem pn1 : plainName "com/example/feuillet/feuillet/build/XmlWriterIsXmlCharacterPinLaw" = true := by first | (simp [plainName, overriddenIn]; done) | decide +kernel
def F_rm_excl (xa : Int32) : Int32 := (if xa < (0 : Int32) then (1 : Int32) else (if (8 : Int32) < xa then (if xa = (11 : Int32) then (1 : Int32) else (if xa = (12 : Int32) then (1 : Int32) else (if xa < (14 : Int32) then (if xa < (55296 : Int32) then (if xa = (65534 : Int32) then (1 : Int32) else (if xa = (65535 : Int32) then (1 : Int32) else (if (1114111 : Int32) < xa then (1 : Int32) else (0 : Int32)))) else (if (57343 : Int32) < xa then (if xa = (65534 : Int32) then (1 : Int32) else (if xa = (65535 : Int32) then (1 : Int32) else (if (1114111 : Int32) < xa then (1 : Int32) else (0 : Int32)))) else (1 : Int32))) else (if (31 : Int32) < xa then (if xa < (55296 : Int32) then (if xa = (65534 : Int32) then (1 : Int32) else (if xa = (65535 : Int32) then (1 : Int32) else (if (1114111 : Int32) < xa then (1 : Int32) else (0 : Int32)))) else (if (57343 : Int32) < xa then (if xa = (65534 : Int32) then (1 : Int32) else (if xa = (65535 : Int32) then (1 : Int32) else (if (1114111 : Int32) < xa then (1 : Int32) else (0 : Int32)))) else (1 : Int32))) else (1 : Int32))))) else (1 : Int32)))
theorem ef_rm_excl (m : MethodId) (xa : Int32) : entryFrame m #[(.int xa)] 1 = mkF m 0 #[.val (.int xa)] [] := by first | (simp [entryFrame, mkF, argsToLocals, Value.category]; done) | rfl
def Q_rm_excl (Z : State) (xa : Int32) (h0 : Heap) (n0 : Nat) (v : Option Value) (h : Heap) (L : List Loc) : Prop := v = some (.int (F_rm_excl xa)) ∧ Fr n0 L ∧ h = h0
set_option maxRecDepth 65536 in
set_option maxHeartbeats 40000000 in
theorem rm_excl (l : Launch) (Z : State) (a0 : Array Value) (hw : ∀ d ∈ tables_1, d.before a0 Z = true) (ws : List Jvm.Cond) (xa : Int32) (h0 : Heap) (n0 : Nat) (Z0 : n0 ≤ h0.size) :
    MetFree l (⟨"com/example/feuillet/feuillet/build/XmlWriterIsXmlCharacterPinLaw", "excluded", "(I)Z"⟩ : MethodName) (head1 (Jvm.Cond.code (⟨"com/example/feuillet/feuillet/build/XmlWriterIsXmlCharacterPinLaw", "excluded", "(I)Z"⟩ : MethodName) method_2_code 1 (some .boolean) :: ws) ({ frames := 0, cells := 0, slots := 0, locals := 0 } : Room)) (fun a U => a = #[(.int xa)] ∧ Z.Warmed39 U.vm ∧ U.heap = h0) (fun _ _ _ _ _ => True) (fun _ U o U' => ∃ v L, o = .returned v ∧ Q_rm_excl Z xa h0 n0 v U'.heap L ∧ FrameEnd U o U' L ({ frames := 0, cells := 0, slots := 0, locals := 0 } : Room).cells ({ frames := 0, cells := 0, slots := 0, locals := 0 } : Room).slots) := by
  refine MetFree.of_bodySF (plainFor_of_name pn1) hisR ?_
  intro p e s m args below meth c s₁ Bd hml0 hP hK
  obtain ⟨rfl, hZ, hh⟩ := hP
  have hx := Bd.exec
  have hby := Bd.bytes
  have hml : c.maxLocals = 1 := hml0
  have hown : s.vm.findClass "com/example/feuillet/feuillet/build/XmlWriterIsXmlCharacterPinLaw" = some m.cls := findClass_of_methodNamed Bd.named
  have hnm := (name_of_methodNamed Bd.named Bd.method).1
  have X0 : Stand p l e ({ frames := 0, cells := 0, slots := 0, locals := 0 } : Room) s m #[(.int xa)] below meth c s₁ [] 0 0 := Stand.of_body Bd
  have e0 : s₁.heap = h0 := by rw [← hh, Bd.state]; rfl
  have N0 := Fr.nil n0
  have pre0 : ∀ t, Steps p.tables e below (s₁.setTop (mkF m 0 #[.val (.int xa)] [])) t → Steps p.tables e below (s₁.setTop (entryFrame m #[(.int xa)] 1)) t := fun t k => castTop (ef_rm_excl m xa) k
  have pre1 : ∀ t, Steps p.tables e below (s₁.setTop (mkF m 1 #[.val (.int xa)] [(.int xa)])) t → Steps p.tables e below (s₁.setTop (entryFrame m #[(.int xa)] 1)) t := by
    intro t k
    refine pre0 t ?_
    refine XS.iloadN X0.here hx rfl (hb hby d3_0) rfl ?_
    show Steps p.tables e below (s₁.setTop (mkF m 1 #[.val (.int xa)] [(.int xa)])) _
    exact k
  by_cases hc1 : xa < (0 : Int32)
  · have pre2 : ∀ t, Steps p.tables e below (s₁.setTop (mkF m 5 #[.val (.int xa)] [(.int (1 : Int32))])) t → Steps p.tables e below (s₁.setTop (entryFrame m #[(.int xa)] 1)) t := by
      intro t k
      refine pre1 t ?_
      refine XS.ifNo X0.here hx rfl (hb hby d3_1) rfl ((if0 _ _).trans (tlt hc1).2.1) ?_
      show Steps p.tables e below (s₁.setTop (mkF m 4 #[.val (.int xa)] [])) _
      refine XS.iconst X0.here hx rfl (hb hby d3_4) ?_
      show Steps p.tables e below (s₁.setTop (mkF m 5 #[.val (.int xa)] [(.int (1 : Int32))])) _
      exact k
    obtain ⟨fs, hr, hrun, hended, hW, hsame⟩ := X0.leave (v := some (.int (1 : Int32))) (fun h => by rw [Bd.returns] at h; cases h)
    refine ⟨_, _, pre2 _ ?_, hrun, hended, _, _, rfl, ?_, ⟨_, rfl⟩, hW, hsame.mono (by decide) (by decide)⟩
    · exact retN X0 hx (t := .boolean) Bd.returns (by simp) (hb hby d3_5) hr
    · show Q_rm_excl Z xa h0 n0 _ s₁.heap _
      rw [e0]
      exact ⟨congrArg (fun z => some (Value.int z)) (show (1 : Int32) = (F_rm_excl xa) from by rw [F_rm_excl, if_pos hc1]), N0, rfl⟩
  · have pre3 : ∀ t, Steps p.tables e below (s₁.setTop (mkF m 9 #[.val (.int xa)] [(.int (8 : Int32)), (.int xa)])) t → Steps p.tables e below (s₁.setTop (entryFrame m #[(.int xa)] 1)) t := by
      intro t k
      refine pre1 t ?_
      refine XS.ifYes X0.here hx rfl (pc0 := 1) (pc' := 6) rfl (hb hby d3_1) rfl ((if0 _ _).trans (flt hc1).2.1) (by decide) (by decide) ?_
      show Steps p.tables e below (s₁.setTop (mkF m 6 #[.val (.int xa)] [])) _
      refine XS.iloadN X0.here hx rfl (hb hby d3_6) rfl ?_
      show Steps p.tables e below (s₁.setTop (mkF m 7 #[.val (.int xa)] [(.int xa)])) _
      refine XS.bipush X0.here hx rfl (hb hby d3_7) ?_
      show Steps p.tables e below (s₁.setTop (mkF m 9 #[.val (.int xa)] [(.int (8 : Int32)), (.int xa)])) _
      exact k
    by_cases hc9 : (8 : Int32) < xa
    · have pre4 : ∀ t, Steps p.tables e below (s₁.setTop (mkF m 17 #[.val (.int xa)] [(.int (11 : Int32)), (.int xa)])) t → Steps p.tables e below (s₁.setTop (entryFrame m #[(.int xa)] 1)) t := by
        intro t k
        refine pre3 t ?_
        refine XS.icmpYes X0.here hx rfl (pc0 := 9) (pc' := 14) rfl (hb hby d3_9) rfl (tlt hc9).2.2.1 (by decide) (by decide) ?_
        show Steps p.tables e below (s₁.setTop (mkF m 14 #[.val (.int xa)] [])) _
        refine XS.iloadN X0.here hx rfl (hb hby d3_14) rfl ?_
        show Steps p.tables e below (s₁.setTop (mkF m 15 #[.val (.int xa)] [(.int xa)])) _
        refine XS.bipush X0.here hx rfl (hb hby d3_15) ?_
        show Steps p.tables e below (s₁.setTop (mkF m 17 #[.val (.int xa)] [(.int (11 : Int32)), (.int xa)])) _
        exact k
      by_cases hc17 : xa = (11 : Int32)
      · have pre5 : ∀ t, Steps p.tables e below (s₁.setTop (mkF m 27 #[.val (.int xa)] [(.int (1 : Int32))])) t → Steps p.tables e below (s₁.setTop (entryFrame m #[(.int xa)] 1)) t := by
          intro t k
          refine pre4 t ?_
          refine XS.icmpYes X0.here hx rfl (pc0 := 17) (pc' := 26) rfl (hb hby d3_17) rfl (teq hc17).1 (by decide) (by decide) ?_
          show Steps p.tables e below (s₁.setTop (mkF m 26 #[.val (.int xa)] [])) _
          refine XS.iconst X0.here hx rfl (hb hby d3_26) ?_
          show Steps p.tables e below (s₁.setTop (mkF m 27 #[.val (.int xa)] [(.int (1 : Int32))])) _
          exact k
        obtain ⟨fs, hr, hrun, hended, hW, hsame⟩ := X0.leave (v := some (.int (1 : Int32))) (fun h => by rw [Bd.returns] at h; cases h)
        refine ⟨_, _, pre5 _ ?_, hrun, hended, _, _, rfl, ?_, ⟨_, rfl⟩, hW, hsame.mono (by decide) (by decide)⟩
        · exact retN X0 hx (t := .boolean) Bd.returns (by simp) (hb hby d3_27) hr
        · show Q_rm_excl Z xa h0 n0 _ s₁.heap _
          rw [e0]
          exact ⟨congrArg (fun z => some (Value.int z)) (show (1 : Int32) = (F_rm_excl xa) from by rw [F_rm_excl, if_neg hc1, if_pos hc9, if_pos hc17]), N0, rfl⟩
      · have pre6 : ∀ t, Steps p.tables e below (s₁.setTop (mkF m 23 #[.val (.int xa)] [(.int (12 : Int32)), (.int xa)])) t → Steps p.tables e below (s₁.setTop (entryFrame m #[(.int xa)] 1)) t := by
          intro t k
          refine pre4 t ?_
          refine XS.icmpNo X0.here hx rfl (hb hby d3_17) rfl (feq hc17).1 ?_
          show Steps p.tables e below (s₁.setTop (mkF m 20 #[.val (.int xa)] [])) _
          refine XS.iloadN X0.here hx rfl (hb hby d3_20) rfl ?_
          show Steps p.tables e below (s₁.setTop (mkF m 21 #[.val (.int xa)] [(.int xa)])) _
          refine XS.bipush X0.here hx rfl (hb hby d3_21) ?_
          show Steps p.tables e below (s₁.setTop (mkF m 23 #[.val (.int xa)] [(.int (12 : Int32)), (.int xa)])) _
          exact k
        by_cases hc23 : xa = (12 : Int32)
        · have pre7 : ∀ t, Steps p.tables e below (s₁.setTop (mkF m 27 #[.val (.int xa)] [(.int (1 : Int32))])) t → Steps p.tables e below (s₁.setTop (entryFrame m #[(.int xa)] 1)) t := by
            intro t k
            refine pre6 t ?_
            refine XS.icmpNo X0.here hx rfl (hb hby d3_23) rfl (teq hc23).2 ?_
            show Steps p.tables e below (s₁.setTop (mkF m 26 #[.val (.int xa)] [])) _
            refine XS.iconst X0.here hx rfl (hb hby d3_26) ?_
            show Steps p.tables e below (s₁.setTop (mkF m 27 #[.val (.int xa)] [(.int (1 : Int32))])) _
            exact k
          obtain ⟨fs, hr, hrun, hended, hW, hsame⟩ := X0.leave (v := some (.int (1 : Int32))) (fun h => by rw [Bd.returns] at h; cases h)
          refine ⟨_, _, pre7 _ ?_, hrun, hended, _, _, rfl, ?_, ⟨_, rfl⟩, hW, hsame.mono (by decide) (by decide)⟩
          · exact retN X0 hx (t := .boolean) Bd.returns (by simp) (hb hby d3_27) hr
          · show Q_rm_excl Z xa h0 n0 _ s₁.heap _
            rw [e0]
            exact ⟨congrArg (fun z => some (Value.int z)) (show (1 : Int32) = (F_rm_excl xa) from by rw [F_rm_excl, if_neg hc1, if_pos hc9, if_neg hc17, if_pos hc23]), N0, rfl⟩
        · have pre8 : ∀ t, Steps p.tables e below (s₁.setTop (mkF m 31 #[.val (.int xa)] [(.int (14 : Int32)), (.int xa)])) t → Steps p.tables e below (s₁.setTop (entryFrame m #[(.int xa)] 1)) t := by
            intro t k
            refine pre6 t ?_
            refine XS.icmpYes X0.here hx rfl (pc0 := 23) (pc' := 28) rfl (hb hby d3_23) rfl (feq hc23).2 (by decide) (by decide) ?_
            show Steps p.tables e below (s₁.setTop (mkF m 28 #[.val (.int xa)] [])) _
            refine XS.iloadN X0.here hx rfl (hb hby d3_28) rfl ?_
            show Steps p.tables e below (s₁.setTop (mkF m 29 #[.val (.int xa)] [(.int xa)])) _
            refine XS.bipush X0.here hx rfl (hb hby d3_29) ?_
            show Steps p.tables e below (s₁.setTop (mkF m 31 #[.val (.int xa)] [(.int (14 : Int32)), (.int xa)])) _
            exact k
          by_cases hc31 : xa < (14 : Int32)
          · have pre9 : ∀ t, Steps p.tables e below (s₁.setTop (mkF m 45 #[.val (.int xa)] [(.int (55296 : Int32)), (.int xa)])) t → Steps p.tables e below (s₁.setTop (entryFrame m #[(.int xa)] 1)) t := by
              intro t k
              refine pre8 t ?_
              refine XS.icmpYes X0.here hx rfl (pc0 := 31) (pc' := 42) rfl (hb hby d3_31) rfl (tlt hc31).1 (by decide) (by decide) ?_
              show Steps p.tables e below (s₁.setTop (mkF m 42 #[.val (.int xa)] [])) _
              refine XS.iloadN X0.here hx rfl (hb hby d3_42) rfl ?_
              show Steps p.tables e below (s₁.setTop (mkF m 43 #[.val (.int xa)] [(.int xa)])) _
              refine X0.ldcInt hx hown (mvT hZ (hw _ (List.mem_of_getElem? (i := 2) rfl))) (g := (mkF m 43 #[.val (.int xa)] [(.int xa)])) rfl (hb hby d3_43) _ ?_
              show Steps p.tables e below (s₁.setTop (mkF m 45 #[.val (.int xa)] [(.int (55296 : Int32)), (.int xa)])) _
              exact k
            by_cases hc45 : xa < (55296 : Int32)
            · have pre10 : ∀ t, Steps p.tables e below (s₁.setTop (mkF m 59 #[.val (.int xa)] [(.int (65534 : Int32)), (.int xa)])) t → Steps p.tables e below (s₁.setTop (entryFrame m #[(.int xa)] 1)) t := by
                intro t k
                refine pre9 t ?_
                refine XS.icmpYes X0.here hx rfl (pc0 := 45) (pc' := 56) rfl (hb hby d3_45) rfl (tlt hc45).1 (by decide) (by decide) ?_
                show Steps p.tables e below (s₁.setTop (mkF m 56 #[.val (.int xa)] [])) _
                refine XS.iloadN X0.here hx rfl (hb hby d3_56) rfl ?_
                show Steps p.tables e below (s₁.setTop (mkF m 57 #[.val (.int xa)] [(.int xa)])) _
                refine X0.ldcInt hx hown (mvT hZ (hw _ (List.mem_of_getElem? (i := 6) rfl))) (g := (mkF m 57 #[.val (.int xa)] [(.int xa)])) rfl (hb hby d3_57) _ ?_
                show Steps p.tables e below (s₁.setTop (mkF m 59 #[.val (.int xa)] [(.int (65534 : Int32)), (.int xa)])) _
                exact k
              by_cases hc59 : xa = (65534 : Int32)
              · have pre11 : ∀ t, Steps p.tables e below (s₁.setTop (mkF m 69 #[.val (.int xa)] [(.int (1 : Int32))])) t → Steps p.tables e below (s₁.setTop (entryFrame m #[(.int xa)] 1)) t := by
                  intro t k
                  refine pre10 t ?_
                  refine XS.icmpYes X0.here hx rfl (pc0 := 59) (pc' := 68) rfl (hb hby d3_59) rfl (teq hc59).1 (by decide) (by decide) ?_
                  show Steps p.tables e below (s₁.setTop (mkF m 68 #[.val (.int xa)] [])) _
                  refine XS.iconst X0.here hx rfl (hb hby d3_68) ?_
                  show Steps p.tables e below (s₁.setTop (mkF m 69 #[.val (.int xa)] [(.int (1 : Int32))])) _
                  exact k
                obtain ⟨fs, hr, hrun, hended, hW, hsame⟩ := X0.leave (v := some (.int (1 : Int32))) (fun h => by rw [Bd.returns] at h; cases h)
                refine ⟨_, _, pre11 _ ?_, hrun, hended, _, _, rfl, ?_, ⟨_, rfl⟩, hW, hsame.mono (by decide) (by decide)⟩
                · exact retN X0 hx (t := .boolean) Bd.returns (by simp) (hb hby d3_69) hr
                · show Q_rm_excl Z xa h0 n0 _ s₁.heap _
                  rw [e0]
                  exact ⟨congrArg (fun z => some (Value.int z)) (show (1 : Int32) = (F_rm_excl xa) from by rw [F_rm_excl, if_neg hc1, if_pos hc9, if_neg hc17, if_neg hc23, if_pos hc31, if_pos hc45, if_pos hc59]), N0, rfl⟩
              · have pre12 : ∀ t, Steps p.tables e below (s₁.setTop (mkF m 65 #[.val (.int xa)] [(.int (65535 : Int32)), (.int xa)])) t → Steps p.tables e below (s₁.setTop (entryFrame m #[(.int xa)] 1)) t := by
                  intro t k
                  refine pre10 t ?_
                  refine XS.icmpNo X0.here hx rfl (hb hby d3_59) rfl (feq hc59).1 ?_
                  show Steps p.tables e below (s₁.setTop (mkF m 62 #[.val (.int xa)] [])) _
                  refine XS.iloadN X0.here hx rfl (hb hby d3_62) rfl ?_
                  show Steps p.tables e below (s₁.setTop (mkF m 63 #[.val (.int xa)] [(.int xa)])) _
                  refine X0.ldcInt hx hown (mvT hZ (hw _ (List.mem_of_getElem? (i := 7) rfl))) (g := (mkF m 63 #[.val (.int xa)] [(.int xa)])) rfl (hb hby d3_63) _ ?_
                  show Steps p.tables e below (s₁.setTop (mkF m 65 #[.val (.int xa)] [(.int (65535 : Int32)), (.int xa)])) _
                  exact k
                by_cases hc65 : xa = (65535 : Int32)
                · have pre13 : ∀ t, Steps p.tables e below (s₁.setTop (mkF m 69 #[.val (.int xa)] [(.int (1 : Int32))])) t → Steps p.tables e below (s₁.setTop (entryFrame m #[(.int xa)] 1)) t := by
                    intro t k
                    refine pre12 t ?_
                    refine XS.icmpNo X0.here hx rfl (hb hby d3_65) rfl (teq hc65).2 ?_
                    show Steps p.tables e below (s₁.setTop (mkF m 68 #[.val (.int xa)] [])) _
                    refine XS.iconst X0.here hx rfl (hb hby d3_68) ?_
                    show Steps p.tables e below (s₁.setTop (mkF m 69 #[.val (.int xa)] [(.int (1 : Int32))])) _
                    exact k
                  obtain ⟨fs, hr, hrun, hended, hW, hsame⟩ := X0.leave (v := some (.int (1 : Int32))) (fun h => by rw [Bd.returns] at h; cases h)
                  refine ⟨_, _, pre13 _ ?_, hrun, hended, _, _, rfl, ?_, ⟨_, rfl⟩, hW, hsame.mono (by decide) (by decide)⟩
                  · exact retN X0 hx (t := .boolean) Bd.returns (by simp) (hb hby d3_69) hr
                  · show Q_rm_excl Z xa h0 n0 _ s₁.heap _
                    rw [e0]
                    exact ⟨congrArg (fun z => some (Value.int z)) (show (1 : Int32) = (F_rm_excl xa) from by rw [F_rm_excl, if_neg hc1, if_pos hc9, if_neg hc17, if_neg hc23, if_pos hc31, if_pos hc45, if_neg hc59, if_pos hc65]), N0, rfl⟩
                · have pre14 : ∀ t, Steps p.tables e below (s₁.setTop (mkF m 73 #[.val (.int xa)] [(.int (1114111 : Int32)), (.int xa)])) t → Steps p.tables e below (s₁.setTop (entryFrame m #[(.int xa)] 1)) t := by
                    intro t k
                    refine pre12 t ?_
                    refine XS.icmpYes X0.here hx rfl (pc0 := 65) (pc' := 70) rfl (hb hby d3_65) rfl (feq hc65).2 (by decide) (by decide) ?_
                    show Steps p.tables e below (s₁.setTop (mkF m 70 #[.val (.int xa)] [])) _
                    refine XS.iloadN X0.here hx rfl (hb hby d3_70) rfl ?_
                    show Steps p.tables e below (s₁.setTop (mkF m 71 #[.val (.int xa)] [(.int xa)])) _
                    refine X0.ldcInt hx hown (mvT hZ (hw _ (List.mem_of_getElem? (i := 9) rfl))) (g := (mkF m 71 #[.val (.int xa)] [(.int xa)])) rfl (hb hby d3_71) _ ?_
                    show Steps p.tables e below (s₁.setTop (mkF m 73 #[.val (.int xa)] [(.int (1114111 : Int32)), (.int xa)])) _
                    exact k
                  by_cases hc73 : (1114111 : Int32) < xa
                  · have pre15 : ∀ t, Steps p.tables e below (s₁.setTop (mkF m 81 #[.val (.int xa)] [(.int (1 : Int32))])) t → Steps p.tables e below (s₁.setTop (entryFrame m #[(.int xa)] 1)) t := by
                      intro t k
                      refine pre14 t ?_
                      refine XS.icmpNo X0.here hx rfl (hb hby d3_73) rfl (tlt hc73).2.2.2 ?_
                      show Steps p.tables e below (s₁.setTop (mkF m 76 #[.val (.int xa)] [])) _
                      refine XS.iconst X0.here hx rfl (hb hby d3_76) ?_
                      show Steps p.tables e below (s₁.setTop (mkF m 77 #[.val (.int xa)] [(.int (1 : Int32))])) _
                      refine XS.goto X0.here hx rfl (pc0 := 77) (pc' := 81) rfl (hb hby d3_77) (by decide) (by decide) ?_
                      show Steps p.tables e below (s₁.setTop (mkF m 81 #[.val (.int xa)] [(.int (1 : Int32))])) _
                      exact k
                    obtain ⟨fs, hr, hrun, hended, hW, hsame⟩ := X0.leave (v := some (.int (1 : Int32))) (fun h => by rw [Bd.returns] at h; cases h)
                    refine ⟨_, _, pre15 _ ?_, hrun, hended, _, _, rfl, ?_, ⟨_, rfl⟩, hW, hsame.mono (by decide) (by decide)⟩
                    · exact retN X0 hx (t := .boolean) Bd.returns (by simp) (hb hby d3_81) hr
                    · show Q_rm_excl Z xa h0 n0 _ s₁.heap _
                      rw [e0]
                      exact ⟨congrArg (fun z => some (Value.int z)) (show (1 : Int32) = (F_rm_excl xa) from by rw [F_rm_excl, if_neg hc1, if_pos hc9, if_neg hc17, if_neg hc23, if_pos hc31, if_pos hc45, if_neg hc59, if_neg hc65, if_pos hc73]), N0, rfl⟩
                  · have pre16 : ∀ t, Steps p.tables e below (s₁.setTop (mkF m 81 #[.val (.int xa)] [(.int (0 : Int32))])) t → Steps p.tables e below (s₁.setTop (entryFrame m #[(.int xa)] 1)) t := by
                      intro t k
                      refine pre14 t ?_
                      refine XS.icmpYes X0.here hx rfl (pc0 := 73) (pc' := 80) rfl (hb hby d3_73) rfl (flt hc73).2.2.2 (by decide) (by decide) ?_
                      show Steps p.tables e below (s₁.setTop (mkF m 80 #[.val (.int xa)] [])) _
                      refine XS.iconst X0.here hx rfl (hb hby d3_80) ?_
                      show Steps p.tables e below (s₁.setTop (mkF m 81 #[.val (.int xa)] [(.int (0 : Int32))])) _
                      exact k
                    obtain ⟨fs, hr, hrun, hended, hW, hsame⟩ := X0.leave (v := some (.int (0 : Int32))) (fun h => by rw [Bd.returns] at h; cases h)
                    refine ⟨_, _, pre16 _ ?_, hrun, hended, _, _, rfl, ?_, ⟨_, rfl⟩, hW, hsame.mono (by decide) (by decide)⟩
                    · exact retN X0 hx (t := .boolean) Bd.returns (by simp) (hb hby d3_81) hr
                    · show Q_rm_excl Z xa h0 n0 _ s₁.heap _
                      rw [e0]
                      exact ⟨congrArg (fun z => some (Value.int z)) (show (0 : Int32) = (F_rm_excl xa) from by rw [F_rm_excl, if_neg hc1, if_pos hc9, if_neg hc17, if_neg hc23, if_pos hc31, if_pos hc45, if_neg hc59, if_neg hc65, if_neg hc73]), N0, rfl⟩
            · have pre17 : ∀ t, Steps p.tables e below (s₁.setTop (mkF m 51 #[.val (.int xa)] [(.int (57343 : Int32)), (.int xa)])) t → Steps p.tables e below (s₁.setTop (entryFrame m #[(.int xa)] 1)) t := by
                intro t k
                refine pre9 t ?_
                refine XS.icmpNo X0.here hx rfl (hb hby d3_45) rfl (flt hc45).1 ?_
                show Steps p.tables e below (s₁.setTop (mkF m 48 #[.val (.int xa)] [])) _
                refine XS.iloadN X0.here hx rfl (hb hby d3_48) rfl ?_
                show Steps p.tables e below (s₁.setTop (mkF m 49 #[.val (.int xa)] [(.int xa)])) _
                refine X0.ldcInt hx hown (mvT hZ (hw _ (List.mem_of_getElem? (i := 3) rfl))) (g := (mkF m 49 #[.val (.int xa)] [(.int xa)])) rfl (hb hby d3_49) _ ?_
                show Steps p.tables e below (s₁.setTop (mkF m 51 #[.val (.int xa)] [(.int (57343 : Int32)), (.int xa)])) _
                exact k
              by_cases hc51 : (57343 : Int32) < xa
              · have pre18 : ∀ t, Steps p.tables e below (s₁.setTop (mkF m 59 #[.val (.int xa)] [(.int (65534 : Int32)), (.int xa)])) t → Steps p.tables e below (s₁.setTop (entryFrame m #[(.int xa)] 1)) t := by
                  intro t k
                  refine pre17 t ?_
                  refine XS.icmpYes X0.here hx rfl (pc0 := 51) (pc' := 56) rfl (hb hby d3_51) rfl (tlt hc51).2.2.1 (by decide) (by decide) ?_
                  show Steps p.tables e below (s₁.setTop (mkF m 56 #[.val (.int xa)] [])) _
                  refine XS.iloadN X0.here hx rfl (hb hby d3_56) rfl ?_
                  show Steps p.tables e below (s₁.setTop (mkF m 57 #[.val (.int xa)] [(.int xa)])) _
                  refine X0.ldcInt hx hown (mvT hZ (hw _ (List.mem_of_getElem? (i := 6) rfl))) (g := (mkF m 57 #[.val (.int xa)] [(.int xa)])) rfl (hb hby d3_57) _ ?_
                  show Steps p.tables e below (s₁.setTop (mkF m 59 #[.val (.int xa)] [(.int (65534 : Int32)), (.int xa)])) _
                  exact k
                by_cases hc59 : xa = (65534 : Int32)
                · have pre19 : ∀ t, Steps p.tables e below (s₁.setTop (mkF m 69 #[.val (.int xa)] [(.int (1 : Int32))])) t → Steps p.tables e below (s₁.setTop (entryFrame m #[(.int xa)] 1)) t := by
                    intro t k
                    refine pre18 t ?_
                    refine XS.icmpYes X0.here hx rfl (pc0 := 59) (pc' := 68) rfl (hb hby d3_59) rfl (teq hc59).1 (by decide) (by decide) ?_
                    show Steps p.tables e below (s₁.setTop (mkF m 68 #[.val (.int xa)] [])) _
                    refine XS.iconst X0.here hx rfl (hb hby d3_68) ?_
                    show Steps p.tables e below (s₁.setTop (mkF m 69 #[.val (.int xa)] [(.int (1 : Int32))])) _
                    exact k
                  obtain ⟨fs, hr, hrun, hended, hW, hsame⟩ := X0.leave (v := some (.int (1 : Int32))) (fun h => by rw [Bd.returns] at h; cases h)
                  refine ⟨_, _, pre19 _ ?_, hrun, hended, _, _, rfl, ?_, ⟨_, rfl⟩, hW, hsame.mono (by decide) (by decide)⟩
                  · exact retN X0 hx (t := .boolean) Bd.returns (by simp) (hb hby d3_69) hr
                  · show Q_rm_excl Z xa h0 n0 _ s₁.heap _
                    rw [e0]
                    exact ⟨congrArg (fun z => some (Value.int z)) (show (1 : Int32) = (F_rm_excl xa) from by rw [F_rm_excl, if_neg hc1, if_pos hc9, if_neg hc17, if_neg hc23, if_pos hc31, if_neg hc45, if_pos hc51, if_pos hc59]), N0, rfl⟩
                · have pre20 : ∀ t, Steps p.tables e below (s₁.setTop (mkF m 65 #[.val (.int xa)] [(.int (65535 : Int32)), (.int xa)])) t → Steps p.tables e below (s₁.setTop (entryFrame m #[(.int xa)] 1)) t := by
                    intro t k
                    refine pre18 t ?_
                    refine XS.icmpNo X0.here hx rfl (hb hby d3_59) rfl (feq hc59).1 ?_
                    show Steps p.tables e below (s₁.setTop (mkF m 62 #[.val (.int xa)] [])) _
                    refine XS.iloadN X0.here hx rfl (hb hby d3_62) rfl ?_
                    show Steps p.tables e below (s₁.setTop (mkF m 63 #[.val (.int xa)] [(.int xa)])) _
                    refine X0.ldcInt hx hown (mvT hZ (hw _ (List.mem_of_getElem? (i := 7) rfl))) (g := (mkF m 63 #[.val (.int xa)] [(.int xa)])) rfl (hb hby d3_63) _ ?_
                    show Steps p.tables e below (s₁.setTop (mkF m 65 #[.val (.int xa)] [(.int (65535 : Int32)), (.int xa)])) _
                    exact k
                  by_cases hc65 : xa = (65535 : Int32)
                  · have pre21 : ∀ t, Steps p.tables e below (s₁.setTop (mkF m 69 #[.val (.int xa)] [(.int (1 : Int32))])) t → Steps p.tables e below (s₁.setTop (entryFrame m #[(.int xa)] 1)) t := by
                      intro t k
                      refine pre20 t ?_
                      refine XS.icmpNo X0.here hx rfl (hb hby d3_65) rfl (teq hc65).2 ?_
                      show Steps p.tables e below (s₁.setTop (mkF m 68 #[.val (.int xa)] [])) _
                      refine XS.iconst X0.here hx rfl (hb hby d3_68) ?_
                      show Steps p.tables e below (s₁.setTop (mkF m 69 #[.val (.int xa)] [(.int (1 : Int32))])) _
                      exact k
                    obtain ⟨fs, hr, hrun, hended, hW, hsame⟩ := X0.leave (v := some (.int (1 : Int32))) (fun h => by rw [Bd.returns] at h; cases h)
                    refine ⟨_, _, pre21 _ ?_, hrun, hended, _, _, rfl, ?_, ⟨_, rfl⟩, hW, hsame.mono (by decide) (by decide)⟩
                    · exact retN X0 hx (t := .boolean) Bd.returns (by simp) (hb hby d3_69) hr
                    · show Q_rm_excl Z xa h0 n0 _ s₁.heap _
                      rw [e0]
                      exact ⟨congrArg (fun z => some (Value.int z)) (show (1 : Int32) = (F_rm_excl xa) from by rw [F_rm_excl, if_neg hc1, if_pos hc9, if_neg hc17, if_neg hc23, if_pos hc31, if_neg hc45, if_pos hc51, if_neg hc59, if_pos hc65]), N0, rfl⟩
                  · have pre22 : ∀ t, Steps p.tables e below (s₁.setTop (mkF m 73 #[.val (.int xa)] [(.int (1114111 : Int32)), (.int xa)])) t → Steps p.tables e below (s₁.setTop (entryFrame m #[(.int xa)] 1)) t := by
                      intro t k
                      refine pre20 t ?_
                      refine XS.icmpYes X0.here hx rfl (pc0 := 65) (pc' := 70) rfl (hb hby d3_65) rfl (feq hc65).2 (by decide) (by decide) ?_
                      show Steps p.tables e below (s₁.setTop (mkF m 70 #[.val (.int xa)] [])) _
                      refine XS.iloadN X0.here hx rfl (hb hby d3_70) rfl ?_
                      show Steps p.tables e below (s₁.setTop (mkF m 71 #[.val (.int xa)] [(.int xa)])) _
                      refine X0.ldcInt hx hown (mvT hZ (hw _ (List.mem_of_getElem? (i := 9) rfl))) (g := (mkF m 71 #[.val (.int xa)] [(.int xa)])) rfl (hb hby d3_71) _ ?_
                      show Steps p.tables e below (s₁.setTop (mkF m 73 #[.val (.int xa)] [(.int (1114111 : Int32)), (.int xa)])) _
                      exact k
                    by_cases hc73 : (1114111 : Int32) < xa
                    · have pre23 : ∀ t, Steps p.tables e below (s₁.setTop (mkF m 81 #[.val (.int xa)] [(.int (1 : Int32))])) t → Steps p.tables e below (s₁.setTop (entryFrame m #[(.int xa)] 1)) t := by
                        intro t k
                        refine pre22 t ?_
                        refine XS.icmpNo X0.here hx rfl (hb hby d3_73) rfl (tlt hc73).2.2.2 ?_
                        show Steps p.tables e below (s₁.setTop (mkF m 76 #[.val (.int xa)] [])) _
                        refine XS.iconst X0.here hx rfl (hb hby d3_76) ?_
                        show Steps p.tables e below (s₁.setTop (mkF m 77 #[.val (.int xa)] [(.int (1 : Int32))])) _
                        refine XS.goto X0.here hx rfl (pc0 := 77) (pc' := 81) rfl (hb hby d3_77) (by decide) (by decide) ?_
                        show Steps p.tables e below (s₁.setTop (mkF m 81 #[.val (.int xa)] [(.int (1 : Int32))])) _
                        exact k
                      obtain ⟨fs, hr, hrun, hended, hW, hsame⟩ := X0.leave (v := some (.int (1 : Int32))) (fun h => by rw [Bd.returns] at h; cases h)
                      refine ⟨_, _, pre23 _ ?_, hrun, hended, _, _, rfl, ?_, ⟨_, rfl⟩, hW, hsame.mono (by decide) (by decide)⟩
                      · exact retN X0 hx (t := .boolean) Bd.returns (by simp) (hb hby d3_81) hr
                      · show Q_rm_excl Z xa h0 n0 _ s₁.heap _
                        rw [e0]
                        exact ⟨congrArg (fun z => some (Value.int z)) (show (1 : Int32) = (F_rm_excl xa) from by rw [F_rm_excl, if_neg hc1, if_pos hc9, if_neg hc17, if_neg hc23, if_pos hc31, if_neg hc45, if_pos hc51, if_neg hc59, if_neg hc65, if_pos hc73]), N0, rfl⟩
                    · have pre24 : ∀ t, Steps p.tables e below (s₁.setTop (mkF m 81 #[.val (.int xa)] [(.int (0 : Int32))])) t → Steps p.tables e below (s₁.setTop (entryFrame m #[(.int xa)] 1)) t := by
                        intro t k
                        refine pre22 t ?_
                        refine XS.icmpYes X0.here hx rfl (pc0 := 73) (pc' := 80) rfl (hb hby d3_73) rfl (flt hc73).2.2.2 (by decide) (by decide) ?_
                        show Steps p.tables e below (s₁.setTop (mkF m 80 #[.val (.int xa)] [])) _
                        refine XS.iconst X0.here hx rfl (hb hby d3_80) ?_
                        show Steps p.tables e below (s₁.setTop (mkF m 81 #[.val (.int xa)] [(.int (0 : Int32))])) _
                        exact k
                      obtain ⟨fs, hr, hrun, hended, hW, hsame⟩ := X0.leave (v := some (.int (0 : Int32))) (fun h => by rw [Bd.returns] at h; cases h)
                      refine ⟨_, _, pre24 _ ?_, hrun, hended, _, _, rfl, ?_, ⟨_, rfl⟩, hW, hsame.mono (by decide) (by decide)⟩
                      · exact retN X0 hx (t := .boolean) Bd.returns (by simp) (hb hby d3_81) hr
                      · show Q_rm_excl Z xa h0 n0 _ s₁.heap _
                        rw [e0]
                        exact ⟨congrArg (fun z => some (Value.int z)) (show (0 : Int32) = (F_rm_excl xa) from by rw [F_rm_excl, if_neg hc1, if_pos hc9, if_neg hc17, if_neg hc23, if_pos hc31, if_neg hc45, if_pos hc51, if_neg hc59, if_neg hc65, if_neg hc73]), N0, rfl⟩
              · have pre25 : ∀ t, Steps p.tables e below (s₁.setTop (mkF m 55 #[.val (.int xa)] [(.int (1 : Int32))])) t → Steps p.tables e below (s₁.setTop (entryFrame m #[(.int xa)] 1)) t := by
                  intro t k
                  refine pre17 t ?_
                  refine XS.icmpNo X0.here hx rfl (hb hby d3_51) rfl (flt hc51).2.2.1 ?_
                  show Steps p.tables e below (s₁.setTop (mkF m 54 #[.val (.int xa)] [])) _
                  refine XS.iconst X0.here hx rfl (hb hby d3_54) ?_
                  show Steps p.tables e below (s₁.setTop (mkF m 55 #[.val (.int xa)] [(.int (1 : Int32))])) _
                  exact k
                obtain ⟨fs, hr, hrun, hended, hW, hsame⟩ := X0.leave (v := some (.int (1 : Int32))) (fun h => by rw [Bd.returns] at h; cases h)
                refine ⟨_, _, pre25 _ ?_, hrun, hended, _, _, rfl, ?_, ⟨_, rfl⟩, hW, hsame.mono (by decide) (by decide)⟩
                · exact retN X0 hx (t := .boolean) Bd.returns (by simp) (hb hby d3_55) hr
                · show Q_rm_excl Z xa h0 n0 _ s₁.heap _
                  rw [e0]
                  exact ⟨congrArg (fun z => some (Value.int z)) (show (1 : Int32) = (F_rm_excl xa) from by rw [F_rm_excl, if_neg hc1, if_pos hc9, if_neg hc17, if_neg hc23, if_pos hc31, if_neg hc45, if_neg hc51]), N0, rfl⟩
          · have pre26 : ∀ t, Steps p.tables e below (s₁.setTop (mkF m 37 #[.val (.int xa)] [(.int (31 : Int32)), (.int xa)])) t → Steps p.tables e below (s₁.setTop (entryFrame m #[(.int xa)] 1)) t := by
              intro t k
              refine pre8 t ?_
              refine XS.icmpNo X0.here hx rfl (hb hby d3_31) rfl (flt hc31).1 ?_
              show Steps p.tables e below (s₁.setTop (mkF m 34 #[.val (.int xa)] [])) _
              refine XS.iloadN X0.here hx rfl (hb hby d3_34) rfl ?_
              show Steps p.tables e below (s₁.setTop (mkF m 35 #[.val (.int xa)] [(.int xa)])) _
              refine XS.bipush X0.here hx rfl (hb hby d3_35) ?_
              show Steps p.tables e below (s₁.setTop (mkF m 37 #[.val (.int xa)] [(.int (31 : Int32)), (.int xa)])) _
              exact k
            by_cases hc37 : (31 : Int32) < xa
            · have pre27 : ∀ t, Steps p.tables e below (s₁.setTop (mkF m 45 #[.val (.int xa)] [(.int (55296 : Int32)), (.int xa)])) t → Steps p.tables e below (s₁.setTop (entryFrame m #[(.int xa)] 1)) t := by
                intro t k
                refine pre26 t ?_
                refine XS.icmpYes X0.here hx rfl (pc0 := 37) (pc' := 42) rfl (hb hby d3_37) rfl (tlt hc37).2.2.1 (by decide) (by decide) ?_
                show Steps p.tables e below (s₁.setTop (mkF m 42 #[.val (.int xa)] [])) _
                refine XS.iloadN X0.here hx rfl (hb hby d3_42) rfl ?_
                show Steps p.tables e below (s₁.setTop (mkF m 43 #[.val (.int xa)] [(.int xa)])) _
                refine X0.ldcInt hx hown (mvT hZ (hw _ (List.mem_of_getElem? (i := 2) rfl))) (g := (mkF m 43 #[.val (.int xa)] [(.int xa)])) rfl (hb hby d3_43) _ ?_
                show Steps p.tables e below (s₁.setTop (mkF m 45 #[.val (.int xa)] [(.int (55296 : Int32)), (.int xa)])) _
                exact k
              by_cases hc45 : xa < (55296 : Int32)
              · have pre28 : ∀ t, Steps p.tables e below (s₁.setTop (mkF m 59 #[.val (.int xa)] [(.int (65534 : Int32)), (.int xa)])) t → Steps p.tables e below (s₁.setTop (entryFrame m #[(.int xa)] 1)) t := by
                  intro t k
                  refine pre27 t ?_
                  refine XS.icmpYes X0.here hx rfl (pc0 := 45) (pc' := 56) rfl (hb hby d3_45) rfl (tlt hc45).1 (by decide) (by decide) ?_
                  show Steps p.tables e below (s₁.setTop (mkF m 56 #[.val (.int xa)] [])) _
                  refine XS.iloadN X0.here hx rfl (hb hby d3_56) rfl ?_
                  show Steps p.tables e below (s₁.setTop (mkF m 57 #[.val (.int xa)] [(.int xa)])) _
                  refine X0.ldcInt hx hown (mvT hZ (hw _ (List.mem_of_getElem? (i := 6) rfl))) (g := (mkF m 57 #[.val (.int xa)] [(.int xa)])) rfl (hb hby d3_57) _ ?_
                  show Steps p.tables e below (s₁.setTop (mkF m 59 #[.val (.int xa)] [(.int (65534 : Int32)), (.int xa)])) _
                  exact k
                by_cases hc59 : xa = (65534 : Int32)
                · have pre29 : ∀ t, Steps p.tables e below (s₁.setTop (mkF m 69 #[.val (.int xa)] [(.int (1 : Int32))])) t → Steps p.tables e below (s₁.setTop (entryFrame m #[(.int xa)] 1)) t := by
                    intro t k
                    refine pre28 t ?_
                    refine XS.icmpYes X0.here hx rfl (pc0 := 59) (pc' := 68) rfl (hb hby d3_59) rfl (teq hc59).1 (by decide) (by decide) ?_
                    show Steps p.tables e below (s₁.setTop (mkF m 68 #[.val (.int xa)] [])) _
                    refine XS.iconst X0.here hx rfl (hb hby d3_68) ?_
                    show Steps p.tables e below (s₁.setTop (mkF m 69 #[.val (.int xa)] [(.int (1 : Int32))])) _
                    exact k
                  obtain ⟨fs, hr, hrun, hended, hW, hsame⟩ := X0.leave (v := some (.int (1 : Int32))) (fun h => by rw [Bd.returns] at h; cases h)
                  refine ⟨_, _, pre29 _ ?_, hrun, hended, _, _, rfl, ?_, ⟨_, rfl⟩, hW, hsame.mono (by decide) (by decide)⟩
                  · exact retN X0 hx (t := .boolean) Bd.returns (by simp) (hb hby d3_69) hr
                  · show Q_rm_excl Z xa h0 n0 _ s₁.heap _
                    rw [e0]
                    exact ⟨congrArg (fun z => some (Value.int z)) (show (1 : Int32) = (F_rm_excl xa) from by rw [F_rm_excl, if_neg hc1, if_pos hc9, if_neg hc17, if_neg hc23, if_neg hc31, if_pos hc37, if_pos hc45, if_pos hc59]), N0, rfl⟩
                · have pre30 : ∀ t, Steps p.tables e below (s₁.setTop (mkF m 65 #[.val (.int xa)] [(.int (65535 : Int32)), (.int xa)])) t → Steps p.tables e below (s₁.setTop (entryFrame m #[(.int xa)] 1)) t := by
                    intro t k
                    refine pre28 t ?_
                    refine XS.icmpNo X0.here hx rfl (hb hby d3_59) rfl (feq hc59).1 ?_
                    show Steps p.tables e below (s₁.setTop (mkF m 62 #[.val (.int xa)] [])) _
                    refine XS.iloadN X0.here hx rfl (hb hby d3_62) rfl ?_
                    show Steps p.tables e below (s₁.setTop (mkF m 63 #[.val (.int xa)] [(.int xa)])) _
                    refine X0.ldcInt hx hown (mvT hZ (hw _ (List.mem_of_getElem? (i := 7) rfl))) (g := (mkF m 63 #[.val (.int xa)] [(.int xa)])) rfl (hb hby d3_63) _ ?_
                    show Steps p.tables e below (s₁.setTop (mkF m 65 #[.val (.int xa)] [(.int (65535 : Int32)), (.int xa)])) _
                    exact k
                  by_cases hc65 : xa = (65535 : Int32)
                  · have pre31 : ∀ t, Steps p.tables e below (s₁.setTop (mkF m 69 #[.val (.int xa)] [(.int (1 : Int32))])) t → Steps p.tables e below (s₁.setTop (entryFrame m #[(.int xa)] 1)) t := by
                      intro t k
                      refine pre30 t ?_
                      refine XS.icmpNo X0.here hx rfl (hb hby d3_65) rfl (teq hc65).2 ?_
                      show Steps p.tables e below (s₁.setTop (mkF m 68 #[.val (.int xa)] [])) _
                      refine XS.iconst X0.here hx rfl (hb hby d3_68) ?_
                      show Steps p.tables e below (s₁.setTop (mkF m 69 #[.val (.int xa)] [(.int (1 : Int32))])) _
                      exact k
                    obtain ⟨fs, hr, hrun, hended, hW, hsame⟩ := X0.leave (v := some (.int (1 : Int32))) (fun h => by rw [Bd.returns] at h; cases h)
                    refine ⟨_, _, pre31 _ ?_, hrun, hended, _, _, rfl, ?_, ⟨_, rfl⟩, hW, hsame.mono (by decide) (by decide)⟩
                    · exact retN X0 hx (t := .boolean) Bd.returns (by simp) (hb hby d3_69) hr
                    · show Q_rm_excl Z xa h0 n0 _ s₁.heap _
                      rw [e0]
                      exact ⟨congrArg (fun z => some (Value.int z)) (show (1 : Int32) = (F_rm_excl xa) from by rw [F_rm_excl, if_neg hc1, if_pos hc9, if_neg hc17, if_neg hc23, if_neg hc31, if_pos hc37, if_pos hc45, if_neg hc59, if_pos hc65]), N0, rfl⟩
                  · have pre32 : ∀ t, Steps p.tables e below (s₁.setTop (mkF m 73 #[.val (.int xa)] [(.int (1114111 : Int32)), (.int xa)])) t → Steps p.tables e below (s₁.setTop (entryFrame m #[(.int xa)] 1)) t := by
                      intro t k
                      refine pre30 t ?_
                      refine XS.icmpYes X0.here hx rfl (pc0 := 65) (pc' := 70) rfl (hb hby d3_65) rfl (feq hc65).2 (by decide) (by decide) ?_
                      show Steps p.tables e below (s₁.setTop (mkF m 70 #[.val (.int xa)] [])) _
                      refine XS.iloadN X0.here hx rfl (hb hby d3_70) rfl ?_
                      show Steps p.tables e below (s₁.setTop (mkF m 71 #[.val (.int xa)] [(.int xa)])) _
                      refine X0.ldcInt hx hown (mvT hZ (hw _ (List.mem_of_getElem? (i := 9) rfl))) (g := (mkF m 71 #[.val (.int xa)] [(.int xa)])) rfl (hb hby d3_71) _ ?_
                      show Steps p.tables e below (s₁.setTop (mkF m 73 #[.val (.int xa)] [(.int (1114111 : Int32)), (.int xa)])) _
                      exact k
                    by_cases hc73 : (1114111 : Int32) < xa
                    · have pre33 : ∀ t, Steps p.tables e below (s₁.setTop (mkF m 81 #[.val (.int xa)] [(.int (1 : Int32))])) t → Steps p.tables e below (s₁.setTop (entryFrame m #[(.int xa)] 1)) t := by
                        intro t k
                        refine pre32 t ?_
                        refine XS.icmpNo X0.here hx rfl (hb hby d3_73) rfl (tlt hc73).2.2.2 ?_
                        show Steps p.tables e below (s₁.setTop (mkF m 76 #[.val (.int xa)] [])) _
                        refine XS.iconst X0.here hx rfl (hb hby d3_76) ?_
                        show Steps p.tables e below (s₁.setTop (mkF m 77 #[.val (.int xa)] [(.int (1 : Int32))])) _
                        refine XS.goto X0.here hx rfl (pc0 := 77) (pc' := 81) rfl (hb hby d3_77) (by decide) (by decide) ?_
                        show Steps p.tables e below (s₁.setTop (mkF m 81 #[.val (.int xa)] [(.int (1 : Int32))])) _
                        exact k
                      obtain ⟨fs, hr, hrun, hended, hW, hsame⟩ := X0.leave (v := some (.int (1 : Int32))) (fun h => by rw [Bd.returns] at h; cases h)
                      refine ⟨_, _, pre33 _ ?_, hrun, hended, _, _, rfl, ?_, ⟨_, rfl⟩, hW, hsame.mono (by decide) (by decide)⟩
                      · exact retN X0 hx (t := .boolean) Bd.returns (by simp) (hb hby d3_81) hr
                      · show Q_rm_excl Z xa h0 n0 _ s₁.heap _
                        rw [e0]
                        exact ⟨congrArg (fun z => some (Value.int z)) (show (1 : Int32) = (F_rm_excl xa) from by rw [F_rm_excl, if_neg hc1, if_pos hc9, if_neg hc17, if_neg hc23, if_neg hc31, if_pos hc37, if_pos hc45, if_neg hc59, if_neg hc65, if_pos hc73]), N0, rfl⟩
                    · have pre34 : ∀ t, Steps p.tables e below (s₁.setTop (mkF m 81 #[.val (.int xa)] [(.int (0 : Int32))])) t → Steps p.tables e below (s₁.setTop (entryFrame m #[(.int xa)] 1)) t := by
                        intro t k
                        refine pre32 t ?_
                        refine XS.icmpYes X0.here hx rfl (pc0 := 73) (pc' := 80) rfl (hb hby d3_73) rfl (flt hc73).2.2.2 (by decide) (by decide) ?_
                        show Steps p.tables e below (s₁.setTop (mkF m 80 #[.val (.int xa)] [])) _
                        refine XS.iconst X0.here hx rfl (hb hby d3_80) ?_
                        show Steps p.tables e below (s₁.setTop (mkF m 81 #[.val (.int xa)] [(.int (0 : Int32))])) _
                        exact k
                      obtain ⟨fs, hr, hrun, hended, hW, hsame⟩ := X0.leave (v := some (.int (0 : Int32))) (fun h => by rw [Bd.returns] at h; cases h)
                      refine ⟨_, _, pre34 _ ?_, hrun, hended, _, _, rfl, ?_, ⟨_, rfl⟩, hW, hsame.mono (by decide) (by decide)⟩
                      · exact retN X0 hx (t := .boolean) Bd.returns (by simp) (hb hby d3_81) hr
                      · show Q_rm_excl Z xa h0 n0 _ s₁.heap _
                        rw [e0]
                        exact ⟨congrArg (fun z => some (Value.int z)) (show (0 : Int32) = (F_rm_excl xa) from by rw [F_rm_excl, if_neg hc1, if_pos hc9, if_neg hc17, if_neg hc23, if_neg hc31, if_pos hc37, if_pos hc45, if_neg hc59, if_neg hc65, if_neg hc73]), N0, rfl⟩
              · have pre35 : ∀ t, Steps p.tables e below (s₁.setTop (mkF m 51 #[.val (.int xa)] [(.int (57343 : Int32)), (.int xa)])) t → Steps p.tables e below (s₁.setTop (entryFrame m #[(.int xa)] 1)) t := by
                  intro t k
                  refine pre27 t ?_
                  refine XS.icmpNo X0.here hx rfl (hb hby d3_45) rfl (flt hc45).1 ?_
                  show Steps p.tables e below (s₁.setTop (mkF m 48 #[.val (.int xa)] [])) _
                  refine XS.iloadN X0.here hx rfl (hb hby d3_48) rfl ?_
                  show Steps p.tables e below (s₁.setTop (mkF m 49 #[.val (.int xa)] [(.int xa)])) _
                  refine X0.ldcInt hx hown (mvT hZ (hw _ (List.mem_of_getElem? (i := 3) rfl))) (g := (mkF m 49 #[.val (.int xa)] [(.int xa)])) rfl (hb hby d3_49) _ ?_
                  show Steps p.tables e below (s₁.setTop (mkF m 51 #[.val (.int xa)] [(.int (57343 : Int32)), (.int xa)])) _
                  exact k
                by_cases hc51 : (57343 : Int32) < xa
                · have pre36 : ∀ t, Steps p.tables e below (s₁.setTop (mkF m 59 #[.val (.int xa)] [(.int (65534 : Int32)), (.int xa)])) t → Steps p.tables e below (s₁.setTop (entryFrame m #[(.int xa)] 1)) t := by
                    intro t k
                    refine pre35 t ?_
                    refine XS.icmpYes X0.here hx rfl (pc0 := 51) (pc' := 56) rfl (hb hby d3_51) rfl (tlt hc51).2.2.1 (by decide) (by decide) ?_
                    show Steps p.tables e below (s₁.setTop (mkF m 56 #[.val (.int xa)] [])) _
                    refine XS.iloadN X0.here hx rfl (hb hby d3_56) rfl ?_
                    show Steps p.tables e below (s₁.setTop (mkF m 57 #[.val (.int xa)] [(.int xa)])) _
                    refine X0.ldcInt hx hown (mvT hZ (hw _ (List.mem_of_getElem? (i := 6) rfl))) (g := (mkF m 57 #[.val (.int xa)] [(.int xa)])) rfl (hb hby d3_57) _ ?_
                    show Steps p.tables e below (s₁.setTop (mkF m 59 #[.val (.int xa)] [(.int (65534 : Int32)), (.int xa)])) _
                    exact k
                  by_cases hc59 : xa = (65534 : Int32)
                  · have pre37 : ∀ t, Steps p.tables e below (s₁.setTop (mkF m 69 #[.val (.int xa)] [(.int (1 : Int32))])) t → Steps p.tables e below (s₁.setTop (entryFrame m #[(.int xa)] 1)) t := by
                      intro t k
                      refine pre36 t ?_
                      refine XS.icmpYes X0.here hx rfl (pc0 := 59) (pc' := 68) rfl (hb hby d3_59) rfl (teq hc59).1 (by decide) (by decide) ?_
                      show Steps p.tables e below (s₁.setTop (mkF m 68 #[.val (.int xa)] [])) _
                      refine XS.iconst X0.here hx rfl (hb hby d3_68) ?_
                      show Steps p.tables e below (s₁.setTop (mkF m 69 #[.val (.int xa)] [(.int (1 : Int32))])) _
                      exact k
                    obtain ⟨fs, hr, hrun, hended, hW, hsame⟩ := X0.leave (v := some (.int (1 : Int32))) (fun h => by rw [Bd.returns] at h; cases h)
                    refine ⟨_, _, pre37 _ ?_, hrun, hended, _, _, rfl, ?_, ⟨_, rfl⟩, hW, hsame.mono (by decide) (by decide)⟩
                    · exact retN X0 hx (t := .boolean) Bd.returns (by simp) (hb hby d3_69) hr
                    · show Q_rm_excl Z xa h0 n0 _ s₁.heap _
                      rw [e0]
                      exact ⟨congrArg (fun z => some (Value.int z)) (show (1 : Int32) = (F_rm_excl xa) from by rw [F_rm_excl, if_neg hc1, if_pos hc9, if_neg hc17, if_neg hc23, if_neg hc31, if_pos hc37, if_neg hc45, if_pos hc51, if_pos hc59]), N0, rfl⟩
                  · have pre38 : ∀ t, Steps p.tables e below (s₁.setTop (mkF m 65 #[.val (.int xa)] [(.int (65535 : Int32)), (.int xa)])) t → Steps p.tables e below (s₁.setTop (entryFrame m #[(.int xa)] 1)) t := by
                      intro t k
                      refine pre36 t ?_
                      refine XS.icmpNo X0.here hx rfl (hb hby d3_59) rfl (feq hc59).1 ?_
                      show Steps p.tables e below (s₁.setTop (mkF m 62 #[.val (.int xa)] [])) _
                      refine XS.iloadN X0.here hx rfl (hb hby d3_62) rfl ?_
                      show Steps p.tables e below (s₁.setTop (mkF m 63 #[.val (.int xa)] [(.int xa)])) _
                      refine X0.ldcInt hx hown (mvT hZ (hw _ (List.mem_of_getElem? (i := 7) rfl))) (g := (mkF m 63 #[.val (.int xa)] [(.int xa)])) rfl (hb hby d3_63) _ ?_
                      show Steps p.tables e below (s₁.setTop (mkF m 65 #[.val (.int xa)] [(.int (65535 : Int32)), (.int xa)])) _
                      exact k
                    by_cases hc65 : xa = (65535 : Int32)
                    · have pre39 : ∀ t, Steps p.tables e below (s₁.setTop (mkF m 69 #[.val (.int xa)] [(.int (1 : Int32))])) t → Steps p.tables e below (s₁.setTop (entryFrame m #[(.int xa)] 1)) t := by
                        intro t k
                        refine pre38 t ?_
                        refine XS.icmpNo X0.here hx rfl (hb hby d3_65) rfl (teq hc65).2 ?_
                        show Steps p.tables e below (s₁.setTop (mkF m 68 #[.val (.int xa)] [])) _
                        refine XS.iconst X0.here hx rfl (hb hby d3_68) ?_
                        show Steps p.tables e below (s₁.setTop (mkF m 69 #[.val (.int xa)] [(.int (1 : Int32))])) _
                        exact k
                      obtain ⟨fs, hr, hrun, hended, hW, hsame⟩ := X0.leave (v := some (.int (1 : Int32))) (fun h => by rw [Bd.returns] at h; cases h)
                      refine ⟨_, _, pre39 _ ?_, hrun, hended, _, _, rfl, ?_, ⟨_, rfl⟩, hW, hsame.mono (by decide) (by decide)⟩
                      · exact retN X0 hx (t := .boolean) Bd.returns (by simp) (hb hby d3_69) hr
                      · show Q_rm_excl Z xa h0 n0 _ s₁.heap _
                        rw [e0]
                        exact ⟨congrArg (fun z => some (Value.int z)) (show (1 : Int32) = (F_rm_excl xa) from by rw [F_rm_excl, if_neg hc1, if_pos hc9, if_neg hc17, if_neg hc23, if_neg hc31, if_pos hc37, if_neg hc45, if_pos hc51, if_neg hc59, if_pos hc65]), N0, rfl⟩
                    · have pre40 : ∀ t, Steps p.tables e below (s₁.setTop (mkF m 73 #[.val (.int xa)] [(.int (1114111 : Int32)), (.int xa)])) t → Steps p.tables e below (s₁.setTop (entryFrame m #[(.int xa)] 1)) t := by
                        intro t k
                        refine pre38 t ?_
                        refine XS.icmpYes X0.here hx rfl (pc0 := 65) (pc' := 70) rfl (hb hby d3_65) rfl (feq hc65).2 (by decide) (by decide) ?_
                        show Steps p.tables e below (s₁.setTop (mkF m 70 #[.val (.int xa)] [])) _
                        refine XS.iloadN X0.here hx rfl (hb hby d3_70) rfl ?_
                        show Steps p.tables e below (s₁.setTop (mkF m 71 #[.val (.int xa)] [(.int xa)])) _
                        refine X0.ldcInt hx hown (mvT hZ (hw _ (List.mem_of_getElem? (i := 9) rfl))) (g := (mkF m 71 #[.val (.int xa)] [(.int xa)])) rfl (hb hby d3_71) _ ?_
                        show Steps p.tables e below (s₁.setTop (mkF m 73 #[.val (.int xa)] [(.int (1114111 : Int32)), (.int xa)])) _
                        exact k
                      by_cases hc73 : (1114111 : Int32) < xa
                      · have pre41 : ∀ t, Steps p.tables e below (s₁.setTop (mkF m 81 #[.val (.int xa)] [(.int (1 : Int32))])) t → Steps p.tables e below (s₁.setTop (entryFrame m #[(.int xa)] 1)) t := by
                          intro t k
                          refine pre40 t ?_
                          refine XS.icmpNo X0.here hx rfl (hb hby d3_73) rfl (tlt hc73).2.2.2 ?_
                          show Steps p.tables e below (s₁.setTop (mkF m 76 #[.val (.int xa)] [])) _
                          refine XS.iconst X0.here hx rfl (hb hby d3_76) ?_
                          show Steps p.tables e below (s₁.setTop (mkF m 77 #[.val (.int xa)] [(.int (1 : Int32))])) _
                          refine XS.goto X0.here hx rfl (pc0 := 77) (pc' := 81) rfl (hb hby d3_77) (by decide) (by decide) ?_
                          show Steps p.tables e below (s₁.setTop (mkF m 81 #[.val (.int xa)] [(.int (1 : Int32))])) _
                          exact k
                        obtain ⟨fs, hr, hrun, hended, hW, hsame⟩ := X0.leave (v := some (.int (1 : Int32))) (fun h => by rw [Bd.returns] at h; cases h)
                        refine ⟨_, _, pre41 _ ?_, hrun, hended, _, _, rfl, ?_, ⟨_, rfl⟩, hW, hsame.mono (by decide) (by decide)⟩
                        · exact retN X0 hx (t := .boolean) Bd.returns (by simp) (hb hby d3_81) hr
                        · show Q_rm_excl Z xa h0 n0 _ s₁.heap _
                          rw [e0]
                          exact ⟨congrArg (fun z => some (Value.int z)) (show (1 : Int32) = (F_rm_excl xa) from by rw [F_rm_excl, if_neg hc1, if_pos hc9, if_neg hc17, if_neg hc23, if_neg hc31, if_pos hc37, if_neg hc45, if_pos hc51, if_neg hc59, if_neg hc65, if_pos hc73]), N0, rfl⟩
                      · have pre42 : ∀ t, Steps p.tables e below (s₁.setTop (mkF m 81 #[.val (.int xa)] [(.int (0 : Int32))])) t → Steps p.tables e below (s₁.setTop (entryFrame m #[(.int xa)] 1)) t := by
                          intro t k
                          refine pre40 t ?_
                          refine XS.icmpYes X0.here hx rfl (pc0 := 73) (pc' := 80) rfl (hb hby d3_73) rfl (flt hc73).2.2.2 (by decide) (by decide) ?_
                          show Steps p.tables e below (s₁.setTop (mkF m 80 #[.val (.int xa)] [])) _
                          refine XS.iconst X0.here hx rfl (hb hby d3_80) ?_
                          show Steps p.tables e below (s₁.setTop (mkF m 81 #[.val (.int xa)] [(.int (0 : Int32))])) _
                          exact k
                        obtain ⟨fs, hr, hrun, hended, hW, hsame⟩ := X0.leave (v := some (.int (0 : Int32))) (fun h => by rw [Bd.returns] at h; cases h)
                        refine ⟨_, _, pre42 _ ?_, hrun, hended, _, _, rfl, ?_, ⟨_, rfl⟩, hW, hsame.mono (by decide) (by decide)⟩
                        · exact retN X0 hx (t := .boolean) Bd.returns (by simp) (hb hby d3_81) hr
                        · show Q_rm_excl Z xa h0 n0 _ s₁.heap _
                          rw [e0]
                          exact ⟨congrArg (fun z => some (Value.int z)) (show (0 : Int32) = (F_rm_excl xa) from by rw [F_rm_excl, if_neg hc1, if_pos hc9, if_neg hc17, if_neg hc23, if_neg hc31, if_pos hc37, if_neg hc45, if_pos hc51, if_neg hc59, if_neg hc65, if_neg hc73]), N0, rfl⟩
                · have pre43 : ∀ t, Steps p.tables e below (s₁.setTop (mkF m 55 #[.val (.int xa)] [(.int (1 : Int32))])) t → Steps p.tables e below (s₁.setTop (entryFrame m #[(.int xa)] 1)) t := by
                    intro t k
                    refine pre35 t ?_
                    refine XS.icmpNo X0.here hx rfl (hb hby d3_51) rfl (flt hc51).2.2.1 ?_
                    show Steps p.tables e below (s₁.setTop (mkF m 54 #[.val (.int xa)] [])) _
                    refine XS.iconst X0.here hx rfl (hb hby d3_54) ?_
                    show Steps p.tables e below (s₁.setTop (mkF m 55 #[.val (.int xa)] [(.int (1 : Int32))])) _
                    exact k
                  obtain ⟨fs, hr, hrun, hended, hW, hsame⟩ := X0.leave (v := some (.int (1 : Int32))) (fun h => by rw [Bd.returns] at h; cases h)
                  refine ⟨_, _, pre43 _ ?_, hrun, hended, _, _, rfl, ?_, ⟨_, rfl⟩, hW, hsame.mono (by decide) (by decide)⟩
                  · exact retN X0 hx (t := .boolean) Bd.returns (by simp) (hb hby d3_55) hr
                  · show Q_rm_excl Z xa h0 n0 _ s₁.heap _
                    rw [e0]
                    exact ⟨congrArg (fun z => some (Value.int z)) (show (1 : Int32) = (F_rm_excl xa) from by rw [F_rm_excl, if_neg hc1, if_pos hc9, if_neg hc17, if_neg hc23, if_neg hc31, if_pos hc37, if_neg hc45, if_neg hc51]), N0, rfl⟩
            · have pre44 : ∀ t, Steps p.tables e below (s₁.setTop (mkF m 41 #[.val (.int xa)] [(.int (1 : Int32))])) t → Steps p.tables e below (s₁.setTop (entryFrame m #[(.int xa)] 1)) t := by
                intro t k
                refine pre26 t ?_
                refine XS.icmpNo X0.here hx rfl (hb hby d3_37) rfl (flt hc37).2.2.1 ?_
                show Steps p.tables e below (s₁.setTop (mkF m 40 #[.val (.int xa)] [])) _
                refine XS.iconst X0.here hx rfl (hb hby d3_40) ?_
                show Steps p.tables e below (s₁.setTop (mkF m 41 #[.val (.int xa)] [(.int (1 : Int32))])) _
                exact k
              obtain ⟨fs, hr, hrun, hended, hW, hsame⟩ := X0.leave (v := some (.int (1 : Int32))) (fun h => by rw [Bd.returns] at h; cases h)
              refine ⟨_, _, pre44 _ ?_, hrun, hended, _, _, rfl, ?_, ⟨_, rfl⟩, hW, hsame.mono (by decide) (by decide)⟩
              · exact retN X0 hx (t := .boolean) Bd.returns (by simp) (hb hby d3_41) hr
              · show Q_rm_excl Z xa h0 n0 _ s₁.heap _
                rw [e0]
                exact ⟨congrArg (fun z => some (Value.int z)) (show (1 : Int32) = (F_rm_excl xa) from by rw [F_rm_excl, if_neg hc1, if_pos hc9, if_neg hc17, if_neg hc23, if_neg hc31, if_neg hc37]), N0, rfl⟩
    · have pre45 : ∀ t, Steps p.tables e below (s₁.setTop (mkF m 13 #[.val (.int xa)] [(.int (1 : Int32))])) t → Steps p.tables e below (s₁.setTop (entryFrame m #[(.int xa)] 1)) t := by
        intro t k
        refine pre3 t ?_
        refine XS.icmpNo X0.here hx rfl (hb hby d3_9) rfl (flt hc9).2.2.1 ?_
        show Steps p.tables e below (s₁.setTop (mkF m 12 #[.val (.int xa)] [])) _
        refine XS.iconst X0.here hx rfl (hb hby d3_12) ?_
        show Steps p.tables e below (s₁.setTop (mkF m 13 #[.val (.int xa)] [(.int (1 : Int32))])) _
        exact k
      obtain ⟨fs, hr, hrun, hended, hW, hsame⟩ := X0.leave (v := some (.int (1 : Int32))) (fun h => by rw [Bd.returns] at h; cases h)
      refine ⟨_, _, pre45 _ ?_, hrun, hended, _, _, rfl, ?_, ⟨_, rfl⟩, hW, hsame.mono (by decide) (by decide)⟩
      · exact retN X0 hx (t := .boolean) Bd.returns (by simp) (hb hby d3_13) hr
      · show Q_rm_excl Z xa h0 n0 _ s₁.heap _
        rw [e0]
        exact ⟨congrArg (fun z => some (Value.int z)) (show (1 : Int32) = (F_rm_excl xa) from by rw [F_rm_excl, if_neg hc1, if_neg hc9]), N0, rfl⟩
set_option maxHeartbeats 40000000 in
theorem own_x (xa : Int32) : F_rm_isXml xa = if (xa.toInt = 9 ∨ xa.toInt = 10 ∨ xa.toInt = 13 ∨ (32 ≤ xa.toInt ∧ xa.toInt ≤ 55295) ∨ (57344 ≤ xa.toInt ∧ xa.toInt ≤ 65533) ∨ (65536 ≤ xa.toInt ∧ xa.toInt ≤ 1114111)) then 1 else 0 := by
  unfold F_rm_isXml
  have : (8 : Int32).toInt = 8 := rfl
  have : (9 : Int32).toInt = 9 := rfl
  have : (10 : Int32).toInt = 10 := rfl
  have : (11 : Int32).toInt = 11 := rfl
  have : (12 : Int32).toInt = 12 := rfl
  have : (13 : Int32).toInt = 13 := rfl
  have : (14 : Int32).toInt = 14 := rfl
  have : (31 : Int32).toInt = 31 := rfl
  have : (32 : Int32).toInt = 32 := rfl
  have : (55295 : Int32).toInt = 55295 := rfl
  have : (55296 : Int32).toInt = 55296 := rfl
  have : (57343 : Int32).toInt = 57343 := rfl
  have : (57344 : Int32).toInt = 57344 := rfl
  have : (65533 : Int32).toInt = 65533 := rfl
  have : (65534 : Int32).toInt = 65534 := rfl
  have : (65535 : Int32).toInt = 65535 := rfl
  have : (65536 : Int32).toInt = 65536 := rfl
  have : (1114111 : Int32).toInt = 1114111 := rfl
  have : (0 : Int32).toInt = 0 := rfl
  simp only [Int32.lt_iff_toInt_lt, ← Int32.toInt_inj]
  generalize xa.toInt = n at *
  repeat' split
  all_goals first | rfl | (exfalso; omega)
set_option maxHeartbeats 40000000 in
theorem own_e (xa : Int32) : F_rm_excl xa = if (xa.toInt = 9 ∨ xa.toInt = 10 ∨ xa.toInt = 13 ∨ (32 ≤ xa.toInt ∧ xa.toInt ≤ 55295) ∨ (57344 ≤ xa.toInt ∧ xa.toInt ≤ 65533) ∨ (65536 ≤ xa.toInt ∧ xa.toInt ≤ 1114111)) then 0 else 1 := by
  unfold F_rm_excl
  have : (8 : Int32).toInt = 8 := rfl
  have : (9 : Int32).toInt = 9 := rfl
  have : (10 : Int32).toInt = 10 := rfl
  have : (11 : Int32).toInt = 11 := rfl
  have : (12 : Int32).toInt = 12 := rfl
  have : (13 : Int32).toInt = 13 := rfl
  have : (14 : Int32).toInt = 14 := rfl
  have : (31 : Int32).toInt = 31 := rfl
  have : (32 : Int32).toInt = 32 := rfl
  have : (55295 : Int32).toInt = 55295 := rfl
  have : (55296 : Int32).toInt = 55296 := rfl
  have : (57343 : Int32).toInt = 57343 := rfl
  have : (57344 : Int32).toInt = 57344 := rfl
  have : (65533 : Int32).toInt = 65533 := rfl
  have : (65534 : Int32).toInt = 65534 := rfl
  have : (65535 : Int32).toInt = 65535 := rfl
  have : (65536 : Int32).toInt = 65536 := rfl
  have : (1114111 : Int32).toInt = 1114111 := rfl
  have : (0 : Int32).toInt = 0 := rfl
  simp only [Int32.lt_iff_toInt_lt, ← Int32.toInt_inj]
  generalize xa.toInt = n at *
  repeat' split
  all_goals first | rfl | (exfalso; omega)
theorem own_law (xa : Int32) : F_rm_isXml xa = if F_rm_excl xa = (0 : Int32) then (1 : Int32) else (0 : Int32) := by
  rw [own_x, own_e]
  split
  · rw [if_pos rfl]
  · rw [if_neg (by decide)]
theorem d1_0 : decode method_3_code 0 = .ok (.iload_n 0, 1) := by decide +kernel
theorem d1_1 : decode method_3_code 1 = .ok (.invokestatic 12, 3) := by decide +kernel
theorem pd0 : parseMethodDescriptor "(I)Z" = some ⟨[.int], some .boolean⟩ := by decide +kernel
theorem d1_4 : decode method_3_code 4 = .ok (.iload_n 0, 1) := by decide +kernel
theorem d1_5 : decode method_3_code 5 = .ok (.invokestatic 18, 3) := by decide +kernel
theorem d1_8 : decode method_3_code 8 = .ok (.ifCond .ne 7, 3) := by decide +kernel
theorem d1_11 : decode method_3_code 11 = .ok (.iconst 1, 1) := by decide +kernel
theorem d1_12 : decode method_3_code 12 = .ok (.goto 4, 3) := by decide +kernel
theorem d1_16 : decode method_3_code 16 = .ok (.if_icmp .ne 7, 3) := by decide +kernel
theorem d1_19 : decode method_3_code 19 = .ok (.iconst 1, 1) := by decide +kernel
theorem d1_20 : decode method_3_code 20 = .ok (.goto 4, 3) := by decide +kernel
theorem d1_24 : decode method_3_code 24 = .ok (.ireturn, 1) := by decide +kernel
theorem d1_15 : decode method_3_code 15 = .ok (.iconst 0, 1) := by decide +kernel
theorem ef_rm_check (m : MethodId) (xa : Int32) : entryFrame m #[(.int xa)] 1 = mkF m 0 #[.val (.int xa)] [] := by first | (simp [entryFrame, mkF, argsToLocals, Value.category]; done) | rfl
def Q_rm_check (Z : State) (xa : Int32) (h0 : Heap) (n0 : Nat) (v : Option Value) (h : Heap) (L : List Loc) : Prop := v = some (.int (1 : Int32)) ∧ Fr n0 L ∧ h = h0
set_option maxRecDepth 65536 in
set_option maxHeartbeats 40000000 in
theorem rm_check (l : Launch) (Z : State) (a0 : Array Value) (hw : ∀ d ∈ tables_1, d.before a0 Z = true) (ws : List Jvm.Cond) (xa : Int32) (h0 : Heap) (n0 : Nat) (Z0 : n0 ≤ h0.size) :
    MetFree l (⟨"com/example/feuillet/feuillet/build/XmlWriterIsXmlCharacterPinLaw", "check", "(I)Z"⟩ : MethodName) (head1 (Jvm.Cond.code (⟨"com/example/feuillet/feuillet/build/XmlWriterIsXmlCharacterPinLaw", "check", "(I)Z"⟩ : MethodName) method_3_code 1 (some .boolean) :: ws) ({ frames := 1, cells := 0, slots := 0, locals := 13 } : Room)) (fun a U => a = #[(.int xa)] ∧ Z.Warmed39 U.vm ∧ U.heap = h0) (fun _ _ _ _ _ => True) (fun _ U o U' => ∃ v L, o = .returned v ∧ Q_rm_check Z xa h0 n0 v U'.heap L ∧ FrameEnd U o U' L ({ frames := 1, cells := 0, slots := 0, locals := 13 } : Room).cells ({ frames := 1, cells := 0, slots := 0, locals := 13 } : Room).slots) := by
  refine MetFree.of_bodySF (plainFor_of_name pn1) hisR ?_
  intro p e s m args below meth c s₁ Bd hml0 hP hK
  obtain ⟨rfl, hZ, hh⟩ := hP
  have hx := Bd.exec
  have hby := Bd.bytes
  have hml : c.maxLocals = 1 := hml0
  have hown : s.vm.findClass "com/example/feuillet/feuillet/build/XmlWriterIsXmlCharacterPinLaw" = some m.cls := findClass_of_methodNamed Bd.named
  have hnm := (name_of_methodNamed Bd.named Bd.method).1
  have X0 : Stand p l e ({ frames := 1, cells := 0, slots := 0, locals := 13 } : Room) s m #[(.int xa)] below meth c s₁ [] 0 0 := Stand.of_body Bd
  have e0 : s₁.heap = h0 := by rw [← hh, Bd.state]; rfl
  have N0 := Fr.nil n0
  have pre0 : ∀ t, Steps p.tables e below (s₁.setTop (mkF m 0 #[.val (.int xa)] [])) t → Steps p.tables e below (s₁.setTop (entryFrame m #[(.int xa)] 1)) t := fun t k => castTop (ef_rm_check m xa) k
  have pre1 : ∀ t, Steps p.tables e below (s₁.setTop (mkF m 1 #[.val (.int xa)] [(.int xa)])) t → Steps p.tables e below (s₁.setTop (entryFrame m #[(.int xa)] 1)) t := by
    intro t k
    refine pre0 t ?_
    refine XS.iloadN X0.here hx rfl (hb hby d1_0) rfl ?_
    show Steps p.tables e below (s₁.setTop (mkF m 1 #[.val (.int xa)] [(.int xa)])) _
    exact k
  obtain ⟨_, _, ⟨T2, L2, k2, n2⟩, -, X2, ⟨Lc2, hQ2, l2, y2, z2⟩, st2⟩ := Jvm.LawKit.callS X0 hx (y := (⟨"com/example/feuillet/feuillet/build/XmlWriter", "isXmlCharacter", "(I)Z"⟩ : MethodName)) hown (mvT hZ (hw _ (List.mem_of_getElem? (i := 17) rfl))) (mvT hZ (hw _ (List.mem_of_getElem? (i := 18) rfl))) (mvT hZ (hw _ (List.mem_of_getElem? (i := 19) rfl))) (mvT hZ (hw _ (List.mem_of_getElem? (i := 20) rfl))) (by decide) (backOf (W := 0) (rm_isXml l Z a0 hw [] xa h0 n0 Z0 ) hZ (hw _ (List.mem_of_getElem? (i := 20) rfl)) (hw _ (List.mem_of_getElem? (i := 19) rfl)) (by decide) (by decide)) (g := (mkF m 1 #[.val (.int xa)] [(.int xa)])) rfl (by rw [hml]; rfl) (argsL := [(.int xa)]) (rest := []) (lenOf pd0 rfl) rfl (by show 2 * 0 + _ ≤ _; exact Nat.le_of_eq rfl) (hb hby d1_1) (fun _ _ => ⟨rfl, e0, (by decide : 0 + 0 ≤ _), (by decide : 0 + 0 ≤ _)⟩)
  dsimp only [Pt.U, Pt.locs, Pt.cells, Pt.slots] at X2 l2 y2 z2 st2 hQ2
  subst l2 y2 z2
  obtain ⟨rfl, M2, e2⟩ := hQ2
  have N2 := Fr.app N0 M2
  have pre3 : ∀ t, Steps p.tables e below (T2.setTop (mkF m 4 #[.val (.int xa)] [(.int (F_rm_isXml xa))])) t → Steps p.tables e below (s₁.setTop (entryFrame m #[(.int xa)] 1)) t := fun t k => pre1 t (st2 t k)
  have pre4 : ∀ t, Steps p.tables e below (T2.setTop (mkF m 5 #[.val (.int xa)] [(.int xa), (.int (F_rm_isXml xa))])) t → Steps p.tables e below (s₁.setTop (entryFrame m #[(.int xa)] 1)) t := by
    intro t k
    refine pre3 t ?_
    refine XS.iloadN X2.here hx rfl (hb hby d1_4) rfl ?_
    show Steps p.tables e below (T2.setTop (mkF m 5 #[.val (.int xa)] [(.int xa), (.int (F_rm_isXml xa))])) _
    exact k
  obtain ⟨_, _, ⟨T5, L5, k5, n5⟩, -, X5, ⟨Lc5, hQ5, l5, y5, z5⟩, st5⟩ := Jvm.LawKit.callS X2 hx (y := (⟨"com/example/feuillet/feuillet/build/XmlWriterIsXmlCharacterPinLaw", "excluded", "(I)Z"⟩ : MethodName)) hown (mvT hZ (hw _ (List.mem_of_getElem? (i := 23) rfl))) (mvT hZ (hw _ (List.mem_of_getElem? (i := 24) rfl))) (mvT hZ (hw _ (List.mem_of_getElem? (i := 15) rfl))) (mvT hZ (hw _ (List.mem_of_getElem? (i := 25) rfl))) (by decide) (backOf (W := 1) (rm_excl l Z a0 hw [] xa h0 n0 Z0 ) hZ (hw _ (List.mem_of_getElem? (i := 25) rfl)) (hw _ (List.mem_of_getElem? (i := 15) rfl)) (by decide) (by decide)) (g := (mkF m 5 #[.val (.int xa)] [(.int xa), (.int (F_rm_isXml xa))])) rfl (by rw [hml]; rfl) (argsL := [(.int xa)]) (rest := [(.int (F_rm_isXml xa))]) (lenOf pd0 rfl) rfl (by show 2 * 0 + _ ≤ _; exact Nat.le_of_eq rfl) (hb hby d1_5) (fun _ _ => ⟨rfl, e2, (by decide : 0 + 0 ≤ _), (by decide : 0 + 0 ≤ _)⟩)
  dsimp only [Pt.U, Pt.locs, Pt.cells, Pt.slots] at X5 l5 y5 z5 st5 hQ5
  subst l5 y5 z5
  obtain ⟨rfl, M5, e5⟩ := hQ5
  have N5 := Fr.app N2 M5
  have pre6 : ∀ t, Steps p.tables e below (T5.setTop (mkF m 8 #[.val (.int xa)] [(.int (F_rm_excl xa)), (.int (F_rm_isXml xa))])) t → Steps p.tables e below (s₁.setTop (entryFrame m #[(.int xa)] 1)) t := fun t k => pre4 t (st5 t k)
  by_cases hc8 : (F_rm_excl xa) = (0 : Int32)
  · have pre7 : ∀ t, Steps p.tables e below (T5.setTop (mkF m 24 #[.val (.int xa)] [(.int (1 : Int32))])) t → Steps p.tables e below (s₁.setTop (entryFrame m #[(.int xa)] 1)) t := by
      intro t k
      refine pre6 t ?_
      refine XS.ifNo X5.here hx rfl (hb hby d1_8) rfl ((if0 _ _).trans (teq hc8).2) ?_
      show Steps p.tables e below (T5.setTop (mkF m 11 #[.val (.int xa)] [(.int (F_rm_isXml xa))])) _
      refine XS.iconst X5.here hx rfl (hb hby d1_11) ?_
      show Steps p.tables e below (T5.setTop (mkF m 12 #[.val (.int xa)] [(.int (1 : Int32)), (.int (F_rm_isXml xa))])) _
      refine XS.goto X5.here hx rfl (pc0 := 12) (pc' := 16) rfl (hb hby d1_12) (by decide) (by decide) ?_
      show Steps p.tables e below (T5.setTop (mkF m 16 #[.val (.int xa)] [(.int (1 : Int32)), (.int (F_rm_isXml xa))])) _
      refine XS.icmpNo X5.here hx rfl (hb hby d1_16) rfl (teq (show (F_rm_isXml xa) = (1 : Int32) from (own_law xa).trans (if_pos hc8))).2 ?_
      show Steps p.tables e below (T5.setTop (mkF m 19 #[.val (.int xa)] [])) _
      refine XS.iconst X5.here hx rfl (hb hby d1_19) ?_
      show Steps p.tables e below (T5.setTop (mkF m 20 #[.val (.int xa)] [(.int (1 : Int32))])) _
      refine XS.goto X5.here hx rfl (pc0 := 20) (pc' := 24) rfl (hb hby d1_20) (by decide) (by decide) ?_
      show Steps p.tables e below (T5.setTop (mkF m 24 #[.val (.int xa)] [(.int (1 : Int32))])) _
      exact k
    obtain ⟨fs, hr, hrun, hended, hW, hsame⟩ := X5.leave (v := some (.int (1 : Int32))) (fun h => by rw [Bd.returns] at h; cases h)
    refine ⟨_, _, pre7 _ ?_, hrun, hended, _, _, rfl, ?_, ⟨_, rfl⟩, hW, hsame.mono (by decide) (by decide)⟩
    · exact retN X5 hx (t := .boolean) Bd.returns (by simp) (hb hby d1_24) hr
    · show Q_rm_check Z xa h0 n0 _ T5.heap _
      rw [e5]
      exact ⟨rfl, N5, rfl⟩
  · have pre8 : ∀ t, Steps p.tables e below (T5.setTop (mkF m 24 #[.val (.int xa)] [(.int (1 : Int32))])) t → Steps p.tables e below (s₁.setTop (entryFrame m #[(.int xa)] 1)) t := by
      intro t k
      refine pre6 t ?_
      refine XS.ifYes X5.here hx rfl (pc0 := 8) (pc' := 15) rfl (hb hby d1_8) rfl ((if0 _ _).trans (feq hc8).2) (by decide) (by decide) ?_
      show Steps p.tables e below (T5.setTop (mkF m 15 #[.val (.int xa)] [(.int (F_rm_isXml xa))])) _
      refine XS.iconst X5.here hx rfl (hb hby d1_15) ?_
      show Steps p.tables e below (T5.setTop (mkF m 16 #[.val (.int xa)] [(.int (0 : Int32)), (.int (F_rm_isXml xa))])) _
      refine XS.icmpNo X5.here hx rfl (hb hby d1_16) rfl (teq (show (F_rm_isXml xa) = (0 : Int32) from (own_law xa).trans (if_neg hc8))).2 ?_
      show Steps p.tables e below (T5.setTop (mkF m 19 #[.val (.int xa)] [])) _
      refine XS.iconst X5.here hx rfl (hb hby d1_19) ?_
      show Steps p.tables e below (T5.setTop (mkF m 20 #[.val (.int xa)] [(.int (1 : Int32))])) _
      refine XS.goto X5.here hx rfl (pc0 := 20) (pc' := 24) rfl (hb hby d1_20) (by decide) (by decide) ?_
      show Steps p.tables e below (T5.setTop (mkF m 24 #[.val (.int xa)] [(.int (1 : Int32))])) _
      exact k
    obtain ⟨fs, hr, hrun, hended, hW, hsame⟩ := X5.leave (v := some (.int (1 : Int32))) (fun h => by rw [Bd.returns] at h; cases h)
    refine ⟨_, _, pre8 _ ?_, hrun, hended, _, _, rfl, ?_, ⟨_, rfl⟩, hW, hsame.mono (by decide) (by decide)⟩
    · exact retN X5 hx (t := .boolean) Bd.returns (by simp) (hb hby d1_24) hr
    · show Q_rm_check Z xa h0 n0 _ T5.heap _
      rw [e5]
      exact ⟨rfl, N5, rfl⟩
def own_edges : List Int32 := [0, 8, 9, 10, 12, 13, 31, 32, 55295, 55296, 57343, 57344, 65533, 65534, 65535, 65536, 1114111, 1114112, -2147483648, 2147483647]
def own_edge (j : Int32) : Int32 := own_edges.getD j.toNatClampNeg 0
theorem own_getD (xs : List Int32) (i : Nat) : (xs.map Value.int).getD i (.int (0 : Int32)) = .int (xs.getD i 0) := by
  simp only [List.getD_eq_getElem?_getD, List.getElem?_map]
  cases xs[i]? <;> rfl
theorem own_idx (xb : Int32) : ¬ (((xb &&& (2147483647 : Int32)) % (20 : Int32)) < 0) ∧ ((xb &&& (2147483647 : Int32)) % (20 : Int32)) < (20 : Int32) := by
  have := rng32 xb
  have := c_mask xb (2147483647 : Int32) 31 (by decide) (by decide +kernel)
  have := rng32 (xb &&& (2147483647 : Int32))
  have : (20 : Int32).toInt = 20 := rfl
  have := c_irem (xb &&& (2147483647 : Int32)) (20 : Int32) 20 rfl
  have := rng32 ((xb &&& (2147483647 : Int32)) % (20 : Int32))
  have : (0 : Int32).toInt = 0 := rfl
  simp only [Int32.lt_iff_toInt_lt]
  omega
theorem ef_rm0 (m : MethodId) (xa : Int32) (xb : Int32) (xc : Int32) : entryFrame m #[(.int xa), (.int xb), (.int xc)] maxLocals = mkF m 0 #[.val (.int xa), .val (.int xb), .val (.int xc), .unset, .unset] [] := by first | (simp [entryFrame, mkF, argsToLocals, Value.category, maxLocals]; done) | rfl
def Q_rm0 (Z : State) (xa : Int32) (xb : Int32) (xc : Int32) (h0 : Heap) (n0 : Nat) (v : Option Value) (h : Heap) (L : List Loc) : Prop := v = some (.int (1 : Int32)) ∧ Fr n0 L
set_option maxRecDepth 65536 in
set_option maxHeartbeats 40000000 in
theorem rm0 (l : Launch) (Z : State) (a0 : Array Value) (hw : ∀ d ∈ tables_1, d.before a0 Z = true) (ws : List Jvm.Cond) (xa : Int32) (xb : Int32) (xc : Int32) (h0 : Heap) (n0 : Nat) (Z0 : n0 ≤ h0.size) :
    MetFree l x (head1 (Jvm.Cond.code x code maxLocals ret :: ws) room_1) (fun a U => a = #[(.int xa), (.int xb), (.int xc)] ∧ Z.Warmed39 U.vm ∧ U.heap = h0) (fun _ _ _ _ _ => True) (fun _ U o U' => ∃ v L, o = .returned v ∧ Q_rm0 Z xa xb xc h0 n0 v U'.heap L ∧ FrameEnd U o U' L room_1.cells room_1.slots) := by
  refine MetFree.of_bodySF (plainFor_of_name pn1) hisR ?_
  intro p e s m args below meth c s₁ Bd hml0 hP hK
  obtain ⟨rfl, hZ, hh⟩ := hP
  have hx := Bd.exec
  have hby := Bd.bytes
  have hml : c.maxLocals = 5 := hml0
  have hown : s.vm.findClass "com/example/feuillet/feuillet/build/XmlWriterIsXmlCharacterPinLaw" = some m.cls := findClass_of_methodNamed Bd.named
  have hnm := (name_of_methodNamed Bd.named Bd.method).1
  have X0 : Stand p l e room_1 s m #[(.int xa), (.int xb), (.int xc)] below meth c s₁ [] 0 0 := Stand.of_body Bd
  have e0 : s₁.heap = h0 := by rw [← hh, Bd.state]; rfl
  have N0 := Fr.nil n0
  have pre0 : ∀ t, Steps p.tables e below (s₁.setTop (mkF m 0 #[.val (.int xa), .val (.int xb), .val (.int xc), .unset, .unset] [])) t → Steps p.tables e below (s₁.setTop (entryFrame m #[(.int xa), (.int xb), (.int xc)] maxLocals)) t := fun t k => castTop (ef_rm0 m xa xb xc) k
  have pre1 : ∀ t, Steps p.tables e below (s₁.setTop (mkF m 2 #[.val (.int xa), .val (.int xb), .val (.int xc), .unset, .unset] [(.int (20 : Int32))])) t → Steps p.tables e below (s₁.setTop (entryFrame m #[(.int xa), (.int xb), (.int xc)] maxLocals)) t := by
    intro t k
    refine pre0 t ?_
    refine XS.bipush X0.here hx rfl (hb hby at_0) ?_
    show Steps p.tables e below (s₁.setTop (mkF m 2 #[.val (.int xa), .val (.int xb), .val (.int xc), .unset, .unset] [(.int (20 : Int32))])) _
    exact k
  obtain ⟨T2, h2, k2, X2, e2, E2, A2, st2⟩ := newP X0 hx hZ (hw _ (List.mem_of_getElem? (i := 0) rfl)) e0 (g := (mkF m 2 #[.val (.int xa), .val (.int xb), .val (.int xc), .unset, .unset] [(.int (20 : Int32))])) rfl (hb hby at_2) rfl (by decide) (cap := 20) (by decide) (by decide) (by decide) (by decide)
  obtain ⟨b2, g2⟩ : ∃ z, z = h0.size := ⟨_, rfl⟩
  rw [← g2] at A2 st2
  have g_b2 : n0 ≤ b2 := Nat.le_trans Z0 (Nat.le_of_eq g2.symm)
  have sz_b2 : h0.size ≤ b2 := Nat.le_trans (Keep.refl h0 ([] : List Addr)).1 (Nat.le_of_eq g2.symm)
  have K2 : Keep h0 h2 ([] : List Addr) := (Keep.refl h0 ([] : List Addr)).ext E2
  have z2 : n0 ≤ h2.size := Nat.le_trans Z0 K2.1
  have V_b2 : Arv Z h2 b2 k2 .int (20 : Int32) [(.int (0 : Int32)), (.int (0 : Int32)), (.int (0 : Int32)), (.int (0 : Int32)), (.int (0 : Int32)), (.int (0 : Int32)), (.int (0 : Int32)), (.int (0 : Int32)), (.int (0 : Int32)), (.int (0 : Int32)), (.int (0 : Int32)), (.int (0 : Int32)), (.int (0 : Int32)), (.int (0 : Int32)), (.int (0 : Int32)), (.int (0 : Int32)), (.int (0 : Int32)), (.int (0 : Int32)), (.int (0 : Int32)), (.int (0 : Int32))] (.int (0 : Int32)) := (Arv.new A2 (by decide)).pad (pad_rep [] (.int (0 : Int32)) 20)
  have pre3 : ∀ t, Steps p.tables e below (T2.setTop (mkF m 4 #[.val (.int xa), .val (.int xb), .val (.int xc), .unset, .unset] [(.ref b2)])) t → Steps p.tables e below (s₁.setTop (entryFrame m #[(.int xa), (.int xb), (.int xc)] maxLocals)) t := fun t k => pre1 t (st2 t k)
  have pre4 : ∀ t, Steps p.tables e below (T2.setTop (mkF m 7 #[.val (.int xa), .val (.int xb), .val (.int xc), .unset, .unset] [(.int (0 : Int32)), (.int (0 : Int32)), (.ref b2), (.ref b2)])) t → Steps p.tables e below (s₁.setTop (entryFrame m #[(.int xa), (.int xb), (.int xc)] maxLocals)) t := by
    intro t k
    refine pre3 t ?_
    refine XS.dup X2.here hx rfl (hb hby at_4) rfl rfl ?_
    show Steps p.tables e below (T2.setTop (mkF m 5 #[.val (.int xa), .val (.int xb), .val (.int xc), .unset, .unset] [(.ref b2), (.ref b2)])) _
    refine XS.iconst X2.here hx rfl (hb hby at_5) ?_
    show Steps p.tables e below (T2.setTop (mkF m 6 #[.val (.int xa), .val (.int xb), .val (.int xc), .unset, .unset] [(.int (0 : Int32)), (.ref b2), (.ref b2)])) _
    refine XS.iconst X2.here hx rfl (hb hby at_6) ?_
    show Steps p.tables e below (T2.setTop (mkF m 7 #[.val (.int xa), .val (.int xb), .val (.int xc), .unset, .unset] [(.int (0 : Int32)), (.int (0 : Int32)), (.ref b2), (.ref b2)])) _
    exact k
  obtain ⟨c5, a5, q5, s5, m5, i5, u5⟩ := id V_b2
  obtain ⟨T6, h6, X6, e6, W6, st6⟩ := stI X2 hx hZ e2 a5 (j := (0 : Int32)) (inb_of s5 ⟨by decide, by decide⟩) (g := (mkF m 7 #[.val (.int xa), .val (.int xb), .val (.int xc), .unset, .unset] [(.int (0 : Int32)), (.int (0 : Int32)), (.ref b2), (.ref b2)])) rfl rfl (hb hby at_7)
  have K6 : Keep h0 h6 ([] : List Addr) := K2.wr W6 (Or.inr sz_b2)
  have z6 : n0 ≤ h6.size := Nat.le_trans Z0 K6.1
  have N6 := Fr.snoc X6 N0 g_b2
  have V6 : Arv Z h6 b2 k2 .int (20 : Int32) [(.int (0 : Int32)), (.int (0 : Int32)), (.int (0 : Int32)), (.int (0 : Int32)), (.int (0 : Int32)), (.int (0 : Int32)), (.int (0 : Int32)), (.int (0 : Int32)), (.int (0 : Int32)), (.int (0 : Int32)), (.int (0 : Int32)), (.int (0 : Int32)), (.int (0 : Int32)), (.int (0 : Int32)), (.int (0 : Int32)), (.int (0 : Int32)), (.int (0 : Int32)), (.int (0 : Int32)), (.int (0 : Int32)), (.int (0 : Int32))] (.int (0 : Int32)) := Arv.set a5 q5 s5 m5 i5 u5 rfl W6 0 rfl (Nat.le_of_ble_eq_true rfl)
  have pre7 : ∀ t, Steps p.tables e below (T6.setTop (mkF m 8 #[.val (.int xa), .val (.int xb), .val (.int xc), .unset, .unset] [(.ref b2)])) t → Steps p.tables e below (s₁.setTop (entryFrame m #[(.int xa), (.int xb), (.int xc)] maxLocals)) t := fun t k => pre4 t (st6 t k)
  have pre8 : ∀ t, Steps p.tables e below (T6.setTop (mkF m 12 #[.val (.int xa), .val (.int xb), .val (.int xc), .unset, .unset] [(.int (8 : Int32)), (.int (1 : Int32)), (.ref b2), (.ref b2)])) t → Steps p.tables e below (s₁.setTop (entryFrame m #[(.int xa), (.int xb), (.int xc)] maxLocals)) t := by
    intro t k
    refine pre7 t ?_
    refine XS.dup X6.here hx rfl (hb hby at_8) rfl rfl ?_
    show Steps p.tables e below (T6.setTop (mkF m 9 #[.val (.int xa), .val (.int xb), .val (.int xc), .unset, .unset] [(.ref b2), (.ref b2)])) _
    refine XS.iconst X6.here hx rfl (hb hby at_9) ?_
    show Steps p.tables e below (T6.setTop (mkF m 10 #[.val (.int xa), .val (.int xb), .val (.int xc), .unset, .unset] [(.int (1 : Int32)), (.ref b2), (.ref b2)])) _
    refine XS.bipush X6.here hx rfl (hb hby at_10) ?_
    show Steps p.tables e below (T6.setTop (mkF m 12 #[.val (.int xa), .val (.int xb), .val (.int xc), .unset, .unset] [(.int (8 : Int32)), (.int (1 : Int32)), (.ref b2), (.ref b2)])) _
    exact k
  obtain ⟨c9, a9, q9, s9, m9, i9, u9⟩ := id V6
  obtain ⟨T10, h10, X10, e10, W10, st10⟩ := stI X6 hx hZ e6 a9 (j := (1 : Int32)) (inb_of s9 ⟨by decide, by decide⟩) (g := (mkF m 12 #[.val (.int xa), .val (.int xb), .val (.int xc), .unset, .unset] [(.int (8 : Int32)), (.int (1 : Int32)), (.ref b2), (.ref b2)])) rfl rfl (hb hby at_12)
  have K10 : Keep h0 h10 ([] : List Addr) := K6.wr W10 (Or.inr sz_b2)
  have z10 : n0 ≤ h10.size := Nat.le_trans Z0 K10.1
  have N10 := Fr.snoc X10 N6 g_b2
  have V10 : Arv Z h10 b2 k2 .int (20 : Int32) [(.int (0 : Int32)), (.int (8 : Int32)), (.int (0 : Int32)), (.int (0 : Int32)), (.int (0 : Int32)), (.int (0 : Int32)), (.int (0 : Int32)), (.int (0 : Int32)), (.int (0 : Int32)), (.int (0 : Int32)), (.int (0 : Int32)), (.int (0 : Int32)), (.int (0 : Int32)), (.int (0 : Int32)), (.int (0 : Int32)), (.int (0 : Int32)), (.int (0 : Int32)), (.int (0 : Int32)), (.int (0 : Int32)), (.int (0 : Int32))] (.int (0 : Int32)) := Arv.set a9 q9 s9 m9 i9 u9 rfl W10 1 rfl (Nat.le_of_ble_eq_true rfl)
  have pre11 : ∀ t, Steps p.tables e below (T10.setTop (mkF m 13 #[.val (.int xa), .val (.int xb), .val (.int xc), .unset, .unset] [(.ref b2)])) t → Steps p.tables e below (s₁.setTop (entryFrame m #[(.int xa), (.int xb), (.int xc)] maxLocals)) t := fun t k => pre8 t (st10 t k)
  have pre12 : ∀ t, Steps p.tables e below (T10.setTop (mkF m 17 #[.val (.int xa), .val (.int xb), .val (.int xc), .unset, .unset] [(.int (9 : Int32)), (.int (2 : Int32)), (.ref b2), (.ref b2)])) t → Steps p.tables e below (s₁.setTop (entryFrame m #[(.int xa), (.int xb), (.int xc)] maxLocals)) t := by
    intro t k
    refine pre11 t ?_
    refine XS.dup X10.here hx rfl (hb hby at_13) rfl rfl ?_
    show Steps p.tables e below (T10.setTop (mkF m 14 #[.val (.int xa), .val (.int xb), .val (.int xc), .unset, .unset] [(.ref b2), (.ref b2)])) _
    refine XS.iconst X10.here hx rfl (hb hby at_14) ?_
    show Steps p.tables e below (T10.setTop (mkF m 15 #[.val (.int xa), .val (.int xb), .val (.int xc), .unset, .unset] [(.int (2 : Int32)), (.ref b2), (.ref b2)])) _
    refine XS.bipush X10.here hx rfl (hb hby at_15) ?_
    show Steps p.tables e below (T10.setTop (mkF m 17 #[.val (.int xa), .val (.int xb), .val (.int xc), .unset, .unset] [(.int (9 : Int32)), (.int (2 : Int32)), (.ref b2), (.ref b2)])) _
    exact k
  obtain ⟨c13, a13, q13, s13, m13, i13, u13⟩ := id V10
  obtain ⟨T14, h14, X14, e14, W14, st14⟩ := stI X10 hx hZ e10 a13 (j := (2 : Int32)) (inb_of s13 ⟨by decide, by decide⟩) (g := (mkF m 17 #[.val (.int xa), .val (.int xb), .val (.int xc), .unset, .unset] [(.int (9 : Int32)), (.int (2 : Int32)), (.ref b2), (.ref b2)])) rfl rfl (hb hby at_17)
  have K14 : Keep h0 h14 ([] : List Addr) := K10.wr W14 (Or.inr sz_b2)
  have z14 : n0 ≤ h14.size := Nat.le_trans Z0 K14.1
  have N14 := Fr.snoc X14 N10 g_b2
  have V14 : Arv Z h14 b2 k2 .int (20 : Int32) [(.int (0 : Int32)), (.int (8 : Int32)), (.int (9 : Int32)), (.int (0 : Int32)), (.int (0 : Int32)), (.int (0 : Int32)), (.int (0 : Int32)), (.int (0 : Int32)), (.int (0 : Int32)), (.int (0 : Int32)), (.int (0 : Int32)), (.int (0 : Int32)), (.int (0 : Int32)), (.int (0 : Int32)), (.int (0 : Int32)), (.int (0 : Int32)), (.int (0 : Int32)), (.int (0 : Int32)), (.int (0 : Int32)), (.int (0 : Int32))] (.int (0 : Int32)) := Arv.set a13 q13 s13 m13 i13 u13 rfl W14 2 rfl (Nat.le_of_ble_eq_true rfl)
  have pre15 : ∀ t, Steps p.tables e below (T14.setTop (mkF m 18 #[.val (.int xa), .val (.int xb), .val (.int xc), .unset, .unset] [(.ref b2)])) t → Steps p.tables e below (s₁.setTop (entryFrame m #[(.int xa), (.int xb), (.int xc)] maxLocals)) t := fun t k => pre12 t (st14 t k)
  have pre16 : ∀ t, Steps p.tables e below (T14.setTop (mkF m 22 #[.val (.int xa), .val (.int xb), .val (.int xc), .unset, .unset] [(.int (10 : Int32)), (.int (3 : Int32)), (.ref b2), (.ref b2)])) t → Steps p.tables e below (s₁.setTop (entryFrame m #[(.int xa), (.int xb), (.int xc)] maxLocals)) t := by
    intro t k
    refine pre15 t ?_
    refine XS.dup X14.here hx rfl (hb hby at_18) rfl rfl ?_
    show Steps p.tables e below (T14.setTop (mkF m 19 #[.val (.int xa), .val (.int xb), .val (.int xc), .unset, .unset] [(.ref b2), (.ref b2)])) _
    refine XS.iconst X14.here hx rfl (hb hby at_19) ?_
    show Steps p.tables e below (T14.setTop (mkF m 20 #[.val (.int xa), .val (.int xb), .val (.int xc), .unset, .unset] [(.int (3 : Int32)), (.ref b2), (.ref b2)])) _
    refine XS.bipush X14.here hx rfl (hb hby at_20) ?_
    show Steps p.tables e below (T14.setTop (mkF m 22 #[.val (.int xa), .val (.int xb), .val (.int xc), .unset, .unset] [(.int (10 : Int32)), (.int (3 : Int32)), (.ref b2), (.ref b2)])) _
    exact k
  obtain ⟨c17, a17, q17, s17, m17, i17, u17⟩ := id V14
  obtain ⟨T18, h18, X18, e18, W18, st18⟩ := stI X14 hx hZ e14 a17 (j := (3 : Int32)) (inb_of s17 ⟨by decide, by decide⟩) (g := (mkF m 22 #[.val (.int xa), .val (.int xb), .val (.int xc), .unset, .unset] [(.int (10 : Int32)), (.int (3 : Int32)), (.ref b2), (.ref b2)])) rfl rfl (hb hby at_22)
  have K18 : Keep h0 h18 ([] : List Addr) := K14.wr W18 (Or.inr sz_b2)
  have z18 : n0 ≤ h18.size := Nat.le_trans Z0 K18.1
  have N18 := Fr.snoc X18 N14 g_b2
  have V18 : Arv Z h18 b2 k2 .int (20 : Int32) [(.int (0 : Int32)), (.int (8 : Int32)), (.int (9 : Int32)), (.int (10 : Int32)), (.int (0 : Int32)), (.int (0 : Int32)), (.int (0 : Int32)), (.int (0 : Int32)), (.int (0 : Int32)), (.int (0 : Int32)), (.int (0 : Int32)), (.int (0 : Int32)), (.int (0 : Int32)), (.int (0 : Int32)), (.int (0 : Int32)), (.int (0 : Int32)), (.int (0 : Int32)), (.int (0 : Int32)), (.int (0 : Int32)), (.int (0 : Int32))] (.int (0 : Int32)) := Arv.set a17 q17 s17 m17 i17 u17 rfl W18 3 rfl (Nat.le_of_ble_eq_true rfl)
  have pre19 : ∀ t, Steps p.tables e below (T18.setTop (mkF m 23 #[.val (.int xa), .val (.int xb), .val (.int xc), .unset, .unset] [(.ref b2)])) t → Steps p.tables e below (s₁.setTop (entryFrame m #[(.int xa), (.int xb), (.int xc)] maxLocals)) t := fun t k => pre16 t (st18 t k)
  have pre20 : ∀ t, Steps p.tables e below (T18.setTop (mkF m 27 #[.val (.int xa), .val (.int xb), .val (.int xc), .unset, .unset] [(.int (12 : Int32)), (.int (4 : Int32)), (.ref b2), (.ref b2)])) t → Steps p.tables e below (s₁.setTop (entryFrame m #[(.int xa), (.int xb), (.int xc)] maxLocals)) t := by
    intro t k
    refine pre19 t ?_
    refine XS.dup X18.here hx rfl (hb hby at_23) rfl rfl ?_
    show Steps p.tables e below (T18.setTop (mkF m 24 #[.val (.int xa), .val (.int xb), .val (.int xc), .unset, .unset] [(.ref b2), (.ref b2)])) _
    refine XS.iconst X18.here hx rfl (hb hby at_24) ?_
    show Steps p.tables e below (T18.setTop (mkF m 25 #[.val (.int xa), .val (.int xb), .val (.int xc), .unset, .unset] [(.int (4 : Int32)), (.ref b2), (.ref b2)])) _
    refine XS.bipush X18.here hx rfl (hb hby at_25) ?_
    show Steps p.tables e below (T18.setTop (mkF m 27 #[.val (.int xa), .val (.int xb), .val (.int xc), .unset, .unset] [(.int (12 : Int32)), (.int (4 : Int32)), (.ref b2), (.ref b2)])) _
    exact k
  obtain ⟨c21, a21, q21, s21, m21, i21, u21⟩ := id V18
  obtain ⟨T22, h22, X22, e22, W22, st22⟩ := stI X18 hx hZ e18 a21 (j := (4 : Int32)) (inb_of s21 ⟨by decide, by decide⟩) (g := (mkF m 27 #[.val (.int xa), .val (.int xb), .val (.int xc), .unset, .unset] [(.int (12 : Int32)), (.int (4 : Int32)), (.ref b2), (.ref b2)])) rfl rfl (hb hby at_27)
  have K22 : Keep h0 h22 ([] : List Addr) := K18.wr W22 (Or.inr sz_b2)
  have z22 : n0 ≤ h22.size := Nat.le_trans Z0 K22.1
  have N22 := Fr.snoc X22 N18 g_b2
  have V22 : Arv Z h22 b2 k2 .int (20 : Int32) [(.int (0 : Int32)), (.int (8 : Int32)), (.int (9 : Int32)), (.int (10 : Int32)), (.int (12 : Int32)), (.int (0 : Int32)), (.int (0 : Int32)), (.int (0 : Int32)), (.int (0 : Int32)), (.int (0 : Int32)), (.int (0 : Int32)), (.int (0 : Int32)), (.int (0 : Int32)), (.int (0 : Int32)), (.int (0 : Int32)), (.int (0 : Int32)), (.int (0 : Int32)), (.int (0 : Int32)), (.int (0 : Int32)), (.int (0 : Int32))] (.int (0 : Int32)) := Arv.set a21 q21 s21 m21 i21 u21 rfl W22 4 rfl (Nat.le_of_ble_eq_true rfl)
  have pre23 : ∀ t, Steps p.tables e below (T22.setTop (mkF m 28 #[.val (.int xa), .val (.int xb), .val (.int xc), .unset, .unset] [(.ref b2)])) t → Steps p.tables e below (s₁.setTop (entryFrame m #[(.int xa), (.int xb), (.int xc)] maxLocals)) t := fun t k => pre20 t (st22 t k)
  have pre24 : ∀ t, Steps p.tables e below (T22.setTop (mkF m 32 #[.val (.int xa), .val (.int xb), .val (.int xc), .unset, .unset] [(.int (13 : Int32)), (.int (5 : Int32)), (.ref b2), (.ref b2)])) t → Steps p.tables e below (s₁.setTop (entryFrame m #[(.int xa), (.int xb), (.int xc)] maxLocals)) t := by
    intro t k
    refine pre23 t ?_
    refine XS.dup X22.here hx rfl (hb hby at_28) rfl rfl ?_
    show Steps p.tables e below (T22.setTop (mkF m 29 #[.val (.int xa), .val (.int xb), .val (.int xc), .unset, .unset] [(.ref b2), (.ref b2)])) _
    refine XS.iconst X22.here hx rfl (hb hby at_29) ?_
    show Steps p.tables e below (T22.setTop (mkF m 30 #[.val (.int xa), .val (.int xb), .val (.int xc), .unset, .unset] [(.int (5 : Int32)), (.ref b2), (.ref b2)])) _
    refine XS.bipush X22.here hx rfl (hb hby at_30) ?_
    show Steps p.tables e below (T22.setTop (mkF m 32 #[.val (.int xa), .val (.int xb), .val (.int xc), .unset, .unset] [(.int (13 : Int32)), (.int (5 : Int32)), (.ref b2), (.ref b2)])) _
    exact k
  obtain ⟨c25, a25, q25, s25, m25, i25, u25⟩ := id V22
  obtain ⟨T26, h26, X26, e26, W26, st26⟩ := stI X22 hx hZ e22 a25 (j := (5 : Int32)) (inb_of s25 ⟨by decide, by decide⟩) (g := (mkF m 32 #[.val (.int xa), .val (.int xb), .val (.int xc), .unset, .unset] [(.int (13 : Int32)), (.int (5 : Int32)), (.ref b2), (.ref b2)])) rfl rfl (hb hby at_32)
  have K26 : Keep h0 h26 ([] : List Addr) := K22.wr W26 (Or.inr sz_b2)
  have z26 : n0 ≤ h26.size := Nat.le_trans Z0 K26.1
  have N26 := Fr.snoc X26 N22 g_b2
  have V26 : Arv Z h26 b2 k2 .int (20 : Int32) [(.int (0 : Int32)), (.int (8 : Int32)), (.int (9 : Int32)), (.int (10 : Int32)), (.int (12 : Int32)), (.int (13 : Int32)), (.int (0 : Int32)), (.int (0 : Int32)), (.int (0 : Int32)), (.int (0 : Int32)), (.int (0 : Int32)), (.int (0 : Int32)), (.int (0 : Int32)), (.int (0 : Int32)), (.int (0 : Int32)), (.int (0 : Int32)), (.int (0 : Int32)), (.int (0 : Int32)), (.int (0 : Int32)), (.int (0 : Int32))] (.int (0 : Int32)) := Arv.set a25 q25 s25 m25 i25 u25 rfl W26 5 rfl (Nat.le_of_ble_eq_true rfl)
  have pre27 : ∀ t, Steps p.tables e below (T26.setTop (mkF m 33 #[.val (.int xa), .val (.int xb), .val (.int xc), .unset, .unset] [(.ref b2)])) t → Steps p.tables e below (s₁.setTop (entryFrame m #[(.int xa), (.int xb), (.int xc)] maxLocals)) t := fun t k => pre24 t (st26 t k)
  have pre28 : ∀ t, Steps p.tables e below (T26.setTop (mkF m 38 #[.val (.int xa), .val (.int xb), .val (.int xc), .unset, .unset] [(.int (31 : Int32)), (.int (6 : Int32)), (.ref b2), (.ref b2)])) t → Steps p.tables e below (s₁.setTop (entryFrame m #[(.int xa), (.int xb), (.int xc)] maxLocals)) t := by
    intro t k
    refine pre27 t ?_
    refine XS.dup X26.here hx rfl (hb hby at_33) rfl rfl ?_
    show Steps p.tables e below (T26.setTop (mkF m 34 #[.val (.int xa), .val (.int xb), .val (.int xc), .unset, .unset] [(.ref b2), (.ref b2)])) _
    refine XS.bipush X26.here hx rfl (hb hby at_34) ?_
    show Steps p.tables e below (T26.setTop (mkF m 36 #[.val (.int xa), .val (.int xb), .val (.int xc), .unset, .unset] [(.int (6 : Int32)), (.ref b2), (.ref b2)])) _
    refine XS.bipush X26.here hx rfl (hb hby at_36) ?_
    show Steps p.tables e below (T26.setTop (mkF m 38 #[.val (.int xa), .val (.int xb), .val (.int xc), .unset, .unset] [(.int (31 : Int32)), (.int (6 : Int32)), (.ref b2), (.ref b2)])) _
    exact k
  obtain ⟨c29, a29, q29, s29, m29, i29, u29⟩ := id V26
  obtain ⟨T30, h30, X30, e30, W30, st30⟩ := stI X26 hx hZ e26 a29 (j := (6 : Int32)) (inb_of s29 ⟨by decide, by decide⟩) (g := (mkF m 38 #[.val (.int xa), .val (.int xb), .val (.int xc), .unset, .unset] [(.int (31 : Int32)), (.int (6 : Int32)), (.ref b2), (.ref b2)])) rfl rfl (hb hby at_38)
  have K30 : Keep h0 h30 ([] : List Addr) := K26.wr W30 (Or.inr sz_b2)
  have z30 : n0 ≤ h30.size := Nat.le_trans Z0 K30.1
  have N30 := Fr.snoc X30 N26 g_b2
  have V30 : Arv Z h30 b2 k2 .int (20 : Int32) [(.int (0 : Int32)), (.int (8 : Int32)), (.int (9 : Int32)), (.int (10 : Int32)), (.int (12 : Int32)), (.int (13 : Int32)), (.int (31 : Int32)), (.int (0 : Int32)), (.int (0 : Int32)), (.int (0 : Int32)), (.int (0 : Int32)), (.int (0 : Int32)), (.int (0 : Int32)), (.int (0 : Int32)), (.int (0 : Int32)), (.int (0 : Int32)), (.int (0 : Int32)), (.int (0 : Int32)), (.int (0 : Int32)), (.int (0 : Int32))] (.int (0 : Int32)) := Arv.set a29 q29 s29 m29 i29 u29 rfl W30 6 rfl (Nat.le_of_ble_eq_true rfl)
  have pre31 : ∀ t, Steps p.tables e below (T30.setTop (mkF m 39 #[.val (.int xa), .val (.int xb), .val (.int xc), .unset, .unset] [(.ref b2)])) t → Steps p.tables e below (s₁.setTop (entryFrame m #[(.int xa), (.int xb), (.int xc)] maxLocals)) t := fun t k => pre28 t (st30 t k)
  have pre32 : ∀ t, Steps p.tables e below (T30.setTop (mkF m 44 #[.val (.int xa), .val (.int xb), .val (.int xc), .unset, .unset] [(.int (32 : Int32)), (.int (7 : Int32)), (.ref b2), (.ref b2)])) t → Steps p.tables e below (s₁.setTop (entryFrame m #[(.int xa), (.int xb), (.int xc)] maxLocals)) t := by
    intro t k
    refine pre31 t ?_
    refine XS.dup X30.here hx rfl (hb hby at_39) rfl rfl ?_
    show Steps p.tables e below (T30.setTop (mkF m 40 #[.val (.int xa), .val (.int xb), .val (.int xc), .unset, .unset] [(.ref b2), (.ref b2)])) _
    refine XS.bipush X30.here hx rfl (hb hby at_40) ?_
    show Steps p.tables e below (T30.setTop (mkF m 42 #[.val (.int xa), .val (.int xb), .val (.int xc), .unset, .unset] [(.int (7 : Int32)), (.ref b2), (.ref b2)])) _
    refine XS.bipush X30.here hx rfl (hb hby at_42) ?_
    show Steps p.tables e below (T30.setTop (mkF m 44 #[.val (.int xa), .val (.int xb), .val (.int xc), .unset, .unset] [(.int (32 : Int32)), (.int (7 : Int32)), (.ref b2), (.ref b2)])) _
    exact k
  obtain ⟨c33, a33, q33, s33, m33, i33, u33⟩ := id V30
  obtain ⟨T34, h34, X34, e34, W34, st34⟩ := stI X30 hx hZ e30 a33 (j := (7 : Int32)) (inb_of s33 ⟨by decide, by decide⟩) (g := (mkF m 44 #[.val (.int xa), .val (.int xb), .val (.int xc), .unset, .unset] [(.int (32 : Int32)), (.int (7 : Int32)), (.ref b2), (.ref b2)])) rfl rfl (hb hby at_44)
  have K34 : Keep h0 h34 ([] : List Addr) := K30.wr W34 (Or.inr sz_b2)
  have z34 : n0 ≤ h34.size := Nat.le_trans Z0 K34.1
  have N34 := Fr.snoc X34 N30 g_b2
  have V34 : Arv Z h34 b2 k2 .int (20 : Int32) [(.int (0 : Int32)), (.int (8 : Int32)), (.int (9 : Int32)), (.int (10 : Int32)), (.int (12 : Int32)), (.int (13 : Int32)), (.int (31 : Int32)), (.int (32 : Int32)), (.int (0 : Int32)), (.int (0 : Int32)), (.int (0 : Int32)), (.int (0 : Int32)), (.int (0 : Int32)), (.int (0 : Int32)), (.int (0 : Int32)), (.int (0 : Int32)), (.int (0 : Int32)), (.int (0 : Int32)), (.int (0 : Int32)), (.int (0 : Int32))] (.int (0 : Int32)) := Arv.set a33 q33 s33 m33 i33 u33 rfl W34 7 rfl (Nat.le_of_ble_eq_true rfl)
  have pre35 : ∀ t, Steps p.tables e below (T34.setTop (mkF m 45 #[.val (.int xa), .val (.int xb), .val (.int xc), .unset, .unset] [(.ref b2)])) t → Steps p.tables e below (s₁.setTop (entryFrame m #[(.int xa), (.int xb), (.int xc)] maxLocals)) t := fun t k => pre32 t (st34 t k)
  have pre36 : ∀ t, Steps p.tables e below (T34.setTop (mkF m 50 #[.val (.int xa), .val (.int xb), .val (.int xc), .unset, .unset] [(.int (55295 : Int32)), (.int (8 : Int32)), (.ref b2), (.ref b2)])) t → Steps p.tables e below (s₁.setTop (entryFrame m #[(.int xa), (.int xb), (.int xc)] maxLocals)) t := by
    intro t k
    refine pre35 t ?_
    refine XS.dup X34.here hx rfl (hb hby at_45) rfl rfl ?_
    show Steps p.tables e below (T34.setTop (mkF m 46 #[.val (.int xa), .val (.int xb), .val (.int xc), .unset, .unset] [(.ref b2), (.ref b2)])) _
    refine XS.bipush X34.here hx rfl (hb hby at_46) ?_
    show Steps p.tables e below (T34.setTop (mkF m 48 #[.val (.int xa), .val (.int xb), .val (.int xc), .unset, .unset] [(.int (8 : Int32)), (.ref b2), (.ref b2)])) _
    refine X34.ldcInt hx hown (mvT hZ (hw _ (List.mem_of_getElem? (i := 1) rfl))) (g := (mkF m 48 #[.val (.int xa), .val (.int xb), .val (.int xc), .unset, .unset] [(.int (8 : Int32)), (.ref b2), (.ref b2)])) rfl (hb hby at_48) _ ?_
    show Steps p.tables e below (T34.setTop (mkF m 50 #[.val (.int xa), .val (.int xb), .val (.int xc), .unset, .unset] [(.int (55295 : Int32)), (.int (8 : Int32)), (.ref b2), (.ref b2)])) _
    exact k
  obtain ⟨c37, a37, q37, s37, m37, i37, u37⟩ := id V34
  obtain ⟨T38, h38, X38, e38, W38, st38⟩ := stI X34 hx hZ e34 a37 (j := (8 : Int32)) (inb_of s37 ⟨by decide, by decide⟩) (g := (mkF m 50 #[.val (.int xa), .val (.int xb), .val (.int xc), .unset, .unset] [(.int (55295 : Int32)), (.int (8 : Int32)), (.ref b2), (.ref b2)])) rfl rfl (hb hby at_50)
  have K38 : Keep h0 h38 ([] : List Addr) := K34.wr W38 (Or.inr sz_b2)
  have z38 : n0 ≤ h38.size := Nat.le_trans Z0 K38.1
  have N38 := Fr.snoc X38 N34 g_b2
  have V38 : Arv Z h38 b2 k2 .int (20 : Int32) [(.int (0 : Int32)), (.int (8 : Int32)), (.int (9 : Int32)), (.int (10 : Int32)), (.int (12 : Int32)), (.int (13 : Int32)), (.int (31 : Int32)), (.int (32 : Int32)), (.int (55295 : Int32)), (.int (0 : Int32)), (.int (0 : Int32)), (.int (0 : Int32)), (.int (0 : Int32)), (.int (0 : Int32)), (.int (0 : Int32)), (.int (0 : Int32)), (.int (0 : Int32)), (.int (0 : Int32)), (.int (0 : Int32)), (.int (0 : Int32))] (.int (0 : Int32)) := Arv.set a37 q37 s37 m37 i37 u37 rfl W38 8 rfl (Nat.le_of_ble_eq_true rfl)
  have pre39 : ∀ t, Steps p.tables e below (T38.setTop (mkF m 51 #[.val (.int xa), .val (.int xb), .val (.int xc), .unset, .unset] [(.ref b2)])) t → Steps p.tables e below (s₁.setTop (entryFrame m #[(.int xa), (.int xb), (.int xc)] maxLocals)) t := fun t k => pre36 t (st38 t k)
  have pre40 : ∀ t, Steps p.tables e below (T38.setTop (mkF m 56 #[.val (.int xa), .val (.int xb), .val (.int xc), .unset, .unset] [(.int (55296 : Int32)), (.int (9 : Int32)), (.ref b2), (.ref b2)])) t → Steps p.tables e below (s₁.setTop (entryFrame m #[(.int xa), (.int xb), (.int xc)] maxLocals)) t := by
    intro t k
    refine pre39 t ?_
    refine XS.dup X38.here hx rfl (hb hby at_51) rfl rfl ?_
    show Steps p.tables e below (T38.setTop (mkF m 52 #[.val (.int xa), .val (.int xb), .val (.int xc), .unset, .unset] [(.ref b2), (.ref b2)])) _
    refine XS.bipush X38.here hx rfl (hb hby at_52) ?_
    show Steps p.tables e below (T38.setTop (mkF m 54 #[.val (.int xa), .val (.int xb), .val (.int xc), .unset, .unset] [(.int (9 : Int32)), (.ref b2), (.ref b2)])) _
    refine X38.ldcInt hx hown (mvT hZ (hw _ (List.mem_of_getElem? (i := 2) rfl))) (g := (mkF m 54 #[.val (.int xa), .val (.int xb), .val (.int xc), .unset, .unset] [(.int (9 : Int32)), (.ref b2), (.ref b2)])) rfl (hb hby at_54) _ ?_
    show Steps p.tables e below (T38.setTop (mkF m 56 #[.val (.int xa), .val (.int xb), .val (.int xc), .unset, .unset] [(.int (55296 : Int32)), (.int (9 : Int32)), (.ref b2), (.ref b2)])) _
    exact k
  obtain ⟨c41, a41, q41, s41, m41, i41, u41⟩ := id V38
  obtain ⟨T42, h42, X42, e42, W42, st42⟩ := stI X38 hx hZ e38 a41 (j := (9 : Int32)) (inb_of s41 ⟨by decide, by decide⟩) (g := (mkF m 56 #[.val (.int xa), .val (.int xb), .val (.int xc), .unset, .unset] [(.int (55296 : Int32)), (.int (9 : Int32)), (.ref b2), (.ref b2)])) rfl rfl (hb hby at_56)
  have K42 : Keep h0 h42 ([] : List Addr) := K38.wr W42 (Or.inr sz_b2)
  have z42 : n0 ≤ h42.size := Nat.le_trans Z0 K42.1
  have N42 := Fr.snoc X42 N38 g_b2
  have V42 : Arv Z h42 b2 k2 .int (20 : Int32) [(.int (0 : Int32)), (.int (8 : Int32)), (.int (9 : Int32)), (.int (10 : Int32)), (.int (12 : Int32)), (.int (13 : Int32)), (.int (31 : Int32)), (.int (32 : Int32)), (.int (55295 : Int32)), (.int (55296 : Int32)), (.int (0 : Int32)), (.int (0 : Int32)), (.int (0 : Int32)), (.int (0 : Int32)), (.int (0 : Int32)), (.int (0 : Int32)), (.int (0 : Int32)), (.int (0 : Int32)), (.int (0 : Int32)), (.int (0 : Int32))] (.int (0 : Int32)) := Arv.set a41 q41 s41 m41 i41 u41 rfl W42 9 rfl (Nat.le_of_ble_eq_true rfl)
  have pre43 : ∀ t, Steps p.tables e below (T42.setTop (mkF m 57 #[.val (.int xa), .val (.int xb), .val (.int xc), .unset, .unset] [(.ref b2)])) t → Steps p.tables e below (s₁.setTop (entryFrame m #[(.int xa), (.int xb), (.int xc)] maxLocals)) t := fun t k => pre40 t (st42 t k)
  have pre44 : ∀ t, Steps p.tables e below (T42.setTop (mkF m 62 #[.val (.int xa), .val (.int xb), .val (.int xc), .unset, .unset] [(.int (57343 : Int32)), (.int (10 : Int32)), (.ref b2), (.ref b2)])) t → Steps p.tables e below (s₁.setTop (entryFrame m #[(.int xa), (.int xb), (.int xc)] maxLocals)) t := by
    intro t k
    refine pre43 t ?_
    refine XS.dup X42.here hx rfl (hb hby at_57) rfl rfl ?_
    show Steps p.tables e below (T42.setTop (mkF m 58 #[.val (.int xa), .val (.int xb), .val (.int xc), .unset, .unset] [(.ref b2), (.ref b2)])) _
    refine XS.bipush X42.here hx rfl (hb hby at_58) ?_
    show Steps p.tables e below (T42.setTop (mkF m 60 #[.val (.int xa), .val (.int xb), .val (.int xc), .unset, .unset] [(.int (10 : Int32)), (.ref b2), (.ref b2)])) _
    refine X42.ldcInt hx hown (mvT hZ (hw _ (List.mem_of_getElem? (i := 3) rfl))) (g := (mkF m 60 #[.val (.int xa), .val (.int xb), .val (.int xc), .unset, .unset] [(.int (10 : Int32)), (.ref b2), (.ref b2)])) rfl (hb hby at_60) _ ?_
    show Steps p.tables e below (T42.setTop (mkF m 62 #[.val (.int xa), .val (.int xb), .val (.int xc), .unset, .unset] [(.int (57343 : Int32)), (.int (10 : Int32)), (.ref b2), (.ref b2)])) _
    exact k
  obtain ⟨c45, a45, q45, s45, m45, i45, u45⟩ := id V42
  obtain ⟨T46, h46, X46, e46, W46, st46⟩ := stI X42 hx hZ e42 a45 (j := (10 : Int32)) (inb_of s45 ⟨by decide, by decide⟩) (g := (mkF m 62 #[.val (.int xa), .val (.int xb), .val (.int xc), .unset, .unset] [(.int (57343 : Int32)), (.int (10 : Int32)), (.ref b2), (.ref b2)])) rfl rfl (hb hby at_62)
  have K46 : Keep h0 h46 ([] : List Addr) := K42.wr W46 (Or.inr sz_b2)
  have z46 : n0 ≤ h46.size := Nat.le_trans Z0 K46.1
  have N46 := Fr.snoc X46 N42 g_b2
  have V46 : Arv Z h46 b2 k2 .int (20 : Int32) [(.int (0 : Int32)), (.int (8 : Int32)), (.int (9 : Int32)), (.int (10 : Int32)), (.int (12 : Int32)), (.int (13 : Int32)), (.int (31 : Int32)), (.int (32 : Int32)), (.int (55295 : Int32)), (.int (55296 : Int32)), (.int (57343 : Int32)), (.int (0 : Int32)), (.int (0 : Int32)), (.int (0 : Int32)), (.int (0 : Int32)), (.int (0 : Int32)), (.int (0 : Int32)), (.int (0 : Int32)), (.int (0 : Int32)), (.int (0 : Int32))] (.int (0 : Int32)) := Arv.set a45 q45 s45 m45 i45 u45 rfl W46 10 rfl (Nat.le_of_ble_eq_true rfl)
  have pre47 : ∀ t, Steps p.tables e below (T46.setTop (mkF m 63 #[.val (.int xa), .val (.int xb), .val (.int xc), .unset, .unset] [(.ref b2)])) t → Steps p.tables e below (s₁.setTop (entryFrame m #[(.int xa), (.int xb), (.int xc)] maxLocals)) t := fun t k => pre44 t (st46 t k)
  have pre48 : ∀ t, Steps p.tables e below (T46.setTop (mkF m 68 #[.val (.int xa), .val (.int xb), .val (.int xc), .unset, .unset] [(.int (57344 : Int32)), (.int (11 : Int32)), (.ref b2), (.ref b2)])) t → Steps p.tables e below (s₁.setTop (entryFrame m #[(.int xa), (.int xb), (.int xc)] maxLocals)) t := by
    intro t k
    refine pre47 t ?_
    refine XS.dup X46.here hx rfl (hb hby at_63) rfl rfl ?_
    show Steps p.tables e below (T46.setTop (mkF m 64 #[.val (.int xa), .val (.int xb), .val (.int xc), .unset, .unset] [(.ref b2), (.ref b2)])) _
    refine XS.bipush X46.here hx rfl (hb hby at_64) ?_
    show Steps p.tables e below (T46.setTop (mkF m 66 #[.val (.int xa), .val (.int xb), .val (.int xc), .unset, .unset] [(.int (11 : Int32)), (.ref b2), (.ref b2)])) _
    refine X46.ldcInt hx hown (mvT hZ (hw _ (List.mem_of_getElem? (i := 4) rfl))) (g := (mkF m 66 #[.val (.int xa), .val (.int xb), .val (.int xc), .unset, .unset] [(.int (11 : Int32)), (.ref b2), (.ref b2)])) rfl (hb hby at_66) _ ?_
    show Steps p.tables e below (T46.setTop (mkF m 68 #[.val (.int xa), .val (.int xb), .val (.int xc), .unset, .unset] [(.int (57344 : Int32)), (.int (11 : Int32)), (.ref b2), (.ref b2)])) _
    exact k
  obtain ⟨c49, a49, q49, s49, m49, i49, u49⟩ := id V46
  obtain ⟨T50, h50, X50, e50, W50, st50⟩ := stI X46 hx hZ e46 a49 (j := (11 : Int32)) (inb_of s49 ⟨by decide, by decide⟩) (g := (mkF m 68 #[.val (.int xa), .val (.int xb), .val (.int xc), .unset, .unset] [(.int (57344 : Int32)), (.int (11 : Int32)), (.ref b2), (.ref b2)])) rfl rfl (hb hby at_68)
  have K50 : Keep h0 h50 ([] : List Addr) := K46.wr W50 (Or.inr sz_b2)
  have z50 : n0 ≤ h50.size := Nat.le_trans Z0 K50.1
  have N50 := Fr.snoc X50 N46 g_b2
  have V50 : Arv Z h50 b2 k2 .int (20 : Int32) [(.int (0 : Int32)), (.int (8 : Int32)), (.int (9 : Int32)), (.int (10 : Int32)), (.int (12 : Int32)), (.int (13 : Int32)), (.int (31 : Int32)), (.int (32 : Int32)), (.int (55295 : Int32)), (.int (55296 : Int32)), (.int (57343 : Int32)), (.int (57344 : Int32)), (.int (0 : Int32)), (.int (0 : Int32)), (.int (0 : Int32)), (.int (0 : Int32)), (.int (0 : Int32)), (.int (0 : Int32)), (.int (0 : Int32)), (.int (0 : Int32))] (.int (0 : Int32)) := Arv.set a49 q49 s49 m49 i49 u49 rfl W50 11 rfl (Nat.le_of_ble_eq_true rfl)
  have pre51 : ∀ t, Steps p.tables e below (T50.setTop (mkF m 69 #[.val (.int xa), .val (.int xb), .val (.int xc), .unset, .unset] [(.ref b2)])) t → Steps p.tables e below (s₁.setTop (entryFrame m #[(.int xa), (.int xb), (.int xc)] maxLocals)) t := fun t k => pre48 t (st50 t k)
  have pre52 : ∀ t, Steps p.tables e below (T50.setTop (mkF m 74 #[.val (.int xa), .val (.int xb), .val (.int xc), .unset, .unset] [(.int (65533 : Int32)), (.int (12 : Int32)), (.ref b2), (.ref b2)])) t → Steps p.tables e below (s₁.setTop (entryFrame m #[(.int xa), (.int xb), (.int xc)] maxLocals)) t := by
    intro t k
    refine pre51 t ?_
    refine XS.dup X50.here hx rfl (hb hby at_69) rfl rfl ?_
    show Steps p.tables e below (T50.setTop (mkF m 70 #[.val (.int xa), .val (.int xb), .val (.int xc), .unset, .unset] [(.ref b2), (.ref b2)])) _
    refine XS.bipush X50.here hx rfl (hb hby at_70) ?_
    show Steps p.tables e below (T50.setTop (mkF m 72 #[.val (.int xa), .val (.int xb), .val (.int xc), .unset, .unset] [(.int (12 : Int32)), (.ref b2), (.ref b2)])) _
    refine X50.ldcInt hx hown (mvT hZ (hw _ (List.mem_of_getElem? (i := 5) rfl))) (g := (mkF m 72 #[.val (.int xa), .val (.int xb), .val (.int xc), .unset, .unset] [(.int (12 : Int32)), (.ref b2), (.ref b2)])) rfl (hb hby at_72) _ ?_
    show Steps p.tables e below (T50.setTop (mkF m 74 #[.val (.int xa), .val (.int xb), .val (.int xc), .unset, .unset] [(.int (65533 : Int32)), (.int (12 : Int32)), (.ref b2), (.ref b2)])) _
    exact k
  obtain ⟨c53, a53, q53, s53, m53, i53, u53⟩ := id V50
  obtain ⟨T54, h54, X54, e54, W54, st54⟩ := stI X50 hx hZ e50 a53 (j := (12 : Int32)) (inb_of s53 ⟨by decide, by decide⟩) (g := (mkF m 74 #[.val (.int xa), .val (.int xb), .val (.int xc), .unset, .unset] [(.int (65533 : Int32)), (.int (12 : Int32)), (.ref b2), (.ref b2)])) rfl rfl (hb hby at_74)
  have K54 : Keep h0 h54 ([] : List Addr) := K50.wr W54 (Or.inr sz_b2)
  have z54 : n0 ≤ h54.size := Nat.le_trans Z0 K54.1
  have N54 := Fr.snoc X54 N50 g_b2
  have V54 : Arv Z h54 b2 k2 .int (20 : Int32) [(.int (0 : Int32)), (.int (8 : Int32)), (.int (9 : Int32)), (.int (10 : Int32)), (.int (12 : Int32)), (.int (13 : Int32)), (.int (31 : Int32)), (.int (32 : Int32)), (.int (55295 : Int32)), (.int (55296 : Int32)), (.int (57343 : Int32)), (.int (57344 : Int32)), (.int (65533 : Int32)), (.int (0 : Int32)), (.int (0 : Int32)), (.int (0 : Int32)), (.int (0 : Int32)), (.int (0 : Int32)), (.int (0 : Int32)), (.int (0 : Int32))] (.int (0 : Int32)) := Arv.set a53 q53 s53 m53 i53 u53 rfl W54 12 rfl (Nat.le_of_ble_eq_true rfl)
  have pre55 : ∀ t, Steps p.tables e below (T54.setTop (mkF m 75 #[.val (.int xa), .val (.int xb), .val (.int xc), .unset, .unset] [(.ref b2)])) t → Steps p.tables e below (s₁.setTop (entryFrame m #[(.int xa), (.int xb), (.int xc)] maxLocals)) t := fun t k => pre52 t (st54 t k)
  have pre56 : ∀ t, Steps p.tables e below (T54.setTop (mkF m 80 #[.val (.int xa), .val (.int xb), .val (.int xc), .unset, .unset] [(.int (65534 : Int32)), (.int (13 : Int32)), (.ref b2), (.ref b2)])) t → Steps p.tables e below (s₁.setTop (entryFrame m #[(.int xa), (.int xb), (.int xc)] maxLocals)) t := by
    intro t k
    refine pre55 t ?_
    refine XS.dup X54.here hx rfl (hb hby at_75) rfl rfl ?_
    show Steps p.tables e below (T54.setTop (mkF m 76 #[.val (.int xa), .val (.int xb), .val (.int xc), .unset, .unset] [(.ref b2), (.ref b2)])) _
    refine XS.bipush X54.here hx rfl (hb hby at_76) ?_
    show Steps p.tables e below (T54.setTop (mkF m 78 #[.val (.int xa), .val (.int xb), .val (.int xc), .unset, .unset] [(.int (13 : Int32)), (.ref b2), (.ref b2)])) _
    refine X54.ldcInt hx hown (mvT hZ (hw _ (List.mem_of_getElem? (i := 6) rfl))) (g := (mkF m 78 #[.val (.int xa), .val (.int xb), .val (.int xc), .unset, .unset] [(.int (13 : Int32)), (.ref b2), (.ref b2)])) rfl (hb hby at_78) _ ?_
    show Steps p.tables e below (T54.setTop (mkF m 80 #[.val (.int xa), .val (.int xb), .val (.int xc), .unset, .unset] [(.int (65534 : Int32)), (.int (13 : Int32)), (.ref b2), (.ref b2)])) _
    exact k
  obtain ⟨c57, a57, q57, s57, m57, i57, u57⟩ := id V54
  obtain ⟨T58, h58, X58, e58, W58, st58⟩ := stI X54 hx hZ e54 a57 (j := (13 : Int32)) (inb_of s57 ⟨by decide, by decide⟩) (g := (mkF m 80 #[.val (.int xa), .val (.int xb), .val (.int xc), .unset, .unset] [(.int (65534 : Int32)), (.int (13 : Int32)), (.ref b2), (.ref b2)])) rfl rfl (hb hby at_80)
  have K58 : Keep h0 h58 ([] : List Addr) := K54.wr W58 (Or.inr sz_b2)
  have z58 : n0 ≤ h58.size := Nat.le_trans Z0 K58.1
  have N58 := Fr.snoc X58 N54 g_b2
  have V58 : Arv Z h58 b2 k2 .int (20 : Int32) [(.int (0 : Int32)), (.int (8 : Int32)), (.int (9 : Int32)), (.int (10 : Int32)), (.int (12 : Int32)), (.int (13 : Int32)), (.int (31 : Int32)), (.int (32 : Int32)), (.int (55295 : Int32)), (.int (55296 : Int32)), (.int (57343 : Int32)), (.int (57344 : Int32)), (.int (65533 : Int32)), (.int (65534 : Int32)), (.int (0 : Int32)), (.int (0 : Int32)), (.int (0 : Int32)), (.int (0 : Int32)), (.int (0 : Int32)), (.int (0 : Int32))] (.int (0 : Int32)) := Arv.set a57 q57 s57 m57 i57 u57 rfl W58 13 rfl (Nat.le_of_ble_eq_true rfl)
  have pre59 : ∀ t, Steps p.tables e below (T58.setTop (mkF m 81 #[.val (.int xa), .val (.int xb), .val (.int xc), .unset, .unset] [(.ref b2)])) t → Steps p.tables e below (s₁.setTop (entryFrame m #[(.int xa), (.int xb), (.int xc)] maxLocals)) t := fun t k => pre56 t (st58 t k)
  have pre60 : ∀ t, Steps p.tables e below (T58.setTop (mkF m 86 #[.val (.int xa), .val (.int xb), .val (.int xc), .unset, .unset] [(.int (65535 : Int32)), (.int (14 : Int32)), (.ref b2), (.ref b2)])) t → Steps p.tables e below (s₁.setTop (entryFrame m #[(.int xa), (.int xb), (.int xc)] maxLocals)) t := by
    intro t k
    refine pre59 t ?_
    refine XS.dup X58.here hx rfl (hb hby at_81) rfl rfl ?_
    show Steps p.tables e below (T58.setTop (mkF m 82 #[.val (.int xa), .val (.int xb), .val (.int xc), .unset, .unset] [(.ref b2), (.ref b2)])) _
    refine XS.bipush X58.here hx rfl (hb hby at_82) ?_
    show Steps p.tables e below (T58.setTop (mkF m 84 #[.val (.int xa), .val (.int xb), .val (.int xc), .unset, .unset] [(.int (14 : Int32)), (.ref b2), (.ref b2)])) _
    refine X58.ldcInt hx hown (mvT hZ (hw _ (List.mem_of_getElem? (i := 7) rfl))) (g := (mkF m 84 #[.val (.int xa), .val (.int xb), .val (.int xc), .unset, .unset] [(.int (14 : Int32)), (.ref b2), (.ref b2)])) rfl (hb hby at_84) _ ?_
    show Steps p.tables e below (T58.setTop (mkF m 86 #[.val (.int xa), .val (.int xb), .val (.int xc), .unset, .unset] [(.int (65535 : Int32)), (.int (14 : Int32)), (.ref b2), (.ref b2)])) _
    exact k
  obtain ⟨c61, a61, q61, s61, m61, i61, u61⟩ := id V58
  obtain ⟨T62, h62, X62, e62, W62, st62⟩ := stI X58 hx hZ e58 a61 (j := (14 : Int32)) (inb_of s61 ⟨by decide, by decide⟩) (g := (mkF m 86 #[.val (.int xa), .val (.int xb), .val (.int xc), .unset, .unset] [(.int (65535 : Int32)), (.int (14 : Int32)), (.ref b2), (.ref b2)])) rfl rfl (hb hby at_86)
  have K62 : Keep h0 h62 ([] : List Addr) := K58.wr W62 (Or.inr sz_b2)
  have z62 : n0 ≤ h62.size := Nat.le_trans Z0 K62.1
  have N62 := Fr.snoc X62 N58 g_b2
  have V62 : Arv Z h62 b2 k2 .int (20 : Int32) [(.int (0 : Int32)), (.int (8 : Int32)), (.int (9 : Int32)), (.int (10 : Int32)), (.int (12 : Int32)), (.int (13 : Int32)), (.int (31 : Int32)), (.int (32 : Int32)), (.int (55295 : Int32)), (.int (55296 : Int32)), (.int (57343 : Int32)), (.int (57344 : Int32)), (.int (65533 : Int32)), (.int (65534 : Int32)), (.int (65535 : Int32)), (.int (0 : Int32)), (.int (0 : Int32)), (.int (0 : Int32)), (.int (0 : Int32)), (.int (0 : Int32))] (.int (0 : Int32)) := Arv.set a61 q61 s61 m61 i61 u61 rfl W62 14 rfl (Nat.le_of_ble_eq_true rfl)
  have pre63 : ∀ t, Steps p.tables e below (T62.setTop (mkF m 87 #[.val (.int xa), .val (.int xb), .val (.int xc), .unset, .unset] [(.ref b2)])) t → Steps p.tables e below (s₁.setTop (entryFrame m #[(.int xa), (.int xb), (.int xc)] maxLocals)) t := fun t k => pre60 t (st62 t k)
  have pre64 : ∀ t, Steps p.tables e below (T62.setTop (mkF m 92 #[.val (.int xa), .val (.int xb), .val (.int xc), .unset, .unset] [(.int (65536 : Int32)), (.int (15 : Int32)), (.ref b2), (.ref b2)])) t → Steps p.tables e below (s₁.setTop (entryFrame m #[(.int xa), (.int xb), (.int xc)] maxLocals)) t := by
    intro t k
    refine pre63 t ?_
    refine XS.dup X62.here hx rfl (hb hby at_87) rfl rfl ?_
    show Steps p.tables e below (T62.setTop (mkF m 88 #[.val (.int xa), .val (.int xb), .val (.int xc), .unset, .unset] [(.ref b2), (.ref b2)])) _
    refine XS.bipush X62.here hx rfl (hb hby at_88) ?_
    show Steps p.tables e below (T62.setTop (mkF m 90 #[.val (.int xa), .val (.int xb), .val (.int xc), .unset, .unset] [(.int (15 : Int32)), (.ref b2), (.ref b2)])) _
    refine X62.ldcInt hx hown (mvT hZ (hw _ (List.mem_of_getElem? (i := 8) rfl))) (g := (mkF m 90 #[.val (.int xa), .val (.int xb), .val (.int xc), .unset, .unset] [(.int (15 : Int32)), (.ref b2), (.ref b2)])) rfl (hb hby at_90) _ ?_
    show Steps p.tables e below (T62.setTop (mkF m 92 #[.val (.int xa), .val (.int xb), .val (.int xc), .unset, .unset] [(.int (65536 : Int32)), (.int (15 : Int32)), (.ref b2), (.ref b2)])) _
    exact k
  obtain ⟨c65, a65, q65, s65, m65, i65, u65⟩ := id V62
  obtain ⟨T66, h66, X66, e66, W66, st66⟩ := stI X62 hx hZ e62 a65 (j := (15 : Int32)) (inb_of s65 ⟨by decide, by decide⟩) (g := (mkF m 92 #[.val (.int xa), .val (.int xb), .val (.int xc), .unset, .unset] [(.int (65536 : Int32)), (.int (15 : Int32)), (.ref b2), (.ref b2)])) rfl rfl (hb hby at_92)
  have K66 : Keep h0 h66 ([] : List Addr) := K62.wr W66 (Or.inr sz_b2)
  have z66 : n0 ≤ h66.size := Nat.le_trans Z0 K66.1
  have N66 := Fr.snoc X66 N62 g_b2
  have V66 : Arv Z h66 b2 k2 .int (20 : Int32) [(.int (0 : Int32)), (.int (8 : Int32)), (.int (9 : Int32)), (.int (10 : Int32)), (.int (12 : Int32)), (.int (13 : Int32)), (.int (31 : Int32)), (.int (32 : Int32)), (.int (55295 : Int32)), (.int (55296 : Int32)), (.int (57343 : Int32)), (.int (57344 : Int32)), (.int (65533 : Int32)), (.int (65534 : Int32)), (.int (65535 : Int32)), (.int (65536 : Int32)), (.int (0 : Int32)), (.int (0 : Int32)), (.int (0 : Int32)), (.int (0 : Int32))] (.int (0 : Int32)) := Arv.set a65 q65 s65 m65 i65 u65 rfl W66 15 rfl (Nat.le_of_ble_eq_true rfl)
  have pre67 : ∀ t, Steps p.tables e below (T66.setTop (mkF m 93 #[.val (.int xa), .val (.int xb), .val (.int xc), .unset, .unset] [(.ref b2)])) t → Steps p.tables e below (s₁.setTop (entryFrame m #[(.int xa), (.int xb), (.int xc)] maxLocals)) t := fun t k => pre64 t (st66 t k)
  have pre68 : ∀ t, Steps p.tables e below (T66.setTop (mkF m 98 #[.val (.int xa), .val (.int xb), .val (.int xc), .unset, .unset] [(.int (1114111 : Int32)), (.int (16 : Int32)), (.ref b2), (.ref b2)])) t → Steps p.tables e below (s₁.setTop (entryFrame m #[(.int xa), (.int xb), (.int xc)] maxLocals)) t := by
    intro t k
    refine pre67 t ?_
    refine XS.dup X66.here hx rfl (hb hby at_93) rfl rfl ?_
    show Steps p.tables e below (T66.setTop (mkF m 94 #[.val (.int xa), .val (.int xb), .val (.int xc), .unset, .unset] [(.ref b2), (.ref b2)])) _
    refine XS.bipush X66.here hx rfl (hb hby at_94) ?_
    show Steps p.tables e below (T66.setTop (mkF m 96 #[.val (.int xa), .val (.int xb), .val (.int xc), .unset, .unset] [(.int (16 : Int32)), (.ref b2), (.ref b2)])) _
    refine X66.ldcInt hx hown (mvT hZ (hw _ (List.mem_of_getElem? (i := 9) rfl))) (g := (mkF m 96 #[.val (.int xa), .val (.int xb), .val (.int xc), .unset, .unset] [(.int (16 : Int32)), (.ref b2), (.ref b2)])) rfl (hb hby at_96) _ ?_
    show Steps p.tables e below (T66.setTop (mkF m 98 #[.val (.int xa), .val (.int xb), .val (.int xc), .unset, .unset] [(.int (1114111 : Int32)), (.int (16 : Int32)), (.ref b2), (.ref b2)])) _
    exact k
  obtain ⟨c69, a69, q69, s69, m69, i69, u69⟩ := id V66
  obtain ⟨T70, h70, X70, e70, W70, st70⟩ := stI X66 hx hZ e66 a69 (j := (16 : Int32)) (inb_of s69 ⟨by decide, by decide⟩) (g := (mkF m 98 #[.val (.int xa), .val (.int xb), .val (.int xc), .unset, .unset] [(.int (1114111 : Int32)), (.int (16 : Int32)), (.ref b2), (.ref b2)])) rfl rfl (hb hby at_98)
  have K70 : Keep h0 h70 ([] : List Addr) := K66.wr W70 (Or.inr sz_b2)
  have z70 : n0 ≤ h70.size := Nat.le_trans Z0 K70.1
  have N70 := Fr.snoc X70 N66 g_b2
  have V70 : Arv Z h70 b2 k2 .int (20 : Int32) [(.int (0 : Int32)), (.int (8 : Int32)), (.int (9 : Int32)), (.int (10 : Int32)), (.int (12 : Int32)), (.int (13 : Int32)), (.int (31 : Int32)), (.int (32 : Int32)), (.int (55295 : Int32)), (.int (55296 : Int32)), (.int (57343 : Int32)), (.int (57344 : Int32)), (.int (65533 : Int32)), (.int (65534 : Int32)), (.int (65535 : Int32)), (.int (65536 : Int32)), (.int (1114111 : Int32)), (.int (0 : Int32)), (.int (0 : Int32)), (.int (0 : Int32))] (.int (0 : Int32)) := Arv.set a69 q69 s69 m69 i69 u69 rfl W70 16 rfl (Nat.le_of_ble_eq_true rfl)
  have pre71 : ∀ t, Steps p.tables e below (T70.setTop (mkF m 99 #[.val (.int xa), .val (.int xb), .val (.int xc), .unset, .unset] [(.ref b2)])) t → Steps p.tables e below (s₁.setTop (entryFrame m #[(.int xa), (.int xb), (.int xc)] maxLocals)) t := fun t k => pre68 t (st70 t k)
  have pre72 : ∀ t, Steps p.tables e below (T70.setTop (mkF m 104 #[.val (.int xa), .val (.int xb), .val (.int xc), .unset, .unset] [(.int (1114112 : Int32)), (.int (17 : Int32)), (.ref b2), (.ref b2)])) t → Steps p.tables e below (s₁.setTop (entryFrame m #[(.int xa), (.int xb), (.int xc)] maxLocals)) t := by
    intro t k
    refine pre71 t ?_
    refine XS.dup X70.here hx rfl (hb hby at_99) rfl rfl ?_
    show Steps p.tables e below (T70.setTop (mkF m 100 #[.val (.int xa), .val (.int xb), .val (.int xc), .unset, .unset] [(.ref b2), (.ref b2)])) _
    refine XS.bipush X70.here hx rfl (hb hby at_100) ?_
    show Steps p.tables e below (T70.setTop (mkF m 102 #[.val (.int xa), .val (.int xb), .val (.int xc), .unset, .unset] [(.int (17 : Int32)), (.ref b2), (.ref b2)])) _
    refine X70.ldcInt hx hown (mvT hZ (hw _ (List.mem_of_getElem? (i := 10) rfl))) (g := (mkF m 102 #[.val (.int xa), .val (.int xb), .val (.int xc), .unset, .unset] [(.int (17 : Int32)), (.ref b2), (.ref b2)])) rfl (hb hby at_102) _ ?_
    show Steps p.tables e below (T70.setTop (mkF m 104 #[.val (.int xa), .val (.int xb), .val (.int xc), .unset, .unset] [(.int (1114112 : Int32)), (.int (17 : Int32)), (.ref b2), (.ref b2)])) _
    exact k
  obtain ⟨c73, a73, q73, s73, m73, i73, u73⟩ := id V70
  obtain ⟨T74, h74, X74, e74, W74, st74⟩ := stI X70 hx hZ e70 a73 (j := (17 : Int32)) (inb_of s73 ⟨by decide, by decide⟩) (g := (mkF m 104 #[.val (.int xa), .val (.int xb), .val (.int xc), .unset, .unset] [(.int (1114112 : Int32)), (.int (17 : Int32)), (.ref b2), (.ref b2)])) rfl rfl (hb hby at_104)
  have K74 : Keep h0 h74 ([] : List Addr) := K70.wr W74 (Or.inr sz_b2)
  have z74 : n0 ≤ h74.size := Nat.le_trans Z0 K74.1
  have N74 := Fr.snoc X74 N70 g_b2
  have V74 : Arv Z h74 b2 k2 .int (20 : Int32) [(.int (0 : Int32)), (.int (8 : Int32)), (.int (9 : Int32)), (.int (10 : Int32)), (.int (12 : Int32)), (.int (13 : Int32)), (.int (31 : Int32)), (.int (32 : Int32)), (.int (55295 : Int32)), (.int (55296 : Int32)), (.int (57343 : Int32)), (.int (57344 : Int32)), (.int (65533 : Int32)), (.int (65534 : Int32)), (.int (65535 : Int32)), (.int (65536 : Int32)), (.int (1114111 : Int32)), (.int (1114112 : Int32)), (.int (0 : Int32)), (.int (0 : Int32))] (.int (0 : Int32)) := Arv.set a73 q73 s73 m73 i73 u73 rfl W74 17 rfl (Nat.le_of_ble_eq_true rfl)
  have pre75 : ∀ t, Steps p.tables e below (T74.setTop (mkF m 105 #[.val (.int xa), .val (.int xb), .val (.int xc), .unset, .unset] [(.ref b2)])) t → Steps p.tables e below (s₁.setTop (entryFrame m #[(.int xa), (.int xb), (.int xc)] maxLocals)) t := fun t k => pre72 t (st74 t k)
  have pre76 : ∀ t, Steps p.tables e below (T74.setTop (mkF m 110 #[.val (.int xa), .val (.int xb), .val (.int xc), .unset, .unset] [(.int (-2147483648 : Int32)), (.int (18 : Int32)), (.ref b2), (.ref b2)])) t → Steps p.tables e below (s₁.setTop (entryFrame m #[(.int xa), (.int xb), (.int xc)] maxLocals)) t := by
    intro t k
    refine pre75 t ?_
    refine XS.dup X74.here hx rfl (hb hby at_105) rfl rfl ?_
    show Steps p.tables e below (T74.setTop (mkF m 106 #[.val (.int xa), .val (.int xb), .val (.int xc), .unset, .unset] [(.ref b2), (.ref b2)])) _
    refine XS.bipush X74.here hx rfl (hb hby at_106) ?_
    show Steps p.tables e below (T74.setTop (mkF m 108 #[.val (.int xa), .val (.int xb), .val (.int xc), .unset, .unset] [(.int (18 : Int32)), (.ref b2), (.ref b2)])) _
    refine X74.ldcInt hx hown (mvT hZ (hw _ (List.mem_of_getElem? (i := 11) rfl))) (g := (mkF m 108 #[.val (.int xa), .val (.int xb), .val (.int xc), .unset, .unset] [(.int (18 : Int32)), (.ref b2), (.ref b2)])) rfl (hb hby at_108) _ ?_
    show Steps p.tables e below (T74.setTop (mkF m 110 #[.val (.int xa), .val (.int xb), .val (.int xc), .unset, .unset] [(.int (-2147483648 : Int32)), (.int (18 : Int32)), (.ref b2), (.ref b2)])) _
    exact k
  obtain ⟨c77, a77, q77, s77, m77, i77, u77⟩ := id V74
  obtain ⟨T78, h78, X78, e78, W78, st78⟩ := stI X74 hx hZ e74 a77 (j := (18 : Int32)) (inb_of s77 ⟨by decide, by decide⟩) (g := (mkF m 110 #[.val (.int xa), .val (.int xb), .val (.int xc), .unset, .unset] [(.int (-2147483648 : Int32)), (.int (18 : Int32)), (.ref b2), (.ref b2)])) rfl rfl (hb hby at_110)
  have K78 : Keep h0 h78 ([] : List Addr) := K74.wr W78 (Or.inr sz_b2)
  have z78 : n0 ≤ h78.size := Nat.le_trans Z0 K78.1
  have N78 := Fr.snoc X78 N74 g_b2
  have V78 : Arv Z h78 b2 k2 .int (20 : Int32) [(.int (0 : Int32)), (.int (8 : Int32)), (.int (9 : Int32)), (.int (10 : Int32)), (.int (12 : Int32)), (.int (13 : Int32)), (.int (31 : Int32)), (.int (32 : Int32)), (.int (55295 : Int32)), (.int (55296 : Int32)), (.int (57343 : Int32)), (.int (57344 : Int32)), (.int (65533 : Int32)), (.int (65534 : Int32)), (.int (65535 : Int32)), (.int (65536 : Int32)), (.int (1114111 : Int32)), (.int (1114112 : Int32)), (.int (-2147483648 : Int32)), (.int (0 : Int32))] (.int (0 : Int32)) := Arv.set a77 q77 s77 m77 i77 u77 rfl W78 18 rfl (Nat.le_of_ble_eq_true rfl)
  have pre79 : ∀ t, Steps p.tables e below (T78.setTop (mkF m 111 #[.val (.int xa), .val (.int xb), .val (.int xc), .unset, .unset] [(.ref b2)])) t → Steps p.tables e below (s₁.setTop (entryFrame m #[(.int xa), (.int xb), (.int xc)] maxLocals)) t := fun t k => pre76 t (st78 t k)
  have pre80 : ∀ t, Steps p.tables e below (T78.setTop (mkF m 116 #[.val (.int xa), .val (.int xb), .val (.int xc), .unset, .unset] [(.int (2147483647 : Int32)), (.int (19 : Int32)), (.ref b2), (.ref b2)])) t → Steps p.tables e below (s₁.setTop (entryFrame m #[(.int xa), (.int xb), (.int xc)] maxLocals)) t := by
    intro t k
    refine pre79 t ?_
    refine XS.dup X78.here hx rfl (hb hby at_111) rfl rfl ?_
    show Steps p.tables e below (T78.setTop (mkF m 112 #[.val (.int xa), .val (.int xb), .val (.int xc), .unset, .unset] [(.ref b2), (.ref b2)])) _
    refine XS.bipush X78.here hx rfl (hb hby at_112) ?_
    show Steps p.tables e below (T78.setTop (mkF m 114 #[.val (.int xa), .val (.int xb), .val (.int xc), .unset, .unset] [(.int (19 : Int32)), (.ref b2), (.ref b2)])) _
    refine X78.ldcInt hx hown (mvT hZ (hw _ (List.mem_of_getElem? (i := 12) rfl))) (g := (mkF m 114 #[.val (.int xa), .val (.int xb), .val (.int xc), .unset, .unset] [(.int (19 : Int32)), (.ref b2), (.ref b2)])) rfl (hb hby at_114) _ ?_
    show Steps p.tables e below (T78.setTop (mkF m 116 #[.val (.int xa), .val (.int xb), .val (.int xc), .unset, .unset] [(.int (2147483647 : Int32)), (.int (19 : Int32)), (.ref b2), (.ref b2)])) _
    exact k
  obtain ⟨c81, a81, q81, s81, m81, i81, u81⟩ := id V78
  obtain ⟨T82, h82, X82, e82, W82, st82⟩ := stI X78 hx hZ e78 a81 (j := (19 : Int32)) (inb_of s81 ⟨by decide, by decide⟩) (g := (mkF m 116 #[.val (.int xa), .val (.int xb), .val (.int xc), .unset, .unset] [(.int (2147483647 : Int32)), (.int (19 : Int32)), (.ref b2), (.ref b2)])) rfl rfl (hb hby at_116)
  have K82 : Keep h0 h82 ([] : List Addr) := K78.wr W82 (Or.inr sz_b2)
  have z82 : n0 ≤ h82.size := Nat.le_trans Z0 K82.1
  have N82 := Fr.snoc X82 N78 g_b2
  have V82 : Arv Z h82 b2 k2 .int (20 : Int32) [(.int (0 : Int32)), (.int (8 : Int32)), (.int (9 : Int32)), (.int (10 : Int32)), (.int (12 : Int32)), (.int (13 : Int32)), (.int (31 : Int32)), (.int (32 : Int32)), (.int (55295 : Int32)), (.int (55296 : Int32)), (.int (57343 : Int32)), (.int (57344 : Int32)), (.int (65533 : Int32)), (.int (65534 : Int32)), (.int (65535 : Int32)), (.int (65536 : Int32)), (.int (1114111 : Int32)), (.int (1114112 : Int32)), (.int (-2147483648 : Int32)), (.int (2147483647 : Int32))] (.int (0 : Int32)) := Arv.set a81 q81 s81 m81 i81 u81 rfl W82 19 rfl (Nat.le_of_ble_eq_true rfl)
  have pre83 : ∀ t, Steps p.tables e below (T82.setTop (mkF m 117 #[.val (.int xa), .val (.int xb), .val (.int xc), .unset, .unset] [(.ref b2)])) t → Steps p.tables e below (s₁.setTop (entryFrame m #[(.int xa), (.int xb), (.int xc)] maxLocals)) t := fun t k => pre80 t (st82 t k)
  have pre86 : ∀ t, Steps p.tables e below (T82.setTop (mkF m 133 #[.val (.int xa), .val (.int xb), .val (.int xc), .val (.ref b2), .val (.int ((own_edge ((xb &&& (2147483647 : Int32)) % (20 : Int32))) + (xc % (2 : Int32))))] [])) t → Steps p.tables e below (s₁.setTop (entryFrame m #[(.int xa), (.int xb), (.int xc)] maxLocals)) t := by
    intro t k
    refine pre83 t ?_
    refine XS.astoreN X82.here hx rfl (hb hby at_117) rfl rfl (l' := #[.val (.int xa), .val (.int xb), .val (.int xc), .val (.ref b2), .unset]) rfl ?_
    show Steps p.tables e below (T82.setTop (mkF m 118 #[.val (.int xa), .val (.int xb), .val (.int xc), .val (.ref b2), .unset] [])) _
    refine XS.aloadN X82.here hx rfl (hb hby at_118) rfl rfl ?_
    show Steps p.tables e below (T82.setTop (mkF m 119 #[.val (.int xa), .val (.int xb), .val (.int xc), .val (.ref b2), .unset] [(.ref b2)])) _
    refine XS.iloadN X82.here hx rfl (hb hby at_119) rfl ?_
    show Steps p.tables e below (T82.setTop (mkF m 120 #[.val (.int xa), .val (.int xb), .val (.int xc), .val (.ref b2), .unset] [(.int xb), (.ref b2)])) _
    refine X82.ldcInt hx hown (mvT hZ (hw _ (List.mem_of_getElem? (i := 12) rfl))) (g := (mkF m 120 #[.val (.int xa), .val (.int xb), .val (.int xc), .val (.ref b2), .unset] [(.int xb), (.ref b2)])) rfl (hb hby at_120) _ ?_
    show Steps p.tables e below (T82.setTop (mkF m 122 #[.val (.int xa), .val (.int xb), .val (.int xc), .val (.ref b2), .unset] [(.int (2147483647 : Int32)), (.int xb), (.ref b2)])) _
    refine XS.iand X82.here hx rfl (hb hby at_122) rfl ?_
    show Steps p.tables e below (T82.setTop (mkF m 123 #[.val (.int xa), .val (.int xb), .val (.int xc), .val (.ref b2), .unset] [(.int (xb &&& (2147483647 : Int32))), (.ref b2)])) _
    refine XS.aloadN X82.here hx rfl (hb hby at_123) rfl rfl ?_
    show Steps p.tables e below (T82.setTop (mkF m 124 #[.val (.int xa), .val (.int xb), .val (.int xc), .val (.ref b2), .unset] [(.ref b2), (.int (xb &&& (2147483647 : Int32))), (.ref b2)])) _
    obtain ⟨c84, a84, q84, s84, m84, i84, u84⟩ := id V82
    refine X82.arraylength hx (by rw [e82]; exact a84.1) (State.isArrayOf_alike hZ.alike a84.2.1) (g := (mkF m 124 #[.val (.int xa), .val (.int xb), .val (.int xc), .val (.ref b2), .unset] [(.ref b2), (.int (xb &&& (2147483647 : Int32))), (.ref b2)])) rfl rfl (hb hby at_124) _ ?_
    rw [len_of s84 m84]
    show Steps p.tables e below (T82.setTop (mkF m 125 #[.val (.int xa), .val (.int xb), .val (.int xc), .val (.ref b2), .unset] [(.int (20 : Int32)), (.int (xb &&& (2147483647 : Int32))), (.ref b2)])) _
    refine iremM X82 hx rfl (hb hby at_125) rfl (by decide) ?_
    show Steps p.tables e below (T82.setTop (mkF m 126 #[.val (.int xa), .val (.int xb), .val (.int xc), .val (.ref b2), .unset] [(.int ((xb &&& (2147483647 : Int32)) % (20 : Int32))), (.ref b2)])) _
    obtain ⟨c85, a85, q85, s85, m85, i85, u85⟩ := id V82
    have hin85 := inb_of (j := ((xb &&& (2147483647 : Int32)) % (20 : Int32))) s85 (own_idx xb)
    refine X82.iaload hx (j := ((xb &&& (2147483647 : Int32)) % (20 : Int32))) (v := (.int (own_edge ((xb &&& (2147483647 : Int32)) % (20 : Int32))))) (by rw [e82]; exact a85.1) (State.isArrayOf_alike hZ.alike a85.2.1) a85.2.2 hin85 (i85.at hin85 (own_getD own_edges _)) (g := (mkF m 126 #[.val (.int xa), .val (.int xb), .val (.int xc), .val (.ref b2), .unset] [(.int ((xb &&& (2147483647 : Int32)) % (20 : Int32))), (.ref b2)])) rfl rfl (hb hby at_126) _ ?_
    show Steps p.tables e below (T82.setTop (mkF m 127 #[.val (.int xa), .val (.int xb), .val (.int xc), .val (.ref b2), .unset] [(.int (own_edge ((xb &&& (2147483647 : Int32)) % (20 : Int32))))])) _
    refine XS.iloadN X82.here hx rfl (hb hby at_127) rfl ?_
    show Steps p.tables e below (T82.setTop (mkF m 128 #[.val (.int xa), .val (.int xb), .val (.int xc), .val (.ref b2), .unset] [(.int xc), (.int (own_edge ((xb &&& (2147483647 : Int32)) % (20 : Int32))))])) _
    refine XS.iconst X82.here hx rfl (hb hby at_128) ?_
    show Steps p.tables e below (T82.setTop (mkF m 129 #[.val (.int xa), .val (.int xb), .val (.int xc), .val (.ref b2), .unset] [(.int (2 : Int32)), (.int xc), (.int (own_edge ((xb &&& (2147483647 : Int32)) % (20 : Int32))))])) _
    refine iremM X82 hx rfl (hb hby at_129) rfl (by decide) ?_
    show Steps p.tables e below (T82.setTop (mkF m 130 #[.val (.int xa), .val (.int xb), .val (.int xc), .val (.ref b2), .unset] [(.int (xc % (2 : Int32))), (.int (own_edge ((xb &&& (2147483647 : Int32)) % (20 : Int32))))])) _
    refine XS.iadd X82.here hx rfl (hb hby at_130) rfl ?_
    show Steps p.tables e below (T82.setTop (mkF m 131 #[.val (.int xa), .val (.int xb), .val (.int xc), .val (.ref b2), .unset] [(.int ((own_edge ((xb &&& (2147483647 : Int32)) % (20 : Int32))) + (xc % (2 : Int32))))])) _
    refine XS.istore X82.here hx rfl (hb hby at_131) rfl (l' := #[.val (.int xa), .val (.int xb), .val (.int xc), .val (.ref b2), .val (.int ((own_edge ((xb &&& (2147483647 : Int32)) % (20 : Int32))) + (xc % (2 : Int32))))]) rfl ?_
    show Steps p.tables e below (T82.setTop (mkF m 133 #[.val (.int xa), .val (.int xb), .val (.int xc), .val (.ref b2), .val (.int ((own_edge ((xb &&& (2147483647 : Int32)) % (20 : Int32))) + (xc % (2 : Int32))))] [])) _
    exact k
  obtain ⟨ee, hee⟩ : ∃ z : Int32, z = ((own_edge ((xb &&& (2147483647 : Int32)) % (20 : Int32))) + (xc % (2 : Int32))) := ⟨_, rfl⟩
  rw [← hee] at pre86
  have pre87 : ∀ t, Steps p.tables e below (T82.setTop (mkF m 134 #[.val (.int xa), .val (.int xb), .val (.int xc), .val (.ref b2), .val (.int ee)] [(.int xa)])) t → Steps p.tables e below (s₁.setTop (entryFrame m #[(.int xa), (.int xb), (.int xc)] maxLocals)) t := by
    intro t k
    refine pre86 t ?_
    refine XS.iloadN X82.here hx rfl (hb hby at_133) rfl ?_
    show Steps p.tables e below (T82.setTop (mkF m 134 #[.val (.int xa), .val (.int xb), .val (.int xc), .val (.ref b2), .val (.int ee)] [(.int xa)])) _
    exact k
  obtain ⟨_, _, ⟨T88, L88, k88, n88⟩, -, X88, ⟨Lc88, hQ88, l88, y88, z88⟩, st88⟩ := Jvm.LawKit.callS X82 hx (y := (⟨"com/example/feuillet/feuillet/build/XmlWriterIsXmlCharacterPinLaw", "check", "(I)Z"⟩ : MethodName)) hown (mvT hZ (hw _ (List.mem_of_getElem? (i := 13) rfl))) (mvT hZ (hw _ (List.mem_of_getElem? (i := 14) rfl))) (mvT hZ (hw _ (List.mem_of_getElem? (i := 15) rfl))) (mvT hZ (hw _ (List.mem_of_getElem? (i := 16) rfl))) (by decide) (backOf (W := 0) (rm_check l Z a0 hw [] xa h82 n0 z82 ) hZ (hw _ (List.mem_of_getElem? (i := 16) rfl)) (hw _ (List.mem_of_getElem? (i := 15) rfl)) (by decide) (by decide)) (g := (mkF m 134 #[.val (.int xa), .val (.int xb), .val (.int xc), .val (.ref b2), .val (.int ee)] [(.int xa)])) rfl (by rw [hml]; rfl) (argsL := [(.int xa)]) (rest := []) (lenOf pd0 rfl) rfl (by show 2 * 0 + _ ≤ _; exact Nat.le_of_eq rfl) (hb hby at_134) (fun _ _ => ⟨rfl, e82, (by decide : 1 + 0 ≤ _), (by decide : 20 + 0 ≤ _)⟩)
  dsimp only [Pt.U, Pt.locs, Pt.cells, Pt.slots] at X88 l88 y88 z88 st88 hQ88
  subst l88 y88 z88
  obtain ⟨rfl, M88, e88⟩ := hQ88
  have N88 := Fr.app N82 M88
  have pre89 : ∀ t, Steps p.tables e below (T88.setTop (mkF m 137 #[.val (.int xa), .val (.int xb), .val (.int xc), .val (.ref b2), .val (.int ee)] [(.int (1 : Int32))])) t → Steps p.tables e below (s₁.setTop (entryFrame m #[(.int xa), (.int xb), (.int xc)] maxLocals)) t := fun t k => pre87 t (st88 t k)
  have pre90 : ∀ t, Steps p.tables e below (T88.setTop (mkF m 142 #[.val (.int xa), .val (.int xb), .val (.int xc), .val (.ref b2), .val (.int ee)] [(.int ee)])) t → Steps p.tables e below (s₁.setTop (entryFrame m #[(.int xa), (.int xb), (.int xc)] maxLocals)) t := by
    intro t k
    refine pre89 t ?_
    refine XS.ifNo X88.here hx rfl (hb hby at_137) rfl ((if0 _ _).trans (feq (show ¬ ((1 : Int32) = (0 : Int32)) from by decide)).1) ?_
    show Steps p.tables e below (T88.setTop (mkF m 140 #[.val (.int xa), .val (.int xb), .val (.int xc), .val (.ref b2), .val (.int ee)] [])) _
    refine XS.iload X88.here hx rfl (hb hby at_140) rfl ?_
    show Steps p.tables e below (T88.setTop (mkF m 142 #[.val (.int xa), .val (.int xb), .val (.int xc), .val (.ref b2), .val (.int ee)] [(.int ee)])) _
    exact k
  obtain ⟨_, _, ⟨T91, L91, k91, n91⟩, -, X91, ⟨Lc91, hQ91, l91, y91, z91⟩, st91⟩ := Jvm.LawKit.callS X88 hx (y := (⟨"com/example/feuillet/feuillet/build/XmlWriterIsXmlCharacterPinLaw", "check", "(I)Z"⟩ : MethodName)) hown (mvT hZ (hw _ (List.mem_of_getElem? (i := 13) rfl))) (mvT hZ (hw _ (List.mem_of_getElem? (i := 14) rfl))) (mvT hZ (hw _ (List.mem_of_getElem? (i := 15) rfl))) (mvT hZ (hw _ (List.mem_of_getElem? (i := 16) rfl))) (by decide) (backOf (W := 0) (rm_check l Z a0 hw [] ee h82 n0 z82 ) hZ (hw _ (List.mem_of_getElem? (i := 16) rfl)) (hw _ (List.mem_of_getElem? (i := 15) rfl)) (by decide) (by decide)) (g := (mkF m 142 #[.val (.int xa), .val (.int xb), .val (.int xc), .val (.ref b2), .val (.int ee)] [(.int ee)])) rfl (by rw [hml]; rfl) (argsL := [(.int ee)]) (rest := []) (lenOf pd0 rfl) rfl (by show 2 * 0 + _ ≤ _; exact Nat.le_of_eq rfl) (hb hby at_142) (fun _ _ => ⟨rfl, e88, (by decide : 1 + 0 ≤ _), (by decide : 20 + 0 ≤ _)⟩)
  dsimp only [Pt.U, Pt.locs, Pt.cells, Pt.slots] at X91 l91 y91 z91 st91 hQ91
  subst l91 y91 z91
  obtain ⟨rfl, M91, e91⟩ := hQ91
  have N91 := Fr.app N88 M91
  have pre92 : ∀ t, Steps p.tables e below (T91.setTop (mkF m 145 #[.val (.int xa), .val (.int xb), .val (.int xc), .val (.ref b2), .val (.int ee)] [(.int (1 : Int32))])) t → Steps p.tables e below (s₁.setTop (entryFrame m #[(.int xa), (.int xb), (.int xc)] maxLocals)) t := fun t k => pre90 t (st91 t k)
  have pre93 : ∀ t, Steps p.tables e below (T91.setTop (mkF m 153 #[.val (.int xa), .val (.int xb), .val (.int xc), .val (.ref b2), .val (.int ee)] [(.int (1 : Int32))])) t → Steps p.tables e below (s₁.setTop (entryFrame m #[(.int xa), (.int xb), (.int xc)] maxLocals)) t := by
    intro t k
    refine pre92 t ?_
    refine XS.ifNo X91.here hx rfl (hb hby at_145) rfl ((if0 _ _).trans (feq (show ¬ ((1 : Int32) = (0 : Int32)) from by decide)).1) ?_
    show Steps p.tables e below (T91.setTop (mkF m 148 #[.val (.int xa), .val (.int xb), .val (.int xc), .val (.ref b2), .val (.int ee)] [])) _
    refine XS.iconst X91.here hx rfl (hb hby at_148) ?_
    show Steps p.tables e below (T91.setTop (mkF m 149 #[.val (.int xa), .val (.int xb), .val (.int xc), .val (.ref b2), .val (.int ee)] [(.int (1 : Int32))])) _
    refine XS.goto X91.here hx rfl (pc0 := 149) (pc' := 153) rfl (hb hby at_149) (by decide) (by decide) ?_
    show Steps p.tables e below (T91.setTop (mkF m 153 #[.val (.int xa), .val (.int xb), .val (.int xc), .val (.ref b2), .val (.int ee)] [(.int (1 : Int32))])) _
    exact k
  obtain ⟨fs, hr, hrun, hended, hW, hsame⟩ := X91.leave (v := some (.int (1 : Int32))) (fun h => by rw [Bd.returns] at h; cases h)
  refine ⟨_, _, pre93 _ ?_, hrun, hended, _, _, rfl, ?_, ⟨_, rfl⟩, hW, hsame.mono (by decide) (by decide)⟩
  · exact retN X91 hx (t := .boolean) Bd.returns (by simp) (hb hby at_153) hr
  · show Q_rm0 Z xa xb xc h0 n0 _ T91.heap _
    rw [e91]
    exact ⟨rfl, N91⟩
set_option maxRecDepth 65536 in
set_option maxHeartbeats 40000000 in
theorem comes_1 {Post : Tables → Env → Array Value → State → Outcome → State → Prop} (hpost : ∀ tb e args s v u, (limb_1_1.after args s (.returned v) u = true ∧ limb_1_2.after args s (.returned v) u = true ∧ True) → FrameEnd s (.returned v) u (Jvm.fieldLocs frame_1_writes args s ++ Jvm.arrayLocs frame_1_arrays args s ++ Jvm.staticLocs frame_1_statics s) 16 128 → Post tb e args s (.returned v) u) :
    ArmFor flags0 classFile x code maxLocals ret World_1 tables_1 room_1 Calls_1 rest_1 Pre_1 Post := by
  intro l hfl _ _ p e ha hc hk s m args below hf hA hF happ hP
  obtain ⟨hcalls, hrest, hpre⟩ := hP
  obtain ⟨-, -, -, hnamed, -, -, -, hat⟩ := (Spec.applies_iff hf).mp happ
  obtain ⟨hg, hn⟩ := and_e (Cond.before_iff.mp (show (Jvm.Cond.and given_1 narrow_1).before args s = true from hpre))
  obtain ⟨ga1, gb1⟩ := and_e hg
  obtain ⟨ga2, gb2⟩ := and_e gb1
  obtain ⟨ga3, gb3⟩ := and_e gb2
  obtain ⟨w0, w1, w2, rfl⟩ : ∃ w0 w1 w2 : Value, args = #[w0, w1, w2] := by
    have hs : args.size = 3 := by simpa [Cond.value, given_1] using ga1
    obtain ⟨L⟩ := args
    match L, hs with
    | [w0, w1, w2], _ => exact ⟨w0, w1, w2, rfl⟩
  have hw := fun d (hd : d ∈ tables_1) => atoms_spec (ws := Jvm.Cond.code x code maxLocals ret :: tables_1) hat d (List.mem_cons_of_mem _ hd)
  have hfit : Fit s := fun {y c} hc i hi => by
    obtain ⟨ha, rfl⟩ := Array.getElem?_eq_some_iff.mp hc
    have q := List.all_eq_true.mp ((Array.all_eq_true_iff_forall_mem.mp hF) _ (Array.getElem_mem ha)) i (List.mem_range.mpr hi)
    simpa [Array.getElem?_eq_getElem hi] using q
  obtain ⟨i0, ei0⟩ := is_v ga2
  obtain rfl : w0 = (.int i0) := Option.some.inj ei0
  obtain ⟨i1, ei1⟩ := is_v ga3
  obtain rfl : w1 = (.int i1) := Option.some.inj ei1
  obtain ⟨i2, ei2⟩ := is_v gb3
  obtain rfl : w2 = (.int i2) := Option.some.inj ei2
  obtain ⟨n, o, h1, h2, h3, _, L, rfl, ⟨rfl, N⟩, hq⟩ := rm0 l s _ hw tables_1 i0 i1 i2 s.heap s.heap.size (Nat.le_refl _)  p e ha hc hk s m _ below hf ((Spec.applies_iff_loose hf).mp happ).1 ⟨rfl, State.Warmed39.refl s, rfl⟩ trivial
  refine ⟨n, _, h1, h2, h3, hpost _ _ _ _ _ _ ⟨Cond.after_iff.mpr rfl, Cond.after_iff.mpr (eq_i res_at (Term.int_eval (1)) rfl), trivial⟩ ⟨hq.1, hq.2.1, (hq.2.2.sift fun y hy => Or.inr (N y hy)).mono (by decide) (by decide)⟩⟩
theorem main_1_1 : Claimed_1_1 := comes_1 fun _ _ _ _ _ _ h hF => ⟨h.1, hF⟩
theorem main_1_2 : Claimed_1_2 := comes_1 fun _ _ _ _ _ _ h hF => ⟨h.2.1, hF⟩
end Jvm.Pilot.@@N@@
namespace Jvm.Pilot.@@N@@
open Jvm Jvm.ClassFile Sem Op Lib Jvm.Free Jvm.Stand Jvm.Pilot.@@N@@.Jvm.D
/-! MADE BY PROGRAM (witnessworld.py) out of the Statement's table words and the real class files: 9 classes; the members and pool entries that the words name. The judged class is class 1, her method 3. -/
namespace start1
open Jvm.ClassFile
def u (s : String) : CpInfo := .utf8 (stringToUtf16 s)
/-- a pool by its gaps: so many unusable entries, then the entry; so many at the end -/
def gap : Nat → List CpInfo → List CpInfo
  | 0, r => r
  | n + 1, r => .unusable :: gap n r
def poolList (es : List (Nat × CpInfo)) (last : Nat) : List CpInfo := es.foldr (fun e r => gap e.1 (e.2 :: r)) (gap last [])
def pool (es : List (Nat × CpInfo)) (last : Nat) : Array CpInfo := ⟨poolList es last⟩
def fileOf (pool : Array CpInfo) (this : Nat) (attrs : Array Attribute := #[]) (ms : Array MethodInfo := #[]) (fl : Nat := 33) (sup : Nat := 0) (ifs : Array Nat := #[]) (fds : Array FieldInfo := #[]) : ClassFile where
  minorVersion := 0
  majorVersion := 65
  constantPool := pool
  accessFlags := fl
  thisClass := this
  superClass := sup
  interfaces := ifs
  fields := fds
  methods := ms
  attributes := attrs
def plain (name : String) (sup : Option ClassId) : Class where
  name := name
  kind := .ordinary
  loader := none
  accessFlags := 33
  super := sup
  interfaces := #[]
  cf := none
  fields := #[]
  methods := #[]
  instanceTypes := #[]
  staticTypes := #[]
  resolved := #[]
  callSites := []
  init := .initialized
  statics := none
  mirror := none

def pool0 : Array CpInfo := pool [(5, u "<init>"), (0, u "()V"), (1, .class_ 10), (1, u "java/lang/Object")] 113

def k0m0 : Method := { name := "<init>", desc := "()V", sig := { parameters := [], returnType := none }, accessFlags := 1, code := none }
/-- java/lang/Object -/
def k0 : Class := { plain "java/lang/Object" none with
  accessFlags := 33
  interfaces := #[]
  cf := some (fileOf pool0 8 #[] #[{ accessFlags := 1, nameIndex := 5, descriptorIndex := 6, attributes := #[] }] 33 0 #[] #[])
  fields := #[]
  methods := #[k0m0]
  instanceTypes := #[]
  staticTypes := #[]
  resolved := Array.replicate 124 none
  statics := none }

def pool1 : Array CpInfo := pool [(2, .class_ 4), (1, u "java/lang/Object"), (0, u "<init>"), (0, u "()V"), (0, .integer 55296), (0, .integer 57343), (0, .integer 65534), (0, .integer 65535), (0, .integer 1114111), (0, .methodref 13 14), (0, .class_ 15), (0, .nameAndType 16 17), (0, u "com/example/feuillet/feuillet/build/XmlWriter"), (0, u "isXmlCharacter"), (0, u "(I)Z"), (0, .methodref 19 20), (0, .class_ 21), (0, .nameAndType 22 17), (0, u "com/example/feuillet/feuillet/build/XmlWriterIsXmlCharacterPinLaw"), (0, u "excluded"), (0, .integer 55295), (0, .integer 57344), (0, .integer 65533), (0, .integer 65536), (0, .integer 1114112), (2, .integer 2147483648), (0, .integer 2147483647), (0, .methodref 19 33), (0, .nameAndType 34 17), (0, u "check"), (3, u "law"), (0, u "(III)Z")] 4

def k1m0 : Method := { name := "<init>", desc := "()V", sig := { parameters := [], returnType := none }, accessFlags := 2, code := none }
def k1c1 : Code := { maxStack := 2, maxLocals := 1, code := method_2_code, exceptionTable := #[], attributes := #[] }
def k1m1 : Method := { name := "excluded", desc := "(I)Z", sig := { parameters := [.int], returnType := some .boolean }, accessFlags := 10, code := some k1c1 }
def k1c2 : Code := { maxStack := 2, maxLocals := 1, code := method_3_code, exceptionTable := #[], attributes := #[] }
def k1m2 : Method := { name := "check", desc := "(I)Z", sig := { parameters := [.int], returnType := some .boolean }, accessFlags := 10, code := some k1c2 }
def k1c3 : Code := { maxStack := 4, maxLocals := 5, code := code, exceptionTable := #[], attributes := #[] }
def k1m3 : Method := { name := "law", desc := "(III)Z", sig := { parameters := [.int, .int, .int], returnType := some .boolean }, accessFlags := 9, code := some k1c3 }
/-- com/example/feuillet/feuillet/build/XmlWriterIsXmlCharacterPinLaw -/
def k1 : Class := { plain "com/example/feuillet/feuillet/build/XmlWriterIsXmlCharacterPinLaw" (some 0) with
  accessFlags := 49
  interfaces := #[]
  cf := some (fileOf pool1 19 #[] #[{ accessFlags := 2, nameIndex := 5, descriptorIndex := 6, attributes := #[] }, { accessFlags := 10, nameIndex := 22, descriptorIndex := 17, attributes := #[] }, { accessFlags := 10, nameIndex := 34, descriptorIndex := 17, attributes := #[] }, { accessFlags := 9, nameIndex := 38, descriptorIndex := 39, attributes := #[] }] 49 2 #[] #[])
  fields := #[]
  methods := #[k1m0, k1m1, k1m2, k1m3]
  instanceTypes := #[]
  staticTypes := #[]
  resolved := Array.replicate 44 none
  statics := none }

def pool2 : Array CpInfo := pool [(2, .class_ 4), (1, u "java/lang/Object"), (10, .class_ 17), (1, u "com/example/feuillet/feuillet/build/XmlWriter"), (0, u "out"), (0, u "Ljava/lang/StringBuilder;"), (5, u "open"), (0, u "Ljava/util/Deque;"), (2, u "allowance"), (0, u "Lcom/example/feuillet/feuillet/input/Allowance;"), (0, .integer 55295), (0, .integer 57344), (0, .integer 65533), (0, .integer 65536), (0, .integer 1114111), (8, u "rootStarted"), (0, u "Z"), (9, u "holdsText"), (35, u "inStartTag"), (2, u "charged"), (68, u "I"), (14, u "isXmlCharacter"), (0, u "(I)Z"), (30, u "WRITTEN_CHARACTER"), (0, u "J"), (1, u "HANDED_CHARACTER")] 38

def k2c0 : Code := { maxStack := 2, maxLocals := 1, code := prog_8_method_2_code, exceptionTable := #[], attributes := #[] }
def k2m0 : Method := { name := "isXmlCharacter", desc := "(I)Z", sig := { parameters := [.int], returnType := some .boolean }, accessFlags := 9, code := some k2c0 }
/-- com/example/feuillet/feuillet/build/XmlWriter -/
def k2 : Class := { plain "com/example/feuillet/feuillet/build/XmlWriter" (some 0) with
  accessFlags := 49
  interfaces := #[]
  cf := some (fileOf pool2 15 #[] #[{ accessFlags := 9, nameIndex := 178, descriptorIndex := 179, attributes := #[] }] 49 2 #[] #[{ accessFlags := 26, nameIndex := 210, descriptorIndex := 211, attributes := #[] }, { accessFlags := 26, nameIndex := 213, descriptorIndex := 211, attributes := #[] }, { accessFlags := 18, nameIndex := 18, descriptorIndex := 19, attributes := #[] }, { accessFlags := 18, nameIndex := 25, descriptorIndex := 26, attributes := #[] }, { accessFlags := 18, nameIndex := 29, descriptorIndex := 30, attributes := #[] }, { accessFlags := 2, nameIndex := 94, descriptorIndex := 163, attributes := #[] }, { accessFlags := 2, nameIndex := 91, descriptorIndex := 45, attributes := #[] }, { accessFlags := 2, nameIndex := 55, descriptorIndex := 45, attributes := #[] }, { accessFlags := 2, nameIndex := 44, descriptorIndex := 45, attributes := #[] }])
  fields := #[{ name := "WRITTEN_CHARACTER", type := .long, accessFlags := 26, slot := 0, constantValue := 0 }, { name := "HANDED_CHARACTER", type := .long, accessFlags := 26, slot := 1, constantValue := 0 }, { name := "out", type := (.object "java/lang/StringBuilder"), accessFlags := 18, slot := 0, constantValue := 0 }, { name := "open", type := (.object "java/util/Deque"), accessFlags := 18, slot := 1, constantValue := 0 }, { name := "allowance", type := (.object "com/example/feuillet/feuillet/input/Allowance"), accessFlags := 18, slot := 2, constantValue := 0 }, { name := "charged", type := .int, accessFlags := 2, slot := 3, constantValue := 0 }, { name := "inStartTag", type := .boolean, accessFlags := 2, slot := 4, constantValue := 0 }, { name := "holdsText", type := .boolean, accessFlags := 2, slot := 5, constantValue := 0 }, { name := "rootStarted", type := .boolean, accessFlags := 2, slot := 6, constantValue := 0 }]
  methods := #[k2m0]
  instanceTypes := #[(.object "java/lang/StringBuilder"), (.object "java/util/Deque"), (.object "com/example/feuillet/feuillet/input/Allowance"), .int, .boolean, .boolean, .boolean]
  staticTypes := #[.long, .long]
  resolved := Array.replicate 252 none
  statics := none }

def pool3 : Array CpInfo := pool [(1, u "java/lang/Cloneable"), (0, .class_ 1), (0, u "java/lang/Object"), (0, .class_ 3)] 3

/-- java/lang/Cloneable -/
def k3 : Class := { plain "java/lang/Cloneable" (some 0) with
  accessFlags := 1537
  interfaces := #[]
  cf := some (fileOf pool3 2 #[] #[] 1537 4 #[] #[])
  fields := #[]
  methods := #[]
  instanceTypes := #[]
  staticTypes := #[]
  resolved := Array.replicate 8 none
  statics := none }

def pool4 : Array CpInfo := pool [(1, u "java/io/Serializable"), (0, .class_ 1), (0, u "java/lang/Object"), (0, .class_ 3)] 3

/-- java/io/Serializable -/
def k4 : Class := { plain "java/io/Serializable" (some 0) with
  accessFlags := 1537
  interfaces := #[]
  cf := some (fileOf pool4 2 #[] #[] 1537 4 #[] #[])
  fields := #[]
  methods := #[]
  instanceTypes := #[]
  staticTypes := #[]
  resolved := Array.replicate 8 none
  statics := none }

/-- the primitive byte -/
def k5 : Class := { plain "byte" none with kind := .primitive 'B', accessFlags := 0x411 }
/-- [B -/
def k6 : Class := { plain "[B" (some 0) with kind := .array 5 .byte, interfaces := #[3, 4], accessFlags := 1041 }

/-- the primitive int -/
def k7 : Class := { plain "int" none with kind := .primitive 'I', accessFlags := 0x411 }
/-- [I -/
def k8 : Class := { plain "[I" (some 0) with kind := .array 7 .int, interfaces := #[3, 4], accessFlags := 1041 }

def heap : Heap := #[]
def classes : Array Class := #[k0, k1, k2, k3, k4, k5, k6, k7, k8]
def interned : List (Array UInt16 × Addr) := []
def slotsUsed : Nat := 0
def theMethod : MethodId := ⟨1, 3⟩
def args0 : Array Value := #[.int 5, .int 5, .int 5]
def aboutOver (below : List Frame) : State where
  vm := { classes := classes, interned := interned.toArray }
  heap := heap
  slotsUsed := slotsUsed
  threads := #[{ frames := .invoking theMethod args0 :: below }]
def below0 : List Frame := [.native { method := ⟨0, 0⟩, args := #[] }]
def about1 : State := aboutOver below0
def p0 : Program := .bare "" "" ""
def e0 : Env := launch0.env 0 0 0
theorem w_frames : about1.frames = Frame.invoking theMethod args0 :: below0 := rfl
set_option maxRecDepth 65536 in
theorem w_args : argsFit about1.vm theMethod args0 = true := by decide +kernel
set_option maxRecDepth 65536 in
theorem w_heap : heapFits about1 = true := by decide +kernel
set_option maxRecDepth 65536 in
theorem w_runnable : about1.curStatus? = some .runnable := by decide +kernel
set_option maxRecDepth 65536 in
theorem w_alone : about1.alone = true := by decide +kernel
set_option maxRecDepth 65536 in
theorem w_named : about1.methodNamed? x = some theMethod := by decide +kernel
set_option maxRecDepth 65536 in
theorem w_hears : about1.hears theMethod below0 = true := by decide +kernel
set_option maxRecDepth 65536 in
theorem w_ripe : about1.ripe theMethod args0 below0 = true := by decide +kernel
theorem w_running : about1.status = .running := rfl
set_option maxRecDepth 65536 in
theorem w_room : about1.hasRoom e0.platform room_1 = true :=
  launch0.hasRoom_least _ room_1 (by decide +kernel) (by decide +kernel) (by decide +kernel) (by decide +kernel) (by decide +kernel) (by decide +kernel)
theorem allAtoms_all (ts : List Jvm.Cond) (a : Array Jvm.Value) (st : Jvm.State) : (allAtoms ts).before a st = ts.all (fun c => c.before a st) := by
  induction ts with
  | nil => rfl
  | cons c t ih =>
    show (Jvm.Cond.and c (allAtoms t)).before a st = _
    rw [Jvm.Cond.before_and, ih, List.all_cons]
def words1 : List Jvm.Cond := Jvm.Cond.code x code maxLocals ret :: tables_1
/-- a 'code' word, met by the world's own term for the bytes: nothing is compared byte by byte -/
theorem code_word {y : MethodName} {bytes : ByteArray} {mx : Nat} {rt : Option FieldType} {a : Array Value} {s : State} {m : MethodId} {meth : Method} {c : Code} (h1 : s.methodNamed? y = some m) (h2 : s.vm.method? m = some meth) (h3 : meth.code = some c) (h4 : c.code = bytes)
    (h5 : (c.maxLocals == mx && c.exceptionTable.isEmpty && decide (c.maxStack ≤ mostOperands) && decide (meth.sig.returnType = rt) && !meth.locks && decide (parseMethodDescriptor y.desc = some meth.sig)) = true) : (Jvm.Cond.code y bytes mx rt).before a s = true := by
  simp only [Bool.and_eq_true, beq_iff_eq, Bool.not_eq_true', decide_eq_true_eq] at h5
  obtain ⟨⟨⟨⟨⟨g1, g2⟩, g3⟩, g4⟩, g5⟩, g6⟩ := h5
  simp [Cond.before, Cond.holds, Cond.value, h1, h2, h3, h4, g1, g2, g3, g4, g5, g6]
def isCode : Jvm.Cond → Bool
  | .code _ _ _ _ => true
  | _ => false
theorem all_split {L : List Jvm.Cond} {P : Jvm.Cond → Bool} (h1 : L.all (fun c => isCode c || P c) = true) (h2 : ∀ c ∈ L.filter isCode, P c = true) : L.all P = true := by
  refine List.all_eq_true.mpr fun c hc => ?_
  have h := List.all_eq_true.mp h1 c hc
  rcases Bool.eq_false_or_eq_true (isCode c) with hi | hi
  · exact h2 c (List.mem_filter.mpr ⟨hc, hi⟩)
  · simpa [hi] using h
set_option maxRecDepth 65536 in
theorem w_c0 : (Jvm.Cond.code x code maxLocals ret).before args0 about1 = true := code_word (m := ⟨1, 3⟩) (meth := k1m3) (c := k1c3) (by decide +kernel) rfl rfl rfl (by decide +kernel)
set_option maxRecDepth 65536 in
theorem w_c1 : (Jvm.Cond.code ({ cls := "com/example/feuillet/feuillet/build/XmlWriterIsXmlCharacterPinLaw", name := "check", desc := "(I)Z" } : Jvm.MethodName) method_3_code (1 : Nat) (Option.some Jvm.ClassFile.FieldType.boolean)).before args0 about1 = true := code_word (m := ⟨1, 2⟩) (meth := k1m2) (c := k1c2) (by decide +kernel) rfl rfl rfl (by decide +kernel)
set_option maxRecDepth 65536 in
theorem w_c2 : (Jvm.Cond.code ({ cls := "com/example/feuillet/feuillet/build/XmlWriter", name := "isXmlCharacter", desc := "(I)Z" } : Jvm.MethodName) prog_8_method_2_code (1 : Nat) (Option.some Jvm.ClassFile.FieldType.boolean)).before args0 about1 = true := code_word (m := ⟨2, 0⟩) (meth := k2m0) (c := k2c0) (by decide +kernel) rfl rfl rfl (by decide +kernel)
set_option maxRecDepth 65536 in
theorem w_c3 : (Jvm.Cond.code ({ cls := "com/example/feuillet/feuillet/build/XmlWriterIsXmlCharacterPinLaw", name := "excluded", desc := "(I)Z" } : Jvm.MethodName) method_2_code (1 : Nat) (Option.some Jvm.ClassFile.FieldType.boolean)).before args0 about1 = true := code_word (m := ⟨1, 1⟩) (meth := k1m1) (c := k1c1) (by decide +kernel) rfl rfl rfl (by decide +kernel)
def codes1 : List Jvm.Cond := [Jvm.Cond.code x code maxLocals ret, Jvm.Cond.code ({ cls := "com/example/feuillet/feuillet/build/XmlWriterIsXmlCharacterPinLaw", name := "check", desc := "(I)Z" } : Jvm.MethodName) method_3_code (1 : Nat) (Option.some Jvm.ClassFile.FieldType.boolean), Jvm.Cond.code ({ cls := "com/example/feuillet/feuillet/build/XmlWriter", name := "isXmlCharacter", desc := "(I)Z" } : Jvm.MethodName) prog_8_method_2_code (1 : Nat) (Option.some Jvm.ClassFile.FieldType.boolean), Jvm.Cond.code ({ cls := "com/example/feuillet/feuillet/build/XmlWriterIsXmlCharacterPinLaw", name := "excluded", desc := "(I)Z" } : Jvm.MethodName) method_2_code (1 : Nat) (Option.some Jvm.ClassFile.FieldType.boolean)]
set_option maxRecDepth 65536 in
theorem codes_eq : words1.filter isCode = codes1 := rfl
theorem w_codes : ∀ c ∈ words1.filter isCode, c.before args0 about1 = true := by
  rw [codes_eq]
  intro c hc
  simp only [codes1, List.mem_cons, List.not_mem_nil, or_false] at hc
  rcases hc with rfl | rfl | rfl | rfl
  · exact w_c0
  · exact w_c1
  · exact w_c2
  · exact w_c3
set_option maxRecDepth 65536 in
theorem w_t1 : (words1.take 24).all (fun c => isCode c || c.before args0 about1) = true := by decide +kernel
set_option maxRecDepth 65536 in
theorem w_t2 : (words1.drop 24).all (fun c => isCode c || c.before args0 about1) = true := by decide +kernel
theorem w_tables : (allAtoms (Jvm.Cond.code x code maxLocals ret :: tables_1)).before args0 about1 = true := by
  rw [allAtoms_all]
  show words1.all (fun c => c.before args0 about1) = true
  refine all_split ?_ w_codes
  rw [← List.take_append_drop 24 words1, List.all_append, w_t1, w_t2]
  rfl
set_option maxRecDepth 65536 in
theorem w_case : (Jvm.Cond.and given_1 narrow_1).before args0 about1 = true := by decide +kernel
theorem w_applies : (headSpec (Jvm.Cond.code x code maxLocals ret :: tables_1) room_1).applies x e0.platform about1 = true :=
  (Spec.applies_iff w_frames).mpr ⟨w_running, w_runnable, w_alone, w_named, w_hears, w_ripe, w_room, w_tables⟩
theorem atStart : AtStart classFile x code maxLocals ret World_1 tables_1 room_1 Calls_1 rest_1 Pre_1 launch0 p0 e0 about1 theMethod args0 below0 :=
  ⟨lists_1, trivial, launch0.admits_env _ _ _, launch0.least_env, fairChoices_fair.cas, fairChoices_fair.clock, w_frames, w_args, w_heap, w_applies, trivial, trivial, w_case⟩
end start1
theorem witness_1 : WitnessClaimed_1 := ⟨start1.p0, start1.e0, start1.about1, start1.theMethod, start1.args0, start1.below0, start1.atStart⟩
end Jvm.Pilot.@@N@@
