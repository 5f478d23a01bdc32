import JvmDerived
import JvmDerived.Pilot.@@N@@Statement
import JvmDerived.Pilot.@@N@@Code
set_option linter.unusedVariables false
set_option linter.unusedSimpArgs false
namespace Jvm.RoadKit
open Sem ClassFile Op Lib Jvm.Stand Jvm.Free Jvm.LawKit
section New
variable {p : Program} {l : Launch} {e : Env} {R : Room} {s : State} {m : MethodId} {args : Array Value} {below : List Frame} {meth : Method} {c : Code} {T : State} {locs : List Loc} {cells slots : Nat}
theorem retI (X : Stand p l e R s m args below meth c T locs cells slots) (hx : p.tables.exec = Jvm.exec) {pc : Nat} {Ls : Array Slot} {z : Int32} {rest : List Value} (hret : meth.sig.returnType = some .int) (hd : decode c.code pc = .ok (.ireturn, 1)) {fs : List Frame}
    (hl : ∀ (f : JFrame) (acts : List Action), f.method = m → f.locked = none → f.entered = [] → (doReturn e (T.setTop f) acts (some (.int z))).1 = T.setFrames fs) : Steps p.tables e below (T.setTop (mkF m pc Ls (.int z :: rest))) (T.setFrames fs) := by
  have hm' : T.vm.method? m = some meth := X.method'
  have hn : narrow .int (.int z) = .int z := rfl
  show Steps p.tables e below (T.setTop { method := m, pc := pc, locals := Ls, stack := _ :: rest, locked := none }) _
  jvm_step X.here [X.here.top, hx, hd, hm', hret, hn]
  first | (intro acts; rw [hl _ acts rfl rfl rfl]) | rw [hl _ _ rfl rfl rfl]
  exact Steps.refl _
end New
end Jvm.RoadKit
namespace Jvm.Pilot.@@N@@
open Jvm Jvm.ClassFile Sem Op Lib Jvm.Free Jvm.Stand Jvm.LawKit Jvm.RoadKit Bundle Jvm.Pilot.@@N@@.Jvm.D
theorem own_keep_ext {h h' : Heap} (K : Keep h h' []) : Ext h h' := ⟨K.1, fun a c q => K.2.1 a c q nin0⟩
theorem own_sta_keep {Z : State} {h h' : Heap} {C n d K : String} {a : Addr} {v : Value} (F : Sta Z h C n d v) (Kp : Keep h h' [a]) (E : Exa Z h a K) : Sta Z h' C n d v := by
  obtain ⟨cf, i, k, f, st, cell, h1, h2, h3, h4, h5, h6, h7⟩ := F
  obtain ⟨cell', k', g1, -, -, g4, -⟩ := E
  have ne : st ≠ a := by
    intro q
    subst q
    rw [h5] at g1
    cases g1
    rw [h6] at g4
    cases g4
  exact ⟨cf, i, k, f, st, cell, h1, h2, h3, h4, Kp.2.1 st cell h5 (ninS ne nin0), h6, h7⟩
theorem own_fldint {args : Array Value} {s : State} {t : Term} {C n d : String} {k : Int32} {x : Addr} (h : (Cond.eq (Term.field t C n d) (Term.int k)).value args s none s [] = some true) (ht : t.eval args s none [] s = some (.ref x)) : s.fieldOf? x C n d = some (.int k) := by
  obtain ⟨a, b, ea, eb, K1, K2⟩ := cmp_v (Or.inl h)
  have eb' : b = .int k := (Option.some.inj (eb.symm.trans (Term.int_eval k)))
  subst eb'
  obtain ⟨z, rfl⟩ := K2
  have := gotT (Cond.eq_ints ea (Term.int_eval k)) h
  subst this
  rw [← fld_at ht]
  exact ea
theorem d2_0 : decode prog_40_method_1_code 0 = .ok (.aload_n 0, 1) := by decide +kernel
theorem d2_1 : decode prog_40_method_1_code 1 = .ok (.invokespecial 1, 3) := by decide +kernel
theorem d2_4 : decode prog_40_method_1_code 4 = .ok (.aload_n 0, 1) := by decide +kernel
theorem d2_5 : decode prog_40_method_1_code 5 = .ok (.aload_n 1, 1) := by decide +kernel
theorem d2_6 : decode prog_40_method_1_code 6 = .ok (.putfield 7, 3) := by decide +kernel
theorem d2_9 : decode prog_40_method_1_code 9 = .ok (.aload_n 0, 1) := by decide +kernel
theorem d2_10 : decode prog_40_method_1_code 10 = .ok (.iload_n 2, 1) := by decide +kernel
theorem d2_11 : decode prog_40_method_1_code 11 = .ok (.putfield 13, 3) := by decide +kernel
theorem d2_14 : decode prog_40_method_1_code 14 = .ok (.aload_n 0, 1) := by decide +kernel
theorem d2_15 : decode prog_40_method_1_code 15 = .ok (.iload_n 3, 1) := by decide +kernel
theorem d2_16 : decode prog_40_method_1_code 16 = .ok (.putfield 17, 3) := by decide +kernel
theorem d2_19 : decode prog_40_method_1_code 19 = .ok (.aload_n 0, 1) := by decide +kernel
theorem d2_20 : decode prog_40_method_1_code 20 = .ok (.aload 4, 2) := by decide +kernel
theorem d2_22 : decode prog_40_method_1_code 22 = .ok (.putfield 20, 3) := by decide +kernel
theorem d2_25 : decode prog_40_method_1_code 25 = .ok (.return_, 1) := by decide +kernel
theorem pn0 : plainName "com/example/lachesis/lachesis/Timing" = true := by first | (simp [plainName, overriddenIn]; done) | decide +kernel
theorem ef_rm_init (m : MethodId) (ra : Addr) (xaf : Addr) (xd : Int32) (xh : Int32) : entryFrame m #[(.ref ra), (.ref xaf), (.int xd), (.int xh), .null] 5 = mkF m 0 #[.val (.ref ra), .val (.ref xaf), .val (.int xd), .val (.int xh), .val .null] [] := by first | (simp [entryFrame, mkF, argsToLocals, Value.category]; done) | rfl
def Q_rm_init (Z : State) (ra : Addr) (xaf : Addr) (xd : Int32) (xh : Int32) (h0 : Heap) (n0 : Nat) (v : Option Value) (h : Heap) (L : List Loc) : Prop := v = none ∧ Fr n0 L ∧ Keep h0 h [ra] ∧ Exa Z h ra "com/example/lachesis/lachesis/Timing" ∧ Fld Z h ra "com/example/lachesis/lachesis/Timing" "after" "Lcom/example/lachesis/lachesis/Timing$After;" (.ref xaf) ∧ Fld Z h ra "com/example/lachesis/lachesis/Timing" "days" "I" (.int xd) ∧ Fld Z h ra "com/example/lachesis/lachesis/Timing" "hours" "I" (.int xh) ∧ Fld Z h ra "com/example/lachesis/lachesis/Timing" "weekday" "Ljava/time/DayOfWeek;" .null
set_option maxRecDepth 65536 in
set_option maxHeartbeats 40000000 in
theorem rm_init (l : Launch) (Z : State) (a0 : Array Value) (hw : ∀ d ∈ tables_1, d.before a0 Z = true) (ws : List Jvm.Cond) (ra : Addr) (xaf : Addr) (xd : Int32) (xh : Int32) (h0 : Heap) (n0 : Nat) (Z0 : n0 ≤ h0.size) (E_ra : Exa Z h0 ra "com/example/lachesis/lachesis/Timing") (g_ra : n0 ≤ ra) (F_after_ra : Fld Z h0 ra "com/example/lachesis/lachesis/Timing" "after" "Lcom/example/lachesis/lachesis/Timing$After;" .null) (F_days_ra : Fld Z h0 ra "com/example/lachesis/lachesis/Timing" "days" "I" (.int (0 : Int32))) (F_hours_ra : Fld Z h0 ra "com/example/lachesis/lachesis/Timing" "hours" "I" (.int (0 : Int32))) (F_weekday_ra : Fld Z h0 ra "com/example/lachesis/lachesis/Timing" "weekday" "Ljava/time/DayOfWeek;" .null) :
    MetFree l (⟨"com/example/lachesis/lachesis/Timing", "<init>", "(Lcom/example/lachesis/lachesis/Timing$After;IILjava/time/DayOfWeek;)V"⟩ : MethodName) (head1 (Jvm.Cond.code (⟨"com/example/lachesis/lachesis/Timing", "<init>", "(Lcom/example/lachesis/lachesis/Timing$After;IILjava/time/DayOfWeek;)V"⟩ : MethodName) prog_40_method_1_code 5 none :: ws) ({ frames := 1, cells := 0, slots := 0, locals := 12 } : Room)) (fun a U => a = #[(.ref ra), (.ref xaf), (.int xd), (.int xh), .null] ∧ Z.Warmed39 U.vm ∧ U.heap = h0) (fun _ _ _ _ _ => True) (fun _ U o U' => ∃ v L, o = .returned v ∧ Q_rm_init Z ra xaf xd xh h0 n0 v U'.heap L ∧ FrameEnd U o U' L ({ frames := 1, cells := 0, slots := 0, locals := 12 } : Room).cells ({ frames := 1, cells := 0, slots := 0, locals := 12 } : Room).slots) := by
  refine MetFree.of_bodySF (plainFor_of_name pn0) hisR ?_
  intro p e s m args below meth c s₁ Bd hml0 hP hK
  obtain ⟨rfl, hZ, hh⟩ := hP
  have hx := Bd.exec
  have hby := Bd.bytes
  have hml : c.maxLocals = 5 := hml0
  have hown : s.vm.findClass "com/example/lachesis/lachesis/Timing" = some m.cls := findClass_of_methodNamed Bd.named
  have hnm := (name_of_methodNamed Bd.named Bd.method).1
  have X0 : Stand p l e ({ frames := 1, cells := 0, slots := 0, locals := 12 } : Room) s m #[(.ref ra), (.ref xaf), (.int xd), (.int xh), .null] below meth c s₁ [] 0 0 := Stand.of_body Bd
  have e0 : s₁.heap = h0 := by rw [← hh, Bd.state]; rfl
  have N0 := Fr.nil n0
  have pre0 : ∀ t, Steps p.tables e below (s₁.setTop (mkF m 0 #[.val (.ref ra), .val (.ref xaf), .val (.int xd), .val (.int xh), .val .null] [])) t → Steps p.tables e below (s₁.setTop (entryFrame m #[(.ref ra), (.ref xaf), (.int xd), (.int xh), .null] 5)) t := fun t k => castTop (ef_rm_init m ra xaf xd xh) k
  have pre1 : ∀ t, Steps p.tables e below (s₁.setTop (mkF m 1 #[.val (.ref ra), .val (.ref xaf), .val (.int xd), .val (.int xh), .val .null] [(.ref ra)])) t → Steps p.tables e below (s₁.setTop (entryFrame m #[(.ref ra), (.ref xaf), (.int xd), (.int xh), .null] 5)) t := by
    intro t k
    refine pre0 t ?_
    refine XS.aloadN X0.here hx rfl (hb hby d2_0) rfl rfl ?_
    show Steps p.tables e below (s₁.setTop (mkF m 1 #[.val (.ref ra), .val (.ref xaf), .val (.int xd), .val (.int xh), .val .null] [(.ref ra)])) _
    exact k
  obtain ⟨T2, X2, e2, st2⟩ := initO X0 hx hZ hown (hw _ (List.mem_of_getElem? (i := 13) rfl)) (hw _ (List.mem_of_getElem? (i := 14) rfl)) (hw _ (List.mem_of_getElem? (i := 15) rfl)) e0 (g := (mkF m 1 #[.val (.ref ra), .val (.ref xaf), .val (.int xd), .val (.int xh), .val .null] [(.ref ra)])) rfl (by rw [hml]; rfl) rfl (hb hby d2_1) (by decide) (W := 0) (by show 2 * 0 + _ ≤ _; exact Nat.le_of_eq rfl) (by decide)
  have pre3 : ∀ t, Steps p.tables e below (T2.setTop (mkF m 4 #[.val (.ref ra), .val (.ref xaf), .val (.int xd), .val (.int xh), .val .null] [])) t → Steps p.tables e below (s₁.setTop (entryFrame m #[(.ref ra), (.ref xaf), (.int xd), (.int xh), .null] 5)) t := fun t k => pre1 t (st2 t k)
  have pre4 : ∀ t, Steps p.tables e below (T2.setTop (mkF m 6 #[.val (.ref ra), .val (.ref xaf), .val (.int xd), .val (.int xh), .val .null] [(.ref xaf), (.ref ra)])) t → Steps p.tables e below (s₁.setTop (entryFrame m #[(.ref ra), (.ref xaf), (.int xd), (.int xh), .null] 5)) t := by
    intro t k
    refine pre3 t ?_
    refine XS.aloadN X2.here hx rfl (hb hby d2_4) rfl rfl ?_
    show Steps p.tables e below (T2.setTop (mkF m 5 #[.val (.ref ra), .val (.ref xaf), .val (.int xd), .val (.int xh), .val .null] [(.ref ra)])) _
    refine XS.aloadN X2.here hx rfl (hb hby d2_5) rfl rfl ?_
    show Steps p.tables e below (T2.setTop (mkF m 6 #[.val (.ref ra), .val (.ref xaf), .val (.int xd), .val (.int xh), .val .null] [(.ref xaf), (.ref ra)])) _
    exact k
  obtain ⟨T5, h5, X5, e5, W5, st5⟩ := putF X2 hx hZ hown (host := "") (Or.inl (hw _ (List.mem_of_getElem? (i := 16) rfl))) Via.refl e2 F_after_ra E_ra (Or.inr ⟨(hw _ (List.mem_of_getElem? (i := 17) rfl)), rfl, hnm⟩) (hw _ (List.mem_of_getElem? (i := 9) rfl)) (ty := (.object "com/example/lachesis/lachesis/Timing$After")) (by decide) rfl rfl (g := (mkF m 6 #[.val (.ref ra), .val (.ref xaf), .val (.int xd), .val (.int xh), .val .null] [(.ref xaf), (.ref ra)])) rfl rfl (hb hby d2_6)
  have K5 : Keep h0 h5 [ra] := (Keep.refl h0 [ra]).wr W5 (Or.inl (by simp))
  have z5 : n0 ≤ h5.size := Nat.le_trans Z0 K5.1
  have N5 := Fr.snoc X5 N0 g_ra
  have Fw5 := F_after_ra.same W5
  have pre6 : ∀ t, Steps p.tables e below (T5.setTop (mkF m 9 #[.val (.ref ra), .val (.ref xaf), .val (.int xd), .val (.int xh), .val .null] [])) t → Steps p.tables e below (s₁.setTop (entryFrame m #[(.ref ra), (.ref xaf), (.int xd), (.int xh), .null] 5)) t := fun t k => pre4 t (st5 t k)
  have pre7 : ∀ t, Steps p.tables e below (T5.setTop (mkF m 11 #[.val (.ref ra), .val (.ref xaf), .val (.int xd), .val (.int xh), .val .null] [(.int xd), (.ref ra)])) t → Steps p.tables e below (s₁.setTop (entryFrame m #[(.ref ra), (.ref xaf), (.int xd), (.int xh), .null] 5)) t := by
    intro t k
    refine pre6 t ?_
    refine XS.aloadN X5.here hx rfl (hb hby d2_9) rfl rfl ?_
    show Steps p.tables e below (T5.setTop (mkF m 10 #[.val (.ref ra), .val (.ref xaf), .val (.int xd), .val (.int xh), .val .null] [(.ref ra)])) _
    refine XS.iloadN X5.here hx rfl (hb hby d2_10) rfl ?_
    show Steps p.tables e below (T5.setTop (mkF m 11 #[.val (.ref ra), .val (.ref xaf), .val (.int xd), .val (.int xh), .val .null] [(.int xd), (.ref ra)])) _
    exact k
  have f8 := (E_ra.wr W5)
  have f9 := (F_days_ra.other W5 (Or.inr (slot_ne (Or.inr (hw _ (List.mem_of_getElem? (i := 19) rfl))) (Or.inr (hw _ (List.mem_of_getElem? (i := 17) rfl))) (by decide) (t := .int) (t' := (.object "com/example/lachesis/lachesis/Timing$After")) (by decide) (by decide))))
  obtain ⟨T10, h10, X10, e10, W10, st10⟩ := putF X5 hx hZ hown (host := "") (Or.inl (hw _ (List.mem_of_getElem? (i := 18) rfl))) Via.refl e5 f9 f8 (Or.inr ⟨(hw _ (List.mem_of_getElem? (i := 19) rfl)), rfl, hnm⟩) (hw _ (List.mem_of_getElem? (i := 9) rfl)) (ty := .int) (by decide) rfl rfl (g := (mkF m 11 #[.val (.ref ra), .val (.ref xaf), .val (.int xd), .val (.int xh), .val .null] [(.int xd), (.ref ra)])) rfl rfl (hb hby d2_11)
  have K10 : Keep h0 h10 [ra] := K5.wr W10 (Or.inl (by simp))
  have z10 : n0 ≤ h10.size := Nat.le_trans Z0 K10.1
  have N10 := Fr.snoc X10 N5 g_ra
  have Fw10 := f9.same W10
  have pre11 : ∀ t, Steps p.tables e below (T10.setTop (mkF m 14 #[.val (.ref ra), .val (.ref xaf), .val (.int xd), .val (.int xh), .val .null] [])) t → Steps p.tables e below (s₁.setTop (entryFrame m #[(.ref ra), (.ref xaf), (.int xd), (.int xh), .null] 5)) t := fun t k => pre7 t (st10 t k)
  have pre12 : ∀ t, Steps p.tables e below (T10.setTop (mkF m 16 #[.val (.ref ra), .val (.ref xaf), .val (.int xd), .val (.int xh), .val .null] [(.int xh), (.ref ra)])) t → Steps p.tables e below (s₁.setTop (entryFrame m #[(.ref ra), (.ref xaf), (.int xd), (.int xh), .null] 5)) t := by
    intro t k
    refine pre11 t ?_
    refine XS.aloadN X10.here hx rfl (hb hby d2_14) rfl rfl ?_
    show Steps p.tables e below (T10.setTop (mkF m 15 #[.val (.ref ra), .val (.ref xaf), .val (.int xd), .val (.int xh), .val .null] [(.ref ra)])) _
    refine XS.iloadN X10.here hx rfl (hb hby d2_15) rfl ?_
    show Steps p.tables e below (T10.setTop (mkF m 16 #[.val (.ref ra), .val (.ref xaf), .val (.int xd), .val (.int xh), .val .null] [(.int xh), (.ref ra)])) _
    exact k
  have f13 := (f8.wr W10)
  have f14 := ((F_hours_ra.other W5 (Or.inr (slot_ne (Or.inr (hw _ (List.mem_of_getElem? (i := 21) rfl))) (Or.inr (hw _ (List.mem_of_getElem? (i := 17) rfl))) (by decide) (t := .int) (t' := (.object "com/example/lachesis/lachesis/Timing$After")) (by decide) (by decide)))).other W10 (Or.inr (slot_ne (Or.inr (hw _ (List.mem_of_getElem? (i := 21) rfl))) (Or.inr (hw _ (List.mem_of_getElem? (i := 19) rfl))) (by decide) (t := .int) (t' := .int) (by decide) (by decide))))
  obtain ⟨T15, h15, X15, e15, W15, st15⟩ := putF X10 hx hZ hown (host := "") (Or.inl (hw _ (List.mem_of_getElem? (i := 20) rfl))) Via.refl e10 f14 f13 (Or.inr ⟨(hw _ (List.mem_of_getElem? (i := 21) rfl)), rfl, hnm⟩) (hw _ (List.mem_of_getElem? (i := 9) rfl)) (ty := .int) (by decide) rfl rfl (g := (mkF m 16 #[.val (.ref ra), .val (.ref xaf), .val (.int xd), .val (.int xh), .val .null] [(.int xh), (.ref ra)])) rfl rfl (hb hby d2_16)
  have K15 : Keep h0 h15 [ra] := K10.wr W15 (Or.inl (by simp))
  have z15 : n0 ≤ h15.size := Nat.le_trans Z0 K15.1
  have N15 := Fr.snoc X15 N10 g_ra
  have Fw15 := f14.same W15
  have pre16 : ∀ t, Steps p.tables e below (T15.setTop (mkF m 19 #[.val (.ref ra), .val (.ref xaf), .val (.int xd), .val (.int xh), .val .null] [])) t → Steps p.tables e below (s₁.setTop (entryFrame m #[(.ref ra), (.ref xaf), (.int xd), (.int xh), .null] 5)) t := fun t k => pre12 t (st15 t k)
  have pre17 : ∀ t, Steps p.tables e below (T15.setTop (mkF m 22 #[.val (.ref ra), .val (.ref xaf), .val (.int xd), .val (.int xh), .val .null] [.null, (.ref ra)])) t → Steps p.tables e below (s₁.setTop (entryFrame m #[(.ref ra), (.ref xaf), (.int xd), (.int xh), .null] 5)) t := by
    intro t k
    refine pre16 t ?_
    refine XS.aloadN X15.here hx rfl (hb hby d2_19) rfl rfl ?_
    show Steps p.tables e below (T15.setTop (mkF m 20 #[.val (.ref ra), .val (.ref xaf), .val (.int xd), .val (.int xh), .val .null] [(.ref ra)])) _
    refine XS.aload X15.here hx rfl (hb hby d2_20) rfl rfl ?_
    show Steps p.tables e below (T15.setTop (mkF m 22 #[.val (.ref ra), .val (.ref xaf), .val (.int xd), .val (.int xh), .val .null] [.null, (.ref ra)])) _
    exact k
  have f18 := (f13.wr W15)
  have f19 := (((F_weekday_ra.other W5 (Or.inr (slot_ne (Or.inr (hw _ (List.mem_of_getElem? (i := 23) rfl))) (Or.inr (hw _ (List.mem_of_getElem? (i := 17) rfl))) (by decide) (t := (.object "java/time/DayOfWeek")) (t' := (.object "com/example/lachesis/lachesis/Timing$After")) (by decide) (by decide)))).other W10 (Or.inr (slot_ne (Or.inr (hw _ (List.mem_of_getElem? (i := 23) rfl))) (Or.inr (hw _ (List.mem_of_getElem? (i := 19) rfl))) (by decide) (t := (.object "java/time/DayOfWeek")) (t' := .int) (by decide) (by decide)))).other W15 (Or.inr (slot_ne (Or.inr (hw _ (List.mem_of_getElem? (i := 23) rfl))) (Or.inr (hw _ (List.mem_of_getElem? (i := 21) rfl))) (by decide) (t := (.object "java/time/DayOfWeek")) (t' := .int) (by decide) (by decide))))
  obtain ⟨T20, h20, X20, e20, W20, st20⟩ := putF X15 hx hZ hown (host := "") (Or.inl (hw _ (List.mem_of_getElem? (i := 22) rfl))) Via.refl e15 f19 f18 (Or.inr ⟨(hw _ (List.mem_of_getElem? (i := 23) rfl)), rfl, hnm⟩) (hw _ (List.mem_of_getElem? (i := 9) rfl)) (ty := (.object "java/time/DayOfWeek")) (by decide) rfl rfl (g := (mkF m 22 #[.val (.ref ra), .val (.ref xaf), .val (.int xd), .val (.int xh), .val .null] [.null, (.ref ra)])) rfl rfl (hb hby d2_22)
  have K20 : Keep h0 h20 [ra] := K15.wr W20 (Or.inl (by simp))
  have z20 : n0 ≤ h20.size := Nat.le_trans Z0 K20.1
  have N20 := Fr.snoc X20 N15 g_ra
  have Fw20 := f19.same W20
  have pre21 : ∀ t, Steps p.tables e below (T20.setTop (mkF m 25 #[.val (.ref ra), .val (.ref xaf), .val (.int xd), .val (.int xh), .val .null] [])) t → Steps p.tables e below (s₁.setTop (entryFrame m #[(.ref ra), (.ref xaf), (.int xd), (.int xh), .null] 5)) t := fun t k => pre17 t (st20 t k)
  obtain ⟨fs, hr, hrun, hended, hW, hsame⟩ := X20.leave (v := none) (fun _ => rfl)
  refine ⟨_, _, pre21 _ ?_, hrun, hended, _, _, rfl, ?_, ⟨_, rfl⟩, hW, hsame.mono (by decide) (by decide)⟩
  · exact X20.returnOut hx Bd.returns (hb hby d2_25) hr
  · show Q_rm_init Z ra xaf xd xh h0 n0 _ T20.heap _
    rw [e20]
    exact ⟨rfl, N20, K20, (f18.wr W20), (((Fw5.other W10 (Or.inr (slot_ne (Or.inr (hw _ (List.mem_of_getElem? (i := 17) rfl))) (Or.inr (hw _ (List.mem_of_getElem? (i := 19) rfl))) (by decide) (t := (.object "com/example/lachesis/lachesis/Timing$After")) (t' := .int) (by decide) (by decide)))).other W15 (Or.inr (slot_ne (Or.inr (hw _ (List.mem_of_getElem? (i := 17) rfl))) (Or.inr (hw _ (List.mem_of_getElem? (i := 21) rfl))) (by decide) (t := (.object "com/example/lachesis/lachesis/Timing$After")) (t' := .int) (by decide) (by decide)))).other W20 (Or.inr (slot_ne (Or.inr (hw _ (List.mem_of_getElem? (i := 17) rfl))) (Or.inr (hw _ (List.mem_of_getElem? (i := 23) rfl))) (by decide) (t := (.object "com/example/lachesis/lachesis/Timing$After")) (t' := (.object "java/time/DayOfWeek")) (by decide) (by decide)))), ((Fw10.other W15 (Or.inr (slot_ne (Or.inr (hw _ (List.mem_of_getElem? (i := 19) rfl))) (Or.inr (hw _ (List.mem_of_getElem? (i := 21) rfl))) (by decide) (t := .int) (t' := .int) (by decide) (by decide)))).other W20 (Or.inr (slot_ne (Or.inr (hw _ (List.mem_of_getElem? (i := 19) rfl))) (Or.inr (hw _ (List.mem_of_getElem? (i := 23) rfl))) (by decide) (t := .int) (t' := (.object "java/time/DayOfWeek")) (by decide) (by decide)))), (Fw15.other W20 (Or.inr (slot_ne (Or.inr (hw _ (List.mem_of_getElem? (i := 21) rfl))) (Or.inr (hw _ (List.mem_of_getElem? (i := 23) rfl))) (by decide) (t := .int) (t' := (.object "java/time/DayOfWeek")) (by decide) (by decide)))), Fw20⟩
theorem d1_0 : decode prog_40_method_3_code 0 = .ok (.iload_n 0, 1) := by decide +kernel
theorem d1_1 : decode prog_40_method_3_code 1 = .ok (.iconst 1, 1) := by decide +kernel
theorem d1_2 : decode prog_40_method_3_code 2 = .ok (.if_icmp .lt 10, 3) := by decide +kernel
theorem d1_5 : decode prog_40_method_3_code 5 = .ok (.iload_n 0, 1) := by decide +kernel
theorem d1_6 : decode prog_40_method_3_code 6 = .ok (.sipush 8760, 3) := by decide +kernel
theorem d1_9 : decode prog_40_method_3_code 9 = .ok (.if_icmp .le 17, 3) := by decide +kernel
theorem d1_26 : decode prog_40_method_3_code 26 = .ok (.new 8, 3) := by decide +kernel
theorem d1_29 : decode prog_40_method_3_code 29 = .ok (.dup, 1) := by decide +kernel
theorem d1_30 : decode prog_40_method_3_code 30 = .ok (.aload_n 1, 1) := by decide +kernel
theorem d1_31 : decode prog_40_method_3_code 31 = .ok (.iconst 0, 1) := by decide +kernel
theorem d1_32 : decode prog_40_method_3_code 32 = .ok (.iload_n 0, 1) := by decide +kernel
theorem d1_33 : decode prog_40_method_3_code 33 = .ok (.aconst_null, 1) := by decide +kernel
theorem d1_34 : decode prog_40_method_3_code 34 = .ok (.invokespecial 28, 3) := by decide +kernel
theorem pd0 : parseMethodDescriptor "(Lcom/example/lachesis/lachesis/Timing$After;IILjava/time/DayOfWeek;)V" = some ⟨[(.object "com/example/lachesis/lachesis/Timing$After"), .int, .int, (.object "java/time/DayOfWeek")], none⟩ := by decide +kernel
theorem d1_37 : decode prog_40_method_3_code 37 = .ok (.areturn, 1) := by decide +kernel
theorem ef_rm_make (m : MethodId) (xh : Int32) (xaf : Addr) : entryFrame m #[(.int xh), (.ref xaf)] 2 = mkF m 0 #[.val (.int xh), .val (.ref xaf)] [] := by first | (simp [entryFrame, mkF, argsToLocals, Value.category]; done) | rfl
def Q_rm_make (Z : State) (xh : Int32) (xaf : Addr) (h0 : Heap) (n0 : Nat) (v : Option Value) (h : Heap) (L : List Loc) : Prop := ∃ bo : Addr, v = some (.ref bo) ∧ Fr n0 L ∧ n0 ≤ bo ∧ h0.size ≤ bo ∧ Keep h0 h ([] : List Addr) ∧ Exa Z h bo "com/example/lachesis/lachesis/Timing" ∧ Fld Z h bo "com/example/lachesis/lachesis/Timing" "after" "Lcom/example/lachesis/lachesis/Timing$After;" (.ref xaf) ∧ Fld Z h bo "com/example/lachesis/lachesis/Timing" "days" "I" (.int (0 : Int32)) ∧ Fld Z h bo "com/example/lachesis/lachesis/Timing" "hours" "I" (.int xh) ∧ Fld Z h bo "com/example/lachesis/lachesis/Timing" "weekday" "Ljava/time/DayOfWeek;" .null
set_option maxRecDepth 65536 in
set_option maxHeartbeats 40000000 in
theorem rm_make (l : Launch) (Z : State) (a0 : Array Value) (hw : ∀ d ∈ tables_1, d.before a0 Z = true) (ws : List Jvm.Cond) (xh : Int32) (xaf : Addr) (h0 : Heap) (n0 : Nat) (Z0 : n0 ≤ h0.size) (hq0 : ¬ (xh < (1 : Int32))) (hq1 : ¬ ((8760 : Int32) < xh)) :
    MetFree l (⟨"com/example/lachesis/lachesis/Timing", "hours", "(ILcom/example/lachesis/lachesis/Timing$After;)Lcom/example/lachesis/lachesis/Timing;"⟩ : MethodName) (head1 (Jvm.Cond.code (⟨"com/example/lachesis/lachesis/Timing", "hours", "(ILcom/example/lachesis/lachesis/Timing$After;)Lcom/example/lachesis/lachesis/Timing;"⟩ : MethodName) prog_40_method_3_code 2 (some (.object "com/example/lachesis/lachesis/Timing")) :: ws) ({ frames := 2, cells := 1, slots := 4, locals := 29 } : Room)) (fun a U => a = #[(.int xh), (.ref xaf)] ∧ Z.Warmed39 U.vm ∧ U.heap = h0) (fun _ _ _ _ _ => True) (fun _ U o U' => ∃ v L, o = .returned v ∧ Q_rm_make Z xh xaf h0 n0 v U'.heap L ∧ FrameEnd U o U' L ({ frames := 2, cells := 1, slots := 4, locals := 29 } : Room).cells ({ frames := 2, cells := 1, slots := 4, locals := 29 } : Room).slots) := by
  refine MetFree.of_bodySF (plainFor_of_name pn0) hisR ?_
  intro p e s m args below meth c s₁ Bd hml0 hP hK
  obtain ⟨rfl, hZ, hh⟩ := hP
  have hx := Bd.exec
  have hby := Bd.bytes
  have hml : c.maxLocals = 2 := hml0
  have hown : s.vm.findClass "com/example/lachesis/lachesis/Timing" = some m.cls := findClass_of_methodNamed Bd.named
  have hnm := (name_of_methodNamed Bd.named Bd.method).1
  have X0 : Stand p l e ({ frames := 2, cells := 1, slots := 4, locals := 29 } : Room) s m #[(.int xh), (.ref xaf)] below meth c s₁ [] 0 0 := Stand.of_body Bd
  have e0 : s₁.heap = h0 := by rw [← hh, Bd.state]; rfl
  have N0 := Fr.nil n0
  have pre0 : ∀ t, Steps p.tables e below (s₁.setTop (mkF m 0 #[.val (.int xh), .val (.ref xaf)] [])) t → Steps p.tables e below (s₁.setTop (entryFrame m #[(.int xh), (.ref xaf)] 2)) t := fun t k => castTop (ef_rm_make m xh xaf) k
  have pre1 : ∀ t, Steps p.tables e below (s₁.setTop (mkF m 26 #[.val (.int xh), .val (.ref xaf)] [])) t → Steps p.tables e below (s₁.setTop (entryFrame m #[(.int xh), (.ref xaf)] 2)) t := by
    intro t k
    refine pre0 t ?_
    refine XS.iloadN X0.here hx rfl (hb hby d1_0) rfl ?_
    show Steps p.tables e below (s₁.setTop (mkF m 1 #[.val (.int xh), .val (.ref xaf)] [(.int xh)])) _
    refine XS.iconst X0.here hx rfl (hb hby d1_1) ?_
    show Steps p.tables e below (s₁.setTop (mkF m 2 #[.val (.int xh), .val (.ref xaf)] [(.int (1 : Int32)), (.int xh)])) _
    refine XS.icmpNo X0.here hx rfl (hb hby d1_2) rfl (flt (show ¬ (xh < (1 : Int32)) from hq0)).1 ?_
    show Steps p.tables e below (s₁.setTop (mkF m 5 #[.val (.int xh), .val (.ref xaf)] [])) _
    refine XS.iloadN X0.here hx rfl (hb hby d1_5) rfl ?_
    show Steps p.tables e below (s₁.setTop (mkF m 6 #[.val (.int xh), .val (.ref xaf)] [(.int xh)])) _
    refine XS.sipush X0.here hx rfl (hb hby d1_6) ?_
    show Steps p.tables e below (s₁.setTop (mkF m 9 #[.val (.int xh), .val (.ref xaf)] [(.int (8760 : Int32)), (.int xh)])) _
    refine XS.icmpYes X0.here hx rfl (pc0 := 9) (pc' := 26) rfl (hb hby d1_9) rfl (flt (show ¬ ((8760 : Int32) < xh) from hq1)).2.2.2 (by decide) (by decide) ?_
    show Steps p.tables e below (s₁.setTop (mkF m 26 #[.val (.int xh), .val (.ref xaf)] [])) _
    exact k
  obtain ⟨T2, h2, X2, e2, E2, A2, D2, -, st2⟩ := newO X0 hx hZ hown (hw _ (List.mem_of_getElem? (i := 8) rfl)) (hw _ (List.mem_of_getElem? (i := 9) rfl)) (hw _ (List.mem_of_getElem? (i := 6) rfl)) e0 (g := (mkF m 26 #[.val (.int xh), .val (.ref xaf)] [])) rfl (hb hby d1_26) (by decide) (by decide)
  obtain ⟨b2, g2⟩ : ∃ z, z = h0.size := ⟨_, rfl⟩
  rw [← g2] at A2 D2 st2
  have g_b2 : n0 ≤ b2 := Nat.le_trans Z0 (Nat.le_of_eq g2.symm)
  have sz_b2 : h0.size ≤ b2 := Nat.le_trans (Keep.refl h0 ([] : List Addr)).1 (Nat.le_of_eq g2.symm)
  have K2 : Keep h0 h2 ([] : List Addr) := (Keep.refl h0 ([] : List Addr)).ext E2
  have z2 : n0 ≤ h2.size := Nat.le_trans Z0 K2.1
  have F_after_b2 : Fld Z h2 b2 "com/example/lachesis/lachesis/Timing" "after" "Lcom/example/lachesis/lachesis/Timing$After;" .null := D2 (Or.inr (hw _ (List.mem_of_getElem? (i := 17) rfl))) (ty := (.object "com/example/lachesis/lachesis/Timing$After")) (by decide)
  have F_days_b2 : Fld Z h2 b2 "com/example/lachesis/lachesis/Timing" "days" "I" (.int (0 : Int32)) := D2 (Or.inr (hw _ (List.mem_of_getElem? (i := 19) rfl))) (ty := .int) (by decide)
  have F_hours_b2 : Fld Z h2 b2 "com/example/lachesis/lachesis/Timing" "hours" "I" (.int (0 : Int32)) := D2 (Or.inr (hw _ (List.mem_of_getElem? (i := 21) rfl))) (ty := .int) (by decide)
  have F_weekday_b2 : Fld Z h2 b2 "com/example/lachesis/lachesis/Timing" "weekday" "Ljava/time/DayOfWeek;" .null := D2 (Or.inr (hw _ (List.mem_of_getElem? (i := 23) rfl))) (ty := (.object "java/time/DayOfWeek")) (by decide)
  have pre3 : ∀ t, Steps p.tables e below (T2.setTop (mkF m 29 #[.val (.int xh), .val (.ref xaf)] [(.ref b2)])) t → Steps p.tables e below (s₁.setTop (entryFrame m #[(.int xh), (.ref xaf)] 2)) t := fun t k => pre1 t (st2 t k)
  have pre4 : ∀ t, Steps p.tables e below (T2.setTop (mkF m 34 #[.val (.int xh), .val (.ref xaf)] [.null, (.int xh), (.int (0 : Int32)), (.ref xaf), (.ref b2), (.ref b2)])) t → Steps p.tables e below (s₁.setTop (entryFrame m #[(.int xh), (.ref xaf)] 2)) t := by
    intro t k
    refine pre3 t ?_
    refine XS.dup X2.here hx rfl (hb hby d1_29) rfl rfl ?_
    show Steps p.tables e below (T2.setTop (mkF m 30 #[.val (.int xh), .val (.ref xaf)] [(.ref b2), (.ref b2)])) _
    refine XS.aloadN X2.here hx rfl (hb hby d1_30) rfl rfl ?_
    show Steps p.tables e below (T2.setTop (mkF m 31 #[.val (.int xh), .val (.ref xaf)] [(.ref xaf), (.ref b2), (.ref b2)])) _
    refine XS.iconst X2.here hx rfl (hb hby d1_31) ?_
    show Steps p.tables e below (T2.setTop (mkF m 32 #[.val (.int xh), .val (.ref xaf)] [(.int (0 : Int32)), (.ref xaf), (.ref b2), (.ref b2)])) _
    refine XS.iloadN X2.here hx rfl (hb hby d1_32) rfl ?_
    show Steps p.tables e below (T2.setTop (mkF m 33 #[.val (.int xh), .val (.ref xaf)] [(.int xh), (.int (0 : Int32)), (.ref xaf), (.ref b2), (.ref b2)])) _
    refine XS.aconstNull X2.here hx rfl (hb hby d1_33) ?_
    show Steps p.tables e below (T2.setTop (mkF m 34 #[.val (.int xh), .val (.ref xaf)] [.null, (.int xh), (.int (0 : Int32)), (.ref xaf), (.ref b2), (.ref b2)])) _
    exact k
  obtain ⟨_, _, ⟨T5, L5, k5, n5⟩, -, X5, ⟨Lc5, hQ5, l5, y5, z5⟩, st5⟩ := X2.specialBack hx (y := (⟨"com/example/lachesis/lachesis/Timing", "<init>", "(Lcom/example/lachesis/lachesis/Timing$After;IILjava/time/DayOfWeek;)V"⟩ : MethodName)) rfl hown (mvT hZ (hw _ (List.mem_of_getElem? (i := 10) rfl))) (mvT hZ (hw _ (List.mem_of_getElem? (i := 11) rfl))) (mvT hZ (hw _ (List.mem_of_getElem? (i := 12) rfl))) (by decide) (backOf (W := 1) (rm_init l Z a0 hw [] b2 xaf (0 : Int32) xh h2 n0 z2 A2 (g_b2) F_after_b2 F_days_b2 F_hours_b2 F_weekday_b2) hZ (hw _ (List.mem_of_getElem? (i := 12) rfl)) (hw _ (List.mem_of_getElem? (i := 6) rfl)) (by decide) (by decide)) (g := (mkF m 34 #[.val (.int xh), .val (.ref xaf)] [.null, (.int xh), (.int (0 : Int32)), (.ref xaf), (.ref b2), (.ref b2)])) rfl (by rw [hml]; rfl) (Steps.refl _) (a := b2) (argsL := [(.ref xaf), (.int (0 : Int32)), (.int xh), .null]) (rest := [(.ref b2)]) (lenOf pd0 rfl) rfl (by show 2 * 0 + _ ≤ _; exact Nat.le_of_eq rfl) (hb hby d1_34) (fun _ _ => ⟨rfl, e2, (by decide : 1 + 0 ≤ _), (by decide : 4 + 0 ≤ _)⟩)
  dsimp only [Pt.U, Pt.locs, Pt.cells, Pt.slots] at X5 l5 y5 z5 st5 hQ5
  subst l5 y5 z5
  obtain ⟨rfl, M5, kp5, f5_0, f5_1, f5_2, f5_3, f5_4⟩ := hQ5
  have K5 : Keep h0 T5.heap ([] : List Addr) := K2.trans kp5 (allS (P := fun x => x ∈ ([] : List Addr) ∨ h0.size ≤ x) (Or.inr sz_b2) all0)
  have zz5 : n0 ≤ T5.heap.size := Nat.le_trans Z0 K5.1
  have N5 := Fr.app N0 M5
  have pre6 : ∀ t, Steps p.tables e below (T5.setTop (mkF m 37 #[.val (.int xh), .val (.ref xaf)] [(.ref b2)])) t → Steps p.tables e below (s₁.setTop (entryFrame m #[(.int xh), (.ref xaf)] 2)) t := fun t k => pre4 t (st5.trans k)
  obtain ⟨fs, hr, hrun, hended, hW, hsame⟩ := X5.leave (v := some (.ref b2)) (fun h => by rw [Bd.returns] at h; cases h)
  refine ⟨_, _, pre6 _ ?_, hrun, hended, _, _, rfl, ?_, ⟨_, rfl⟩, hW, hsame.mono (by decide) (by decide)⟩
  · exact retOut X5 hx Bd.returns rfl (Or.inr (Or.inr (Or.inr (Or.inr ⟨rfl, rfl, rfl⟩)))) (hb hby d1_37) hr
  · show Q_rm_make Z xh xaf h0 n0 _ T5.heap _
    exact ⟨b2, rfl, N5, g_b2, sz_b2, K5, f5_0, f5_1, f5_2, f5_3, f5_4⟩
theorem d4_0 : decode prog_40_method_6_code 0 = .ok (.aload_n 0, 1) := by decide +kernel
theorem d4_1 : decode prog_40_method_6_code 1 = .ok (.getfield 7, 3) := by decide +kernel
theorem d4_4 : decode prog_40_method_6_code 4 = .ok (.areturn, 1) := by decide +kernel
theorem ef_rm_after (m : MethodId) (ra : Addr) : entryFrame m #[(.ref ra)] 1 = mkF m 0 #[.val (.ref ra)] [] := by first | (simp [entryFrame, mkF, argsToLocals, Value.category]; done) | rfl
def Q_rm_after (Z : State) (ra : Addr) (xaf : Addr) (h0 : Heap) (n0 : Nat) (v : Option Value) (h : Heap) (L : List Loc) : Prop := v = some (.ref xaf) ∧ Fr n0 L ∧ h = h0
set_option maxRecDepth 65536 in
set_option maxHeartbeats 40000000 in
theorem rm_after (l : Launch) (Z : State) (a0 : Array Value) (hw : ∀ d ∈ tables_1, d.before a0 Z = true) (ws : List Jvm.Cond) (ra : Addr) (xaf : Addr) (h0 : Heap) (n0 : Nat) (Z0 : n0 ≤ h0.size) (F1 : Fld Z h0 ra "com/example/lachesis/lachesis/Timing" "after" "Lcom/example/lachesis/lachesis/Timing$After;" (.ref xaf)) :
    MetFree l (⟨"com/example/lachesis/lachesis/Timing", "after", "()Lcom/example/lachesis/lachesis/Timing$After;"⟩ : MethodName) (head1 (Jvm.Cond.code (⟨"com/example/lachesis/lachesis/Timing", "after", "()Lcom/example/lachesis/lachesis/Timing$After;"⟩ : MethodName) prog_40_method_6_code 1 (some (.object "com/example/lachesis/lachesis/Timing$After")) :: ws) ({ frames := 0, cells := 0, slots := 0, locals := 0 } : Room)) (fun a U => a = #[(.ref ra)] ∧ Z.Warmed39 U.vm ∧ U.heap = h0) (fun _ _ _ _ _ => True) (fun _ U o U' => ∃ v L, o = .returned v ∧ Q_rm_after Z ra xaf h0 n0 v U'.heap L ∧ FrameEnd U o U' L ({ frames := 0, cells := 0, slots := 0, locals := 0 } : Room).cells ({ frames := 0, cells := 0, slots := 0, locals := 0 } : Room).slots) := by
  refine MetFree.of_bodySF (plainFor_of_name pn0) hisR ?_
  intro p e s m args below meth c s₁ Bd hml0 hP hK
  obtain ⟨rfl, hZ, hh⟩ := hP
  have hx := Bd.exec
  have hby := Bd.bytes
  have hml : c.maxLocals = 1 := hml0
  have hown : s.vm.findClass "com/example/lachesis/lachesis/Timing" = some m.cls := findClass_of_methodNamed Bd.named
  have hnm := (name_of_methodNamed Bd.named Bd.method).1
  have X0 : Stand p l e ({ frames := 0, cells := 0, slots := 0, locals := 0 } : Room) s m #[(.ref ra)] below meth c s₁ [] 0 0 := Stand.of_body Bd
  have e0 : s₁.heap = h0 := by rw [← hh, Bd.state]; rfl
  have N0 := Fr.nil n0
  have pre0 : ∀ t, Steps p.tables e below (s₁.setTop (mkF m 0 #[.val (.ref ra)] [])) t → Steps p.tables e below (s₁.setTop (entryFrame m #[(.ref ra)] 1)) t := fun t k => castTop (ef_rm_after m ra) k
  have pre1 : ∀ t, Steps p.tables e below (s₁.setTop (mkF m 1 #[.val (.ref ra)] [(.ref ra)])) t → Steps p.tables e below (s₁.setTop (entryFrame m #[(.ref ra)] 1)) t := by
    intro t k
    refine pre0 t ?_
    refine XS.aloadN X0.here hx rfl (hb hby d4_0) rfl rfl ?_
    show Steps p.tables e below (s₁.setTop (mkF m 1 #[.val (.ref ra)] [(.ref ra)])) _
    exact k
  obtain ⟨T2, X2, e2, st2⟩ := getF X0 hx hZ hown (host := "") (Or.inl (hw _ (List.mem_of_getElem? (i := 16) rfl))) Via.refl e0 F1 (g := (mkF m 1 #[.val (.ref ra)] [(.ref ra)])) rfl rfl (hb hby d4_1)
  have pre3 : ∀ t, Steps p.tables e below (T2.setTop (mkF m 4 #[.val (.ref ra)] [(.ref xaf)])) t → Steps p.tables e below (s₁.setTop (entryFrame m #[(.ref ra)] 1)) t := fun t k => pre1 t (st2 t k)
  obtain ⟨fs, hr, hrun, hended, hW, hsame⟩ := X2.leave (v := some (.ref xaf)) (fun h => by rw [Bd.returns] at h; cases h)
  refine ⟨_, _, pre3 _ ?_, hrun, hended, _, _, rfl, ?_, ⟨_, rfl⟩, hW, hsame.mono (by decide) (by decide)⟩
  · exact retOut X2 hx Bd.returns rfl (Or.inr (Or.inr (Or.inr (Or.inr ⟨rfl, rfl, rfl⟩)))) (hb hby d4_4) hr
  · show Q_rm_after Z ra xaf h0 n0 _ T2.heap _
    rw [e2]
    exact ⟨rfl, N0, rfl⟩
theorem d5_0 : decode prog_40_method_7_code 0 = .ok (.aload_n 0, 1) := by decide +kernel
theorem d5_1 : decode prog_40_method_7_code 1 = .ok (.getfield 13, 3) := by decide +kernel
theorem d5_4 : decode prog_40_method_7_code 4 = .ok (.ireturn, 1) := by decide +kernel
theorem ef_rm_days (m : MethodId) (ra : Addr) : entryFrame m #[(.ref ra)] 1 = mkF m 0 #[.val (.ref ra)] [] := by first | (simp [entryFrame, mkF, argsToLocals, Value.category]; done) | rfl
def Q_rm_days (Z : State) (ra : Addr) (xd : Int32) (h0 : Heap) (n0 : Nat) (v : Option Value) (h : Heap) (L : List Loc) : Prop := v = some (.int xd) ∧ Fr n0 L ∧ h = h0
set_option maxRecDepth 65536 in
set_option maxHeartbeats 40000000 in
theorem rm_days (l : Launch) (Z : State) (a0 : Array Value) (hw : ∀ d ∈ tables_1, d.before a0 Z = true) (ws : List Jvm.Cond) (ra : Addr) (xd : Int32) (h0 : Heap) (n0 : Nat) (Z0 : n0 ≤ h0.size) (F1 : Fld Z h0 ra "com/example/lachesis/lachesis/Timing" "days" "I" (.int xd)) :
    MetFree l (⟨"com/example/lachesis/lachesis/Timing", "days", "()I"⟩ : MethodName) (head1 (Jvm.Cond.code (⟨"com/example/lachesis/lachesis/Timing", "days", "()I"⟩ : MethodName) prog_40_method_7_code 1 (some .int) :: ws) ({ frames := 0, cells := 0, slots := 0, locals := 0 } : Room)) (fun a U => a = #[(.ref ra)] ∧ Z.Warmed39 U.vm ∧ U.heap = h0) (fun _ _ _ _ _ => True) (fun _ U o U' => ∃ v L, o = .returned v ∧ Q_rm_days Z ra xd h0 n0 v U'.heap L ∧ FrameEnd U o U' L ({ frames := 0, cells := 0, slots := 0, locals := 0 } : Room).cells ({ frames := 0, cells := 0, slots := 0, locals := 0 } : Room).slots) := by
  refine MetFree.of_bodySF (plainFor_of_name pn0) hisR ?_
  intro p e s m args below meth c s₁ Bd hml0 hP hK
  obtain ⟨rfl, hZ, hh⟩ := hP
  have hx := Bd.exec
  have hby := Bd.bytes
  have hml : c.maxLocals = 1 := hml0
  have hown : s.vm.findClass "com/example/lachesis/lachesis/Timing" = some m.cls := findClass_of_methodNamed Bd.named
  have hnm := (name_of_methodNamed Bd.named Bd.method).1
  have X0 : Stand p l e ({ frames := 0, cells := 0, slots := 0, locals := 0 } : Room) s m #[(.ref ra)] below meth c s₁ [] 0 0 := Stand.of_body Bd
  have e0 : s₁.heap = h0 := by rw [← hh, Bd.state]; rfl
  have N0 := Fr.nil n0
  have pre0 : ∀ t, Steps p.tables e below (s₁.setTop (mkF m 0 #[.val (.ref ra)] [])) t → Steps p.tables e below (s₁.setTop (entryFrame m #[(.ref ra)] 1)) t := fun t k => castTop (ef_rm_days m ra) k
  have pre1 : ∀ t, Steps p.tables e below (s₁.setTop (mkF m 1 #[.val (.ref ra)] [(.ref ra)])) t → Steps p.tables e below (s₁.setTop (entryFrame m #[(.ref ra)] 1)) t := by
    intro t k
    refine pre0 t ?_
    refine XS.aloadN X0.here hx rfl (hb hby d5_0) rfl rfl ?_
    show Steps p.tables e below (s₁.setTop (mkF m 1 #[.val (.ref ra)] [(.ref ra)])) _
    exact k
  obtain ⟨T2, X2, e2, st2⟩ := getF X0 hx hZ hown (host := "") (Or.inl (hw _ (List.mem_of_getElem? (i := 18) rfl))) Via.refl e0 F1 (g := (mkF m 1 #[.val (.ref ra)] [(.ref ra)])) rfl rfl (hb hby d5_1)
  have pre3 : ∀ t, Steps p.tables e below (T2.setTop (mkF m 4 #[.val (.ref ra)] [(.int xd)])) t → Steps p.tables e below (s₁.setTop (entryFrame m #[(.ref ra)] 1)) t := fun t k => pre1 t (st2 t k)
  obtain ⟨fs, hr, hrun, hended, hW, hsame⟩ := X2.leave (v := some (.int xd)) (fun h => by rw [Bd.returns] at h; cases h)
  refine ⟨_, _, pre3 _ ?_, hrun, hended, _, _, rfl, ?_, ⟨_, rfl⟩, hW, hsame.mono (by decide) (by decide)⟩
  · exact retI X2 hx Bd.returns (hb hby d5_4) hr
  · show Q_rm_days Z ra xd h0 n0 _ T2.heap _
    rw [e2]
    exact ⟨rfl, N0, rfl⟩
theorem d6_0 : decode prog_40_method_8_code 0 = .ok (.aload_n 0, 1) := by decide +kernel
theorem d6_1 : decode prog_40_method_8_code 1 = .ok (.getfield 17, 3) := by decide +kernel
theorem d6_4 : decode prog_40_method_8_code 4 = .ok (.ireturn, 1) := by decide +kernel
theorem ef_rm_hours (m : MethodId) (ra : Addr) : entryFrame m #[(.ref ra)] 1 = mkF m 0 #[.val (.ref ra)] [] := by first | (simp [entryFrame, mkF, argsToLocals, Value.category]; done) | rfl
def Q_rm_hours (Z : State) (ra : Addr) (xh : Int32) (h0 : Heap) (n0 : Nat) (v : Option Value) (h : Heap) (L : List Loc) : Prop := v = some (.int xh) ∧ Fr n0 L ∧ h = h0
set_option maxRecDepth 65536 in
set_option maxHeartbeats 40000000 in
theorem rm_hours (l : Launch) (Z : State) (a0 : Array Value) (hw : ∀ d ∈ tables_1, d.before a0 Z = true) (ws : List Jvm.Cond) (ra : Addr) (xh : Int32) (h0 : Heap) (n0 : Nat) (Z0 : n0 ≤ h0.size) (F1 : Fld Z h0 ra "com/example/lachesis/lachesis/Timing" "hours" "I" (.int xh)) :
    MetFree l (⟨"com/example/lachesis/lachesis/Timing", "hours", "()I"⟩ : MethodName) (head1 (Jvm.Cond.code (⟨"com/example/lachesis/lachesis/Timing", "hours", "()I"⟩ : MethodName) prog_40_method_8_code 1 (some .int) :: ws) ({ frames := 0, cells := 0, slots := 0, locals := 0 } : Room)) (fun a U => a = #[(.ref ra)] ∧ Z.Warmed39 U.vm ∧ U.heap = h0) (fun _ _ _ _ _ => True) (fun _ U o U' => ∃ v L, o = .returned v ∧ Q_rm_hours Z ra xh h0 n0 v U'.heap L ∧ FrameEnd U o U' L ({ frames := 0, cells := 0, slots := 0, locals := 0 } : Room).cells ({ frames := 0, cells := 0, slots := 0, locals := 0 } : Room).slots) := by
  refine MetFree.of_bodySF (plainFor_of_name pn0) hisR ?_
  intro p e s m args below meth c s₁ Bd hml0 hP hK
  obtain ⟨rfl, hZ, hh⟩ := hP
  have hx := Bd.exec
  have hby := Bd.bytes
  have hml : c.maxLocals = 1 := hml0
  have hown : s.vm.findClass "com/example/lachesis/lachesis/Timing" = some m.cls := findClass_of_methodNamed Bd.named
  have hnm := (name_of_methodNamed Bd.named Bd.method).1
  have X0 : Stand p l e ({ frames := 0, cells := 0, slots := 0, locals := 0 } : Room) s m #[(.ref ra)] below meth c s₁ [] 0 0 := Stand.of_body Bd
  have e0 : s₁.heap = h0 := by rw [← hh, Bd.state]; rfl
  have N0 := Fr.nil n0
  have pre0 : ∀ t, Steps p.tables e below (s₁.setTop (mkF m 0 #[.val (.ref ra)] [])) t → Steps p.tables e below (s₁.setTop (entryFrame m #[(.ref ra)] 1)) t := fun t k => castTop (ef_rm_hours m ra) k
  have pre1 : ∀ t, Steps p.tables e below (s₁.setTop (mkF m 1 #[.val (.ref ra)] [(.ref ra)])) t → Steps p.tables e below (s₁.setTop (entryFrame m #[(.ref ra)] 1)) t := by
    intro t k
    refine pre0 t ?_
    refine XS.aloadN X0.here hx rfl (hb hby d6_0) rfl rfl ?_
    show Steps p.tables e below (s₁.setTop (mkF m 1 #[.val (.ref ra)] [(.ref ra)])) _
    exact k
  obtain ⟨T2, X2, e2, st2⟩ := getF X0 hx hZ hown (host := "") (Or.inl (hw _ (List.mem_of_getElem? (i := 20) rfl))) Via.refl e0 F1 (g := (mkF m 1 #[.val (.ref ra)] [(.ref ra)])) rfl rfl (hb hby d6_1)
  have pre3 : ∀ t, Steps p.tables e below (T2.setTop (mkF m 4 #[.val (.ref ra)] [(.int xh)])) t → Steps p.tables e below (s₁.setTop (entryFrame m #[(.ref ra)] 1)) t := fun t k => pre1 t (st2 t k)
  obtain ⟨fs, hr, hrun, hended, hW, hsame⟩ := X2.leave (v := some (.int xh)) (fun h => by rw [Bd.returns] at h; cases h)
  refine ⟨_, _, pre3 _ ?_, hrun, hended, _, _, rfl, ?_, ⟨_, rfl⟩, hW, hsame.mono (by decide) (by decide)⟩
  · exact retI X2 hx Bd.returns (hb hby d6_4) hr
  · show Q_rm_hours Z ra xh h0 n0 _ T2.heap _
    rw [e2]
    exact ⟨rfl, N0, rfl⟩
theorem d7_0 : decode prog_40_method_9_code 0 = .ok (.aload_n 0, 1) := by decide +kernel
theorem d7_1 : decode prog_40_method_9_code 1 = .ok (.getfield 20, 3) := by decide +kernel
theorem d7_4 : decode prog_40_method_9_code 4 = .ok (.areturn, 1) := by decide +kernel
theorem ef_rm_week (m : MethodId) (ra : Addr) : entryFrame m #[(.ref ra)] 1 = mkF m 0 #[.val (.ref ra)] [] := by first | (simp [entryFrame, mkF, argsToLocals, Value.category]; done) | rfl
def Q_rm_week (Z : State) (ra : Addr) (h0 : Heap) (n0 : Nat) (v : Option Value) (h : Heap) (L : List Loc) : Prop := v = some .null ∧ Fr n0 L ∧ h = h0
set_option maxRecDepth 65536 in
set_option maxHeartbeats 40000000 in
theorem rm_week (l : Launch) (Z : State) (a0 : Array Value) (hw : ∀ d ∈ tables_1, d.before a0 Z = true) (ws : List Jvm.Cond) (ra : Addr) (h0 : Heap) (n0 : Nat) (Z0 : n0 ≤ h0.size) (F1 : Fld Z h0 ra "com/example/lachesis/lachesis/Timing" "weekday" "Ljava/time/DayOfWeek;" .null) :
    MetFree l (⟨"com/example/lachesis/lachesis/Timing", "weekday", "()Ljava/time/DayOfWeek;"⟩ : MethodName) (head1 (Jvm.Cond.code (⟨"com/example/lachesis/lachesis/Timing", "weekday", "()Ljava/time/DayOfWeek;"⟩ : MethodName) prog_40_method_9_code 1 (some (.object "java/time/DayOfWeek")) :: ws) ({ frames := 0, cells := 0, slots := 0, locals := 0 } : Room)) (fun a U => a = #[(.ref ra)] ∧ Z.Warmed39 U.vm ∧ U.heap = h0) (fun _ _ _ _ _ => True) (fun _ U o U' => ∃ v L, o = .returned v ∧ Q_rm_week Z ra h0 n0 v U'.heap L ∧ FrameEnd U o U' L ({ frames := 0, cells := 0, slots := 0, locals := 0 } : Room).cells ({ frames := 0, cells := 0, slots := 0, locals := 0 } : Room).slots) := by
  refine MetFree.of_bodySF (plainFor_of_name pn0) hisR ?_
  intro p e s m args below meth c s₁ Bd hml0 hP hK
  obtain ⟨rfl, hZ, hh⟩ := hP
  have hx := Bd.exec
  have hby := Bd.bytes
  have hml : c.maxLocals = 1 := hml0
  have hown : s.vm.findClass "com/example/lachesis/lachesis/Timing" = some m.cls := findClass_of_methodNamed Bd.named
  have hnm := (name_of_methodNamed Bd.named Bd.method).1
  have X0 : Stand p l e ({ frames := 0, cells := 0, slots := 0, locals := 0 } : Room) s m #[(.ref ra)] below meth c s₁ [] 0 0 := Stand.of_body Bd
  have e0 : s₁.heap = h0 := by rw [← hh, Bd.state]; rfl
  have N0 := Fr.nil n0
  have pre0 : ∀ t, Steps p.tables e below (s₁.setTop (mkF m 0 #[.val (.ref ra)] [])) t → Steps p.tables e below (s₁.setTop (entryFrame m #[(.ref ra)] 1)) t := fun t k => castTop (ef_rm_week m ra) k
  have pre1 : ∀ t, Steps p.tables e below (s₁.setTop (mkF m 1 #[.val (.ref ra)] [(.ref ra)])) t → Steps p.tables e below (s₁.setTop (entryFrame m #[(.ref ra)] 1)) t := by
    intro t k
    refine pre0 t ?_
    refine XS.aloadN X0.here hx rfl (hb hby d7_0) rfl rfl ?_
    show Steps p.tables e below (s₁.setTop (mkF m 1 #[.val (.ref ra)] [(.ref ra)])) _
    exact k
  obtain ⟨T2, X2, e2, st2⟩ := getF X0 hx hZ hown (host := "") (Or.inl (hw _ (List.mem_of_getElem? (i := 22) rfl))) Via.refl e0 F1 (g := (mkF m 1 #[.val (.ref ra)] [(.ref ra)])) rfl rfl (hb hby d7_1)
  have pre3 : ∀ t, Steps p.tables e below (T2.setTop (mkF m 4 #[.val (.ref ra)] [.null])) t → Steps p.tables e below (s₁.setTop (entryFrame m #[(.ref ra)] 1)) t := fun t k => pre1 t (st2 t k)
  obtain ⟨fs, hr, hrun, hended, hW, hsame⟩ := X2.leave (v := some .null) (fun h => by rw [Bd.returns] at h; cases h)
  refine ⟨_, _, pre3 _ ?_, hrun, hended, _, _, rfl, ?_, ⟨_, rfl⟩, hW, hsame.mono (by decide) (by decide)⟩
  · exact retOut X2 hx Bd.returns rfl (Or.inr (Or.inr (Or.inr (Or.inr ⟨rfl, rfl, rfl⟩)))) (hb hby d7_4) hr
  · show Q_rm_week Z ra h0 n0 _ T2.heap _
    rw [e2]
    exact ⟨rfl, N0, rfl⟩
theorem d8_0 : decode prog_40_method_10_code 0 = .ok (.aload_n 0, 1) := by decide +kernel
theorem d8_1 : decode prog_40_method_10_code 1 = .ok (.getfield 17, 3) := by decide +kernel
theorem d8_4 : decode prog_40_method_10_code 4 = .ok (.ifCond .le 11, 3) := by decide +kernel
theorem d8_7 : decode prog_40_method_10_code 7 = .ok (.aload_n 0, 1) := by decide +kernel
theorem d8_8 : decode prog_40_method_10_code 8 = .ok (.getfield 17, 3) := by decide +kernel
theorem d8_11 : decode prog_40_method_10_code 11 = .ok (.i2l, 1) := by decide +kernel
theorem d8_12 : decode prog_40_method_10_code 12 = .ok (.goto 12, 3) := by decide +kernel
theorem d8_24 : decode prog_40_method_10_code 24 = .ok (.lreturn, 1) := by decide +kernel
theorem ef_rm_nom (m : MethodId) (ra : Addr) : entryFrame m #[(.ref ra)] 1 = mkF m 0 #[.val (.ref ra)] [] := by first | (simp [entryFrame, mkF, argsToLocals, Value.category]; done) | rfl
def Q_rm_nom (Z : State) (ra : Addr) (xh : Int32) (h0 : Heap) (n0 : Nat) (v : Option Value) (h : Heap) (L : List Loc) : Prop := v = some (.long (xh.toInt64)) ∧ Fr n0 L ∧ h = h0
set_option maxRecDepth 65536 in
set_option maxHeartbeats 40000000 in
theorem rm_nom (l : Launch) (Z : State) (a0 : Array Value) (hw : ∀ d ∈ tables_1, d.before a0 Z = true) (ws : List Jvm.Cond) (ra : Addr) (xh : Int32) (h0 : Heap) (n0 : Nat) (Z0 : n0 ≤ h0.size) (F1 : Fld Z h0 ra "com/example/lachesis/lachesis/Timing" "hours" "I" (.int xh)) (hp : (0 : Int32) < xh) :
    MetFree l (⟨"com/example/lachesis/lachesis/Timing", "nominalHours", "()J"⟩ : MethodName) (head1 (Jvm.Cond.code (⟨"com/example/lachesis/lachesis/Timing", "nominalHours", "()J"⟩ : MethodName) prog_40_method_10_code 1 (some .long) :: ws) ({ frames := 0, cells := 0, slots := 0, locals := 0 } : Room)) (fun a U => a = #[(.ref ra)] ∧ Z.Warmed39 U.vm ∧ U.heap = h0) (fun _ _ _ _ _ => True) (fun _ U o U' => ∃ v L, o = .returned v ∧ Q_rm_nom Z ra xh h0 n0 v U'.heap L ∧ FrameEnd U o U' L ({ frames := 0, cells := 0, slots := 0, locals := 0 } : Room).cells ({ frames := 0, cells := 0, slots := 0, locals := 0 } : Room).slots) := by
  refine MetFree.of_bodySF (plainFor_of_name pn0) hisR ?_
  intro p e s m args below meth c s₁ Bd hml0 hP hK
  obtain ⟨rfl, hZ, hh⟩ := hP
  have hx := Bd.exec
  have hby := Bd.bytes
  have hml : c.maxLocals = 1 := hml0
  have hown : s.vm.findClass "com/example/lachesis/lachesis/Timing" = some m.cls := findClass_of_methodNamed Bd.named
  have hnm := (name_of_methodNamed Bd.named Bd.method).1
  have X0 : Stand p l e ({ frames := 0, cells := 0, slots := 0, locals := 0 } : Room) s m #[(.ref ra)] below meth c s₁ [] 0 0 := Stand.of_body Bd
  have e0 : s₁.heap = h0 := by rw [← hh, Bd.state]; rfl
  have N0 := Fr.nil n0
  have pre0 : ∀ t, Steps p.tables e below (s₁.setTop (mkF m 0 #[.val (.ref ra)] [])) t → Steps p.tables e below (s₁.setTop (entryFrame m #[(.ref ra)] 1)) t := fun t k => castTop (ef_rm_nom m ra) k
  have pre1 : ∀ t, Steps p.tables e below (s₁.setTop (mkF m 1 #[.val (.ref ra)] [(.ref ra)])) t → Steps p.tables e below (s₁.setTop (entryFrame m #[(.ref ra)] 1)) t := by
    intro t k
    refine pre0 t ?_
    refine XS.aloadN X0.here hx rfl (hb hby d8_0) rfl rfl ?_
    show Steps p.tables e below (s₁.setTop (mkF m 1 #[.val (.ref ra)] [(.ref ra)])) _
    exact k
  obtain ⟨T2, X2, e2, st2⟩ := getF X0 hx hZ hown (host := "") (Or.inl (hw _ (List.mem_of_getElem? (i := 20) rfl))) Via.refl e0 F1 (g := (mkF m 1 #[.val (.ref ra)] [(.ref ra)])) rfl rfl (hb hby d8_1)
  have pre3 : ∀ t, Steps p.tables e below (T2.setTop (mkF m 4 #[.val (.ref ra)] [(.int xh)])) t → Steps p.tables e below (s₁.setTop (entryFrame m #[(.ref ra)] 1)) t := fun t k => pre1 t (st2 t k)
  have pre4 : ∀ t, Steps p.tables e below (T2.setTop (mkF m 8 #[.val (.ref ra)] [(.ref ra)])) t → Steps p.tables e below (s₁.setTop (entryFrame m #[(.ref ra)] 1)) t := by
    intro t k
    refine pre3 t ?_
    refine XS.ifNo X2.here hx rfl (hb hby d8_4) rfl ((if0 _ _).trans (tlt (show (0 : Int32) < xh from hp)).2.2.2) ?_
    show Steps p.tables e below (T2.setTop (mkF m 7 #[.val (.ref ra)] [])) _
    refine XS.aloadN X2.here hx rfl (hb hby d8_7) rfl rfl ?_
    show Steps p.tables e below (T2.setTop (mkF m 8 #[.val (.ref ra)] [(.ref ra)])) _
    exact k
  obtain ⟨T5, X5, e5, st5⟩ := getF X2 hx hZ hown (host := "") (Or.inl (hw _ (List.mem_of_getElem? (i := 20) rfl))) Via.refl e2 F1 (g := (mkF m 8 #[.val (.ref ra)] [(.ref ra)])) rfl rfl (hb hby d8_8)
  have pre6 : ∀ t, Steps p.tables e below (T5.setTop (mkF m 11 #[.val (.ref ra)] [(.int xh)])) t → Steps p.tables e below (s₁.setTop (entryFrame m #[(.ref ra)] 1)) t := fun t k => pre4 t (st5 t k)
  have pre7 : ∀ t, Steps p.tables e below (T5.setTop (mkF m 24 #[.val (.ref ra)] [(.long (xh.toInt64))])) t → Steps p.tables e below (s₁.setTop (entryFrame m #[(.ref ra)] 1)) t := by
    intro t k
    refine pre6 t ?_
    refine XS.i2l X5.here hx rfl (hb hby d8_11) rfl ?_
    show Steps p.tables e below (T5.setTop (mkF m 12 #[.val (.ref ra)] [(.long (xh.toInt64))])) _
    refine XS.goto X5.here hx rfl (pc0 := 12) (pc' := 24) rfl (hb hby d8_12) (by decide) (by decide) ?_
    show Steps p.tables e below (T5.setTop (mkF m 24 #[.val (.ref ra)] [(.long (xh.toInt64))])) _
    exact k
  obtain ⟨fs, hr, hrun, hended, hW, hsame⟩ := X5.leave (v := some (.long (xh.toInt64))) (fun h => by rw [Bd.returns] at h; cases h)
  refine ⟨_, _, pre7 _ ?_, hrun, hended, _, _, rfl, ?_, ⟨_, rfl⟩, hW, hsame.mono (by decide) (by decide)⟩
  · exact retOut X5 hx Bd.returns rfl (Or.inr (Or.inl ⟨rfl, rfl, _, rfl⟩)) (hb hby d8_24) hr
  · show Q_rm_nom Z ra xh h0 n0 _ T5.heap _
    rw [e5]
    exact ⟨rfl, N0, rfl⟩
theorem own_h (xa hh : Int32) (h : hh = (((xa &&& (2147483647 : Int32)) % (8760 : Int32)) + (1 : Int32))) : ¬ (hh < (1 : Int32)) ∧ ¬ ((8760 : Int32) < hh) ∧ (0 : Int32) < hh := by
  subst h
  have := rng32 xa
  have := c_mask xa (2147483647 : Int32) 31 (by decide) (by decide +kernel)
  have := rng32 (xa &&& (2147483647 : Int32))
  have : (8760 : Int32).toInt = 8760 := rfl
  have := c_irem (xa &&& (2147483647 : Int32)) (8760 : Int32) 8760 rfl
  have := rng32 ((xa &&& (2147483647 : Int32)) % (8760 : Int32))
  have : (1 : Int32).toInt = 1 := rfl
  have := c_iadd ((xa &&& (2147483647 : Int32)) % (8760 : Int32)) (1 : Int32)
  have := rng32 (((xa &&& (2147483647 : Int32)) % (8760 : Int32)) + (1 : Int32))
  have : (0 : Int32).toInt = 0 := rfl
  simp only [Int32.lt_iff_toInt_lt]
  omega
theorem pd1 : parseMethodDescriptor "(ILcom/example/lachesis/lachesis/Timing$After;)Lcom/example/lachesis/lachesis/Timing;" = some ⟨[.int, (.object "com/example/lachesis/lachesis/Timing$After")], some (.object "com/example/lachesis/lachesis/Timing")⟩ := by decide +kernel
theorem pd2 : parseMethodDescriptor "()Lcom/example/lachesis/lachesis/Timing$After;" = some ⟨[], some (.object "com/example/lachesis/lachesis/Timing$After")⟩ := by decide +kernel
theorem pd3 : parseMethodDescriptor "()I" = some ⟨[], some .int⟩ := by decide +kernel
theorem pd4 : parseMethodDescriptor "()Ljava/time/DayOfWeek;" = some ⟨[], some (.object "java/time/DayOfWeek")⟩ := by decide +kernel
theorem pd5 : parseMethodDescriptor "()J" = some ⟨[], some .long⟩ := by decide +kernel
theorem pn1 : plainName "com/example/lachesis/lachesis/TimingHoursPinLaw" = true := by first | (simp [plainName, overriddenIn]; done) | decide +kernel
theorem ef_rm0 (m : MethodId) (xa : Int32) (xb : Int32) : entryFrame m #[(.int xa), (.int xb)] maxLocals = mkF m 0 #[.val (.int xa), .val (.int xb), .unset, .unset, .unset] [] := by first | (simp [entryFrame, mkF, argsToLocals, Value.category, maxLocals]; done) | rfl
def Q_rm0 (Z : State) (xa : Int32) (xb : Int32) (wf : Addr) (wp : Addr) (h0 : Heap) (n0 : Nat) (v : Option Value) (h : Heap) (L : List Loc) : Prop := v = some (.int (1 : Int32)) ∧ Fr n0 L
set_option maxRecDepth 65536 in
set_option maxHeartbeats 40000000 in
theorem rm0 (l : Launch) (Z : State) (a0 : Array Value) (hw : ∀ d ∈ tables_1, d.before a0 Z = true) (ws : List Jvm.Cond) (xa : Int32) (xb : Int32) (wf : Addr) (wp : Addr) (h0 : Heap) (n0 : Nat) (Z0 : n0 ≤ h0.size) (SF : Sta Z h0 "com/example/lachesis/lachesis/Timing$After" "FAILURE" "Lcom/example/lachesis/lachesis/Timing$After;" (.ref wf)) (SP : Sta Z h0 "com/example/lachesis/lachesis/Timing$After" "PREVIOUS" "Lcom/example/lachesis/lachesis/Timing$After;" (.ref wp)) :
    MetFree l x (head1 (Jvm.Cond.code x code maxLocals ret :: ws) room_1) (fun a U => a = #[(.int xa), (.int xb)] ∧ Z.Warmed39 U.vm ∧ U.heap = h0) (fun _ _ _ _ _ => True) (fun _ U o U' => ∃ v L, o = .returned v ∧ Q_rm0 Z xa xb wf wp h0 n0 v U'.heap L ∧ FrameEnd U o U' L room_1.cells room_1.slots) := by
  refine MetFree.of_bodySF (plainFor_of_name pn1) hisR ?_
  intro p e s m args below meth c s₁ Bd hml0 hP hK
  obtain ⟨rfl, hZ, hh⟩ := hP
  have hx := Bd.exec
  have hby := Bd.bytes
  have hml : c.maxLocals = 5 := hml0
  have hown : s.vm.findClass "com/example/lachesis/lachesis/TimingHoursPinLaw" = some m.cls := findClass_of_methodNamed Bd.named
  have hnm := (name_of_methodNamed Bd.named Bd.method).1
  have X0 : Stand p l e room_1 s m #[(.int xa), (.int xb)] below meth c s₁ [] 0 0 := Stand.of_body Bd
  have e0 : s₁.heap = h0 := by rw [← hh, Bd.state]; rfl
  have N0 := Fr.nil n0
  have pre0 : ∀ t, Steps p.tables e below (s₁.setTop (mkF m 0 #[.val (.int xa), .val (.int xb), .unset, .unset, .unset] [])) t → Steps p.tables e below (s₁.setTop (entryFrame m #[(.int xa), (.int xb)] maxLocals)) t := fun t k => castTop (ef_rm0 m xa xb) k
  have pre1 : ∀ t, Steps p.tables e below (s₁.setTop (mkF m 11 #[.val (.int xa), .val (.int xb), .val (.int (((xa &&& (2147483647 : Int32)) % (8760 : Int32)) + (1 : Int32))), .unset, .unset] [])) t → Steps p.tables e below (s₁.setTop (entryFrame m #[(.int xa), (.int xb)] maxLocals)) t := by
    intro t k
    refine pre0 t ?_
    refine XS.iloadN X0.here hx rfl (hb hby at_0) rfl ?_
    show Steps p.tables e below (s₁.setTop (mkF m 1 #[.val (.int xa), .val (.int xb), .unset, .unset, .unset] [(.int xa)])) _
    refine X0.ldcInt hx hown (mvT hZ (hw _ (List.mem_of_getElem? (i := 0) rfl))) (g := (mkF m 1 #[.val (.int xa), .val (.int xb), .unset, .unset, .unset] [(.int xa)])) rfl (hb hby at_1) _ ?_
    show Steps p.tables e below (s₁.setTop (mkF m 3 #[.val (.int xa), .val (.int xb), .unset, .unset, .unset] [(.int (2147483647 : Int32)), (.int xa)])) _
    refine XS.iand X0.here hx rfl (hb hby at_3) rfl ?_
    show Steps p.tables e below (s₁.setTop (mkF m 4 #[.val (.int xa), .val (.int xb), .unset, .unset, .unset] [(.int (xa &&& (2147483647 : Int32)))])) _
    refine XS.sipush X0.here hx rfl (hb hby at_4) ?_
    show Steps p.tables e below (s₁.setTop (mkF m 7 #[.val (.int xa), .val (.int xb), .unset, .unset, .unset] [(.int (8760 : Int32)), (.int (xa &&& (2147483647 : Int32)))])) _
    refine iremM X0 hx rfl (hb hby at_7) rfl (by decide) ?_
    show Steps p.tables e below (s₁.setTop (mkF m 8 #[.val (.int xa), .val (.int xb), .unset, .unset, .unset] [(.int ((xa &&& (2147483647 : Int32)) % (8760 : Int32)))])) _
    refine XS.iconst X0.here hx rfl (hb hby at_8) ?_
    show Steps p.tables e below (s₁.setTop (mkF m 9 #[.val (.int xa), .val (.int xb), .unset, .unset, .unset] [(.int (1 : Int32)), (.int ((xa &&& (2147483647 : Int32)) % (8760 : Int32)))])) _
    refine XS.iadd X0.here hx rfl (hb hby at_9) rfl ?_
    show Steps p.tables e below (s₁.setTop (mkF m 10 #[.val (.int xa), .val (.int xb), .unset, .unset, .unset] [(.int (((xa &&& (2147483647 : Int32)) % (8760 : Int32)) + (1 : Int32)))])) _
    refine XS.istoreN X0.here hx rfl (hb hby at_10) rfl (l' := #[.val (.int xa), .val (.int xb), .val (.int (((xa &&& (2147483647 : Int32)) % (8760 : Int32)) + (1 : Int32))), .unset, .unset]) rfl ?_
    show Steps p.tables e below (s₁.setTop (mkF m 11 #[.val (.int xa), .val (.int xb), .val (.int (((xa &&& (2147483647 : Int32)) % (8760 : Int32)) + (1 : Int32))), .unset, .unset] [])) _
    exact k
  obtain ⟨hh, hhh⟩ : ∃ z : Int32, z = (((xa &&& (2147483647 : Int32)) % (8760 : Int32)) + (1 : Int32)) := ⟨_, rfl⟩
  rw [← hhh] at pre1
  have pre2 : ∀ t, Steps p.tables e below (s₁.setTop (mkF m 14 #[.val (.int xa), .val (.int xb), .val (.int hh), .unset, .unset] [(.int (xb &&& (1 : Int32)))])) t → Steps p.tables e below (s₁.setTop (entryFrame m #[(.int xa), (.int xb)] maxLocals)) t := by
    intro t k
    refine pre1 t ?_
    refine XS.iloadN X0.here hx rfl (hb hby at_11) rfl ?_
    show Steps p.tables e below (s₁.setTop (mkF m 12 #[.val (.int xa), .val (.int xb), .val (.int hh), .unset, .unset] [(.int xb)])) _
    refine XS.iconst X0.here hx rfl (hb hby at_12) ?_
    show Steps p.tables e below (s₁.setTop (mkF m 13 #[.val (.int xa), .val (.int xb), .val (.int hh), .unset, .unset] [(.int (1 : Int32)), (.int xb)])) _
    refine XS.iand X0.here hx rfl (hb hby at_13) rfl ?_
    show Steps p.tables e below (s₁.setTop (mkF m 14 #[.val (.int xa), .val (.int xb), .val (.int hh), .unset, .unset] [(.int (xb &&& (1 : Int32)))])) _
    exact k
  by_cases hc14 : (xb &&& (1 : Int32)) = (0 : Int32)
  · have pre4 : ∀ t, Steps p.tables e below (s₁.setTop (mkF m 23 #[.val (.int xa), .val (.int xb), .val (.int hh), .unset, .unset] [])) t → Steps p.tables e below (s₁.setTop (entryFrame m #[(.int xa), (.int xb)] maxLocals)) t := by
      intro t k
      refine pre2 t ?_
      refine XS.ifYes X0.here hx rfl (pc0 := 14) (pc' := 23) rfl (hb hby at_14) rfl ((if0 _ _).trans (teq hc14).1) (by decide) (by decide) ?_
      show Steps p.tables e below (s₁.setTop (mkF m 23 #[.val (.int xa), .val (.int xb), .val (.int hh), .unset, .unset] [])) _
      exact k
    obtain ⟨T3, X3, e3, st3⟩ := getS2 X0 hx hZ hown (host := "") (Or.inl (hw _ (List.mem_of_getElem? (i := 49) rfl))) Via.refl e0 SP (g := (mkF m 23 #[.val (.int xa), .val (.int xb), .val (.int hh), .unset, .unset] [])) rfl (hb hby at_23)
    have pre5 : ∀ t, Steps p.tables e below (T3.setTop (mkF m 26 #[.val (.int xa), .val (.int xb), .val (.int hh), .unset, .unset] [(.ref wp)])) t → Steps p.tables e below (s₁.setTop (entryFrame m #[(.int xa), (.int xb)] maxLocals)) t := fun t k => pre4 t (st3 t k)
    have pre6 : ∀ t, Steps p.tables e below (T3.setTop (mkF m 29 #[.val (.int xa), .val (.int xb), .val (.int hh), .val (.ref wp), .unset] [(.ref wp), (.int hh)])) t → Steps p.tables e below (s₁.setTop (entryFrame m #[(.int xa), (.int xb)] maxLocals)) t := by
      intro t k
      refine pre5 t ?_
      refine XS.astoreN X3.here hx rfl (hb hby at_26) rfl rfl (l' := #[.val (.int xa), .val (.int xb), .val (.int hh), .val (.ref wp), .unset]) rfl ?_
      show Steps p.tables e below (T3.setTop (mkF m 27 #[.val (.int xa), .val (.int xb), .val (.int hh), .val (.ref wp), .unset] [])) _
      refine XS.iloadN X3.here hx rfl (hb hby at_27) rfl ?_
      show Steps p.tables e below (T3.setTop (mkF m 28 #[.val (.int xa), .val (.int xb), .val (.int hh), .val (.ref wp), .unset] [(.int hh)])) _
      refine XS.aloadN X3.here hx rfl (hb hby at_28) rfl rfl ?_
      show Steps p.tables e below (T3.setTop (mkF m 29 #[.val (.int xa), .val (.int xb), .val (.int hh), .val (.ref wp), .unset] [(.ref wp), (.int hh)])) _
      exact k
    obtain ⟨_, _, ⟨T7, L7, k7, n7⟩, -, X7, ⟨Lc7, hQ7, l7, y7, z7⟩, st7⟩ := Jvm.LawKit.callS X3 hx (y := (⟨"com/example/lachesis/lachesis/Timing", "hours", "(ILcom/example/lachesis/lachesis/Timing$After;)Lcom/example/lachesis/lachesis/Timing;"⟩ : MethodName)) hown (mvT hZ (hw _ (List.mem_of_getElem? (i := 4) rfl))) (mvT hZ (hw _ (List.mem_of_getElem? (i := 5) rfl))) (mvT hZ (hw _ (List.mem_of_getElem? (i := 6) rfl))) (mvT hZ (hw _ (List.mem_of_getElem? (i := 7) rfl))) (by decide) (backOf (W := 0) (rm_make l Z a0 hw [] hh wp h0 n0 Z0 ((own_h xa hh hhh).1) ((own_h xa hh hhh).2.1)) hZ (hw _ (List.mem_of_getElem? (i := 7) rfl)) (hw _ (List.mem_of_getElem? (i := 6) rfl)) (by decide) (by decide)) (g := (mkF m 29 #[.val (.int xa), .val (.int xb), .val (.int hh), .val (.ref wp), .unset] [(.ref wp), (.int hh)])) rfl (by rw [hml]; rfl) (argsL := [(.int hh), (.ref wp)]) (rest := []) (lenOf pd1 rfl) rfl (by show 2 * 0 + _ ≤ _; exact Nat.le_of_eq rfl) (hb hby at_29) (fun _ _ => ⟨rfl, e3, (by decide : 0 + 1 ≤ _), (by decide : 0 + 4 ≤ _)⟩)
    dsimp only [Pt.U, Pt.locs, Pt.cells, Pt.slots] at X7 l7 y7 z7 st7 hQ7
    subst l7 y7 z7
    obtain ⟨b7, rfl, M7, g_b7, zs7, kp7, f7_0, f7_1, f7_2, f7_3, f7_4⟩ := hQ7
    have sz_b7 : h0.size ≤ b7 := Nat.le_trans (Keep.refl h0 ([] : List Addr)).1 zs7
    have K7 : Keep h0 T7.heap ([] : List Addr) := (Keep.refl h0 ([] : List Addr)).trans kp7 all0
    have zz7 : n0 ≤ T7.heap.size := Nat.le_trans Z0 K7.1
    have N7 := Fr.app N0 M7
    have pre8 : ∀ t, Steps p.tables e below (T7.setTop (mkF m 32 #[.val (.int xa), .val (.int xb), .val (.int hh), .val (.ref wp), .unset] [(.ref b7)])) t → Steps p.tables e below (s₁.setTop (entryFrame m #[(.int xa), (.int xb)] maxLocals)) t := fun t k => pre6 t (st7 t k)
    have pre9 : ∀ t, Steps p.tables e below (T7.setTop (mkF m 36 #[.val (.int xa), .val (.int xb), .val (.int hh), .val (.ref wp), .val (.ref b7)] [(.ref b7)])) t → Steps p.tables e below (s₁.setTop (entryFrame m #[(.int xa), (.int xb)] maxLocals)) t := by
      intro t k
      refine pre8 t ?_
      refine XS.astore X7.here hx rfl (hb hby at_32) rfl rfl (l' := #[.val (.int xa), .val (.int xb), .val (.int hh), .val (.ref wp), .val (.ref b7)]) rfl ?_
      show Steps p.tables e below (T7.setTop (mkF m 34 #[.val (.int xa), .val (.int xb), .val (.int hh), .val (.ref wp), .val (.ref b7)] [])) _
      refine XS.aload X7.here hx rfl (hb hby at_34) rfl rfl ?_
      show Steps p.tables e below (T7.setTop (mkF m 36 #[.val (.int xa), .val (.int xb), .val (.int hh), .val (.ref wp), .val (.ref b7)] [(.ref b7)])) _
      exact k
    obtain ⟨cq10, kq10, q10a, q10b, q10c⟩ := isOf hZ rfl f7_0
    obtain ⟨_, _, ⟨T10, L10, k10, n10⟩, -, X10, ⟨Lc10, hQ10, l10, y10, z10⟩, st10⟩ := X7.virtualBack hx (y := (⟨"com/example/lachesis/lachesis/Timing", "after", "()Lcom/example/lachesis/lachesis/Timing$After;"⟩ : MethodName)) (z := (⟨"com/example/lachesis/lachesis/Timing", "after", "()Lcom/example/lachesis/lachesis/Timing$After;"⟩ : MethodName)) hown (mvT hZ (hw _ (List.mem_of_getElem? (i := 24) rfl))) (mvT hZ (hw _ (List.mem_of_getElem? (i := 25) rfl))) (notFace_of_selects (args := #[]) (mvT hZ (hw _ (List.mem_of_getElem? (i := 27) rfl)))) (mvT hZ (hw _ (List.mem_of_getElem? (i := 27) rfl))) (mvT hZ (hw _ (List.mem_of_getElem? (i := 26) rfl))) (by decide) (backOf (W := 0) (rm_after l Z a0 hw [] b7 wp T7.heap n0 zz7 f7_1) hZ (hw _ (List.mem_of_getElem? (i := 28) rfl)) (hw _ (List.mem_of_getElem? (i := 6) rfl)) (by decide) (by decide)) q10a q10c (g := (mkF m 36 #[.val (.int xa), .val (.int xb), .val (.int hh), .val (.ref wp), .val (.ref b7)] [(.ref b7)])) rfl (by rw [hml]; rfl) (Steps.refl _) (argsL := []) (rest := []) (lenOf pd2 rfl) rfl (by show 2 * 0 + _ ≤ _; exact Nat.le_of_eq rfl) (hb hby at_36) (fun _ _ => ⟨rfl, rfl, (by decide : 1 + 0 ≤ _), (by decide : 4 + 0 ≤ _)⟩)
    dsimp only [Pt.U, Pt.locs, Pt.cells, Pt.slots] at X10 l10 y10 z10 st10 hQ10
    subst l10 y10 z10
    obtain ⟨rfl, M10, e10⟩ := hQ10
    have N10 := Fr.app N7 M10
    have pre11 : ∀ t, Steps p.tables e below (T10.setTop (mkF m 39 #[.val (.int xa), .val (.int xb), .val (.int hh), .val (.ref wp), .val (.ref b7)] [(.ref wp)])) t → Steps p.tables e below (s₁.setTop (entryFrame m #[(.int xa), (.int xb)] maxLocals)) t := fun t k => pre9 t (st10.trans k)
    have pre12 : ∀ t, Steps p.tables e below (T10.setTop (mkF m 45 #[.val (.int xa), .val (.int xb), .val (.int hh), .val (.ref wp), .val (.ref b7)] [(.ref b7)])) t → Steps p.tables e below (s₁.setTop (entryFrame m #[(.int xa), (.int xb)] maxLocals)) t := by
      intro t k
      refine pre11 t ?_
      refine XS.aloadN X10.here hx rfl (hb hby at_39) rfl rfl ?_
      show Steps p.tables e below (T10.setTop (mkF m 40 #[.val (.int xa), .val (.int xb), .val (.int hh), .val (.ref wp), .val (.ref b7)] [(.ref wp), (.ref wp)])) _
      refine Jvm.RoadKit.acmp (g := (mkF m 40 #[.val (.int xa), .val (.int xb), .val (.int hh), .val (.ref wp), .val (.ref b7)] [(.ref wp), (.ref wp)])) X10 hx rfl rfl rfl (pc0 := 40) (pc' := 43) (same := true) rfl (hb hby at_40) rfl (decide_eq_true rfl) (by decide) (by decide) ?_
      show Steps p.tables e below (T10.setTop (mkF m 43 #[.val (.int xa), .val (.int xb), .val (.int hh), .val (.ref wp), .val (.ref b7)] [])) _
      refine XS.aload X10.here hx rfl (hb hby at_43) rfl rfl ?_
      show Steps p.tables e below (T10.setTop (mkF m 45 #[.val (.int xa), .val (.int xb), .val (.int hh), .val (.ref wp), .val (.ref b7)] [(.ref b7)])) _
      exact k
    obtain ⟨cq13, kq13, q13a, q13b, q13c⟩ := isOf hZ e10 f7_0
    obtain ⟨_, _, ⟨T13, L13, k13, n13⟩, -, X13, ⟨Lc13, hQ13, l13, y13, z13⟩, st13⟩ := X10.virtualBack hx (y := (⟨"com/example/lachesis/lachesis/Timing", "days", "()I"⟩ : MethodName)) (z := (⟨"com/example/lachesis/lachesis/Timing", "days", "()I"⟩ : MethodName)) hown (mvT hZ (hw _ (List.mem_of_getElem? (i := 29) rfl))) (mvT hZ (hw _ (List.mem_of_getElem? (i := 30) rfl))) (notFace_of_selects (args := #[]) (mvT hZ (hw _ (List.mem_of_getElem? (i := 32) rfl)))) (mvT hZ (hw _ (List.mem_of_getElem? (i := 32) rfl))) (mvT hZ (hw _ (List.mem_of_getElem? (i := 31) rfl))) (by decide) (backOf (W := 0) (rm_days l Z a0 hw [] b7 (0 : Int32) T7.heap n0 zz7 f7_2) hZ (hw _ (List.mem_of_getElem? (i := 33) rfl)) (hw _ (List.mem_of_getElem? (i := 6) rfl)) (by decide) (by decide)) q13a q13c (g := (mkF m 45 #[.val (.int xa), .val (.int xb), .val (.int hh), .val (.ref wp), .val (.ref b7)] [(.ref b7)])) rfl (by rw [hml]; rfl) (Steps.refl _) (argsL := []) (rest := []) (lenOf pd3 rfl) rfl (by show 2 * 0 + _ ≤ _; exact Nat.le_of_eq rfl) (hb hby at_45) (fun _ _ => ⟨rfl, e10, (by decide : 1 + 0 ≤ _), (by decide : 4 + 0 ≤ _)⟩)
    dsimp only [Pt.U, Pt.locs, Pt.cells, Pt.slots] at X13 l13 y13 z13 st13 hQ13
    subst l13 y13 z13
    obtain ⟨rfl, M13, e13⟩ := hQ13
    have N13 := Fr.app N10 M13
    have pre14 : ∀ t, Steps p.tables e below (T13.setTop (mkF m 48 #[.val (.int xa), .val (.int xb), .val (.int hh), .val (.ref wp), .val (.ref b7)] [(.int (0 : Int32))])) t → Steps p.tables e below (s₁.setTop (entryFrame m #[(.int xa), (.int xb)] maxLocals)) t := fun t k => pre12 t (st13.trans k)
    have pre15 : ∀ t, Steps p.tables e below (T13.setTop (mkF m 53 #[.val (.int xa), .val (.int xb), .val (.int hh), .val (.ref wp), .val (.ref b7)] [(.ref b7)])) t → Steps p.tables e below (s₁.setTop (entryFrame m #[(.int xa), (.int xb)] maxLocals)) t := by
      intro t k
      refine pre14 t ?_
      refine XS.ifNo X13.here hx rfl (hb hby at_48) rfl ((if0 _ _).trans (teq (show (0 : Int32) = (0 : Int32) from rfl)).2) ?_
      show Steps p.tables e below (T13.setTop (mkF m 51 #[.val (.int xa), .val (.int xb), .val (.int hh), .val (.ref wp), .val (.ref b7)] [])) _
      refine XS.aload X13.here hx rfl (hb hby at_51) rfl rfl ?_
      show Steps p.tables e below (T13.setTop (mkF m 53 #[.val (.int xa), .val (.int xb), .val (.int hh), .val (.ref wp), .val (.ref b7)] [(.ref b7)])) _
      exact k
    obtain ⟨cq16, kq16, q16a, q16b, q16c⟩ := isOf hZ e13 f7_0
    obtain ⟨_, _, ⟨T16, L16, k16, n16⟩, -, X16, ⟨Lc16, hQ16, l16, y16, z16⟩, st16⟩ := X13.virtualBack hx (y := (⟨"com/example/lachesis/lachesis/Timing", "hours", "()I"⟩ : MethodName)) (z := (⟨"com/example/lachesis/lachesis/Timing", "hours", "()I"⟩ : MethodName)) hown (mvT hZ (hw _ (List.mem_of_getElem? (i := 34) rfl))) (mvT hZ (hw _ (List.mem_of_getElem? (i := 35) rfl))) (notFace_of_selects (args := #[]) (mvT hZ (hw _ (List.mem_of_getElem? (i := 37) rfl)))) (mvT hZ (hw _ (List.mem_of_getElem? (i := 37) rfl))) (mvT hZ (hw _ (List.mem_of_getElem? (i := 36) rfl))) (by decide) (backOf (W := 0) (rm_hours l Z a0 hw [] b7 hh T7.heap n0 zz7 f7_3) hZ (hw _ (List.mem_of_getElem? (i := 38) rfl)) (hw _ (List.mem_of_getElem? (i := 6) rfl)) (by decide) (by decide)) q16a q16c (g := (mkF m 53 #[.val (.int xa), .val (.int xb), .val (.int hh), .val (.ref wp), .val (.ref b7)] [(.ref b7)])) rfl (by rw [hml]; rfl) (Steps.refl _) (argsL := []) (rest := []) (lenOf pd3 rfl) rfl (by show 2 * 0 + _ ≤ _; exact Nat.le_of_eq rfl) (hb hby at_53) (fun _ _ => ⟨rfl, e13, (by decide : 1 + 0 ≤ _), (by decide : 4 + 0 ≤ _)⟩)
    dsimp only [Pt.U, Pt.locs, Pt.cells, Pt.slots] at X16 l16 y16 z16 st16 hQ16
    subst l16 y16 z16
    obtain ⟨rfl, M16, e16⟩ := hQ16
    have N16 := Fr.app N13 M16
    have pre17 : ∀ t, Steps p.tables e below (T16.setTop (mkF m 56 #[.val (.int xa), .val (.int xb), .val (.int hh), .val (.ref wp), .val (.ref b7)] [(.int hh)])) t → Steps p.tables e below (s₁.setTop (entryFrame m #[(.int xa), (.int xb)] maxLocals)) t := fun t k => pre15 t (st16.trans k)
    have pre18 : ∀ t, Steps p.tables e below (T16.setTop (mkF m 62 #[.val (.int xa), .val (.int xb), .val (.int hh), .val (.ref wp), .val (.ref b7)] [(.ref b7)])) t → Steps p.tables e below (s₁.setTop (entryFrame m #[(.int xa), (.int xb)] maxLocals)) t := by
      intro t k
      refine pre17 t ?_
      refine XS.iloadN X16.here hx rfl (hb hby at_56) rfl ?_
      show Steps p.tables e below (T16.setTop (mkF m 57 #[.val (.int xa), .val (.int xb), .val (.int hh), .val (.ref wp), .val (.ref b7)] [(.int hh), (.int hh)])) _
      refine XS.icmpNo X16.here hx rfl (hb hby at_57) rfl (teq (show hh = hh from rfl)).2 ?_
      show Steps p.tables e below (T16.setTop (mkF m 60 #[.val (.int xa), .val (.int xb), .val (.int hh), .val (.ref wp), .val (.ref b7)] [])) _
      refine XS.aload X16.here hx rfl (hb hby at_60) rfl rfl ?_
      show Steps p.tables e below (T16.setTop (mkF m 62 #[.val (.int xa), .val (.int xb), .val (.int hh), .val (.ref wp), .val (.ref b7)] [(.ref b7)])) _
      exact k
    obtain ⟨cq19, kq19, q19a, q19b, q19c⟩ := isOf hZ e16 f7_0
    obtain ⟨_, _, ⟨T19, L19, k19, n19⟩, -, X19, ⟨Lc19, hQ19, l19, y19, z19⟩, st19⟩ := X16.virtualBack hx (y := (⟨"com/example/lachesis/lachesis/Timing", "weekday", "()Ljava/time/DayOfWeek;"⟩ : MethodName)) (z := (⟨"com/example/lachesis/lachesis/Timing", "weekday", "()Ljava/time/DayOfWeek;"⟩ : MethodName)) hown (mvT hZ (hw _ (List.mem_of_getElem? (i := 39) rfl))) (mvT hZ (hw _ (List.mem_of_getElem? (i := 40) rfl))) (notFace_of_selects (args := #[]) (mvT hZ (hw _ (List.mem_of_getElem? (i := 42) rfl)))) (mvT hZ (hw _ (List.mem_of_getElem? (i := 42) rfl))) (mvT hZ (hw _ (List.mem_of_getElem? (i := 41) rfl))) (by decide) (backOf (W := 0) (rm_week l Z a0 hw [] b7 T7.heap n0 zz7 f7_4) hZ (hw _ (List.mem_of_getElem? (i := 43) rfl)) (hw _ (List.mem_of_getElem? (i := 6) rfl)) (by decide) (by decide)) q19a q19c (g := (mkF m 62 #[.val (.int xa), .val (.int xb), .val (.int hh), .val (.ref wp), .val (.ref b7)] [(.ref b7)])) rfl (by rw [hml]; rfl) (Steps.refl _) (argsL := []) (rest := []) (lenOf pd4 rfl) rfl (by show 2 * 0 + _ ≤ _; exact Nat.le_of_eq rfl) (hb hby at_62) (fun _ _ => ⟨rfl, e16, (by decide : 1 + 0 ≤ _), (by decide : 4 + 0 ≤ _)⟩)
    dsimp only [Pt.U, Pt.locs, Pt.cells, Pt.slots] at X19 l19 y19 z19 st19 hQ19
    subst l19 y19 z19
    obtain ⟨rfl, M19, e19⟩ := hQ19
    have N19 := Fr.app N16 M19
    have pre20 : ∀ t, Steps p.tables e below (T19.setTop (mkF m 65 #[.val (.int xa), .val (.int xb), .val (.int hh), .val (.ref wp), .val (.ref b7)] [.null])) t → Steps p.tables e below (s₁.setTop (entryFrame m #[(.int xa), (.int xb)] maxLocals)) t := fun t k => pre18 t (st19.trans k)
    have pre21 : ∀ t, Steps p.tables e below (T19.setTop (mkF m 70 #[.val (.int xa), .val (.int xb), .val (.int hh), .val (.ref wp), .val (.ref b7)] [(.ref b7)])) t → Steps p.tables e below (s₁.setTop (entryFrame m #[(.int xa), (.int xb)] maxLocals)) t := by
      intro t k
      refine pre20 t ?_
      refine XS.ifnonnullNo X19.here hx rfl (hb hby at_65) rfl ?_
      show Steps p.tables e below (T19.setTop (mkF m 68 #[.val (.int xa), .val (.int xb), .val (.int hh), .val (.ref wp), .val (.ref b7)] [])) _
      refine XS.aload X19.here hx rfl (hb hby at_68) rfl rfl ?_
      show Steps p.tables e below (T19.setTop (mkF m 70 #[.val (.int xa), .val (.int xb), .val (.int hh), .val (.ref wp), .val (.ref b7)] [(.ref b7)])) _
      exact k
    obtain ⟨cq22, kq22, q22a, q22b, q22c⟩ := isOf hZ e19 f7_0
    obtain ⟨_, _, ⟨T22, L22, k22, n22⟩, -, X22, ⟨Lc22, hQ22, l22, y22, z22⟩, st22⟩ := X19.virtualBack hx (y := (⟨"com/example/lachesis/lachesis/Timing", "nominalHours", "()J"⟩ : MethodName)) (z := (⟨"com/example/lachesis/lachesis/Timing", "nominalHours", "()J"⟩ : MethodName)) hown (mvT hZ (hw _ (List.mem_of_getElem? (i := 44) rfl))) (mvT hZ (hw _ (List.mem_of_getElem? (i := 45) rfl))) (notFace_of_selects (args := #[]) (mvT hZ (hw _ (List.mem_of_getElem? (i := 47) rfl)))) (mvT hZ (hw _ (List.mem_of_getElem? (i := 47) rfl))) (mvT hZ (hw _ (List.mem_of_getElem? (i := 46) rfl))) (by decide) (backOf (W := 0) (rm_nom l Z a0 hw [] b7 hh T7.heap n0 zz7 f7_3 ((own_h xa hh hhh).2.2)) hZ (hw _ (List.mem_of_getElem? (i := 48) rfl)) (hw _ (List.mem_of_getElem? (i := 6) rfl)) (by decide) (by decide)) q22a q22c (g := (mkF m 70 #[.val (.int xa), .val (.int xb), .val (.int hh), .val (.ref wp), .val (.ref b7)] [(.ref b7)])) rfl (by rw [hml]; rfl) (Steps.refl _) (argsL := []) (rest := []) (lenOf pd5 rfl) rfl (by show 2 * 0 + _ ≤ _; exact Nat.le_of_eq rfl) (hb hby at_70) (fun _ _ => ⟨rfl, e19, (by decide : 1 + 0 ≤ _), (by decide : 4 + 0 ≤ _)⟩)
    dsimp only [Pt.U, Pt.locs, Pt.cells, Pt.slots] at X22 l22 y22 z22 st22 hQ22
    subst l22 y22 z22
    obtain ⟨rfl, M22, e22⟩ := hQ22
    have N22 := Fr.app N19 M22
    have pre23 : ∀ t, Steps p.tables e below (T22.setTop (mkF m 73 #[.val (.int xa), .val (.int xb), .val (.int hh), .val (.ref wp), .val (.ref b7)] [(.long (hh.toInt64))])) t → Steps p.tables e below (s₁.setTop (entryFrame m #[(.int xa), (.int xb)] maxLocals)) t := fun t k => pre21 t (st22.trans k)
    have pre24 : ∀ t, Steps p.tables e below (T22.setTop (mkF m 84 #[.val (.int xa), .val (.int xb), .val (.int hh), .val (.ref wp), .val (.ref b7)] [(.int (1 : Int32))])) t → Steps p.tables e below (s₁.setTop (entryFrame m #[(.int xa), (.int xb)] maxLocals)) t := by
      intro t k
      refine pre23 t ?_
      refine XS.iloadN X22.here hx rfl (hb hby at_73) rfl ?_
      show Steps p.tables e below (T22.setTop (mkF m 74 #[.val (.int xa), .val (.int xb), .val (.int hh), .val (.ref wp), .val (.ref b7)] [(.int hh), (.long (hh.toInt64))])) _
      refine XS.i2l X22.here hx rfl (hb hby at_74) rfl ?_
      show Steps p.tables e below (T22.setTop (mkF m 75 #[.val (.int xa), .val (.int xb), .val (.int hh), .val (.ref wp), .val (.ref b7)] [(.long (hh.toInt64)), (.long (hh.toInt64))])) _
      refine XS.lcmp X22.here hx rfl (hb hby at_75) rfl ?_
      show Steps p.tables e below (T22.setTop (mkF m 76 #[.val (.int xa), .val (.int xb), .val (.int hh), .val (.ref wp), .val (.ref b7)] [(.int (lcmpW (hh.toInt64) (hh.toInt64)))])) _
      refine XS.ifNo X22.here hx rfl (hb hby at_76) rfl ((if0 _ _).trans (teq ((lw_eq _ _).mpr (show (hh.toInt64) = (hh.toInt64) from rfl))).2) ?_
      show Steps p.tables e below (T22.setTop (mkF m 79 #[.val (.int xa), .val (.int xb), .val (.int hh), .val (.ref wp), .val (.ref b7)] [])) _
      refine XS.iconst X22.here hx rfl (hb hby at_79) ?_
      show Steps p.tables e below (T22.setTop (mkF m 80 #[.val (.int xa), .val (.int xb), .val (.int hh), .val (.ref wp), .val (.ref b7)] [(.int (1 : Int32))])) _
      refine XS.goto X22.here hx rfl (pc0 := 80) (pc' := 84) rfl (hb hby at_80) (by decide) (by decide) ?_
      show Steps p.tables e below (T22.setTop (mkF m 84 #[.val (.int xa), .val (.int xb), .val (.int hh), .val (.ref wp), .val (.ref b7)] [(.int (1 : Int32))])) _
      exact k
    obtain ⟨fs, hr, hrun, hended, hW, hsame⟩ := X22.leave (v := some (.int (1 : Int32))) (fun h => by rw [Bd.returns] at h; cases h)
    refine ⟨_, _, pre24 _ ?_, hrun, hended, _, _, rfl, ?_, ⟨_, rfl⟩, hW, hsame.mono (by decide) (by decide)⟩
    · exact retN X22 hx (t := .boolean) Bd.returns (by simp) (hb hby at_84) hr
    · show Q_rm0 Z xa xb wf wp h0 n0 _ T22.heap _
      rw [e22]
      exact ⟨rfl, N22⟩
  · have pre26 : ∀ t, Steps p.tables e below (s₁.setTop (mkF m 17 #[.val (.int xa), .val (.int xb), .val (.int hh), .unset, .unset] [])) t → Steps p.tables e below (s₁.setTop (entryFrame m #[(.int xa), (.int xb)] maxLocals)) t := by
      intro t k
      refine pre2 t ?_
      refine XS.ifNo X0.here hx rfl (hb hby at_14) rfl ((if0 _ _).trans (feq hc14).1) ?_
      show Steps p.tables e below (s₁.setTop (mkF m 17 #[.val (.int xa), .val (.int xb), .val (.int hh), .unset, .unset] [])) _
      exact k
    obtain ⟨T25, X25, e25, st25⟩ := getS2 X0 hx hZ hown (host := "") (Or.inl (hw _ (List.mem_of_getElem? (i := 1) rfl))) Via.refl e0 SF (g := (mkF m 17 #[.val (.int xa), .val (.int xb), .val (.int hh), .unset, .unset] [])) rfl (hb hby at_17)
    have pre27 : ∀ t, Steps p.tables e below (T25.setTop (mkF m 20 #[.val (.int xa), .val (.int xb), .val (.int hh), .unset, .unset] [(.ref wf)])) t → Steps p.tables e below (s₁.setTop (entryFrame m #[(.int xa), (.int xb)] maxLocals)) t := fun t k => pre26 t (st25 t k)
    have pre28 : ∀ t, Steps p.tables e below (T25.setTop (mkF m 29 #[.val (.int xa), .val (.int xb), .val (.int hh), .val (.ref wf), .unset] [(.ref wf), (.int hh)])) t → Steps p.tables e below (s₁.setTop (entryFrame m #[(.int xa), (.int xb)] maxLocals)) t := by
      intro t k
      refine pre27 t ?_
      refine XS.goto X25.here hx rfl (pc0 := 20) (pc' := 26) rfl (hb hby at_20) (by decide) (by decide) ?_
      show Steps p.tables e below (T25.setTop (mkF m 26 #[.val (.int xa), .val (.int xb), .val (.int hh), .unset, .unset] [(.ref wf)])) _
      refine XS.astoreN X25.here hx rfl (hb hby at_26) rfl rfl (l' := #[.val (.int xa), .val (.int xb), .val (.int hh), .val (.ref wf), .unset]) rfl ?_
      show Steps p.tables e below (T25.setTop (mkF m 27 #[.val (.int xa), .val (.int xb), .val (.int hh), .val (.ref wf), .unset] [])) _
      refine XS.iloadN X25.here hx rfl (hb hby at_27) rfl ?_
      show Steps p.tables e below (T25.setTop (mkF m 28 #[.val (.int xa), .val (.int xb), .val (.int hh), .val (.ref wf), .unset] [(.int hh)])) _
      refine XS.aloadN X25.here hx rfl (hb hby at_28) rfl rfl ?_
      show Steps p.tables e below (T25.setTop (mkF m 29 #[.val (.int xa), .val (.int xb), .val (.int hh), .val (.ref wf), .unset] [(.ref wf), (.int hh)])) _
      exact k
    obtain ⟨_, _, ⟨T29, L29, k29, n29⟩, -, X29, ⟨Lc29, hQ29, l29, y29, z29⟩, st29⟩ := Jvm.LawKit.callS X25 hx (y := (⟨"com/example/lachesis/lachesis/Timing", "hours", "(ILcom/example/lachesis/lachesis/Timing$After;)Lcom/example/lachesis/lachesis/Timing;"⟩ : MethodName)) hown (mvT hZ (hw _ (List.mem_of_getElem? (i := 4) rfl))) (mvT hZ (hw _ (List.mem_of_getElem? (i := 5) rfl))) (mvT hZ (hw _ (List.mem_of_getElem? (i := 6) rfl))) (mvT hZ (hw _ (List.mem_of_getElem? (i := 7) rfl))) (by decide) (backOf (W := 0) (rm_make l Z a0 hw [] hh wf h0 n0 Z0 ((own_h xa hh hhh).1) ((own_h xa hh hhh).2.1)) hZ (hw _ (List.mem_of_getElem? (i := 7) rfl)) (hw _ (List.mem_of_getElem? (i := 6) rfl)) (by decide) (by decide)) (g := (mkF m 29 #[.val (.int xa), .val (.int xb), .val (.int hh), .val (.ref wf), .unset] [(.ref wf), (.int hh)])) rfl (by rw [hml]; rfl) (argsL := [(.int hh), (.ref wf)]) (rest := []) (lenOf pd1 rfl) rfl (by show 2 * 0 + _ ≤ _; exact Nat.le_of_eq rfl) (hb hby at_29) (fun _ _ => ⟨rfl, e25, (by decide : 0 + 1 ≤ _), (by decide : 0 + 4 ≤ _)⟩)
    dsimp only [Pt.U, Pt.locs, Pt.cells, Pt.slots] at X29 l29 y29 z29 st29 hQ29
    subst l29 y29 z29
    obtain ⟨b29, rfl, M29, g_b29, zs29, kp29, f29_0, f29_1, f29_2, f29_3, f29_4⟩ := hQ29
    have sz_b29 : h0.size ≤ b29 := Nat.le_trans (Keep.refl h0 ([] : List Addr)).1 zs29
    have K29 : Keep h0 T29.heap ([] : List Addr) := (Keep.refl h0 ([] : List Addr)).trans kp29 all0
    have zz29 : n0 ≤ T29.heap.size := Nat.le_trans Z0 K29.1
    have N29 := Fr.app N0 M29
    have pre30 : ∀ t, Steps p.tables e below (T29.setTop (mkF m 32 #[.val (.int xa), .val (.int xb), .val (.int hh), .val (.ref wf), .unset] [(.ref b29)])) t → Steps p.tables e below (s₁.setTop (entryFrame m #[(.int xa), (.int xb)] maxLocals)) t := fun t k => pre28 t (st29 t k)
    have pre31 : ∀ t, Steps p.tables e below (T29.setTop (mkF m 36 #[.val (.int xa), .val (.int xb), .val (.int hh), .val (.ref wf), .val (.ref b29)] [(.ref b29)])) t → Steps p.tables e below (s₁.setTop (entryFrame m #[(.int xa), (.int xb)] maxLocals)) t := by
      intro t k
      refine pre30 t ?_
      refine XS.astore X29.here hx rfl (hb hby at_32) rfl rfl (l' := #[.val (.int xa), .val (.int xb), .val (.int hh), .val (.ref wf), .val (.ref b29)]) rfl ?_
      show Steps p.tables e below (T29.setTop (mkF m 34 #[.val (.int xa), .val (.int xb), .val (.int hh), .val (.ref wf), .val (.ref b29)] [])) _
      refine XS.aload X29.here hx rfl (hb hby at_34) rfl rfl ?_
      show Steps p.tables e below (T29.setTop (mkF m 36 #[.val (.int xa), .val (.int xb), .val (.int hh), .val (.ref wf), .val (.ref b29)] [(.ref b29)])) _
      exact k
    obtain ⟨cq32, kq32, q32a, q32b, q32c⟩ := isOf hZ rfl f29_0
    obtain ⟨_, _, ⟨T32, L32, k32, n32⟩, -, X32, ⟨Lc32, hQ32, l32, y32, z32⟩, st32⟩ := X29.virtualBack hx (y := (⟨"com/example/lachesis/lachesis/Timing", "after", "()Lcom/example/lachesis/lachesis/Timing$After;"⟩ : MethodName)) (z := (⟨"com/example/lachesis/lachesis/Timing", "after", "()Lcom/example/lachesis/lachesis/Timing$After;"⟩ : MethodName)) hown (mvT hZ (hw _ (List.mem_of_getElem? (i := 24) rfl))) (mvT hZ (hw _ (List.mem_of_getElem? (i := 25) rfl))) (notFace_of_selects (args := #[]) (mvT hZ (hw _ (List.mem_of_getElem? (i := 27) rfl)))) (mvT hZ (hw _ (List.mem_of_getElem? (i := 27) rfl))) (mvT hZ (hw _ (List.mem_of_getElem? (i := 26) rfl))) (by decide) (backOf (W := 0) (rm_after l Z a0 hw [] b29 wf T29.heap n0 zz29 f29_1) hZ (hw _ (List.mem_of_getElem? (i := 28) rfl)) (hw _ (List.mem_of_getElem? (i := 6) rfl)) (by decide) (by decide)) q32a q32c (g := (mkF m 36 #[.val (.int xa), .val (.int xb), .val (.int hh), .val (.ref wf), .val (.ref b29)] [(.ref b29)])) rfl (by rw [hml]; rfl) (Steps.refl _) (argsL := []) (rest := []) (lenOf pd2 rfl) rfl (by show 2 * 0 + _ ≤ _; exact Nat.le_of_eq rfl) (hb hby at_36) (fun _ _ => ⟨rfl, rfl, (by decide : 1 + 0 ≤ _), (by decide : 4 + 0 ≤ _)⟩)
    dsimp only [Pt.U, Pt.locs, Pt.cells, Pt.slots] at X32 l32 y32 z32 st32 hQ32
    subst l32 y32 z32
    obtain ⟨rfl, M32, e32⟩ := hQ32
    have N32 := Fr.app N29 M32
    have pre33 : ∀ t, Steps p.tables e below (T32.setTop (mkF m 39 #[.val (.int xa), .val (.int xb), .val (.int hh), .val (.ref wf), .val (.ref b29)] [(.ref wf)])) t → Steps p.tables e below (s₁.setTop (entryFrame m #[(.int xa), (.int xb)] maxLocals)) t := fun t k => pre31 t (st32.trans k)
    have pre34 : ∀ t, Steps p.tables e below (T32.setTop (mkF m 45 #[.val (.int xa), .val (.int xb), .val (.int hh), .val (.ref wf), .val (.ref b29)] [(.ref b29)])) t → Steps p.tables e below (s₁.setTop (entryFrame m #[(.int xa), (.int xb)] maxLocals)) t := by
      intro t k
      refine pre33 t ?_
      refine XS.aloadN X32.here hx rfl (hb hby at_39) rfl rfl ?_
      show Steps p.tables e below (T32.setTop (mkF m 40 #[.val (.int xa), .val (.int xb), .val (.int hh), .val (.ref wf), .val (.ref b29)] [(.ref wf), (.ref wf)])) _
      refine Jvm.RoadKit.acmp (g := (mkF m 40 #[.val (.int xa), .val (.int xb), .val (.int hh), .val (.ref wf), .val (.ref b29)] [(.ref wf), (.ref wf)])) X32 hx rfl rfl rfl (pc0 := 40) (pc' := 43) (same := true) rfl (hb hby at_40) rfl (decide_eq_true rfl) (by decide) (by decide) ?_
      show Steps p.tables e below (T32.setTop (mkF m 43 #[.val (.int xa), .val (.int xb), .val (.int hh), .val (.ref wf), .val (.ref b29)] [])) _
      refine XS.aload X32.here hx rfl (hb hby at_43) rfl rfl ?_
      show Steps p.tables e below (T32.setTop (mkF m 45 #[.val (.int xa), .val (.int xb), .val (.int hh), .val (.ref wf), .val (.ref b29)] [(.ref b29)])) _
      exact k
    obtain ⟨cq35, kq35, q35a, q35b, q35c⟩ := isOf hZ e32 f29_0
    obtain ⟨_, _, ⟨T35, L35, k35, n35⟩, -, X35, ⟨Lc35, hQ35, l35, y35, z35⟩, st35⟩ := X32.virtualBack hx (y := (⟨"com/example/lachesis/lachesis/Timing", "days", "()I"⟩ : MethodName)) (z := (⟨"com/example/lachesis/lachesis/Timing", "days", "()I"⟩ : MethodName)) hown (mvT hZ (hw _ (List.mem_of_getElem? (i := 29) rfl))) (mvT hZ (hw _ (List.mem_of_getElem? (i := 30) rfl))) (notFace_of_selects (args := #[]) (mvT hZ (hw _ (List.mem_of_getElem? (i := 32) rfl)))) (mvT hZ (hw _ (List.mem_of_getElem? (i := 32) rfl))) (mvT hZ (hw _ (List.mem_of_getElem? (i := 31) rfl))) (by decide) (backOf (W := 0) (rm_days l Z a0 hw [] b29 (0 : Int32) T29.heap n0 zz29 f29_2) hZ (hw _ (List.mem_of_getElem? (i := 33) rfl)) (hw _ (List.mem_of_getElem? (i := 6) rfl)) (by decide) (by decide)) q35a q35c (g := (mkF m 45 #[.val (.int xa), .val (.int xb), .val (.int hh), .val (.ref wf), .val (.ref b29)] [(.ref b29)])) rfl (by rw [hml]; rfl) (Steps.refl _) (argsL := []) (rest := []) (lenOf pd3 rfl) rfl (by show 2 * 0 + _ ≤ _; exact Nat.le_of_eq rfl) (hb hby at_45) (fun _ _ => ⟨rfl, e32, (by decide : 1 + 0 ≤ _), (by decide : 4 + 0 ≤ _)⟩)
    dsimp only [Pt.U, Pt.locs, Pt.cells, Pt.slots] at X35 l35 y35 z35 st35 hQ35
    subst l35 y35 z35
    obtain ⟨rfl, M35, e35⟩ := hQ35
    have N35 := Fr.app N32 M35
    have pre36 : ∀ t, Steps p.tables e below (T35.setTop (mkF m 48 #[.val (.int xa), .val (.int xb), .val (.int hh), .val (.ref wf), .val (.ref b29)] [(.int (0 : Int32))])) t → Steps p.tables e below (s₁.setTop (entryFrame m #[(.int xa), (.int xb)] maxLocals)) t := fun t k => pre34 t (st35.trans k)
    have pre37 : ∀ t, Steps p.tables e below (T35.setTop (mkF m 53 #[.val (.int xa), .val (.int xb), .val (.int hh), .val (.ref wf), .val (.ref b29)] [(.ref b29)])) t → Steps p.tables e below (s₁.setTop (entryFrame m #[(.int xa), (.int xb)] maxLocals)) t := by
      intro t k
      refine pre36 t ?_
      refine XS.ifNo X35.here hx rfl (hb hby at_48) rfl ((if0 _ _).trans (teq (show (0 : Int32) = (0 : Int32) from rfl)).2) ?_
      show Steps p.tables e below (T35.setTop (mkF m 51 #[.val (.int xa), .val (.int xb), .val (.int hh), .val (.ref wf), .val (.ref b29)] [])) _
      refine XS.aload X35.here hx rfl (hb hby at_51) rfl rfl ?_
      show Steps p.tables e below (T35.setTop (mkF m 53 #[.val (.int xa), .val (.int xb), .val (.int hh), .val (.ref wf), .val (.ref b29)] [(.ref b29)])) _
      exact k
    obtain ⟨cq38, kq38, q38a, q38b, q38c⟩ := isOf hZ e35 f29_0
    obtain ⟨_, _, ⟨T38, L38, k38, n38⟩, -, X38, ⟨Lc38, hQ38, l38, y38, z38⟩, st38⟩ := X35.virtualBack hx (y := (⟨"com/example/lachesis/lachesis/Timing", "hours", "()I"⟩ : MethodName)) (z := (⟨"com/example/lachesis/lachesis/Timing", "hours", "()I"⟩ : MethodName)) hown (mvT hZ (hw _ (List.mem_of_getElem? (i := 34) rfl))) (mvT hZ (hw _ (List.mem_of_getElem? (i := 35) rfl))) (notFace_of_selects (args := #[]) (mvT hZ (hw _ (List.mem_of_getElem? (i := 37) rfl)))) (mvT hZ (hw _ (List.mem_of_getElem? (i := 37) rfl))) (mvT hZ (hw _ (List.mem_of_getElem? (i := 36) rfl))) (by decide) (backOf (W := 0) (rm_hours l Z a0 hw [] b29 hh T29.heap n0 zz29 f29_3) hZ (hw _ (List.mem_of_getElem? (i := 38) rfl)) (hw _ (List.mem_of_getElem? (i := 6) rfl)) (by decide) (by decide)) q38a q38c (g := (mkF m 53 #[.val (.int xa), .val (.int xb), .val (.int hh), .val (.ref wf), .val (.ref b29)] [(.ref b29)])) rfl (by rw [hml]; rfl) (Steps.refl _) (argsL := []) (rest := []) (lenOf pd3 rfl) rfl (by show 2 * 0 + _ ≤ _; exact Nat.le_of_eq rfl) (hb hby at_53) (fun _ _ => ⟨rfl, e35, (by decide : 1 + 0 ≤ _), (by decide : 4 + 0 ≤ _)⟩)
    dsimp only [Pt.U, Pt.locs, Pt.cells, Pt.slots] at X38 l38 y38 z38 st38 hQ38
    subst l38 y38 z38
    obtain ⟨rfl, M38, e38⟩ := hQ38
    have N38 := Fr.app N35 M38
    have pre39 : ∀ t, Steps p.tables e below (T38.setTop (mkF m 56 #[.val (.int xa), .val (.int xb), .val (.int hh), .val (.ref wf), .val (.ref b29)] [(.int hh)])) t → Steps p.tables e below (s₁.setTop (entryFrame m #[(.int xa), (.int xb)] maxLocals)) t := fun t k => pre37 t (st38.trans k)
    have pre40 : ∀ t, Steps p.tables e below (T38.setTop (mkF m 62 #[.val (.int xa), .val (.int xb), .val (.int hh), .val (.ref wf), .val (.ref b29)] [(.ref b29)])) t → Steps p.tables e below (s₁.setTop (entryFrame m #[(.int xa), (.int xb)] maxLocals)) t := by
      intro t k
      refine pre39 t ?_
      refine XS.iloadN X38.here hx rfl (hb hby at_56) rfl ?_
      show Steps p.tables e below (T38.setTop (mkF m 57 #[.val (.int xa), .val (.int xb), .val (.int hh), .val (.ref wf), .val (.ref b29)] [(.int hh), (.int hh)])) _
      refine XS.icmpNo X38.here hx rfl (hb hby at_57) rfl (teq (show hh = hh from rfl)).2 ?_
      show Steps p.tables e below (T38.setTop (mkF m 60 #[.val (.int xa), .val (.int xb), .val (.int hh), .val (.ref wf), .val (.ref b29)] [])) _
      refine XS.aload X38.here hx rfl (hb hby at_60) rfl rfl ?_
      show Steps p.tables e below (T38.setTop (mkF m 62 #[.val (.int xa), .val (.int xb), .val (.int hh), .val (.ref wf), .val (.ref b29)] [(.ref b29)])) _
      exact k
    obtain ⟨cq41, kq41, q41a, q41b, q41c⟩ := isOf hZ e38 f29_0
    obtain ⟨_, _, ⟨T41, L41, k41, n41⟩, -, X41, ⟨Lc41, hQ41, l41, y41, z41⟩, st41⟩ := X38.virtualBack hx (y := (⟨"com/example/lachesis/lachesis/Timing", "weekday", "()Ljava/time/DayOfWeek;"⟩ : MethodName)) (z := (⟨"com/example/lachesis/lachesis/Timing", "weekday", "()Ljava/time/DayOfWeek;"⟩ : MethodName)) hown (mvT hZ (hw _ (List.mem_of_getElem? (i := 39) rfl))) (mvT hZ (hw _ (List.mem_of_getElem? (i := 40) rfl))) (notFace_of_selects (args := #[]) (mvT hZ (hw _ (List.mem_of_getElem? (i := 42) rfl)))) (mvT hZ (hw _ (List.mem_of_getElem? (i := 42) rfl))) (mvT hZ (hw _ (List.mem_of_getElem? (i := 41) rfl))) (by decide) (backOf (W := 0) (rm_week l Z a0 hw [] b29 T29.heap n0 zz29 f29_4) hZ (hw _ (List.mem_of_getElem? (i := 43) rfl)) (hw _ (List.mem_of_getElem? (i := 6) rfl)) (by decide) (by decide)) q41a q41c (g := (mkF m 62 #[.val (.int xa), .val (.int xb), .val (.int hh), .val (.ref wf), .val (.ref b29)] [(.ref b29)])) rfl (by rw [hml]; rfl) (Steps.refl _) (argsL := []) (rest := []) (lenOf pd4 rfl) rfl (by show 2 * 0 + _ ≤ _; exact Nat.le_of_eq rfl) (hb hby at_62) (fun _ _ => ⟨rfl, e38, (by decide : 1 + 0 ≤ _), (by decide : 4 + 0 ≤ _)⟩)
    dsimp only [Pt.U, Pt.locs, Pt.cells, Pt.slots] at X41 l41 y41 z41 st41 hQ41
    subst l41 y41 z41
    obtain ⟨rfl, M41, e41⟩ := hQ41
    have N41 := Fr.app N38 M41
    have pre42 : ∀ t, Steps p.tables e below (T41.setTop (mkF m 65 #[.val (.int xa), .val (.int xb), .val (.int hh), .val (.ref wf), .val (.ref b29)] [.null])) t → Steps p.tables e below (s₁.setTop (entryFrame m #[(.int xa), (.int xb)] maxLocals)) t := fun t k => pre40 t (st41.trans k)
    have pre43 : ∀ t, Steps p.tables e below (T41.setTop (mkF m 70 #[.val (.int xa), .val (.int xb), .val (.int hh), .val (.ref wf), .val (.ref b29)] [(.ref b29)])) t → Steps p.tables e below (s₁.setTop (entryFrame m #[(.int xa), (.int xb)] maxLocals)) t := by
      intro t k
      refine pre42 t ?_
      refine XS.ifnonnullNo X41.here hx rfl (hb hby at_65) rfl ?_
      show Steps p.tables e below (T41.setTop (mkF m 68 #[.val (.int xa), .val (.int xb), .val (.int hh), .val (.ref wf), .val (.ref b29)] [])) _
      refine XS.aload X41.here hx rfl (hb hby at_68) rfl rfl ?_
      show Steps p.tables e below (T41.setTop (mkF m 70 #[.val (.int xa), .val (.int xb), .val (.int hh), .val (.ref wf), .val (.ref b29)] [(.ref b29)])) _
      exact k
    obtain ⟨cq44, kq44, q44a, q44b, q44c⟩ := isOf hZ e41 f29_0
    obtain ⟨_, _, ⟨T44, L44, k44, n44⟩, -, X44, ⟨Lc44, hQ44, l44, y44, z44⟩, st44⟩ := X41.virtualBack hx (y := (⟨"com/example/lachesis/lachesis/Timing", "nominalHours", "()J"⟩ : MethodName)) (z := (⟨"com/example/lachesis/lachesis/Timing", "nominalHours", "()J"⟩ : MethodName)) hown (mvT hZ (hw _ (List.mem_of_getElem? (i := 44) rfl))) (mvT hZ (hw _ (List.mem_of_getElem? (i := 45) rfl))) (notFace_of_selects (args := #[]) (mvT hZ (hw _ (List.mem_of_getElem? (i := 47) rfl)))) (mvT hZ (hw _ (List.mem_of_getElem? (i := 47) rfl))) (mvT hZ (hw _ (List.mem_of_getElem? (i := 46) rfl))) (by decide) (backOf (W := 0) (rm_nom l Z a0 hw [] b29 hh T29.heap n0 zz29 f29_3 ((own_h xa hh hhh).2.2)) hZ (hw _ (List.mem_of_getElem? (i := 48) rfl)) (hw _ (List.mem_of_getElem? (i := 6) rfl)) (by decide) (by decide)) q44a q44c (g := (mkF m 70 #[.val (.int xa), .val (.int xb), .val (.int hh), .val (.ref wf), .val (.ref b29)] [(.ref b29)])) rfl (by rw [hml]; rfl) (Steps.refl _) (argsL := []) (rest := []) (lenOf pd5 rfl) rfl (by show 2 * 0 + _ ≤ _; exact Nat.le_of_eq rfl) (hb hby at_70) (fun _ _ => ⟨rfl, e41, (by decide : 1 + 0 ≤ _), (by decide : 4 + 0 ≤ _)⟩)
    dsimp only [Pt.U, Pt.locs, Pt.cells, Pt.slots] at X44 l44 y44 z44 st44 hQ44
    subst l44 y44 z44
    obtain ⟨rfl, M44, e44⟩ := hQ44
    have N44 := Fr.app N41 M44
    have pre45 : ∀ t, Steps p.tables e below (T44.setTop (mkF m 73 #[.val (.int xa), .val (.int xb), .val (.int hh), .val (.ref wf), .val (.ref b29)] [(.long (hh.toInt64))])) t → Steps p.tables e below (s₁.setTop (entryFrame m #[(.int xa), (.int xb)] maxLocals)) t := fun t k => pre43 t (st44.trans k)
    have pre46 : ∀ t, Steps p.tables e below (T44.setTop (mkF m 84 #[.val (.int xa), .val (.int xb), .val (.int hh), .val (.ref wf), .val (.ref b29)] [(.int (1 : Int32))])) t → Steps p.tables e below (s₁.setTop (entryFrame m #[(.int xa), (.int xb)] maxLocals)) t := by
      intro t k
      refine pre45 t ?_
      refine XS.iloadN X44.here hx rfl (hb hby at_73) rfl ?_
      show Steps p.tables e below (T44.setTop (mkF m 74 #[.val (.int xa), .val (.int xb), .val (.int hh), .val (.ref wf), .val (.ref b29)] [(.int hh), (.long (hh.toInt64))])) _
      refine XS.i2l X44.here hx rfl (hb hby at_74) rfl ?_
      show Steps p.tables e below (T44.setTop (mkF m 75 #[.val (.int xa), .val (.int xb), .val (.int hh), .val (.ref wf), .val (.ref b29)] [(.long (hh.toInt64)), (.long (hh.toInt64))])) _
      refine XS.lcmp X44.here hx rfl (hb hby at_75) rfl ?_
      show Steps p.tables e below (T44.setTop (mkF m 76 #[.val (.int xa), .val (.int xb), .val (.int hh), .val (.ref wf), .val (.ref b29)] [(.int (lcmpW (hh.toInt64) (hh.toInt64)))])) _
      refine XS.ifNo X44.here hx rfl (hb hby at_76) rfl ((if0 _ _).trans (teq ((lw_eq _ _).mpr (show (hh.toInt64) = (hh.toInt64) from rfl))).2) ?_
      show Steps p.tables e below (T44.setTop (mkF m 79 #[.val (.int xa), .val (.int xb), .val (.int hh), .val (.ref wf), .val (.ref b29)] [])) _
      refine XS.iconst X44.here hx rfl (hb hby at_79) ?_
      show Steps p.tables e below (T44.setTop (mkF m 80 #[.val (.int xa), .val (.int xb), .val (.int hh), .val (.ref wf), .val (.ref b29)] [(.int (1 : Int32))])) _
      refine XS.goto X44.here hx rfl (pc0 := 80) (pc' := 84) rfl (hb hby at_80) (by decide) (by decide) ?_
      show Steps p.tables e below (T44.setTop (mkF m 84 #[.val (.int xa), .val (.int xb), .val (.int hh), .val (.ref wf), .val (.ref b29)] [(.int (1 : Int32))])) _
      exact k
    obtain ⟨fs, hr, hrun, hended, hW, hsame⟩ := X44.leave (v := some (.int (1 : Int32))) (fun h => by rw [Bd.returns] at h; cases h)
    refine ⟨_, _, pre46 _ ?_, hrun, hended, _, _, rfl, ?_, ⟨_, rfl⟩, hW, hsame.mono (by decide) (by decide)⟩
    · exact retN X44 hx (t := .boolean) Bd.returns (by simp) (hb hby at_84) hr
    · show Q_rm0 Z xa xb wf wp h0 n0 _ T44.heap _
      rw [e44]
      exact ⟨rfl, N44⟩
set_option maxRecDepth 65536 in
set_option maxHeartbeats 40000000 in
theorem comes_1 {Post : Tables → Env → Array Value → State → Outcome → State → Prop} (hpost : ∀ tb e args s v u, (limb_1_1.after args s (.returned v) u = true ∧ limb_1_2.after args s (.returned v) u = true ∧ True) → FrameEnd s (.returned v) u (Jvm.fieldLocs frame_1_writes args s ++ Jvm.arrayLocs frame_1_arrays args s ++ Jvm.staticLocs frame_1_statics s) 16 128 → Post tb e args s (.returned v) u) :
    ArmFor flags0 classFile x code maxLocals ret World_1 tables_1 room_1 Calls_1 rest_1 Pre_1 Post := by
  intro l hfl _ _ p e ha hc hk s m args below hf hA hF happ hP
  obtain ⟨hcalls, hrest, hpre⟩ := hP
  obtain ⟨-, -, -, hnamed, -, -, -, hat⟩ := (Spec.applies_iff hf).mp happ
  obtain ⟨hg, hn⟩ := and_e (Cond.before_iff.mp (show (Jvm.Cond.and given_1 narrow_1).before args s = true from hpre))
  obtain ⟨ga1, gb1⟩ := and_e hg
  obtain ⟨ga2, gb2⟩ := and_e gb1
  obtain ⟨w0, w1, rfl⟩ : ∃ w0 w1 : Value, args = #[w0, w1] := by
    have hs : args.size = 2 := by simpa [Cond.value, given_1] using ga1
    obtain ⟨L⟩ := args
    match L, hs with
    | [w0, w1], _ => exact ⟨w0, w1, rfl⟩
  have hw := fun d (hd : d ∈ tables_1) => atoms_spec (ws := Jvm.Cond.code x code maxLocals ret :: tables_1) hat d (List.mem_cons_of_mem _ hd)
  have hfit : Fit s := fun {y c} hc i hi => by
    obtain ⟨ha, rfl⟩ := Array.getElem?_eq_some_iff.mp hc
    have q := List.all_eq_true.mp ((Array.all_eq_true_iff_forall_mem.mp hF) _ (Array.getElem_mem ha)) i (List.mem_range.mpr hi)
    simpa [Array.getElem?_eq_getElem hi] using q
  obtain ⟨i0, ei0⟩ := is_v ga2
  obtain rfl : w0 = (.int i0) := Option.some.inj ei0
  obtain ⟨i1, ei1⟩ := is_v gb2
  obtain rfl : w1 = (.int i1) := Option.some.inj ei1
  obtain ⟨na1, nb1⟩ := and_e hn
  obtain ⟨w_FAILURE, ew_FAILURE⟩ := exa_v na1
  obtain ⟨w_PREVIOUS, ew_PREVIOUS⟩ := exa_v nb1
  have En_FAILURE := Exa.start ew_FAILURE na1
  have Sn_FAILURE := Sta.start ew_FAILURE (Or.inr ⟨(hw _ (List.mem_of_getElem? (i := 2) rfl)), (hw _ (List.mem_of_getElem? (i := 3) rfl))⟩)
  have En_PREVIOUS := Exa.start ew_PREVIOUS nb1
  have Sn_PREVIOUS := Sta.start ew_PREVIOUS (Or.inr ⟨(hw _ (List.mem_of_getElem? (i := 2) rfl)), (hw _ (List.mem_of_getElem? (i := 50) rfl))⟩)
  obtain ⟨n, o, h1, h2, h3, _, L, rfl, ⟨rfl, N⟩, hq⟩ := rm0 l s _ hw tables_1 i0 i1 w_FAILURE w_PREVIOUS s.heap s.heap.size (Nat.le_refl _) Sn_FAILURE Sn_PREVIOUS p e ha hc hk s m _ below hf ((Spec.applies_iff_loose hf).mp happ).1 ⟨rfl, State.Warmed39.refl s, rfl⟩ trivial
  refine ⟨n, _, h1, h2, h3, hpost _ _ _ _ _ _ ⟨Cond.after_iff.mpr rfl, Cond.after_iff.mpr (eq_i res_at (Term.int_eval (1)) rfl), trivial⟩ ⟨hq.1, hq.2.1, (hq.2.2.sift fun y hy => Or.inr (N y hy)).mono (by decide) (by decide)⟩⟩
theorem main_1_1 : Claimed_1_1 := comes_1 fun _ _ _ _ _ _ h hF => ⟨h.1, hF⟩
theorem main_1_2 : Claimed_1_2 := comes_1 fun _ _ _ _ _ _ h hF => ⟨h.2.1, hF⟩
end Jvm.Pilot.@@N@@
namespace Jvm.Pilot.@@N@@
open Jvm Jvm.ClassFile Sem Op Lib Jvm.Free Jvm.Stand Jvm.Pilot.@@N@@.Jvm.D
/-! MADE BY PROGRAM (witnessworld.py) out of the Statement's table words and the real class files: 13 classes; the members and pool entries that the words name. The judged class is class 1, her method 1. -/
namespace start1
open Jvm.ClassFile
def u (s : String) : CpInfo := .utf8 (stringToUtf16 s)
/-- a pool by its gaps: so many unusable entries, then the entry; so many at the end -/
def gap : Nat → List CpInfo → List CpInfo
  | 0, r => r
  | n + 1, r => .unusable :: gap n r
def poolList (es : List (Nat × CpInfo)) (last : Nat) : List CpInfo := es.foldr (fun e r => gap e.1 (e.2 :: r)) (gap last [])
def pool (es : List (Nat × CpInfo)) (last : Nat) : Array CpInfo := ⟨poolList es last⟩
def fileOf (pool : Array CpInfo) (this : Nat) (attrs : Array Attribute := #[]) (ms : Array MethodInfo := #[]) (fl : Nat := 33) (sup : Nat := 0) (ifs : Array Nat := #[]) (fds : Array FieldInfo := #[]) : ClassFile where
  minorVersion := 0
  majorVersion := 65
  constantPool := pool
  accessFlags := fl
  thisClass := this
  superClass := sup
  interfaces := ifs
  fields := fds
  methods := ms
  attributes := attrs
def plain (name : String) (sup : Option ClassId) : Class where
  name := name
  kind := .ordinary
  loader := none
  accessFlags := 33
  super := sup
  interfaces := #[]
  cf := none
  fields := #[]
  methods := #[]
  instanceTypes := #[]
  staticTypes := #[]
  resolved := #[]
  callSites := []
  init := .initialized
  statics := none
  mirror := none

def pool0 : Array CpInfo := pool [(5, u "<init>"), (0, u "()V"), (1, .class_ 10), (1, u "java/lang/Object")] 113

def k0c0 : Code := { maxStack := 0, maxLocals := 1, code := object_method_1_code, exceptionTable := #[], attributes := #[] }
def k0m0 : Method := { name := "<init>", desc := "()V", sig := { parameters := [], returnType := none }, accessFlags := 1, code := some k0c0 }
/-- java/lang/Object -/
def k0 : Class := { plain "java/lang/Object" none with
  accessFlags := 33
  interfaces := #[]
  cf := some (fileOf pool0 8 #[] #[{ accessFlags := 1, nameIndex := 5, descriptorIndex := 6, attributes := #[] }] 33 0 #[] #[])
  fields := #[]
  methods := #[k0m0]
  instanceTypes := #[]
  staticTypes := #[]
  resolved := Array.replicate 124 none
  statics := none }

def pool1 : Array CpInfo := pool [(2, .class_ 4), (1, u "java/lang/Object"), (0, u "<init>"), (0, u "()V"), (0, .integer 2147483647), (0, .class_ 9), (0, u "com/example/lachesis/lachesis/Timing"), (0, .fieldref 11 12), (0, .class_ 13), (0, .nameAndType 14 15), (0, u "com/example/lachesis/lachesis/Timing$After"), (0, u "FAILURE"), (0, u "Lcom/example/lachesis/lachesis/Timing$After;"), (0, .fieldref 11 17), (0, .nameAndType 18 15), (0, u "PREVIOUS"), (0, .methodref 8 20), (0, .nameAndType 21 22), (0, u "hours"), (0, u "(ILcom/example/lachesis/lachesis/Timing$After;)Lcom/example/lachesis/lachesis/Timing;"), (0, .methodref 8 24), (0, .nameAndType 25 26), (0, u "after"), (0, u "()Lcom/example/lachesis/lachesis/Timing$After;"), (0, .methodref 8 28), (0, .nameAndType 29 30), (0, u "days"), (0, u "()I"), (0, .methodref 8 32), (0, .nameAndType 21 30), (0, .methodref 8 34), (0, .nameAndType 35 36), (0, u "weekday"), (0, u "()Ljava/time/DayOfWeek;"), (0, .methodref 8 38), (0, .nameAndType 39 40), (0, u "nominalHours"), (0, u "()J"), (0, .class_ 42), (0, u "com/example/lachesis/lachesis/TimingHoursPinLaw"), (2, u "law"), (0, u "(II)Z")] 5

def k1m0 : Method := { name := "<init>", desc := "()V", sig := { parameters := [], returnType := none }, accessFlags := 1, code := none }
def k1c1 : Code := { maxStack := 4, maxLocals := 5, code := code, exceptionTable := #[], attributes := #[] }
def k1m1 : Method := { name := "law", desc := "(II)Z", sig := { parameters := [.int, .int], returnType := some .boolean }, accessFlags := 9, code := some k1c1 }
/-- com/example/lachesis/lachesis/TimingHoursPinLaw -/
def k1 : Class := { plain "com/example/lachesis/lachesis/TimingHoursPinLaw" (some 0) with
  accessFlags := 49
  interfaces := #[]
  cf := some (fileOf pool1 41 #[] #[{ accessFlags := 1, nameIndex := 5, descriptorIndex := 6, attributes := #[] }, { accessFlags := 9, nameIndex := 45, descriptorIndex := 46, attributes := #[] }] 49 2 #[] #[])
  fields := #[]
  methods := #[k1m0, k1m1]
  instanceTypes := #[]
  staticTypes := #[]
  resolved := Array.replicate 52 none
  statics := none }

def pool2 : Array CpInfo := pool [(1, .class_ 2), (0, u "java/lang/constant/Constable"), (0, .class_ 4), (0, u "java/lang/Object")] 6

/-- java/lang/constant/Constable -/
def k2 : Class := { plain "java/lang/constant/Constable" (some 0) with
  accessFlags := 1537
  interfaces := #[]
  cf := some (fileOf pool2 1 #[] #[] 1537 3 #[] #[])
  fields := #[]
  methods := #[]
  instanceTypes := #[]
  staticTypes := #[]
  resolved := Array.replicate 11 none
  statics := none }

def pool3 : Array CpInfo := pool [(1, .class_ 2), (0, u "java/lang/Comparable"), (0, .class_ 4), (0, u "java/lang/Object")] 7

/-- java/lang/Comparable -/
def k3 : Class := { plain "java/lang/Comparable" (some 0) with
  accessFlags := 1537
  interfaces := #[]
  cf := some (fileOf pool3 1 #[] #[] 1537 3 #[] #[])
  fields := #[]
  methods := #[]
  instanceTypes := #[]
  staticTypes := #[]
  resolved := Array.replicate 12 none
  statics := none }

def pool4 : Array CpInfo := pool [(1, .class_ 2), (0, u "java/io/Serializable"), (0, .class_ 4), (0, u "java/lang/Object")] 2

/-- java/io/Serializable -/
def k4 : Class := { plain "java/io/Serializable" (some 0) with
  accessFlags := 1537
  interfaces := #[]
  cf := some (fileOf pool4 1 #[] #[] 1537 3 #[] #[])
  fields := #[]
  methods := #[]
  instanceTypes := #[]
  staticTypes := #[]
  resolved := Array.replicate 7 none
  statics := none }

def pool5 : Array CpInfo := pool [(2, .class_ 4), (1, u "java/lang/Enum"), (0, u "name"), (0, u "Ljava/lang/String;"), (2, u "ordinal"), (0, u "I"), (1, .class_ 14), (1, u "java/lang/Object"), (4, u "hash"), (86, .class_ 108), (1, u "java/lang/Enum$EnumDesc"), (2, .class_ 112), (0, u "java/lang/constant/Constable"), (0, .class_ 114), (0, u "java/lang/Comparable"), (0, .class_ 116), (0, u "java/io/Serializable")] 87

/-- java/lang/Enum -/
def k5 : Class := { plain "java/lang/Enum" (some 0) with
  accessFlags := 1057
  interfaces := #[2, 3, 4]
  cf := some (fileOf pool5 2 #[.nestMembers #[106]] #[] 1057 12 #[111, 113, 115] #[{ accessFlags := 18, nameIndex := 5, descriptorIndex := 6, attributes := #[] }, { accessFlags := 18, nameIndex := 9, descriptorIndex := 10, attributes := #[] }, { accessFlags := 2, nameIndex := 19, descriptorIndex := 10, attributes := #[] }])
  fields := #[{ name := "name", type := (.object "java/lang/String"), accessFlags := 18, slot := 0, constantValue := 0 }, { name := "ordinal", type := .int, accessFlags := 18, slot := 1, constantValue := 0 }, { name := "hash", type := .int, accessFlags := 2, slot := 2, constantValue := 0 }]
  methods := #[]
  instanceTypes := #[(.object "java/lang/String"), .int, .int]
  staticTypes := #[]
  resolved := Array.replicate 204 none
  statics := none }

def pool6 : Array CpInfo := pool [(1, .class_ 2), (0, u "com/example/lachesis/lachesis/Timing$After"), (2, u "FAILURE"), (0, u "Lcom/example/lachesis/lachesis/Timing$After;"), (2, u "PREVIOUS"), (2, u "$VALUES"), (0, u "[Lcom/example/lachesis/lachesis/Timing$After;"), (6, .class_ 22), (1, u "java/lang/Enum"), (25, .class_ 49), (0, u "com/example/lachesis/lachesis/Timing")] 2

/-- com/example/lachesis/lachesis/Timing$After -/
def k6 : Class := { plain "com/example/lachesis/lachesis/Timing$After" (some 5) with
  accessFlags := 16432
  interfaces := #[]
  cf := some (fileOf pool6 1 #[.nestHost 48] #[] 16432 20 #[] #[{ accessFlags := 16409, nameIndex := 5, descriptorIndex := 6, attributes := #[] }, { accessFlags := 16409, nameIndex := 9, descriptorIndex := 6, attributes := #[] }, { accessFlags := 4122, nameIndex := 12, descriptorIndex := 13, attributes := #[] }])
  fields := #[{ name := "FAILURE", type := (.object "com/example/lachesis/lachesis/Timing$After"), accessFlags := 16409, slot := 0, constantValue := 0 }, { name := "PREVIOUS", type := (.object "com/example/lachesis/lachesis/Timing$After"), accessFlags := 16409, slot := 1, constantValue := 0 }, { name := "$VALUES", type := (.array (.object "com/example/lachesis/lachesis/Timing$After")), accessFlags := 4122, slot := 2, constantValue := 0 }]
  methods := #[]
  instanceTypes := #[(.object "java/lang/String"), .int, .int]
  staticTypes := #[(.object "com/example/lachesis/lachesis/Timing$After"), (.object "com/example/lachesis/lachesis/Timing$After"), (.array (.object "com/example/lachesis/lachesis/Timing$After"))]
  resolved := Array.replicate 52 none
  statics := some 0 }

def pool7 : Array CpInfo := pool [(1, .methodref 2 3), (0, .class_ 4), (0, .nameAndType 5 6), (0, u "java/lang/Object"), (0, u "<init>"), (0, u "()V"), (0, .fieldref 8 9), (0, .class_ 10), (0, .nameAndType 11 12), (0, u "com/example/lachesis/lachesis/Timing"), (0, u "after"), (0, u "Lcom/example/lachesis/lachesis/Timing$After;"), (0, .fieldref 8 14), (0, .nameAndType 15 16), (0, u "days"), (0, u "I"), (0, .fieldref 8 18), (0, .nameAndType 19 16), (0, u "hours"), (0, .fieldref 8 21), (0, .nameAndType 22 23), (0, u "weekday"), (0, u "Ljava/time/DayOfWeek;"), (4, .methodref 8 29), (0, .nameAndType 5 30), (0, u "(Lcom/example/lachesis/lachesis/Timing$After;IILjava/time/DayOfWeek;)V"), (10, .class_ 43), (1, u "com/example/lachesis/lachesis/Timing$After"), (1, .long 24), (59, u "MAX_DAYS"), (2, u "MAX_HOURS"), (1, u "DAY_HOURS"), (3, u "(ILcom/example/lachesis/lachesis/Timing$After;)Lcom/example/lachesis/lachesis/Timing;"), (4, u "()Lcom/example/lachesis/lachesis/Timing$After;"), (0, u "()I"), (0, u "()Ljava/time/DayOfWeek;"), (0, u "nominalHours"), (0, u "()J")] 23

def k7c0 : Code := { maxStack := 2, maxLocals := 5, code := prog_40_method_1_code, exceptionTable := #[], attributes := #[] }
def k7m0 : Method := { name := "<init>", desc := "(Lcom/example/lachesis/lachesis/Timing$After;IILjava/time/DayOfWeek;)V", sig := { parameters := [(.object "com/example/lachesis/lachesis/Timing$After"), .int, .int, (.object "java/time/DayOfWeek")], returnType := none }, accessFlags := 2, code := some k7c0 }
def k7c1 : Code := { maxStack := 6, maxLocals := 2, code := prog_40_method_3_code, exceptionTable := #[], attributes := #[] }
def k7m1 : Method := { name := "hours", desc := "(ILcom/example/lachesis/lachesis/Timing$After;)Lcom/example/lachesis/lachesis/Timing;", sig := { parameters := [.int, (.object "com/example/lachesis/lachesis/Timing$After")], returnType := some (.object "com/example/lachesis/lachesis/Timing") }, accessFlags := 8, code := some k7c1 }
def k7c2 : Code := { maxStack := 1, maxLocals := 1, code := prog_40_method_6_code, exceptionTable := #[], attributes := #[] }
def k7m2 : Method := { name := "after", desc := "()Lcom/example/lachesis/lachesis/Timing$After;", sig := { parameters := [], returnType := some (.object "com/example/lachesis/lachesis/Timing$After") }, accessFlags := 0, code := some k7c2 }
def k7c3 : Code := { maxStack := 1, maxLocals := 1, code := prog_40_method_7_code, exceptionTable := #[], attributes := #[] }
def k7m3 : Method := { name := "days", desc := "()I", sig := { parameters := [], returnType := some .int }, accessFlags := 0, code := some k7c3 }
def k7c4 : Code := { maxStack := 1, maxLocals := 1, code := prog_40_method_8_code, exceptionTable := #[], attributes := #[] }
def k7m4 : Method := { name := "hours", desc := "()I", sig := { parameters := [], returnType := some .int }, accessFlags := 0, code := some k7c4 }
def k7c5 : Code := { maxStack := 1, maxLocals := 1, code := prog_40_method_9_code, exceptionTable := #[], attributes := #[] }
def k7m5 : Method := { name := "weekday", desc := "()Ljava/time/DayOfWeek;", sig := { parameters := [], returnType := some (.object "java/time/DayOfWeek") }, accessFlags := 0, code := some k7c5 }
def k7c6 : Code := { maxStack := 4, maxLocals := 1, code := prog_40_method_10_code, exceptionTable := #[], attributes := #[] }
def k7m6 : Method := { name := "nominalHours", desc := "()J", sig := { parameters := [], returnType := some .long }, accessFlags := 0, code := some k7c6 }
/-- com/example/lachesis/lachesis/Timing -/
def k7 : Class := { plain "com/example/lachesis/lachesis/Timing" (some 0) with
  accessFlags := 48
  interfaces := #[]
  cf := some (fileOf pool7 8 #[.nestMembers #[41]] #[{ accessFlags := 2, nameIndex := 5, descriptorIndex := 30, attributes := #[] }, { accessFlags := 8, nameIndex := 19, descriptorIndex := 114, attributes := #[] }, { accessFlags := 0, nameIndex := 11, descriptorIndex := 119, attributes := #[] }, { accessFlags := 0, nameIndex := 15, descriptorIndex := 120, attributes := #[] }, { accessFlags := 0, nameIndex := 19, descriptorIndex := 120, attributes := #[] }, { accessFlags := 0, nameIndex := 22, descriptorIndex := 121, attributes := #[] }, { accessFlags := 0, nameIndex := 122, descriptorIndex := 123, attributes := #[] }] 48 2 #[] #[{ accessFlags := 24, nameIndex := 105, descriptorIndex := 16, attributes := #[] }, { accessFlags := 24, nameIndex := 108, descriptorIndex := 16, attributes := #[] }, { accessFlags := 26, nameIndex := 110, descriptorIndex := 16, attributes := #[] }, { accessFlags := 18, nameIndex := 11, descriptorIndex := 12, attributes := #[] }, { accessFlags := 18, nameIndex := 15, descriptorIndex := 16, attributes := #[] }, { accessFlags := 18, nameIndex := 19, descriptorIndex := 16, attributes := #[] }, { accessFlags := 18, nameIndex := 22, descriptorIndex := 23, attributes := #[] }])
  fields := #[{ name := "MAX_DAYS", type := .int, accessFlags := 24, slot := 0, constantValue := 0 }, { name := "MAX_HOURS", type := .int, accessFlags := 24, slot := 1, constantValue := 0 }, { name := "DAY_HOURS", type := .int, accessFlags := 26, slot := 2, constantValue := 0 }, { name := "after", type := (.object "com/example/lachesis/lachesis/Timing$After"), accessFlags := 18, slot := 0, constantValue := 0 }, { name := "days", type := .int, accessFlags := 18, slot := 1, constantValue := 0 }, { name := "hours", type := .int, accessFlags := 18, slot := 2, constantValue := 0 }, { name := "weekday", type := (.object "java/time/DayOfWeek"), accessFlags := 18, slot := 3, constantValue := 0 }]
  methods := #[k7m0, k7m1, k7m2, k7m3, k7m4, k7m5, k7m6]
  instanceTypes := #[(.object "com/example/lachesis/lachesis/Timing$After"), .int, .int, (.object "java/time/DayOfWeek")]
  staticTypes := #[.int, .int, .int]
  resolved := Array.replicate 147 none
  statics := none }

def pool8 : Array CpInfo := pool [(1, u "java/lang/Cloneable"), (0, .class_ 1), (0, u "java/lang/Object"), (0, .class_ 3)] 3

/-- java/lang/Cloneable -/
def k8 : Class := { plain "java/lang/Cloneable" (some 0) with
  accessFlags := 1537
  interfaces := #[]
  cf := some (fileOf pool8 2 #[] #[] 1537 4 #[] #[])
  fields := #[]
  methods := #[]
  instanceTypes := #[]
  staticTypes := #[]
  resolved := Array.replicate 8 none
  statics := none }

/-- the primitive byte -/
def k9 : Class := { plain "byte" none with kind := .primitive 'B', accessFlags := 0x411 }
/-- [B -/
def k10 : Class := { plain "[B" (some 0) with kind := .array 9 .byte, interfaces := #[8, 4], accessFlags := 1041 }

/-- the primitive int -/
def k11 : Class := { plain "int" none with kind := .primitive 'I', accessFlags := 0x411 }
/-- [I -/
def k12 : Class := { plain "[I" (some 0) with kind := .array 11 .int, interfaces := #[8, 4], accessFlags := 1041 }

def heap : Heap := #[{ cls := 6, slots := #[.ref 2, .ref 1, .null], vm := .statics 6 },
  { cls := 6, slots := #[.null, .int 0, .int 0], vm := .none },
  { cls := 6, slots := #[.null, .int 1, .int 0], vm := .none }]
def classes : Array Class := #[k0, k1, k2, k3, k4, k5, k6, k7, k8, k9, k10, k11, k12]
def interned : List (Array UInt16 × Addr) := []
def slotsUsed : Nat := 9
def theMethod : MethodId := ⟨1, 1⟩
def args0 : Array Value := #[.int 5, .int 5]
def aboutOver (below : List Frame) : State where
  vm := { classes := classes, interned := interned.toArray }
  heap := heap
  slotsUsed := slotsUsed
  threads := #[{ frames := .invoking theMethod args0 :: below }]
def below0 : List Frame := [.native { method := ⟨0, 0⟩, args := #[] }]
def about1 : State := aboutOver below0
def p0 : Program := .bare "" "" ""
def e0 : Env := launch0.env 0 0 0
theorem w_frames : about1.frames = Frame.invoking theMethod args0 :: below0 := rfl
set_option maxRecDepth 65536 in
theorem w_args : argsFit about1.vm theMethod args0 = true := by decide +kernel
set_option maxRecDepth 65536 in
theorem w_heap : heapFits about1 = true := by decide +kernel
set_option maxRecDepth 65536 in
theorem w_runnable : about1.curStatus? = some .runnable := by decide +kernel
set_option maxRecDepth 65536 in
theorem w_alone : about1.alone = true := by decide +kernel
set_option maxRecDepth 65536 in
theorem w_named : about1.methodNamed? x = some theMethod := by decide +kernel
set_option maxRecDepth 65536 in
theorem w_hears : about1.hears theMethod below0 = true := by decide +kernel
set_option maxRecDepth 65536 in
theorem w_ripe : about1.ripe theMethod args0 below0 = true := by decide +kernel
theorem w_running : about1.status = .running := rfl
set_option maxRecDepth 65536 in
theorem w_room : about1.hasRoom e0.platform room_1 = true :=
  launch0.hasRoom_least _ room_1 (by decide +kernel) (by decide +kernel) (by decide +kernel) (by decide +kernel) (by decide +kernel) (by decide +kernel)
theorem allAtoms_all (ts : List Jvm.Cond) (a : Array Jvm.Value) (st : Jvm.State) : (allAtoms ts).before a st = ts.all (fun c => c.before a st) := by
  induction ts with
  | nil => rfl
  | cons c t ih =>
    show (Jvm.Cond.and c (allAtoms t)).before a st = _
    rw [Jvm.Cond.before_and, ih, List.all_cons]
def words1 : List Jvm.Cond := Jvm.Cond.code x code maxLocals ret :: tables_1
/-- a 'code' word, met by the world's own term for the bytes: nothing is compared byte by byte -/
theorem code_word {y : MethodName} {bytes : ByteArray} {mx : Nat} {rt : Option FieldType} {a : Array Value} {s : State} {m : MethodId} {meth : Method} {c : Code} (h1 : s.methodNamed? y = some m) (h2 : s.vm.method? m = some meth) (h3 : meth.code = some c) (h4 : c.code = bytes)
    (h5 : (c.maxLocals == mx && c.exceptionTable.isEmpty && decide (c.maxStack ≤ mostOperands) && decide (meth.sig.returnType = rt) && !meth.locks && decide (parseMethodDescriptor y.desc = some meth.sig)) = true) : (Jvm.Cond.code y bytes mx rt).before a s = true := by
  simp only [Bool.and_eq_true, beq_iff_eq, Bool.not_eq_true', decide_eq_true_eq] at h5
  obtain ⟨⟨⟨⟨⟨g1, g2⟩, g3⟩, g4⟩, g5⟩, g6⟩ := h5
  simp [Cond.before, Cond.holds, Cond.value, h1, h2, h3, h4, g1, g2, g3, g4, g5, g6]
def isCode : Jvm.Cond → Bool
  | .code _ _ _ _ => true
  | _ => false
theorem all_split {L : List Jvm.Cond} {P : Jvm.Cond → Bool} (h1 : L.all (fun c => isCode c || P c) = true) (h2 : ∀ c ∈ L.filter isCode, P c = true) : L.all P = true := by
  refine List.all_eq_true.mpr fun c hc => ?_
  have h := List.all_eq_true.mp h1 c hc
  rcases Bool.eq_false_or_eq_true (isCode c) with hi | hi
  · exact h2 c (List.mem_filter.mpr ⟨hc, hi⟩)
  · simpa [hi] using h
set_option maxRecDepth 65536 in
theorem w_c0 : (Jvm.Cond.code x code maxLocals ret).before args0 about1 = true := code_word (m := ⟨1, 1⟩) (meth := k1m1) (c := k1c1) (by decide +kernel) rfl rfl rfl (by decide +kernel)
set_option maxRecDepth 65536 in
theorem w_c1 : (Jvm.Cond.code ({ cls := "com/example/lachesis/lachesis/Timing", name := "hours", desc := "(ILcom/example/lachesis/lachesis/Timing$After;)Lcom/example/lachesis/lachesis/Timing;" } : Jvm.MethodName) prog_40_method_3_code (2 : Nat) (Option.some (Jvm.ClassFile.FieldType.object "com/example/lachesis/lachesis/Timing"))).before args0 about1 = true := code_word (m := ⟨7, 1⟩) (meth := k7m1) (c := k7c1) (by decide +kernel) rfl rfl rfl (by decide +kernel)
set_option maxRecDepth 65536 in
theorem w_c2 : (Jvm.Cond.code ({ cls := "com/example/lachesis/lachesis/Timing", name := "<init>", desc := "(Lcom/example/lachesis/lachesis/Timing$After;IILjava/time/DayOfWeek;)V" } : Jvm.MethodName) prog_40_method_1_code (5 : Nat) (Option.none : Option Jvm.ClassFile.FieldType)).before args0 about1 = true := code_word (m := ⟨7, 0⟩) (meth := k7m0) (c := k7c0) (by decide +kernel) rfl rfl rfl (by decide +kernel)
set_option maxRecDepth 65536 in
theorem w_c3 : (Jvm.Cond.code ({ cls := "java/lang/Object", name := "<init>", desc := "()V" } : Jvm.MethodName) object_method_1_code (1 : Nat) (Option.none : Option Jvm.ClassFile.FieldType)).before args0 about1 = true := code_word (m := ⟨0, 0⟩) (meth := k0m0) (c := k0c0) (by decide +kernel) rfl rfl rfl (by decide +kernel)
set_option maxRecDepth 65536 in
theorem w_c4 : (Jvm.Cond.code ({ cls := "com/example/lachesis/lachesis/Timing", name := "after", desc := "()Lcom/example/lachesis/lachesis/Timing$After;" } : Jvm.MethodName) prog_40_method_6_code (1 : Nat) (Option.some (Jvm.ClassFile.FieldType.object "com/example/lachesis/lachesis/Timing$After"))).before args0 about1 = true := code_word (m := ⟨7, 2⟩) (meth := k7m2) (c := k7c2) (by decide +kernel) rfl rfl rfl (by decide +kernel)
set_option maxRecDepth 65536 in
theorem w_c5 : (Jvm.Cond.code ({ cls := "com/example/lachesis/lachesis/Timing", name := "days", desc := "()I" } : Jvm.MethodName) prog_40_method_7_code (1 : Nat) (Option.some Jvm.ClassFile.FieldType.int)).before args0 about1 = true := code_word (m := ⟨7, 3⟩) (meth := k7m3) (c := k7c3) (by decide +kernel) rfl rfl rfl (by decide +kernel)
set_option maxRecDepth 65536 in
theorem w_c6 : (Jvm.Cond.code ({ cls := "com/example/lachesis/lachesis/Timing", name := "hours", desc := "()I" } : Jvm.MethodName) prog_40_method_8_code (1 : Nat) (Option.some Jvm.ClassFile.FieldType.int)).before args0 about1 = true := code_word (m := ⟨7, 4⟩) (meth := k7m4) (c := k7c4) (by decide +kernel) rfl rfl rfl (by decide +kernel)
set_option maxRecDepth 65536 in
theorem w_c7 : (Jvm.Cond.code ({ cls := "com/example/lachesis/lachesis/Timing", name := "weekday", desc := "()Ljava/time/DayOfWeek;" } : Jvm.MethodName) prog_40_method_9_code (1 : Nat) (Option.some (Jvm.ClassFile.FieldType.object "java/time/DayOfWeek"))).before args0 about1 = true := code_word (m := ⟨7, 5⟩) (meth := k7m5) (c := k7c5) (by decide +kernel) rfl rfl rfl (by decide +kernel)
set_option maxRecDepth 65536 in
theorem w_c8 : (Jvm.Cond.code ({ cls := "com/example/lachesis/lachesis/Timing", name := "nominalHours", desc := "()J" } : Jvm.MethodName) prog_40_method_10_code (1 : Nat) (Option.some Jvm.ClassFile.FieldType.long)).before args0 about1 = true := code_word (m := ⟨7, 6⟩) (meth := k7m6) (c := k7c6) (by decide +kernel) rfl rfl rfl (by decide +kernel)
def codes1 : List Jvm.Cond := [Jvm.Cond.code x code maxLocals ret, Jvm.Cond.code ({ cls := "com/example/lachesis/lachesis/Timing", name := "hours", desc := "(ILcom/example/lachesis/lachesis/Timing$After;)Lcom/example/lachesis/lachesis/Timing;" } : Jvm.MethodName) prog_40_method_3_code (2 : Nat) (Option.some (Jvm.ClassFile.FieldType.object "com/example/lachesis/lachesis/Timing")), Jvm.Cond.code ({ cls := "com/example/lachesis/lachesis/Timing", name := "<init>", desc := "(Lcom/example/lachesis/lachesis/Timing$After;IILjava/time/DayOfWeek;)V" } : Jvm.MethodName) prog_40_method_1_code (5 : Nat) (Option.none : Option Jvm.ClassFile.FieldType), Jvm.Cond.code ({ cls := "java/lang/Object", name := "<init>", desc := "()V" } : Jvm.MethodName) object_method_1_code (1 : Nat) (Option.none : Option Jvm.ClassFile.FieldType), Jvm.Cond.code ({ cls := "com/example/lachesis/lachesis/Timing", name := "after", desc := "()Lcom/example/lachesis/lachesis/Timing$After;" } : Jvm.MethodName) prog_40_method_6_code (1 : Nat) (Option.some (Jvm.ClassFile.FieldType.object "com/example/lachesis/lachesis/Timing$After")), Jvm.Cond.code ({ cls := "com/example/lachesis/lachesis/Timing", name := "days", desc := "()I" } : Jvm.MethodName) prog_40_method_7_code (1 : Nat) (Option.some Jvm.ClassFile.FieldType.int), Jvm.Cond.code ({ cls := "com/example/lachesis/lachesis/Timing", name := "hours", desc := "()I" } : Jvm.MethodName) prog_40_method_8_code (1 : Nat) (Option.some Jvm.ClassFile.FieldType.int), Jvm.Cond.code ({ cls := "com/example/lachesis/lachesis/Timing", name := "weekday", desc := "()Ljava/time/DayOfWeek;" } : Jvm.MethodName) prog_40_method_9_code (1 : Nat) (Option.some (Jvm.ClassFile.FieldType.object "java/time/DayOfWeek")), Jvm.Cond.code ({ cls := "com/example/lachesis/lachesis/Timing", name := "nominalHours", desc := "()J" } : Jvm.MethodName) prog_40_method_10_code (1 : Nat) (Option.some Jvm.ClassFile.FieldType.long)]
set_option maxRecDepth 65536 in
theorem codes_eq : words1.filter isCode = codes1 := rfl
theorem w_codes : ∀ c ∈ words1.filter isCode, c.before args0 about1 = true := by
  rw [codes_eq]
  intro c hc
  simp only [codes1, List.mem_cons, List.not_mem_nil, or_false] at hc
  rcases hc with rfl | rfl | rfl | rfl | rfl | rfl | rfl | rfl | rfl
  · exact w_c0
  · exact w_c1
  · exact w_c2
  · exact w_c3
  · exact w_c4
  · exact w_c5
  · exact w_c6
  · exact w_c7
  · exact w_c8
set_option maxRecDepth 65536 in
theorem w_t1 : (words1.take 24).all (fun c => isCode c || c.before args0 about1) = true := by decide +kernel
set_option maxRecDepth 65536 in
theorem w_t2 : ((words1.drop 24).take 24).all (fun c => isCode c || c.before args0 about1) = true := by decide +kernel
set_option maxRecDepth 65536 in
theorem w_t3 : ((words1.drop 24).drop 24).all (fun c => isCode c || c.before args0 about1) = true := by decide +kernel
theorem w_tables : (allAtoms (Jvm.Cond.code x code maxLocals ret :: tables_1)).before args0 about1 = true := by
  rw [allAtoms_all]
  show words1.all (fun c => c.before args0 about1) = true
  refine all_split ?_ w_codes
  rw [← List.take_append_drop 24 words1, List.all_append, w_t1, ← List.take_append_drop 24 (words1.drop 24), List.all_append, w_t2, w_t3]
  rfl
set_option maxRecDepth 65536 in
theorem w_case : (Jvm.Cond.and given_1 narrow_1).before args0 about1 = true := by decide +kernel
theorem w_applies : (headSpec (Jvm.Cond.code x code maxLocals ret :: tables_1) room_1).applies x e0.platform about1 = true :=
  (Spec.applies_iff w_frames).mpr ⟨w_running, w_runnable, w_alone, w_named, w_hears, w_ripe, w_room, w_tables⟩
theorem atStart : AtStart classFile x code maxLocals ret World_1 tables_1 room_1 Calls_1 rest_1 Pre_1 launch0 p0 e0 about1 theMethod args0 below0 :=
  ⟨lists_1, trivial, launch0.admits_env _ _ _, launch0.least_env, fairChoices_fair.cas, fairChoices_fair.clock, w_frames, w_args, w_heap, w_applies, trivial, trivial, w_case⟩
end start1
theorem witness_1 : WitnessClaimed_1 := ⟨start1.p0, start1.e0, start1.about1, start1.theMethod, start1.args0, start1.below0, start1.atStart⟩
end Jvm.Pilot.@@N@@
