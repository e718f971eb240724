import JvmDerived
import JvmDerived.Pilot.@@N@@Statement
import JvmDerived.Pilot.@@N@@Code
set_option linter.unusedVariables false
set_option linter.unusedSimpArgs false
namespace Jvm.RoadKit
open Sem ClassFile Op Lib Jvm.Stand Jvm.Free Jvm.LawKit
section New
variable {p : Program} {l : Launch} {e : Env} {R : Room} {s : State} {m : MethodId} {args : Array Value} {below : List Frame} {meth : Method} {c : Code} {T : State} {locs : List Loc} {cells slots : Nat}
theorem retI (X : Stand p l e R s m args below meth c T locs cells slots) (hx : p.tables.exec = Jvm.exec) {pc : Nat} {Ls : Array Slot} {z : Int32} {rest : List Value} (hret : meth.sig.returnType = some .int) (hd : decode c.code pc = .ok (.ireturn, 1)) {fs : List Frame}
    (hl : ∀ (f : JFrame) (acts : List Action), f.method = m → f.locked = none → f.entered = [] → (doReturn e (T.setTop f) acts (some (.int z))).1 = T.setFrames fs) : Steps p.tables e below (T.setTop (mkF m pc Ls (.int z :: rest))) (T.setFrames fs) := by
  have hm' : T.vm.method? m = some meth := X.method'
  have hn : narrow .int (.int z) = .int z := rfl
  show Steps p.tables e below (T.setTop { method := m, pc := pc, locals := Ls, stack := _ :: rest, locked := none }) _
  jvm_step X.here [X.here.top, hx, hd, hm', hret, hn]
  first | (intro acts; rw [hl _ acts rfl rfl rfl]) | rw [hl _ _ rfl rfl rfl]
  exact Steps.refl _
end New
end Jvm.RoadKit
namespace Jvm.Pilot.@@N@@
open Jvm Jvm.ClassFile Sem Op Lib Jvm.Free Jvm.Stand Jvm.LawKit Jvm.RoadKit Bundle Jvm.Pilot.@@N@@.Jvm.D
theorem own_ord {args : Array Value} {s : State} {t : Term} {C n d : String} {k : Int32} {x : Addr} (ht : t.eval args s none [] s = some (.ref x)) (h : (Jvm.Cond.eq (.field t C n d) (.int k)).value args s none s [] = some true) : s.fieldOf? x C n d = some (.int k) := by
  have e := fld_at (C := C) (n := n) (dd := d) ht
  simp only [Cond.value, e, Term.int_eval] at h
  cases hq : s.fieldOf? x C n d with
  | none => simp [hq] at h
  | some v => cases v <;> simp [hq] at h ⊢; exact h
theorem own_ne {s : State} {x y : Addr} {C n d : String} {j k : Int32} (hx : s.fieldOf? x C n d = some (.int j)) (hy : s.fieldOf? y C n d = some (.int k)) (h : j ≠ k) : ¬ (x = y) := fun q => by
  subst q; rw [hx] at hy; exact h (Value.int.inj (Option.some.inj hy))
theorem pn_com_example_statementforge_statementforge_KindIsIdPinLaw : plainName "com/example/statementforge/statementforge/KindIsIdPinLaw" = true := by first | (simp [plainName, overriddenIn]; done) | decide +kernel
theorem pn_com_example_statementforge_statementforge_ResultMapDefinition_Kind : plainName "com/example/statementforge/statementforge/ResultMapDefinition$Kind" = true := by first | (simp [plainName, overriddenIn]; done) | decide +kernel
theorem ef_rm1 (m : MethodId) (p0 : Addr) : entryFrame m #[(.ref p0)] 1 = mkF m 0 #[.val (.ref p0)] [] := by first | (simp [entryFrame, mkF, argsToLocals, Value.category]; done) | rfl
theorem d1_0 : decode prog_86_method_7_code 0 = .ok (.aload_n 0, 1) := by decide +kernel
theorem d1_1 : decode prog_86_method_7_code 1 = .ok (.getstatic 3, 3) := by decide +kernel
theorem d1_4 : decode prog_86_method_7_code 4 = .ok (.if_acmp .eq 10, 3) := by decide +kernel
theorem d1_14 : decode prog_86_method_7_code 14 = .ok (.iconst 1, 1) := by decide +kernel
theorem d1_15 : decode prog_86_method_7_code 15 = .ok (.goto 4, 3) := by decide +kernel
theorem d1_19 : decode prog_86_method_7_code 19 = .ok (.ireturn, 1) := by decide +kernel
theorem d1_7 : decode prog_86_method_7_code 7 = .ok (.aload_n 0, 1) := by decide +kernel
theorem d1_8 : decode prog_86_method_7_code 8 = .ok (.getstatic 16, 3) := by decide +kernel
theorem d1_11 : decode prog_86_method_7_code 11 = .ok (.if_acmp .ne 7, 3) := by decide +kernel
theorem d1_18 : decode prog_86_method_7_code 18 = .ok (.iconst 0, 1) := by decide +kernel
def Q_rm1 (Z : State) (p0 : Addr) (w0 : Addr) (w4 : Addr) (r : Int32) (h0 : Heap) (n0 : Nat) (v : Option Value) (h : Heap) (L : List Loc) : Prop := v = some (.int r) ∧ Fr n0 L ∧ h = h0
set_option maxRecDepth 65536 in
set_option maxHeartbeats 40000000 in
theorem rm1 (l : Launch) (Z : State) (a0 : Array Value) (hw : ∀ d ∈ tables_1, d.before a0 Z = true) (ws : List Jvm.Cond) (p0 : Addr) (w0 : Addr) (w4 : Addr) (r : Int32) (h0 : Heap) (n0 : Nat) (Z0 : n0 ≤ h0.size) (S_ID : Sta Z h0 "com/example/statementforge/statementforge/ResultMapDefinition$Kind" "ID" "Lcom/example/statementforge/statementforge/ResultMapDefinition$Kind;" (.ref w0)) (S_ID_ARG : Sta Z h0 "com/example/statementforge/statementforge/ResultMapDefinition$Kind" "ID_ARG" "Lcom/example/statementforge/statementforge/ResultMapDefinition$Kind;" (.ref w4)) (hres : r = if p0 = w0 ∨ p0 = w4 then 1 else 0) :
    MetFree l (⟨"com/example/statementforge/statementforge/ResultMapDefinition$Kind", "isId", "()Z"⟩ : MethodName) (head1 (Jvm.Cond.code (⟨"com/example/statementforge/statementforge/ResultMapDefinition$Kind", "isId", "()Z"⟩ : MethodName) prog_86_method_7_code 1 (some .boolean) :: ws) ({ frames := 0, cells := 0, slots := 0, locals := 0 } : Room)) (fun a U => a = #[(.ref p0)] ∧ Z.Warmed39 U.vm ∧ U.heap = h0) (fun _ _ _ _ _ => True) (fun _ U o U' => ∃ v L, o = .returned v ∧ Q_rm1 Z p0 w0 w4 r h0 n0 v U'.heap L ∧ FrameEnd U o U' L ({ frames := 0, cells := 0, slots := 0, locals := 0 } : Room).cells ({ frames := 0, cells := 0, slots := 0, locals := 0 } : Room).slots) := by
  refine MetFree.of_bodySF (plainFor_of_name pn_com_example_statementforge_statementforge_ResultMapDefinition_Kind) hisR ?_
  intro p e s m args below meth c s₁ Bd hml0 hP hK
  obtain ⟨rfl, hZ, hh⟩ := hP
  have hx := Bd.exec
  have hby := Bd.bytes
  have hml : c.maxLocals = 1 := hml0
  have hown : s.vm.findClass "com/example/statementforge/statementforge/ResultMapDefinition$Kind" = some m.cls := findClass_of_methodNamed Bd.named
  have hnm := (name_of_methodNamed Bd.named Bd.method).1
  have X0 : Stand p l e ({ frames := 0, cells := 0, slots := 0, locals := 0 } : Room) s m #[(.ref p0)] below meth c s₁ [] 0 0 := Stand.of_body Bd
  have e0 : s₁.heap = h0 := by rw [← hh, Bd.state]; rfl
  have N0 := Fr.nil n0
  have pre0 : ∀ t, Steps p.tables e below (s₁.setTop (mkF m 0 #[.val (.ref p0)] [])) t → Steps p.tables e below (s₁.setTop (entryFrame m #[(.ref p0)] 1)) t := fun t k => castTop (ef_rm1 m p0 ) k
  obtain ⟨T1, X1, e1, st1⟩ := getS2 X0 hx hZ hown (host := "") (Or.inl (hw _ (List.mem_of_getElem? (i := 9) rfl))) Via.refl e0 S_ID (g := (mkF m 1 #[.val (.ref p0)] [(.ref p0)])) rfl (hb hby d1_1)
  have pre3 : ∀ t, Steps p.tables e below (T1.setTop (mkF m 4 #[.val (.ref p0)] [(.ref w0), (.ref p0)])) t → Steps p.tables e below (s₁.setTop (entryFrame m #[(.ref p0)] 1)) t := fun t kt => pre0 t (by
    show Steps p.tables e below (s₁.setTop (mkF m 0 #[.val (.ref p0)] [])) _
    refine XS.aloadN X0.here hx rfl (hb hby d1_0) rfl rfl ?_
    show Steps p.tables e below (s₁.setTop (mkF m 1 #[.val (.ref p0)] [(.ref p0)])) _
    refine st1 _ ?_
    exact kt)
  by_cases hc4_2 : p0 = w0
  · obtain ⟨fs, hr, hrun, hended, hW, hsame⟩ := X1.leave (v := some (.int (1 : Int32))) (fun h => by rw [Bd.returns] at h; cases h)
    refine ⟨_, _, pre3 _ ?_, hrun, hended, _, _, rfl, ?_, ⟨_, rfl⟩, hW, hsame.mono (by decide) (by decide)⟩
    · show Steps p.tables e below (T1.setTop (mkF m 4 #[.val (.ref p0)] [(.ref w0), (.ref p0)])) _
      refine Jvm.RoadKit.acmp (g := (mkF m 4 #[.val (.ref p0)] [(.ref w0), (.ref p0)])) X1 hx rfl rfl rfl (pc0 := 4) (pc' := 14) (same := true) rfl (hb hby d1_4) rfl (decide_eq_true (congrArg Value.ref hc4_2)) (by decide) (by decide) ?_
      show Steps p.tables e below (T1.setTop (mkF m 14 #[.val (.ref p0)] [])) _
      refine XS.iconst X1.here hx rfl (hb hby d1_14) ?_
      show Steps p.tables e below (T1.setTop (mkF m 15 #[.val (.ref p0)] [(.int (1 : Int32))])) _
      refine XS.goto X1.here hx rfl (pc0 := 15) (pc' := 19) rfl (hb hby d1_15) (by decide) (by decide) ?_
      show Steps p.tables e below (T1.setTop (mkF m 19 #[.val (.ref p0)] [(.int (1 : Int32))])) _
      exact retN X1 hx (t := .boolean) Bd.returns (by simp) (hb hby d1_19) hr
    · show Q_rm1 Z p0 w0 w4 r h0 n0 _ T1.heap _
      rw [e1]
      exact ⟨by rw [hres, if_pos (Or.inl hc4_2)], N0, rfl⟩
  · obtain ⟨T4, X4, e4, st4⟩ := getS2 X1 hx hZ hown (host := "") (Or.inl (hw _ (List.mem_of_getElem? (i := 12) rfl))) Via.refl e1 S_ID_ARG (g := (mkF m 8 #[.val (.ref p0)] [(.ref p0)])) rfl (hb hby d1_8)
    have pre6 : ∀ t, Steps p.tables e below (T4.setTop (mkF m 11 #[.val (.ref p0)] [(.ref w4), (.ref p0)])) t → Steps p.tables e below (s₁.setTop (entryFrame m #[(.ref p0)] 1)) t := fun t kt => pre3 t (by
      show Steps p.tables e below (T1.setTop (mkF m 4 #[.val (.ref p0)] [(.ref w0), (.ref p0)])) _
      refine Jvm.RoadKit.acmp (g := (mkF m 4 #[.val (.ref p0)] [(.ref w0), (.ref p0)])) X1 hx rfl rfl rfl (pc0 := 4) (pc' := 7) (same := false) rfl (hb hby d1_4) rfl (decide_eq_false fun q => hc4_2 (Value.ref.inj q)) (by decide) (by decide) ?_
      show Steps p.tables e below (T1.setTop (mkF m 7 #[.val (.ref p0)] [])) _
      refine XS.aloadN X1.here hx rfl (hb hby d1_7) rfl rfl ?_
      show Steps p.tables e below (T1.setTop (mkF m 8 #[.val (.ref p0)] [(.ref p0)])) _
      refine st4 _ ?_
      exact kt)
    by_cases hc11_5 : p0 = w4
    · obtain ⟨fs, hr, hrun, hended, hW, hsame⟩ := X4.leave (v := some (.int (1 : Int32))) (fun h => by rw [Bd.returns] at h; cases h)
      refine ⟨_, _, pre6 _ ?_, hrun, hended, _, _, rfl, ?_, ⟨_, rfl⟩, hW, hsame.mono (by decide) (by decide)⟩
      · show Steps p.tables e below (T4.setTop (mkF m 11 #[.val (.ref p0)] [(.ref w4), (.ref p0)])) _
        refine Jvm.RoadKit.acmp (g := (mkF m 11 #[.val (.ref p0)] [(.ref w4), (.ref p0)])) X4 hx rfl rfl rfl (pc0 := 11) (pc' := 14) (same := true) rfl (hb hby d1_11) rfl (decide_eq_true (congrArg Value.ref hc11_5)) (by decide) (by decide) ?_
        show Steps p.tables e below (T4.setTop (mkF m 14 #[.val (.ref p0)] [])) _
        refine XS.iconst X4.here hx rfl (hb hby d1_14) ?_
        show Steps p.tables e below (T4.setTop (mkF m 15 #[.val (.ref p0)] [(.int (1 : Int32))])) _
        refine XS.goto X4.here hx rfl (pc0 := 15) (pc' := 19) rfl (hb hby d1_15) (by decide) (by decide) ?_
        show Steps p.tables e below (T4.setTop (mkF m 19 #[.val (.ref p0)] [(.int (1 : Int32))])) _
        exact retN X4 hx (t := .boolean) Bd.returns (by simp) (hb hby d1_19) hr
      · show Q_rm1 Z p0 w0 w4 r h0 n0 _ T4.heap _
        rw [e4]
        exact ⟨by rw [hres, if_pos (Or.inr hc11_5)], N0, rfl⟩
    · obtain ⟨fs, hr, hrun, hended, hW, hsame⟩ := X4.leave (v := some (.int (0 : Int32))) (fun h => by rw [Bd.returns] at h; cases h)
      refine ⟨_, _, pre6 _ ?_, hrun, hended, _, _, rfl, ?_, ⟨_, rfl⟩, hW, hsame.mono (by decide) (by decide)⟩
      · show Steps p.tables e below (T4.setTop (mkF m 11 #[.val (.ref p0)] [(.ref w4), (.ref p0)])) _
        refine Jvm.RoadKit.acmp (g := (mkF m 11 #[.val (.ref p0)] [(.ref w4), (.ref p0)])) X4 hx rfl rfl rfl (pc0 := 11) (pc' := 18) (same := false) rfl (hb hby d1_11) rfl (decide_eq_false fun q => hc11_5 (Value.ref.inj q)) (by decide) (by decide) ?_
        show Steps p.tables e below (T4.setTop (mkF m 18 #[.val (.ref p0)] [])) _
        refine XS.iconst X4.here hx rfl (hb hby d1_18) ?_
        show Steps p.tables e below (T4.setTop (mkF m 19 #[.val (.ref p0)] [(.int (0 : Int32))])) _
        exact retN X4 hx (t := .boolean) Bd.returns (by simp) (hb hby d1_19) hr
      · show Q_rm1 Z p0 w0 w4 r h0 n0 _ T4.heap _
        rw [e4]
        exact ⟨by rw [hres, if_neg (fun q => q.elim hc4_2 hc11_5)], N0, rfl⟩
theorem ef_rm0 (m : MethodId) (p0 : Int32) : entryFrame m #[(.int p0)] maxLocals = mkF m 0 #[.val (.int p0), .unset, .unset, .unset] [] := by first | (simp [entryFrame, mkF, argsToLocals, Value.category, maxLocals]; done) | rfl
theorem pd___Z : parseMethodDescriptor "()Z" = some ⟨[], some .boolean⟩ := by decide +kernel
def Q_rm0 (Z : State) (p0 : Int32) (w0 : Addr) (w1 : Addr) (w2 : Addr) (w3 : Addr) (w4 : Addr) (w5 : Addr) (h0 : Heap) (n0 : Nat) (v : Option Value) (h : Heap) (L : List Loc) : Prop := v = some (.int (1 : Int32)) ∧ Fr n0 L
set_option maxRecDepth 65536 in
set_option maxHeartbeats 40000000 in
theorem rm0 (l : Launch) (Z : State) (a0 : Array Value) (hw : ∀ d ∈ tables_1, d.before a0 Z = true) (ws : List Jvm.Cond) (p0 : Int32) (w0 : Addr) (w1 : Addr) (w2 : Addr) (w3 : Addr) (w4 : Addr) (w5 : Addr) (h0 : Heap) (n0 : Nat) (Z0 : n0 ≤ h0.size) (S_ID : Sta Z h0 "com/example/statementforge/statementforge/ResultMapDefinition$Kind" "ID" "Lcom/example/statementforge/statementforge/ResultMapDefinition$Kind;" (.ref w0)) (S_RESULT : Sta Z h0 "com/example/statementforge/statementforge/ResultMapDefinition$Kind" "RESULT" "Lcom/example/statementforge/statementforge/ResultMapDefinition$Kind;" (.ref w1)) (S_ASSOCIATION : Sta Z h0 "com/example/statementforge/statementforge/ResultMapDefinition$Kind" "ASSOCIATION" "Lcom/example/statementforge/statementforge/ResultMapDefinition$Kind;" (.ref w2)) (S_COLLECTION : Sta Z h0 "com/example/statementforge/statementforge/ResultMapDefinition$Kind" "COLLECTION" "Lcom/example/statementforge/statementforge/ResultMapDefinition$Kind;" (.ref w3)) (S_ID_ARG : Sta Z h0 "com/example/statementforge/statementforge/ResultMapDefinition$Kind" "ID_ARG" "Lcom/example/statementforge/statementforge/ResultMapDefinition$Kind;" (.ref w4)) (S_ARG : Sta Z h0 "com/example/statementforge/statementforge/ResultMapDefinition$Kind" "ARG" "Lcom/example/statementforge/statementforge/ResultMapDefinition$Kind;" (.ref w5)) (E_ID : Exa Z h0 w0 "com/example/statementforge/statementforge/ResultMapDefinition$Kind") (E_RESULT : Exa Z h0 w1 "com/example/statementforge/statementforge/ResultMapDefinition$Kind") (E_ASSOCIATION : Exa Z h0 w2 "com/example/statementforge/statementforge/ResultMapDefinition$Kind") (E_COLLECTION : Exa Z h0 w3 "com/example/statementforge/statementforge/ResultMapDefinition$Kind") (E_ID_ARG : Exa Z h0 w4 "com/example/statementforge/statementforge/ResultMapDefinition$Kind") (E_ARG : Exa Z h0 w5 "com/example/statementforge/statementforge/ResultMapDefinition$Kind") (h_RESULT_ID : ¬ (w1 = w0)) (h_RESULT_ID_ARG : ¬ (w1 = w4)) (h_ASSOCIATION_ID : ¬ (w2 = w0)) (h_ASSOCIATION_ID_ARG : ¬ (w2 = w4)) (h_COLLECTION_ID : ¬ (w3 = w0)) (h_COLLECTION_ID_ARG : ¬ (w3 = w4)) (h_ARG_ID : ¬ (w5 = w0)) (h_ARG_ID_ARG : ¬ (w5 = w4)) :
    MetFree l x (head1 (Jvm.Cond.code x code maxLocals ret :: ws) room_1) (fun a U => a = #[(.int p0)] ∧ Z.Warmed39 U.vm ∧ U.heap = h0) (fun _ _ _ _ _ => True) (fun _ U o U' => ∃ v L, o = .returned v ∧ Q_rm0 Z p0 w0 w1 w2 w3 w4 w5 h0 n0 v U'.heap L ∧ FrameEnd U o U' L room_1.cells room_1.slots) := by
  refine MetFree.of_bodySF (plainFor_of_name pn_com_example_statementforge_statementforge_KindIsIdPinLaw) hisR ?_
  intro p e s m args below meth c s₁ Bd hml0 hP hK
  obtain ⟨rfl, hZ, hh⟩ := hP
  have hx := Bd.exec
  have hby := Bd.bytes
  have hml : c.maxLocals = 4 := hml0
  have hown : s.vm.findClass "com/example/statementforge/statementforge/KindIsIdPinLaw" = some m.cls := findClass_of_methodNamed Bd.named
  have hnm := (name_of_methodNamed Bd.named Bd.method).1
  have X0 : Stand p l e room_1 s m #[(.int p0)] below meth c s₁ [] 0 0 := Stand.of_body Bd
  have e0 : s₁.heap = h0 := by rw [← hh, Bd.state]; rfl
  have N0 := Fr.nil n0
  have pre0 : ∀ t, Steps p.tables e below (s₁.setTop (mkF m 0 #[.val (.int p0), .unset, .unset, .unset] [])) t → Steps p.tables e below (s₁.setTop (entryFrame m #[(.int p0)] maxLocals)) t := fun t k => castTop (ef_rm0 m p0 ) k
  have pre2 : ∀ t, Steps p.tables e below (s₁.setTop (mkF m 9 #[.val (.int p0), .val (.int ((p0 &&& (2147483647 : Int32)) % (6 : Int32))), .unset, .unset] [(.int ((p0 &&& (2147483647 : Int32)) % (6 : Int32)))])) t → Steps p.tables e below (s₁.setTop (entryFrame m #[(.int p0)] maxLocals)) t := fun t kt => pre0 t (by
    show Steps p.tables e below (s₁.setTop (mkF m 0 #[.val (.int p0), .unset, .unset, .unset] [])) _
    refine XS.iloadN X0.here hx rfl (hb hby at_0) rfl  ?_
    show Steps p.tables e below (s₁.setTop (mkF m 1 #[.val (.int p0), .unset, .unset, .unset] [(.int p0)])) _
    refine X0.ldcInt hx hown (mvT hZ (hw _ (List.mem_of_getElem? (i := 0) rfl))) (g := (mkF m 1 #[.val (.int p0), .unset, .unset, .unset] [(.int p0)])) rfl (hb hby at_1) _ ?_
    show Steps p.tables e below (s₁.setTop (mkF m 3 #[.val (.int p0), .unset, .unset, .unset] [(.int (2147483647 : Int32)), (.int p0)])) _
    refine XS.iand X0.here hx rfl (hb hby at_3) rfl ?_
    show Steps p.tables e below (s₁.setTop (mkF m 4 #[.val (.int p0), .unset, .unset, .unset] [(.int (p0 &&& (2147483647 : Int32)))])) _
    refine XS.bipush X0.here hx rfl (hb hby at_4) ?_
    show Steps p.tables e below (s₁.setTop (mkF m 6 #[.val (.int p0), .unset, .unset, .unset] [(.int (6 : Int32)), (.int (p0 &&& (2147483647 : Int32)))])) _
    refine Jvm.RoadKit.iremM X0 hx rfl (hb hby at_6) rfl (by decide) ?_
    show Steps p.tables e below (s₁.setTop (mkF m 7 #[.val (.int p0), .unset, .unset, .unset] [(.int ((p0 &&& (2147483647 : Int32)) % (6 : Int32)))])) _
    refine XS.istoreN X0.here hx rfl (hb hby at_7) rfl (l' := #[.val (.int p0), .val (.int ((p0 &&& (2147483647 : Int32)) % (6 : Int32))), .unset, .unset]) rfl ?_
    show Steps p.tables e below (s₁.setTop (mkF m 8 #[.val (.int p0), .val (.int ((p0 &&& (2147483647 : Int32)) % (6 : Int32))), .unset, .unset] [])) _
    refine XS.iloadN X0.here hx rfl (hb hby at_8) rfl  ?_
    exact kt)
  by_cases hc9_1 : ((p0 &&& (2147483647 : Int32)) % (6 : Int32)) = (0 : Int32)
  · obtain ⟨T3, X3, e3, st3⟩ := getS2 X0 hx hZ hown (host := "") (Or.inl (hw _ (List.mem_of_getElem? (i := 1) rfl))) Via.refl e0 S_ID (g := (mkF m 12 #[.val (.int p0), .val (.int ((p0 &&& (2147483647 : Int32)) % (6 : Int32))), .unset, .unset] [])) rfl (hb hby at_12)
    obtain ⟨cq4, kq4, q4a, q4b, q4c⟩ := isOf hZ e3 E_ID
    obtain ⟨_, _, ⟨T4, L4, k4, n4⟩, -, X4, ⟨Lc4, hQ4, l4, y4, z4⟩, st4⟩ := X3.virtualBack hx (y := (⟨"com/example/statementforge/statementforge/ResultMapDefinition$Kind", "isId", "()Z"⟩ : MethodName)) (z := (⟨"com/example/statementforge/statementforge/ResultMapDefinition$Kind", "isId", "()Z"⟩ : MethodName)) hown (mvT hZ (hw _ (List.mem_of_getElem? (i := 4) rfl))) (mvT hZ (hw _ (List.mem_of_getElem? (i := 5) rfl))) (notFace_of_selects (args := #[]) (mvT hZ (hw _ (List.mem_of_getElem? (i := 7) rfl)))) (mvT hZ (hw _ (List.mem_of_getElem? (i := 7) rfl))) (mvT hZ (hw _ (List.mem_of_getElem? (i := 6) rfl))) (by decide) (backOf (W := 0) (rm1 l Z a0 hw [] w0 w0 w4 (1 : Int32) h0 n0 Z0 S_ID S_ID_ARG (if_pos (Or.inl rfl)).symm) hZ (hw _ (List.mem_of_getElem? (i := 8) rfl)) (hw _ (List.mem_of_getElem? (i := 2) rfl)) (by decide) (by decide)) q4a q4c (g := (mkF m 84 #[.val (.int p0), .val (.int ((p0 &&& (2147483647 : Int32)) % (6 : Int32))), .val (.ref w0), .val (.int (1 : Int32))] [(.ref w0)])) rfl (by rw [hml]; rfl) (Steps.refl _) (argsL := []) (rest := []) (lenOf pd___Z rfl) rfl (by show 2 * 0 + _ ≤ _; exact Nat.le_of_eq rfl) (hb hby at_84) (fun _ _ => ⟨rfl, e3, (by decide : 0 + 0 ≤ _), (by decide : 0 + 0 ≤ _)⟩)
    dsimp only [Pt.U, Pt.locs, Pt.cells, Pt.slots] at X4 l4 y4 z4 st4 hQ4
    subst l4 y4 z4
    obtain ⟨rfl, Nq4, e4⟩ := hQ4
    have N4 := Fr.app N0 Nq4
    obtain ⟨fs, hr, hrun, hended, hW, hsame⟩ := X4.leave (v := some (.int (1 : Int32))) (fun h => by rw [Bd.returns] at h; cases h)
    refine ⟨_, _, pre2 _ ?_, hrun, hended, _, _, rfl, ?_, ⟨_, rfl⟩, hW, hsame.mono (by decide) (by decide)⟩
    · show Steps p.tables e below (s₁.setTop (mkF m 9 #[.val (.int p0), .val (.int ((p0 &&& (2147483647 : Int32)) % (6 : Int32))), .unset, .unset] [(.int ((p0 &&& (2147483647 : Int32)) % (6 : Int32)))])) _
      refine XS.ifNo X0.here hx rfl (hb hby at_9) rfl ((if0 _ _).trans (teq hc9_1).2) ?_
      show Steps p.tables e below (s₁.setTop (mkF m 12 #[.val (.int p0), .val (.int ((p0 &&& (2147483647 : Int32)) % (6 : Int32))), .unset, .unset] [])) _
      refine st3 _ ?_
      show Steps p.tables e below (T3.setTop (mkF m 15 #[.val (.int p0), .val (.int ((p0 &&& (2147483647 : Int32)) % (6 : Int32))), .unset, .unset] [(.ref w0)])) _
      refine XS.astoreN X3.here hx rfl (hb hby at_15) rfl rfl (l' := #[.val (.int p0), .val (.int ((p0 &&& (2147483647 : Int32)) % (6 : Int32))), .val (.ref w0), .unset]) rfl ?_
      show Steps p.tables e below (T3.setTop (mkF m 16 #[.val (.int p0), .val (.int ((p0 &&& (2147483647 : Int32)) % (6 : Int32))), .val (.ref w0), .unset] [])) _
      refine XS.iconst X3.here hx rfl (hb hby at_16) ?_
      show Steps p.tables e below (T3.setTop (mkF m 17 #[.val (.int p0), .val (.int ((p0 &&& (2147483647 : Int32)) % (6 : Int32))), .val (.ref w0), .unset] [(.int (1 : Int32))])) _
      refine XS.istoreN X3.here hx rfl (hb hby at_17) rfl (l' := #[.val (.int p0), .val (.int ((p0 &&& (2147483647 : Int32)) % (6 : Int32))), .val (.ref w0), .val (.int (1 : Int32))]) rfl ?_
      show Steps p.tables e below (T3.setTop (mkF m 18 #[.val (.int p0), .val (.int ((p0 &&& (2147483647 : Int32)) % (6 : Int32))), .val (.ref w0), .val (.int (1 : Int32))] [])) _
      refine XS.goto X3.here hx rfl (pc0 := 18) (pc' := 83) rfl (hb hby at_18) (by decide) (by decide) ?_
      show Steps p.tables e below (T3.setTop (mkF m 83 #[.val (.int p0), .val (.int ((p0 &&& (2147483647 : Int32)) % (6 : Int32))), .val (.ref w0), .val (.int (1 : Int32))] [])) _
      refine XS.aloadN X3.here hx rfl (hb hby at_83) rfl rfl ?_
      show Steps p.tables e below (T3.setTop (mkF m 84 #[.val (.int p0), .val (.int ((p0 &&& (2147483647 : Int32)) % (6 : Int32))), .val (.ref w0), .val (.int (1 : Int32))] [(.ref w0)])) _
      refine st4.trans ?_
      show Steps p.tables e below (T4.setTop (mkF m 87 #[.val (.int p0), .val (.int ((p0 &&& (2147483647 : Int32)) % (6 : Int32))), .val (.ref w0), .val (.int (1 : Int32))] [(.int (1 : Int32))])) _
      refine XS.iloadN X4.here hx rfl (hb hby at_87) rfl  ?_
      show Steps p.tables e below (T4.setTop (mkF m 88 #[.val (.int p0), .val (.int ((p0 &&& (2147483647 : Int32)) % (6 : Int32))), .val (.ref w0), .val (.int (1 : Int32))] [(.int (1 : Int32)), (.int (1 : Int32))])) _
      refine XS.icmpNo X4.here hx rfl (hb hby at_88) rfl (teq (by decide : (1 : Int32) = (1 : Int32))).2 ?_
      show Steps p.tables e below (T4.setTop (mkF m 91 #[.val (.int p0), .val (.int ((p0 &&& (2147483647 : Int32)) % (6 : Int32))), .val (.ref w0), .val (.int (1 : Int32))] [])) _
      refine XS.iconst X4.here hx rfl (hb hby at_91) ?_
      show Steps p.tables e below (T4.setTop (mkF m 92 #[.val (.int p0), .val (.int ((p0 &&& (2147483647 : Int32)) % (6 : Int32))), .val (.ref w0), .val (.int (1 : Int32))] [(.int (1 : Int32))])) _
      refine XS.goto X4.here hx rfl (pc0 := 92) (pc' := 96) rfl (hb hby at_92) (by decide) (by decide) ?_
      show Steps p.tables e below (T4.setTop (mkF m 96 #[.val (.int p0), .val (.int ((p0 &&& (2147483647 : Int32)) % (6 : Int32))), .val (.ref w0), .val (.int (1 : Int32))] [(.int (1 : Int32))])) _
      exact retN X4 hx (t := .boolean) Bd.returns (by simp) (hb hby at_96) hr
    · show Q_rm0 Z p0 w0 w1 w2 w3 w4 w5 h0 n0 _ T4.heap _
      rw [e4]
      exact ⟨rfl, N4⟩
  · have pre6 : ∀ t, Steps p.tables e below (s₁.setTop (mkF m 23 #[.val (.int p0), .val (.int ((p0 &&& (2147483647 : Int32)) % (6 : Int32))), .unset, .unset] [(.int (1 : Int32)), (.int ((p0 &&& (2147483647 : Int32)) % (6 : Int32)))])) t → Steps p.tables e below (s₁.setTop (entryFrame m #[(.int p0)] maxLocals)) t := fun t kt => pre2 t (by
      show Steps p.tables e below (s₁.setTop (mkF m 9 #[.val (.int p0), .val (.int ((p0 &&& (2147483647 : Int32)) % (6 : Int32))), .unset, .unset] [(.int ((p0 &&& (2147483647 : Int32)) % (6 : Int32)))])) _
      refine XS.ifYes X0.here hx rfl (pc0 := 9) (pc' := 21) rfl (hb hby at_9) rfl ((if0 _ _).trans (feq hc9_1).2) (by decide) (by decide) ?_
      show Steps p.tables e below (s₁.setTop (mkF m 21 #[.val (.int p0), .val (.int ((p0 &&& (2147483647 : Int32)) % (6 : Int32))), .unset, .unset] [])) _
      refine XS.iloadN X0.here hx rfl (hb hby at_21) rfl  ?_
      show Steps p.tables e below (s₁.setTop (mkF m 22 #[.val (.int p0), .val (.int ((p0 &&& (2147483647 : Int32)) % (6 : Int32))), .unset, .unset] [(.int ((p0 &&& (2147483647 : Int32)) % (6 : Int32)))])) _
      refine XS.iconst X0.here hx rfl (hb hby at_22) ?_
      exact kt)
    by_cases hc23_5 : ((p0 &&& (2147483647 : Int32)) % (6 : Int32)) = (1 : Int32)
    · obtain ⟨T7, X7, e7, st7⟩ := getS2 X0 hx hZ hown (host := "") (Or.inl (hw _ (List.mem_of_getElem? (i := 16) rfl))) Via.refl e0 S_RESULT (g := (mkF m 26 #[.val (.int p0), .val (.int ((p0 &&& (2147483647 : Int32)) % (6 : Int32))), .unset, .unset] [])) rfl (hb hby at_26)
      obtain ⟨cq8, kq8, q8a, q8b, q8c⟩ := isOf hZ e7 E_RESULT
      obtain ⟨_, _, ⟨T8, L8, k8, n8⟩, -, X8, ⟨Lc8, hQ8, l8, y8, z8⟩, st8⟩ := X7.virtualBack hx (y := (⟨"com/example/statementforge/statementforge/ResultMapDefinition$Kind", "isId", "()Z"⟩ : MethodName)) (z := (⟨"com/example/statementforge/statementforge/ResultMapDefinition$Kind", "isId", "()Z"⟩ : MethodName)) hown (mvT hZ (hw _ (List.mem_of_getElem? (i := 4) rfl))) (mvT hZ (hw _ (List.mem_of_getElem? (i := 5) rfl))) (notFace_of_selects (args := #[]) (mvT hZ (hw _ (List.mem_of_getElem? (i := 7) rfl)))) (mvT hZ (hw _ (List.mem_of_getElem? (i := 7) rfl))) (mvT hZ (hw _ (List.mem_of_getElem? (i := 6) rfl))) (by decide) (backOf (W := 0) (rm1 l Z a0 hw [] w1 w0 w4 (0 : Int32) h0 n0 Z0 S_ID S_ID_ARG (if_neg (fun q => q.elim h_RESULT_ID h_RESULT_ID_ARG)).symm) hZ (hw _ (List.mem_of_getElem? (i := 8) rfl)) (hw _ (List.mem_of_getElem? (i := 2) rfl)) (by decide) (by decide)) q8a q8c (g := (mkF m 84 #[.val (.int p0), .val (.int ((p0 &&& (2147483647 : Int32)) % (6 : Int32))), .val (.ref w1), .val (.int (0 : Int32))] [(.ref w1)])) rfl (by rw [hml]; rfl) (Steps.refl _) (argsL := []) (rest := []) (lenOf pd___Z rfl) rfl (by show 2 * 0 + _ ≤ _; exact Nat.le_of_eq rfl) (hb hby at_84) (fun _ _ => ⟨rfl, e7, (by decide : 0 + 0 ≤ _), (by decide : 0 + 0 ≤ _)⟩)
      dsimp only [Pt.U, Pt.locs, Pt.cells, Pt.slots] at X8 l8 y8 z8 st8 hQ8
      subst l8 y8 z8
      obtain ⟨rfl, Nq8, e8⟩ := hQ8
      have N8 := Fr.app N0 Nq8
      obtain ⟨fs, hr, hrun, hended, hW, hsame⟩ := X8.leave (v := some (.int (1 : Int32))) (fun h => by rw [Bd.returns] at h; cases h)
      refine ⟨_, _, pre6 _ ?_, hrun, hended, _, _, rfl, ?_, ⟨_, rfl⟩, hW, hsame.mono (by decide) (by decide)⟩
      · show Steps p.tables e below (s₁.setTop (mkF m 23 #[.val (.int p0), .val (.int ((p0 &&& (2147483647 : Int32)) % (6 : Int32))), .unset, .unset] [(.int (1 : Int32)), (.int ((p0 &&& (2147483647 : Int32)) % (6 : Int32)))])) _
        refine XS.icmpNo X0.here hx rfl (hb hby at_23) rfl (teq hc23_5).2 ?_
        show Steps p.tables e below (s₁.setTop (mkF m 26 #[.val (.int p0), .val (.int ((p0 &&& (2147483647 : Int32)) % (6 : Int32))), .unset, .unset] [])) _
        refine st7 _ ?_
        show Steps p.tables e below (T7.setTop (mkF m 29 #[.val (.int p0), .val (.int ((p0 &&& (2147483647 : Int32)) % (6 : Int32))), .unset, .unset] [(.ref w1)])) _
        refine XS.astoreN X7.here hx rfl (hb hby at_29) rfl rfl (l' := #[.val (.int p0), .val (.int ((p0 &&& (2147483647 : Int32)) % (6 : Int32))), .val (.ref w1), .unset]) rfl ?_
        show Steps p.tables e below (T7.setTop (mkF m 30 #[.val (.int p0), .val (.int ((p0 &&& (2147483647 : Int32)) % (6 : Int32))), .val (.ref w1), .unset] [])) _
        refine XS.iconst X7.here hx rfl (hb hby at_30) ?_
        show Steps p.tables e below (T7.setTop (mkF m 31 #[.val (.int p0), .val (.int ((p0 &&& (2147483647 : Int32)) % (6 : Int32))), .val (.ref w1), .unset] [(.int (0 : Int32))])) _
        refine XS.istoreN X7.here hx rfl (hb hby at_31) rfl (l' := #[.val (.int p0), .val (.int ((p0 &&& (2147483647 : Int32)) % (6 : Int32))), .val (.ref w1), .val (.int (0 : Int32))]) rfl ?_
        show Steps p.tables e below (T7.setTop (mkF m 32 #[.val (.int p0), .val (.int ((p0 &&& (2147483647 : Int32)) % (6 : Int32))), .val (.ref w1), .val (.int (0 : Int32))] [])) _
        refine XS.goto X7.here hx rfl (pc0 := 32) (pc' := 83) rfl (hb hby at_32) (by decide) (by decide) ?_
        show Steps p.tables e below (T7.setTop (mkF m 83 #[.val (.int p0), .val (.int ((p0 &&& (2147483647 : Int32)) % (6 : Int32))), .val (.ref w1), .val (.int (0 : Int32))] [])) _
        refine XS.aloadN X7.here hx rfl (hb hby at_83) rfl rfl ?_
        show Steps p.tables e below (T7.setTop (mkF m 84 #[.val (.int p0), .val (.int ((p0 &&& (2147483647 : Int32)) % (6 : Int32))), .val (.ref w1), .val (.int (0 : Int32))] [(.ref w1)])) _
        refine st8.trans ?_
        show Steps p.tables e below (T8.setTop (mkF m 87 #[.val (.int p0), .val (.int ((p0 &&& (2147483647 : Int32)) % (6 : Int32))), .val (.ref w1), .val (.int (0 : Int32))] [(.int (0 : Int32))])) _
        refine XS.iloadN X8.here hx rfl (hb hby at_87) rfl  ?_
        show Steps p.tables e below (T8.setTop (mkF m 88 #[.val (.int p0), .val (.int ((p0 &&& (2147483647 : Int32)) % (6 : Int32))), .val (.ref w1), .val (.int (0 : Int32))] [(.int (0 : Int32)), (.int (0 : Int32))])) _
        refine XS.icmpNo X8.here hx rfl (hb hby at_88) rfl (teq (by decide : (0 : Int32) = (0 : Int32))).2 ?_
        show Steps p.tables e below (T8.setTop (mkF m 91 #[.val (.int p0), .val (.int ((p0 &&& (2147483647 : Int32)) % (6 : Int32))), .val (.ref w1), .val (.int (0 : Int32))] [])) _
        refine XS.iconst X8.here hx rfl (hb hby at_91) ?_
        show Steps p.tables e below (T8.setTop (mkF m 92 #[.val (.int p0), .val (.int ((p0 &&& (2147483647 : Int32)) % (6 : Int32))), .val (.ref w1), .val (.int (0 : Int32))] [(.int (1 : Int32))])) _
        refine XS.goto X8.here hx rfl (pc0 := 92) (pc' := 96) rfl (hb hby at_92) (by decide) (by decide) ?_
        show Steps p.tables e below (T8.setTop (mkF m 96 #[.val (.int p0), .val (.int ((p0 &&& (2147483647 : Int32)) % (6 : Int32))), .val (.ref w1), .val (.int (0 : Int32))] [(.int (1 : Int32))])) _
        exact retN X8 hx (t := .boolean) Bd.returns (by simp) (hb hby at_96) hr
      · show Q_rm0 Z p0 w0 w1 w2 w3 w4 w5 h0 n0 _ T8.heap _
        rw [e8]
        exact ⟨rfl, N8⟩
    · have pre10 : ∀ t, Steps p.tables e below (s₁.setTop (mkF m 37 #[.val (.int p0), .val (.int ((p0 &&& (2147483647 : Int32)) % (6 : Int32))), .unset, .unset] [(.int (2 : Int32)), (.int ((p0 &&& (2147483647 : Int32)) % (6 : Int32)))])) t → Steps p.tables e below (s₁.setTop (entryFrame m #[(.int p0)] maxLocals)) t := fun t kt => pre6 t (by
        show Steps p.tables e below (s₁.setTop (mkF m 23 #[.val (.int p0), .val (.int ((p0 &&& (2147483647 : Int32)) % (6 : Int32))), .unset, .unset] [(.int (1 : Int32)), (.int ((p0 &&& (2147483647 : Int32)) % (6 : Int32)))])) _
        refine XS.icmpYes X0.here hx rfl (pc0 := 23) (pc' := 35) rfl (hb hby at_23) rfl (feq hc23_5).2 (by decide) (by decide) ?_
        show Steps p.tables e below (s₁.setTop (mkF m 35 #[.val (.int p0), .val (.int ((p0 &&& (2147483647 : Int32)) % (6 : Int32))), .unset, .unset] [])) _
        refine XS.iloadN X0.here hx rfl (hb hby at_35) rfl  ?_
        show Steps p.tables e below (s₁.setTop (mkF m 36 #[.val (.int p0), .val (.int ((p0 &&& (2147483647 : Int32)) % (6 : Int32))), .unset, .unset] [(.int ((p0 &&& (2147483647 : Int32)) % (6 : Int32)))])) _
        refine XS.iconst X0.here hx rfl (hb hby at_36) ?_
        exact kt)
      by_cases hc37_9 : ((p0 &&& (2147483647 : Int32)) % (6 : Int32)) = (2 : Int32)
      · obtain ⟨T11, X11, e11, st11⟩ := getS2 X0 hx hZ hown (host := "") (Or.inl (hw _ (List.mem_of_getElem? (i := 14) rfl))) Via.refl e0 S_ASSOCIATION (g := (mkF m 40 #[.val (.int p0), .val (.int ((p0 &&& (2147483647 : Int32)) % (6 : Int32))), .unset, .unset] [])) rfl (hb hby at_40)
        obtain ⟨cq12, kq12, q12a, q12b, q12c⟩ := isOf hZ e11 E_ASSOCIATION
        obtain ⟨_, _, ⟨T12, L12, k12, n12⟩, -, X12, ⟨Lc12, hQ12, l12, y12, z12⟩, st12⟩ := X11.virtualBack hx (y := (⟨"com/example/statementforge/statementforge/ResultMapDefinition$Kind", "isId", "()Z"⟩ : MethodName)) (z := (⟨"com/example/statementforge/statementforge/ResultMapDefinition$Kind", "isId", "()Z"⟩ : MethodName)) hown (mvT hZ (hw _ (List.mem_of_getElem? (i := 4) rfl))) (mvT hZ (hw _ (List.mem_of_getElem? (i := 5) rfl))) (notFace_of_selects (args := #[]) (mvT hZ (hw _ (List.mem_of_getElem? (i := 7) rfl)))) (mvT hZ (hw _ (List.mem_of_getElem? (i := 7) rfl))) (mvT hZ (hw _ (List.mem_of_getElem? (i := 6) rfl))) (by decide) (backOf (W := 0) (rm1 l Z a0 hw [] w2 w0 w4 (0 : Int32) h0 n0 Z0 S_ID S_ID_ARG (if_neg (fun q => q.elim h_ASSOCIATION_ID h_ASSOCIATION_ID_ARG)).symm) hZ (hw _ (List.mem_of_getElem? (i := 8) rfl)) (hw _ (List.mem_of_getElem? (i := 2) rfl)) (by decide) (by decide)) q12a q12c (g := (mkF m 84 #[.val (.int p0), .val (.int ((p0 &&& (2147483647 : Int32)) % (6 : Int32))), .val (.ref w2), .val (.int (0 : Int32))] [(.ref w2)])) rfl (by rw [hml]; rfl) (Steps.refl _) (argsL := []) (rest := []) (lenOf pd___Z rfl) rfl (by show 2 * 0 + _ ≤ _; exact Nat.le_of_eq rfl) (hb hby at_84) (fun _ _ => ⟨rfl, e11, (by decide : 0 + 0 ≤ _), (by decide : 0 + 0 ≤ _)⟩)
        dsimp only [Pt.U, Pt.locs, Pt.cells, Pt.slots] at X12 l12 y12 z12 st12 hQ12
        subst l12 y12 z12
        obtain ⟨rfl, Nq12, e12⟩ := hQ12
        have N12 := Fr.app N0 Nq12
        obtain ⟨fs, hr, hrun, hended, hW, hsame⟩ := X12.leave (v := some (.int (1 : Int32))) (fun h => by rw [Bd.returns] at h; cases h)
        refine ⟨_, _, pre10 _ ?_, hrun, hended, _, _, rfl, ?_, ⟨_, rfl⟩, hW, hsame.mono (by decide) (by decide)⟩
        · show Steps p.tables e below (s₁.setTop (mkF m 37 #[.val (.int p0), .val (.int ((p0 &&& (2147483647 : Int32)) % (6 : Int32))), .unset, .unset] [(.int (2 : Int32)), (.int ((p0 &&& (2147483647 : Int32)) % (6 : Int32)))])) _
          refine XS.icmpNo X0.here hx rfl (hb hby at_37) rfl (teq hc37_9).2 ?_
          show Steps p.tables e below (s₁.setTop (mkF m 40 #[.val (.int p0), .val (.int ((p0 &&& (2147483647 : Int32)) % (6 : Int32))), .unset, .unset] [])) _
          refine st11 _ ?_
          show Steps p.tables e below (T11.setTop (mkF m 43 #[.val (.int p0), .val (.int ((p0 &&& (2147483647 : Int32)) % (6 : Int32))), .unset, .unset] [(.ref w2)])) _
          refine XS.astoreN X11.here hx rfl (hb hby at_43) rfl rfl (l' := #[.val (.int p0), .val (.int ((p0 &&& (2147483647 : Int32)) % (6 : Int32))), .val (.ref w2), .unset]) rfl ?_
          show Steps p.tables e below (T11.setTop (mkF m 44 #[.val (.int p0), .val (.int ((p0 &&& (2147483647 : Int32)) % (6 : Int32))), .val (.ref w2), .unset] [])) _
          refine XS.iconst X11.here hx rfl (hb hby at_44) ?_
          show Steps p.tables e below (T11.setTop (mkF m 45 #[.val (.int p0), .val (.int ((p0 &&& (2147483647 : Int32)) % (6 : Int32))), .val (.ref w2), .unset] [(.int (0 : Int32))])) _
          refine XS.istoreN X11.here hx rfl (hb hby at_45) rfl (l' := #[.val (.int p0), .val (.int ((p0 &&& (2147483647 : Int32)) % (6 : Int32))), .val (.ref w2), .val (.int (0 : Int32))]) rfl ?_
          show Steps p.tables e below (T11.setTop (mkF m 46 #[.val (.int p0), .val (.int ((p0 &&& (2147483647 : Int32)) % (6 : Int32))), .val (.ref w2), .val (.int (0 : Int32))] [])) _
          refine XS.goto X11.here hx rfl (pc0 := 46) (pc' := 83) rfl (hb hby at_46) (by decide) (by decide) ?_
          show Steps p.tables e below (T11.setTop (mkF m 83 #[.val (.int p0), .val (.int ((p0 &&& (2147483647 : Int32)) % (6 : Int32))), .val (.ref w2), .val (.int (0 : Int32))] [])) _
          refine XS.aloadN X11.here hx rfl (hb hby at_83) rfl rfl ?_
          show Steps p.tables e below (T11.setTop (mkF m 84 #[.val (.int p0), .val (.int ((p0 &&& (2147483647 : Int32)) % (6 : Int32))), .val (.ref w2), .val (.int (0 : Int32))] [(.ref w2)])) _
          refine st12.trans ?_
          show Steps p.tables e below (T12.setTop (mkF m 87 #[.val (.int p0), .val (.int ((p0 &&& (2147483647 : Int32)) % (6 : Int32))), .val (.ref w2), .val (.int (0 : Int32))] [(.int (0 : Int32))])) _
          refine XS.iloadN X12.here hx rfl (hb hby at_87) rfl  ?_
          show Steps p.tables e below (T12.setTop (mkF m 88 #[.val (.int p0), .val (.int ((p0 &&& (2147483647 : Int32)) % (6 : Int32))), .val (.ref w2), .val (.int (0 : Int32))] [(.int (0 : Int32)), (.int (0 : Int32))])) _
          refine XS.icmpNo X12.here hx rfl (hb hby at_88) rfl (teq (by decide : (0 : Int32) = (0 : Int32))).2 ?_
          show Steps p.tables e below (T12.setTop (mkF m 91 #[.val (.int p0), .val (.int ((p0 &&& (2147483647 : Int32)) % (6 : Int32))), .val (.ref w2), .val (.int (0 : Int32))] [])) _
          refine XS.iconst X12.here hx rfl (hb hby at_91) ?_
          show Steps p.tables e below (T12.setTop (mkF m 92 #[.val (.int p0), .val (.int ((p0 &&& (2147483647 : Int32)) % (6 : Int32))), .val (.ref w2), .val (.int (0 : Int32))] [(.int (1 : Int32))])) _
          refine XS.goto X12.here hx rfl (pc0 := 92) (pc' := 96) rfl (hb hby at_92) (by decide) (by decide) ?_
          show Steps p.tables e below (T12.setTop (mkF m 96 #[.val (.int p0), .val (.int ((p0 &&& (2147483647 : Int32)) % (6 : Int32))), .val (.ref w2), .val (.int (0 : Int32))] [(.int (1 : Int32))])) _
          exact retN X12 hx (t := .boolean) Bd.returns (by simp) (hb hby at_96) hr
        · show Q_rm0 Z p0 w0 w1 w2 w3 w4 w5 h0 n0 _ T12.heap _
          rw [e12]
          exact ⟨rfl, N12⟩
      · have pre14 : ∀ t, Steps p.tables e below (s₁.setTop (mkF m 51 #[.val (.int p0), .val (.int ((p0 &&& (2147483647 : Int32)) % (6 : Int32))), .unset, .unset] [(.int (3 : Int32)), (.int ((p0 &&& (2147483647 : Int32)) % (6 : Int32)))])) t → Steps p.tables e below (s₁.setTop (entryFrame m #[(.int p0)] maxLocals)) t := fun t kt => pre10 t (by
          show Steps p.tables e below (s₁.setTop (mkF m 37 #[.val (.int p0), .val (.int ((p0 &&& (2147483647 : Int32)) % (6 : Int32))), .unset, .unset] [(.int (2 : Int32)), (.int ((p0 &&& (2147483647 : Int32)) % (6 : Int32)))])) _
          refine XS.icmpYes X0.here hx rfl (pc0 := 37) (pc' := 49) rfl (hb hby at_37) rfl (feq hc37_9).2 (by decide) (by decide) ?_
          show Steps p.tables e below (s₁.setTop (mkF m 49 #[.val (.int p0), .val (.int ((p0 &&& (2147483647 : Int32)) % (6 : Int32))), .unset, .unset] [])) _
          refine XS.iloadN X0.here hx rfl (hb hby at_49) rfl  ?_
          show Steps p.tables e below (s₁.setTop (mkF m 50 #[.val (.int p0), .val (.int ((p0 &&& (2147483647 : Int32)) % (6 : Int32))), .unset, .unset] [(.int ((p0 &&& (2147483647 : Int32)) % (6 : Int32)))])) _
          refine XS.iconst X0.here hx rfl (hb hby at_50) ?_
          exact kt)
        by_cases hc51_13 : ((p0 &&& (2147483647 : Int32)) % (6 : Int32)) = (3 : Int32)
        · obtain ⟨T15, X15, e15, st15⟩ := getS2 X0 hx hZ hown (host := "") (Or.inl (hw _ (List.mem_of_getElem? (i := 10) rfl))) Via.refl e0 S_COLLECTION (g := (mkF m 54 #[.val (.int p0), .val (.int ((p0 &&& (2147483647 : Int32)) % (6 : Int32))), .unset, .unset] [])) rfl (hb hby at_54)
          obtain ⟨cq16, kq16, q16a, q16b, q16c⟩ := isOf hZ e15 E_COLLECTION
          obtain ⟨_, _, ⟨T16, L16, k16, n16⟩, -, X16, ⟨Lc16, hQ16, l16, y16, z16⟩, st16⟩ := X15.virtualBack hx (y := (⟨"com/example/statementforge/statementforge/ResultMapDefinition$Kind", "isId", "()Z"⟩ : MethodName)) (z := (⟨"com/example/statementforge/statementforge/ResultMapDefinition$Kind", "isId", "()Z"⟩ : MethodName)) hown (mvT hZ (hw _ (List.mem_of_getElem? (i := 4) rfl))) (mvT hZ (hw _ (List.mem_of_getElem? (i := 5) rfl))) (notFace_of_selects (args := #[]) (mvT hZ (hw _ (List.mem_of_getElem? (i := 7) rfl)))) (mvT hZ (hw _ (List.mem_of_getElem? (i := 7) rfl))) (mvT hZ (hw _ (List.mem_of_getElem? (i := 6) rfl))) (by decide) (backOf (W := 0) (rm1 l Z a0 hw [] w3 w0 w4 (0 : Int32) h0 n0 Z0 S_ID S_ID_ARG (if_neg (fun q => q.elim h_COLLECTION_ID h_COLLECTION_ID_ARG)).symm) hZ (hw _ (List.mem_of_getElem? (i := 8) rfl)) (hw _ (List.mem_of_getElem? (i := 2) rfl)) (by decide) (by decide)) q16a q16c (g := (mkF m 84 #[.val (.int p0), .val (.int ((p0 &&& (2147483647 : Int32)) % (6 : Int32))), .val (.ref w3), .val (.int (0 : Int32))] [(.ref w3)])) rfl (by rw [hml]; rfl) (Steps.refl _) (argsL := []) (rest := []) (lenOf pd___Z rfl) rfl (by show 2 * 0 + _ ≤ _; exact Nat.le_of_eq rfl) (hb hby at_84) (fun _ _ => ⟨rfl, e15, (by decide : 0 + 0 ≤ _), (by decide : 0 + 0 ≤ _)⟩)
          dsimp only [Pt.U, Pt.locs, Pt.cells, Pt.slots] at X16 l16 y16 z16 st16 hQ16
          subst l16 y16 z16
          obtain ⟨rfl, Nq16, e16⟩ := hQ16
          have N16 := Fr.app N0 Nq16
          obtain ⟨fs, hr, hrun, hended, hW, hsame⟩ := X16.leave (v := some (.int (1 : Int32))) (fun h => by rw [Bd.returns] at h; cases h)
          refine ⟨_, _, pre14 _ ?_, hrun, hended, _, _, rfl, ?_, ⟨_, rfl⟩, hW, hsame.mono (by decide) (by decide)⟩
          · show Steps p.tables e below (s₁.setTop (mkF m 51 #[.val (.int p0), .val (.int ((p0 &&& (2147483647 : Int32)) % (6 : Int32))), .unset, .unset] [(.int (3 : Int32)), (.int ((p0 &&& (2147483647 : Int32)) % (6 : Int32)))])) _
            refine XS.icmpNo X0.here hx rfl (hb hby at_51) rfl (teq hc51_13).2 ?_
            show Steps p.tables e below (s₁.setTop (mkF m 54 #[.val (.int p0), .val (.int ((p0 &&& (2147483647 : Int32)) % (6 : Int32))), .unset, .unset] [])) _
            refine st15 _ ?_
            show Steps p.tables e below (T15.setTop (mkF m 57 #[.val (.int p0), .val (.int ((p0 &&& (2147483647 : Int32)) % (6 : Int32))), .unset, .unset] [(.ref w3)])) _
            refine XS.astoreN X15.here hx rfl (hb hby at_57) rfl rfl (l' := #[.val (.int p0), .val (.int ((p0 &&& (2147483647 : Int32)) % (6 : Int32))), .val (.ref w3), .unset]) rfl ?_
            show Steps p.tables e below (T15.setTop (mkF m 58 #[.val (.int p0), .val (.int ((p0 &&& (2147483647 : Int32)) % (6 : Int32))), .val (.ref w3), .unset] [])) _
            refine XS.iconst X15.here hx rfl (hb hby at_58) ?_
            show Steps p.tables e below (T15.setTop (mkF m 59 #[.val (.int p0), .val (.int ((p0 &&& (2147483647 : Int32)) % (6 : Int32))), .val (.ref w3), .unset] [(.int (0 : Int32))])) _
            refine XS.istoreN X15.here hx rfl (hb hby at_59) rfl (l' := #[.val (.int p0), .val (.int ((p0 &&& (2147483647 : Int32)) % (6 : Int32))), .val (.ref w3), .val (.int (0 : Int32))]) rfl ?_
            show Steps p.tables e below (T15.setTop (mkF m 60 #[.val (.int p0), .val (.int ((p0 &&& (2147483647 : Int32)) % (6 : Int32))), .val (.ref w3), .val (.int (0 : Int32))] [])) _
            refine XS.goto X15.here hx rfl (pc0 := 60) (pc' := 83) rfl (hb hby at_60) (by decide) (by decide) ?_
            show Steps p.tables e below (T15.setTop (mkF m 83 #[.val (.int p0), .val (.int ((p0 &&& (2147483647 : Int32)) % (6 : Int32))), .val (.ref w3), .val (.int (0 : Int32))] [])) _
            refine XS.aloadN X15.here hx rfl (hb hby at_83) rfl rfl ?_
            show Steps p.tables e below (T15.setTop (mkF m 84 #[.val (.int p0), .val (.int ((p0 &&& (2147483647 : Int32)) % (6 : Int32))), .val (.ref w3), .val (.int (0 : Int32))] [(.ref w3)])) _
            refine st16.trans ?_
            show Steps p.tables e below (T16.setTop (mkF m 87 #[.val (.int p0), .val (.int ((p0 &&& (2147483647 : Int32)) % (6 : Int32))), .val (.ref w3), .val (.int (0 : Int32))] [(.int (0 : Int32))])) _
            refine XS.iloadN X16.here hx rfl (hb hby at_87) rfl  ?_
            show Steps p.tables e below (T16.setTop (mkF m 88 #[.val (.int p0), .val (.int ((p0 &&& (2147483647 : Int32)) % (6 : Int32))), .val (.ref w3), .val (.int (0 : Int32))] [(.int (0 : Int32)), (.int (0 : Int32))])) _
            refine XS.icmpNo X16.here hx rfl (hb hby at_88) rfl (teq (by decide : (0 : Int32) = (0 : Int32))).2 ?_
            show Steps p.tables e below (T16.setTop (mkF m 91 #[.val (.int p0), .val (.int ((p0 &&& (2147483647 : Int32)) % (6 : Int32))), .val (.ref w3), .val (.int (0 : Int32))] [])) _
            refine XS.iconst X16.here hx rfl (hb hby at_91) ?_
            show Steps p.tables e below (T16.setTop (mkF m 92 #[.val (.int p0), .val (.int ((p0 &&& (2147483647 : Int32)) % (6 : Int32))), .val (.ref w3), .val (.int (0 : Int32))] [(.int (1 : Int32))])) _
            refine XS.goto X16.here hx rfl (pc0 := 92) (pc' := 96) rfl (hb hby at_92) (by decide) (by decide) ?_
            show Steps p.tables e below (T16.setTop (mkF m 96 #[.val (.int p0), .val (.int ((p0 &&& (2147483647 : Int32)) % (6 : Int32))), .val (.ref w3), .val (.int (0 : Int32))] [(.int (1 : Int32))])) _
            exact retN X16 hx (t := .boolean) Bd.returns (by simp) (hb hby at_96) hr
          · show Q_rm0 Z p0 w0 w1 w2 w3 w4 w5 h0 n0 _ T16.heap _
            rw [e16]
            exact ⟨rfl, N16⟩
        · have pre18 : ∀ t, Steps p.tables e below (s₁.setTop (mkF m 65 #[.val (.int p0), .val (.int ((p0 &&& (2147483647 : Int32)) % (6 : Int32))), .unset, .unset] [(.int (4 : Int32)), (.int ((p0 &&& (2147483647 : Int32)) % (6 : Int32)))])) t → Steps p.tables e below (s₁.setTop (entryFrame m #[(.int p0)] maxLocals)) t := fun t kt => pre14 t (by
            show Steps p.tables e below (s₁.setTop (mkF m 51 #[.val (.int p0), .val (.int ((p0 &&& (2147483647 : Int32)) % (6 : Int32))), .unset, .unset] [(.int (3 : Int32)), (.int ((p0 &&& (2147483647 : Int32)) % (6 : Int32)))])) _
            refine XS.icmpYes X0.here hx rfl (pc0 := 51) (pc' := 63) rfl (hb hby at_51) rfl (feq hc51_13).2 (by decide) (by decide) ?_
            show Steps p.tables e below (s₁.setTop (mkF m 63 #[.val (.int p0), .val (.int ((p0 &&& (2147483647 : Int32)) % (6 : Int32))), .unset, .unset] [])) _
            refine XS.iloadN X0.here hx rfl (hb hby at_63) rfl  ?_
            show Steps p.tables e below (s₁.setTop (mkF m 64 #[.val (.int p0), .val (.int ((p0 &&& (2147483647 : Int32)) % (6 : Int32))), .unset, .unset] [(.int ((p0 &&& (2147483647 : Int32)) % (6 : Int32)))])) _
            refine XS.iconst X0.here hx rfl (hb hby at_64) ?_
            exact kt)
          by_cases hc65_17 : ((p0 &&& (2147483647 : Int32)) % (6 : Int32)) = (4 : Int32)
          · obtain ⟨T19, X19, e19, st19⟩ := getS2 X0 hx hZ hown (host := "") (Or.inl (hw _ (List.mem_of_getElem? (i := 20) rfl))) Via.refl e0 S_ID_ARG (g := (mkF m 68 #[.val (.int p0), .val (.int ((p0 &&& (2147483647 : Int32)) % (6 : Int32))), .unset, .unset] [])) rfl (hb hby at_68)
            obtain ⟨cq20, kq20, q20a, q20b, q20c⟩ := isOf hZ e19 E_ID_ARG
            obtain ⟨_, _, ⟨T20, L20, k20, n20⟩, -, X20, ⟨Lc20, hQ20, l20, y20, z20⟩, st20⟩ := X19.virtualBack hx (y := (⟨"com/example/statementforge/statementforge/ResultMapDefinition$Kind", "isId", "()Z"⟩ : MethodName)) (z := (⟨"com/example/statementforge/statementforge/ResultMapDefinition$Kind", "isId", "()Z"⟩ : MethodName)) hown (mvT hZ (hw _ (List.mem_of_getElem? (i := 4) rfl))) (mvT hZ (hw _ (List.mem_of_getElem? (i := 5) rfl))) (notFace_of_selects (args := #[]) (mvT hZ (hw _ (List.mem_of_getElem? (i := 7) rfl)))) (mvT hZ (hw _ (List.mem_of_getElem? (i := 7) rfl))) (mvT hZ (hw _ (List.mem_of_getElem? (i := 6) rfl))) (by decide) (backOf (W := 0) (rm1 l Z a0 hw [] w4 w0 w4 (1 : Int32) h0 n0 Z0 S_ID S_ID_ARG (if_pos (Or.inr rfl)).symm) hZ (hw _ (List.mem_of_getElem? (i := 8) rfl)) (hw _ (List.mem_of_getElem? (i := 2) rfl)) (by decide) (by decide)) q20a q20c (g := (mkF m 84 #[.val (.int p0), .val (.int ((p0 &&& (2147483647 : Int32)) % (6 : Int32))), .val (.ref w4), .val (.int (1 : Int32))] [(.ref w4)])) rfl (by rw [hml]; rfl) (Steps.refl _) (argsL := []) (rest := []) (lenOf pd___Z rfl) rfl (by show 2 * 0 + _ ≤ _; exact Nat.le_of_eq rfl) (hb hby at_84) (fun _ _ => ⟨rfl, e19, (by decide : 0 + 0 ≤ _), (by decide : 0 + 0 ≤ _)⟩)
            dsimp only [Pt.U, Pt.locs, Pt.cells, Pt.slots] at X20 l20 y20 z20 st20 hQ20
            subst l20 y20 z20
            obtain ⟨rfl, Nq20, e20⟩ := hQ20
            have N20 := Fr.app N0 Nq20
            obtain ⟨fs, hr, hrun, hended, hW, hsame⟩ := X20.leave (v := some (.int (1 : Int32))) (fun h => by rw [Bd.returns] at h; cases h)
            refine ⟨_, _, pre18 _ ?_, hrun, hended, _, _, rfl, ?_, ⟨_, rfl⟩, hW, hsame.mono (by decide) (by decide)⟩
            · show Steps p.tables e below (s₁.setTop (mkF m 65 #[.val (.int p0), .val (.int ((p0 &&& (2147483647 : Int32)) % (6 : Int32))), .unset, .unset] [(.int (4 : Int32)), (.int ((p0 &&& (2147483647 : Int32)) % (6 : Int32)))])) _
              refine XS.icmpNo X0.here hx rfl (hb hby at_65) rfl (teq hc65_17).2 ?_
              show Steps p.tables e below (s₁.setTop (mkF m 68 #[.val (.int p0), .val (.int ((p0 &&& (2147483647 : Int32)) % (6 : Int32))), .unset, .unset] [])) _
              refine st19 _ ?_
              show Steps p.tables e below (T19.setTop (mkF m 71 #[.val (.int p0), .val (.int ((p0 &&& (2147483647 : Int32)) % (6 : Int32))), .unset, .unset] [(.ref w4)])) _
              refine XS.astoreN X19.here hx rfl (hb hby at_71) rfl rfl (l' := #[.val (.int p0), .val (.int ((p0 &&& (2147483647 : Int32)) % (6 : Int32))), .val (.ref w4), .unset]) rfl ?_
              show Steps p.tables e below (T19.setTop (mkF m 72 #[.val (.int p0), .val (.int ((p0 &&& (2147483647 : Int32)) % (6 : Int32))), .val (.ref w4), .unset] [])) _
              refine XS.iconst X19.here hx rfl (hb hby at_72) ?_
              show Steps p.tables e below (T19.setTop (mkF m 73 #[.val (.int p0), .val (.int ((p0 &&& (2147483647 : Int32)) % (6 : Int32))), .val (.ref w4), .unset] [(.int (1 : Int32))])) _
              refine XS.istoreN X19.here hx rfl (hb hby at_73) rfl (l' := #[.val (.int p0), .val (.int ((p0 &&& (2147483647 : Int32)) % (6 : Int32))), .val (.ref w4), .val (.int (1 : Int32))]) rfl ?_
              show Steps p.tables e below (T19.setTop (mkF m 74 #[.val (.int p0), .val (.int ((p0 &&& (2147483647 : Int32)) % (6 : Int32))), .val (.ref w4), .val (.int (1 : Int32))] [])) _
              refine XS.goto X19.here hx rfl (pc0 := 74) (pc' := 83) rfl (hb hby at_74) (by decide) (by decide) ?_
              show Steps p.tables e below (T19.setTop (mkF m 83 #[.val (.int p0), .val (.int ((p0 &&& (2147483647 : Int32)) % (6 : Int32))), .val (.ref w4), .val (.int (1 : Int32))] [])) _
              refine XS.aloadN X19.here hx rfl (hb hby at_83) rfl rfl ?_
              show Steps p.tables e below (T19.setTop (mkF m 84 #[.val (.int p0), .val (.int ((p0 &&& (2147483647 : Int32)) % (6 : Int32))), .val (.ref w4), .val (.int (1 : Int32))] [(.ref w4)])) _
              refine st20.trans ?_
              show Steps p.tables e below (T20.setTop (mkF m 87 #[.val (.int p0), .val (.int ((p0 &&& (2147483647 : Int32)) % (6 : Int32))), .val (.ref w4), .val (.int (1 : Int32))] [(.int (1 : Int32))])) _
              refine XS.iloadN X20.here hx rfl (hb hby at_87) rfl  ?_
              show Steps p.tables e below (T20.setTop (mkF m 88 #[.val (.int p0), .val (.int ((p0 &&& (2147483647 : Int32)) % (6 : Int32))), .val (.ref w4), .val (.int (1 : Int32))] [(.int (1 : Int32)), (.int (1 : Int32))])) _
              refine XS.icmpNo X20.here hx rfl (hb hby at_88) rfl (teq (by decide : (1 : Int32) = (1 : Int32))).2 ?_
              show Steps p.tables e below (T20.setTop (mkF m 91 #[.val (.int p0), .val (.int ((p0 &&& (2147483647 : Int32)) % (6 : Int32))), .val (.ref w4), .val (.int (1 : Int32))] [])) _
              refine XS.iconst X20.here hx rfl (hb hby at_91) ?_
              show Steps p.tables e below (T20.setTop (mkF m 92 #[.val (.int p0), .val (.int ((p0 &&& (2147483647 : Int32)) % (6 : Int32))), .val (.ref w4), .val (.int (1 : Int32))] [(.int (1 : Int32))])) _
              refine XS.goto X20.here hx rfl (pc0 := 92) (pc' := 96) rfl (hb hby at_92) (by decide) (by decide) ?_
              show Steps p.tables e below (T20.setTop (mkF m 96 #[.val (.int p0), .val (.int ((p0 &&& (2147483647 : Int32)) % (6 : Int32))), .val (.ref w4), .val (.int (1 : Int32))] [(.int (1 : Int32))])) _
              exact retN X20 hx (t := .boolean) Bd.returns (by simp) (hb hby at_96) hr
            · show Q_rm0 Z p0 w0 w1 w2 w3 w4 w5 h0 n0 _ T20.heap _
              rw [e20]
              exact ⟨rfl, N20⟩
          · obtain ⟨T21, X21, e21, st21⟩ := getS2 X0 hx hZ hown (host := "") (Or.inl (hw _ (List.mem_of_getElem? (i := 18) rfl))) Via.refl e0 S_ARG (g := (mkF m 77 #[.val (.int p0), .val (.int ((p0 &&& (2147483647 : Int32)) % (6 : Int32))), .unset, .unset] [])) rfl (hb hby at_77)
            obtain ⟨cq22, kq22, q22a, q22b, q22c⟩ := isOf hZ e21 E_ARG
            obtain ⟨_, _, ⟨T22, L22, k22, n22⟩, -, X22, ⟨Lc22, hQ22, l22, y22, z22⟩, st22⟩ := X21.virtualBack hx (y := (⟨"com/example/statementforge/statementforge/ResultMapDefinition$Kind", "isId", "()Z"⟩ : MethodName)) (z := (⟨"com/example/statementforge/statementforge/ResultMapDefinition$Kind", "isId", "()Z"⟩ : MethodName)) hown (mvT hZ (hw _ (List.mem_of_getElem? (i := 4) rfl))) (mvT hZ (hw _ (List.mem_of_getElem? (i := 5) rfl))) (notFace_of_selects (args := #[]) (mvT hZ (hw _ (List.mem_of_getElem? (i := 7) rfl)))) (mvT hZ (hw _ (List.mem_of_getElem? (i := 7) rfl))) (mvT hZ (hw _ (List.mem_of_getElem? (i := 6) rfl))) (by decide) (backOf (W := 0) (rm1 l Z a0 hw [] w5 w0 w4 (0 : Int32) h0 n0 Z0 S_ID S_ID_ARG (if_neg (fun q => q.elim h_ARG_ID h_ARG_ID_ARG)).symm) hZ (hw _ (List.mem_of_getElem? (i := 8) rfl)) (hw _ (List.mem_of_getElem? (i := 2) rfl)) (by decide) (by decide)) q22a q22c (g := (mkF m 84 #[.val (.int p0), .val (.int ((p0 &&& (2147483647 : Int32)) % (6 : Int32))), .val (.ref w5), .val (.int (0 : Int32))] [(.ref w5)])) rfl (by rw [hml]; rfl) (Steps.refl _) (argsL := []) (rest := []) (lenOf pd___Z rfl) rfl (by show 2 * 0 + _ ≤ _; exact Nat.le_of_eq rfl) (hb hby at_84) (fun _ _ => ⟨rfl, e21, (by decide : 0 + 0 ≤ _), (by decide : 0 + 0 ≤ _)⟩)
            dsimp only [Pt.U, Pt.locs, Pt.cells, Pt.slots] at X22 l22 y22 z22 st22 hQ22
            subst l22 y22 z22
            obtain ⟨rfl, Nq22, e22⟩ := hQ22
            have N22 := Fr.app N0 Nq22
            obtain ⟨fs, hr, hrun, hended, hW, hsame⟩ := X22.leave (v := some (.int (1 : Int32))) (fun h => by rw [Bd.returns] at h; cases h)
            refine ⟨_, _, pre18 _ ?_, hrun, hended, _, _, rfl, ?_, ⟨_, rfl⟩, hW, hsame.mono (by decide) (by decide)⟩
            · show Steps p.tables e below (s₁.setTop (mkF m 65 #[.val (.int p0), .val (.int ((p0 &&& (2147483647 : Int32)) % (6 : Int32))), .unset, .unset] [(.int (4 : Int32)), (.int ((p0 &&& (2147483647 : Int32)) % (6 : Int32)))])) _
              refine XS.icmpYes X0.here hx rfl (pc0 := 65) (pc' := 77) rfl (hb hby at_65) rfl (feq hc65_17).2 (by decide) (by decide) ?_
              show Steps p.tables e below (s₁.setTop (mkF m 77 #[.val (.int p0), .val (.int ((p0 &&& (2147483647 : Int32)) % (6 : Int32))), .unset, .unset] [])) _
              refine st21 _ ?_
              show Steps p.tables e below (T21.setTop (mkF m 80 #[.val (.int p0), .val (.int ((p0 &&& (2147483647 : Int32)) % (6 : Int32))), .unset, .unset] [(.ref w5)])) _
              refine XS.astoreN X21.here hx rfl (hb hby at_80) rfl rfl (l' := #[.val (.int p0), .val (.int ((p0 &&& (2147483647 : Int32)) % (6 : Int32))), .val (.ref w5), .unset]) rfl ?_
              show Steps p.tables e below (T21.setTop (mkF m 81 #[.val (.int p0), .val (.int ((p0 &&& (2147483647 : Int32)) % (6 : Int32))), .val (.ref w5), .unset] [])) _
              refine XS.iconst X21.here hx rfl (hb hby at_81) ?_
              show Steps p.tables e below (T21.setTop (mkF m 82 #[.val (.int p0), .val (.int ((p0 &&& (2147483647 : Int32)) % (6 : Int32))), .val (.ref w5), .unset] [(.int (0 : Int32))])) _
              refine XS.istoreN X21.here hx rfl (hb hby at_82) rfl (l' := #[.val (.int p0), .val (.int ((p0 &&& (2147483647 : Int32)) % (6 : Int32))), .val (.ref w5), .val (.int (0 : Int32))]) rfl ?_
              show Steps p.tables e below (T21.setTop (mkF m 83 #[.val (.int p0), .val (.int ((p0 &&& (2147483647 : Int32)) % (6 : Int32))), .val (.ref w5), .val (.int (0 : Int32))] [])) _
              refine XS.aloadN X21.here hx rfl (hb hby at_83) rfl rfl ?_
              show Steps p.tables e below (T21.setTop (mkF m 84 #[.val (.int p0), .val (.int ((p0 &&& (2147483647 : Int32)) % (6 : Int32))), .val (.ref w5), .val (.int (0 : Int32))] [(.ref w5)])) _
              refine st22.trans ?_
              show Steps p.tables e below (T22.setTop (mkF m 87 #[.val (.int p0), .val (.int ((p0 &&& (2147483647 : Int32)) % (6 : Int32))), .val (.ref w5), .val (.int (0 : Int32))] [(.int (0 : Int32))])) _
              refine XS.iloadN X22.here hx rfl (hb hby at_87) rfl  ?_
              show Steps p.tables e below (T22.setTop (mkF m 88 #[.val (.int p0), .val (.int ((p0 &&& (2147483647 : Int32)) % (6 : Int32))), .val (.ref w5), .val (.int (0 : Int32))] [(.int (0 : Int32)), (.int (0 : Int32))])) _
              refine XS.icmpNo X22.here hx rfl (hb hby at_88) rfl (teq (by decide : (0 : Int32) = (0 : Int32))).2 ?_
              show Steps p.tables e below (T22.setTop (mkF m 91 #[.val (.int p0), .val (.int ((p0 &&& (2147483647 : Int32)) % (6 : Int32))), .val (.ref w5), .val (.int (0 : Int32))] [])) _
              refine XS.iconst X22.here hx rfl (hb hby at_91) ?_
              show Steps p.tables e below (T22.setTop (mkF m 92 #[.val (.int p0), .val (.int ((p0 &&& (2147483647 : Int32)) % (6 : Int32))), .val (.ref w5), .val (.int (0 : Int32))] [(.int (1 : Int32))])) _
              refine XS.goto X22.here hx rfl (pc0 := 92) (pc' := 96) rfl (hb hby at_92) (by decide) (by decide) ?_
              show Steps p.tables e below (T22.setTop (mkF m 96 #[.val (.int p0), .val (.int ((p0 &&& (2147483647 : Int32)) % (6 : Int32))), .val (.ref w5), .val (.int (0 : Int32))] [(.int (1 : Int32))])) _
              exact retN X22 hx (t := .boolean) Bd.returns (by simp) (hb hby at_96) hr
            · show Q_rm0 Z p0 w0 w1 w2 w3 w4 w5 h0 n0 _ T22.heap _
              rw [e22]
              exact ⟨rfl, N22⟩
set_option maxRecDepth 65536 in
set_option maxHeartbeats 40000000 in
theorem comes_1 {Post : Tables → Env → Array Value → State → Outcome → State → Prop} (hpost : ∀ tb e args s v u, (limb_1_1.after args s (.returned v) u = true ∧ limb_1_2.after args s (.returned v) u = true ∧ True) → FrameEnd s (.returned v) u (Jvm.fieldLocs frame_1_writes args s ++ Jvm.arrayLocs frame_1_arrays args s ++ Jvm.staticLocs frame_1_statics s) 0 0 → Post tb e args s (.returned v) u) :
    ArmFor flags0 classFile x code maxLocals ret World_1 tables_1 room_1 Calls_1 rest_1 Pre_1 Post := by
  intro l hfl _ _ p e ha hc hk s m args below hf hA hF happ hP
  obtain ⟨hcalls, hrest, hpre⟩ := hP
  obtain ⟨-, -, -, hnamed, -, -, -, hat⟩ := (Spec.applies_iff hf).mp happ
  obtain ⟨hg, hn⟩ := and_e (Cond.before_iff.mp (show (Jvm.Cond.and given_1 narrow_1).before args s = true from hpre))
  obtain ⟨gc, gr0⟩ := and_e hg
  obtain ⟨w0, rfl⟩ : ∃ w0 : Value, args = #[w0] := by
    have hs : args.size = 1 := by simpa [Cond.value, given_1] using gc
    obtain ⟨L⟩ := args
    match L, hs with
    | [w0], _ => exact ⟨w0, rfl⟩
  have hw := fun d (hd : d ∈ tables_1) => atoms_spec (ws := Jvm.Cond.code x code maxLocals ret :: tables_1) hat d (List.mem_cons_of_mem _ hd)
  have hfit : Fit s := fun {y c} hc i hi => by
    obtain ⟨ha, rfl⟩ := Array.getElem?_eq_some_iff.mp hc
    have q := List.all_eq_true.mp ((Array.all_eq_true_iff_forall_mem.mp hF) _ (Array.getElem_mem ha)) i (List.mem_range.mpr hi)
    simpa [Array.getElem?_eq_getElem hi] using q
  obtain ⟨i0, ei0⟩ := is_v gr0
  obtain rfl : w0 = (.int i0) := Option.some.inj ei0
  obtain ⟨nn0, nr0⟩ := and_e hn
  obtain ⟨nn1, nr1⟩ := and_e nr0
  obtain ⟨nn2, nr2⟩ := and_e nr1
  obtain ⟨nn3, nr3⟩ := and_e nr2
  obtain ⟨nn4, nr4⟩ := and_e nr3
  obtain ⟨nn5, nr5⟩ := and_e nr4
  obtain ⟨nn6, nr6⟩ := and_e nr5
  obtain ⟨nn7, nr7⟩ := and_e nr6
  obtain ⟨nn8, nr8⟩ := and_e nr7
  obtain ⟨nn9, nr9⟩ := and_e nr8
  obtain ⟨nn10, nr10⟩ := and_e nr9
  have nn11 := nr10
  obtain ⟨w0, ev_ID⟩ := exa_v nn0
  have E_ID := Exa.start ev_ID nn0
  have S_ID := Sta.start ev_ID (Or.inr ⟨(hw _ (List.mem_of_getElem? (i := 2) rfl)), (hw _ (List.mem_of_getElem? (i := 3) rfl))⟩)
  obtain ⟨w3, ev_COLLECTION⟩ := exa_v nn1
  have E_COLLECTION := Exa.start ev_COLLECTION nn1
  have S_COLLECTION := Sta.start ev_COLLECTION (Or.inr ⟨(hw _ (List.mem_of_getElem? (i := 2) rfl)), (hw _ (List.mem_of_getElem? (i := 11) rfl))⟩)
  obtain ⟨w4, ev_ID_ARG⟩ := exa_v nn4
  have E_ID_ARG := Exa.start ev_ID_ARG nn4
  have S_ID_ARG := Sta.start ev_ID_ARG (Or.inr ⟨(hw _ (List.mem_of_getElem? (i := 2) rfl)), (hw _ (List.mem_of_getElem? (i := 13) rfl))⟩)
  obtain ⟨w2, ev_ASSOCIATION⟩ := exa_v nn6
  have E_ASSOCIATION := Exa.start ev_ASSOCIATION nn6
  have S_ASSOCIATION := Sta.start ev_ASSOCIATION (Or.inr ⟨(hw _ (List.mem_of_getElem? (i := 2) rfl)), (hw _ (List.mem_of_getElem? (i := 15) rfl))⟩)
  obtain ⟨w1, ev_RESULT⟩ := exa_v nn8
  have E_RESULT := Exa.start ev_RESULT nn8
  have S_RESULT := Sta.start ev_RESULT (Or.inr ⟨(hw _ (List.mem_of_getElem? (i := 2) rfl)), (hw _ (List.mem_of_getElem? (i := 17) rfl))⟩)
  obtain ⟨w5, ev_ARG⟩ := exa_v nn10
  have E_ARG := Exa.start ev_ARG nn10
  have S_ARG := Sta.start ev_ARG (Or.inr ⟨(hw _ (List.mem_of_getElem? (i := 2) rfl)), (hw _ (List.mem_of_getElem? (i := 19) rfl))⟩)
  have o_COLLECTION := own_ord ev_COLLECTION nn2
  have o_ID := own_ord ev_ID nn3
  have o_ID_ARG := own_ord ev_ID_ARG nn5
  have o_ASSOCIATION := own_ord ev_ASSOCIATION nn7
  have o_RESULT := own_ord ev_RESULT nn9
  have o_ARG := own_ord ev_ARG nn11
  obtain ⟨n, o, h1, h2, h3, _, L, rfl, ⟨rfl, N⟩, hq⟩ := rm0 l s _ hw tables_1 i0 w0 w1 w2 w3 w4 w5 s.heap s.heap.size (Nat.le_refl _) S_ID S_RESULT S_ASSOCIATION S_COLLECTION S_ID_ARG S_ARG E_ID E_RESULT E_ASSOCIATION E_COLLECTION E_ID_ARG E_ARG (own_ne o_RESULT o_ID (by decide)) (own_ne o_RESULT o_ID_ARG (by decide)) (own_ne o_ASSOCIATION o_ID (by decide)) (own_ne o_ASSOCIATION o_ID_ARG (by decide)) (own_ne o_COLLECTION o_ID (by decide)) (own_ne o_COLLECTION o_ID_ARG (by decide)) (own_ne o_ARG o_ID (by decide)) (own_ne o_ARG o_ID_ARG (by decide)) p e ha hc hk s m _ below hf ((Spec.applies_iff_loose hf).mp happ).1 ⟨rfl, State.Warmed39.refl s, rfl⟩ trivial
  refine ⟨n, _, h1, h2, h3, hpost _ _ _ _ _ _ ⟨Cond.after_iff.mpr rfl, Cond.after_iff.mpr (eq_i res_at (Term.int_eval (1)) rfl), trivial⟩ ⟨hq.1, hq.2.1, (hq.2.2.sift fun y hy => Or.inr (N y hy)).mono (by decide) (by decide)⟩⟩
theorem main_1_1 : Claimed_1_1 := comes_1 fun _ _ _ _ _ _ h hF => ⟨h.1, hF⟩
theorem main_1_2 : Claimed_1_2 := comes_1 fun _ _ _ _ _ _ h hF => ⟨h.2.1, hF⟩
end Jvm.Pilot.@@N@@
namespace Jvm.Pilot.@@N@@
open Jvm Jvm.ClassFile Sem Op Lib Jvm.Free Jvm.Stand Jvm.Pilot.@@N@@.Jvm.D
/-! MADE BY PROGRAM (witnessworld.py) out of the Statement's table words and the real class files: 12 classes; the members and pool entries that the words name. The judged class is class 1, her method 1. -/
namespace start1
open Jvm.ClassFile
def u (s : String) : CpInfo := .utf8 (stringToUtf16 s)
/-- a pool by its gaps: so many unusable entries, then the entry; so many at the end -/
def gap : Nat → List CpInfo → List CpInfo
  | 0, r => r
  | n + 1, r => .unusable :: gap n r
def poolList (es : List (Nat × CpInfo)) (last : Nat) : List CpInfo := es.foldr (fun e r => gap e.1 (e.2 :: r)) (gap last [])
def pool (es : List (Nat × CpInfo)) (last : Nat) : Array CpInfo := ⟨poolList es last⟩
def fileOf (pool : Array CpInfo) (this : Nat) (attrs : Array Attribute := #[]) (ms : Array MethodInfo := #[]) (fl : Nat := 33) (sup : Nat := 0) (ifs : Array Nat := #[]) (fds : Array FieldInfo := #[]) : ClassFile where
  minorVersion := 0
  majorVersion := 65
  constantPool := pool
  accessFlags := fl
  thisClass := this
  superClass := sup
  interfaces := ifs
  fields := fds
  methods := ms
  attributes := attrs
def plain (name : String) (sup : Option ClassId) : Class where
  name := name
  kind := .ordinary
  loader := none
  accessFlags := 33
  super := sup
  interfaces := #[]
  cf := none
  fields := #[]
  methods := #[]
  instanceTypes := #[]
  staticTypes := #[]
  resolved := #[]
  callSites := []
  init := .initialized
  statics := none
  mirror := none

def pool0 : Array CpInfo := pool [(5, u "<init>"), (0, u "()V"), (1, .class_ 10), (1, u "java/lang/Object")] 113

def k0m0 : Method := { name := "<init>", desc := "()V", sig := { parameters := [], returnType := none }, accessFlags := 1, code := none }
/-- java/lang/Object -/
def k0 : Class := { plain "java/lang/Object" none with
  accessFlags := 33
  interfaces := #[]
  cf := some (fileOf pool0 8 #[] #[{ accessFlags := 1, nameIndex := 5, descriptorIndex := 6, attributes := #[] }] 33 0 #[] #[])
  fields := #[]
  methods := #[k0m0]
  instanceTypes := #[]
  staticTypes := #[]
  resolved := Array.replicate 124 none
  statics := none }

def pool1 : Array CpInfo := pool [(2, .class_ 4), (1, u "java/lang/Object"), (0, u "<init>"), (0, u "()V"), (0, .integer 2147483647), (0, .fieldref 9 10), (0, .class_ 11), (0, .nameAndType 12 13), (0, u "com/example/statementforge/statementforge/ResultMapDefinition$Kind"), (0, u "ID"), (0, u "Lcom/example/statementforge/statementforge/ResultMapDefinition$Kind;"), (0, .fieldref 9 15), (0, .nameAndType 16 13), (0, u "RESULT"), (0, .fieldref 9 18), (0, .nameAndType 19 13), (0, u "ASSOCIATION"), (0, .fieldref 9 21), (0, .nameAndType 22 13), (0, u "COLLECTION"), (0, .fieldref 9 24), (0, .nameAndType 25 13), (0, u "ID_ARG"), (0, .fieldref 9 27), (0, .nameAndType 28 13), (0, u "ARG"), (0, .methodref 9 30), (0, .nameAndType 31 32), (0, u "isId"), (0, u "()Z"), (0, .class_ 34), (0, u "com/example/statementforge/statementforge/KindIsIdPinLaw"), (2, u "law"), (0, u "(I)Z")] 7

def k1m0 : Method := { name := "<init>", desc := "()V", sig := { parameters := [], returnType := none }, accessFlags := 1, code := none }
def k1c1 : Code := { maxStack := 2, maxLocals := 4, code := code, exceptionTable := #[], attributes := #[] }
def k1m1 : Method := { name := "law", desc := "(I)Z", sig := { parameters := [.int], returnType := some .boolean }, accessFlags := 9, code := some k1c1 }
/-- com/example/statementforge/statementforge/KindIsIdPinLaw -/
def k1 : Class := { plain "com/example/statementforge/statementforge/KindIsIdPinLaw" (some 0) with
  accessFlags := 49
  interfaces := #[]
  cf := some (fileOf pool1 33 #[] #[{ accessFlags := 1, nameIndex := 5, descriptorIndex := 6, attributes := #[] }, { accessFlags := 9, nameIndex := 37, descriptorIndex := 38, attributes := #[] }] 49 2 #[] #[])
  fields := #[]
  methods := #[k1m0, k1m1]
  instanceTypes := #[]
  staticTypes := #[]
  resolved := Array.replicate 46 none
  statics := none }

def pool2 : Array CpInfo := pool [(1, .class_ 2), (0, u "java/lang/constant/Constable"), (0, .class_ 4), (0, u "java/lang/Object")] 6

/-- java/lang/constant/Constable -/
def k2 : Class := { plain "java/lang/constant/Constable" (some 0) with
  accessFlags := 1537
  interfaces := #[]
  cf := some (fileOf pool2 1 #[] #[] 1537 3 #[] #[])
  fields := #[]
  methods := #[]
  instanceTypes := #[]
  staticTypes := #[]
  resolved := Array.replicate 11 none
  statics := none }

def pool3 : Array CpInfo := pool [(1, .class_ 2), (0, u "java/lang/Comparable"), (0, .class_ 4), (0, u "java/lang/Object")] 7

/-- java/lang/Comparable -/
def k3 : Class := { plain "java/lang/Comparable" (some 0) with
  accessFlags := 1537
  interfaces := #[]
  cf := some (fileOf pool3 1 #[] #[] 1537 3 #[] #[])
  fields := #[]
  methods := #[]
  instanceTypes := #[]
  staticTypes := #[]
  resolved := Array.replicate 12 none
  statics := none }

def pool4 : Array CpInfo := pool [(1, .class_ 2), (0, u "java/io/Serializable"), (0, .class_ 4), (0, u "java/lang/Object")] 2

/-- java/io/Serializable -/
def k4 : Class := { plain "java/io/Serializable" (some 0) with
  accessFlags := 1537
  interfaces := #[]
  cf := some (fileOf pool4 1 #[] #[] 1537 3 #[] #[])
  fields := #[]
  methods := #[]
  instanceTypes := #[]
  staticTypes := #[]
  resolved := Array.replicate 7 none
  statics := none }

def pool5 : Array CpInfo := pool [(2, .class_ 4), (1, u "java/lang/Enum"), (0, u "name"), (0, u "Ljava/lang/String;"), (2, u "ordinal"), (0, u "I"), (1, .class_ 14), (1, u "java/lang/Object"), (4, u "hash"), (86, .class_ 108), (1, u "java/lang/Enum$EnumDesc"), (2, .class_ 112), (0, u "java/lang/constant/Constable"), (0, .class_ 114), (0, u "java/lang/Comparable"), (0, .class_ 116), (0, u "java/io/Serializable")] 87

/-- java/lang/Enum -/
def k5 : Class := { plain "java/lang/Enum" (some 0) with
  accessFlags := 1057
  interfaces := #[2, 3, 4]
  cf := some (fileOf pool5 2 #[.nestMembers #[106]] #[] 1057 12 #[111, 113, 115] #[{ accessFlags := 18, nameIndex := 5, descriptorIndex := 6, attributes := #[] }, { accessFlags := 18, nameIndex := 9, descriptorIndex := 10, attributes := #[] }, { accessFlags := 2, nameIndex := 19, descriptorIndex := 10, attributes := #[] }])
  fields := #[{ name := "name", type := (.object "java/lang/String"), accessFlags := 18, slot := 0, constantValue := 0 }, { name := "ordinal", type := .int, accessFlags := 18, slot := 1, constantValue := 0 }, { name := "hash", type := .int, accessFlags := 2, slot := 2, constantValue := 0 }]
  methods := #[]
  instanceTypes := #[(.object "java/lang/String"), .int, .int]
  staticTypes := #[]
  resolved := Array.replicate 204 none
  statics := none }

def pool6 : Array CpInfo := pool [(1, .class_ 2), (0, u "com/example/statementforge/statementforge/ResultMapDefinition$Kind"), (0, .fieldref 1 4), (0, .nameAndType 5 6), (0, u "ID"), (0, u "Lcom/example/statementforge/statementforge/ResultMapDefinition$Kind;"), (2, u "RESULT"), (2, u "ASSOCIATION"), (2, u "COLLECTION"), (0, .fieldref 1 17), (0, .nameAndType 18 6), (0, u "ID_ARG"), (2, u "ARG"), (2, u "$VALUES"), (0, u "[Lcom/example/statementforge/statementforge/ResultMapDefinition$Kind;"), (6, .class_ 34), (1, u "java/lang/Enum"), (8, u "elementName"), (0, u "Ljava/lang/String;"), (42, u "()Z"), (2, u "isId"), (7, .class_ 99), (0, u "com/example/statementforge/statementforge/ResultMapDefinition")] 2

def k6c0 : Code := { maxStack := 2, maxLocals := 1, code := prog_86_method_7_code, exceptionTable := #[], attributes := #[] }
def k6m0 : Method := { name := "isId", desc := "()Z", sig := { parameters := [], returnType := some .boolean }, accessFlags := 0, code := some k6c0 }
/-- com/example/statementforge/statementforge/ResultMapDefinition$Kind -/
def k6 : Class := { plain "com/example/statementforge/statementforge/ResultMapDefinition$Kind" (some 5) with
  accessFlags := 16432
  interfaces := #[]
  cf := some (fileOf pool6 1 #[.nestHost 98] #[{ accessFlags := 0, nameIndex := 90, descriptorIndex := 87, attributes := #[] }] 16432 32 #[] #[{ accessFlags := 16409, nameIndex := 5, descriptorIndex := 6, attributes := #[] }, { accessFlags := 16409, nameIndex := 9, descriptorIndex := 6, attributes := #[] }, { accessFlags := 16409, nameIndex := 12, descriptorIndex := 6, attributes := #[] }, { accessFlags := 16409, nameIndex := 15, descriptorIndex := 6, attributes := #[] }, { accessFlags := 16409, nameIndex := 18, descriptorIndex := 6, attributes := #[] }, { accessFlags := 16409, nameIndex := 21, descriptorIndex := 6, attributes := #[] }, { accessFlags := 18, nameIndex := 43, descriptorIndex := 44, attributes := #[] }, { accessFlags := 4122, nameIndex := 24, descriptorIndex := 25, attributes := #[] }])
  fields := #[{ name := "ID", type := (.object "com/example/statementforge/statementforge/ResultMapDefinition$Kind"), accessFlags := 16409, slot := 0, constantValue := 0 }, { name := "RESULT", type := (.object "com/example/statementforge/statementforge/ResultMapDefinition$Kind"), accessFlags := 16409, slot := 1, constantValue := 0 }, { name := "ASSOCIATION", type := (.object "com/example/statementforge/statementforge/ResultMapDefinition$Kind"), accessFlags := 16409, slot := 2, constantValue := 0 }, { name := "COLLECTION", type := (.object "com/example/statementforge/statementforge/ResultMapDefinition$Kind"), accessFlags := 16409, slot := 3, constantValue := 0 }, { name := "ID_ARG", type := (.object "com/example/statementforge/statementforge/ResultMapDefinition$Kind"), accessFlags := 16409, slot := 4, constantValue := 0 }, { name := "ARG", type := (.object "com/example/statementforge/statementforge/ResultMapDefinition$Kind"), accessFlags := 16409, slot := 5, constantValue := 0 }, { name := "elementName", type := (.object "java/lang/String"), accessFlags := 18, slot := 3, constantValue := 0 }, { name := "$VALUES", type := (.array (.object "com/example/statementforge/statementforge/ResultMapDefinition$Kind")), accessFlags := 4122, slot := 6, constantValue := 0 }]
  methods := #[k6m0]
  instanceTypes := #[(.object "java/lang/String"), .int, .int, (.object "java/lang/String")]
  staticTypes := #[(.object "com/example/statementforge/statementforge/ResultMapDefinition$Kind"), (.object "com/example/statementforge/statementforge/ResultMapDefinition$Kind"), (.object "com/example/statementforge/statementforge/ResultMapDefinition$Kind"), (.object "com/example/statementforge/statementforge/ResultMapDefinition$Kind"), (.object "com/example/statementforge/statementforge/ResultMapDefinition$Kind"), (.object "com/example/statementforge/statementforge/ResultMapDefinition$Kind"), (.array (.object "com/example/statementforge/statementforge/ResultMapDefinition$Kind"))]
  resolved := Array.replicate 102 none
  statics := some 0 }

def pool7 : Array CpInfo := pool [(1, u "java/lang/Cloneable"), (0, .class_ 1), (0, u "java/lang/Object"), (0, .class_ 3)] 3

/-- java/lang/Cloneable -/
def k7 : Class := { plain "java/lang/Cloneable" (some 0) with
  accessFlags := 1537
  interfaces := #[]
  cf := some (fileOf pool7 2 #[] #[] 1537 4 #[] #[])
  fields := #[]
  methods := #[]
  instanceTypes := #[]
  staticTypes := #[]
  resolved := Array.replicate 8 none
  statics := none }

/-- the primitive byte -/
def k8 : Class := { plain "byte" none with kind := .primitive 'B', accessFlags := 0x411 }
/-- [B -/
def k9 : Class := { plain "[B" (some 0) with kind := .array 8 .byte, interfaces := #[7, 4], accessFlags := 1041 }

/-- the primitive int -/
def k10 : Class := { plain "int" none with kind := .primitive 'I', accessFlags := 0x411 }
/-- [I -/
def k11 : Class := { plain "[I" (some 0) with kind := .array 10 .int, interfaces := #[7, 4], accessFlags := 1041 }

def heap : Heap := #[{ cls := 6, slots := #[.ref 1, .ref 5, .ref 4, .ref 2, .ref 3, .ref 6, .null], vm := .statics 6 },
  { cls := 6, slots := #[.null, .int 0, .int 0, .null], vm := .none },
  { cls := 6, slots := #[.null, .int 3, .int 0, .null], vm := .none },
  { cls := 6, slots := #[.null, .int 4, .int 0, .null], vm := .none },
  { cls := 6, slots := #[.null, .int 2, .int 0, .null], vm := .none },
  { cls := 6, slots := #[.null, .int 1, .int 0, .null], vm := .none },
  { cls := 6, slots := #[.null, .int 5, .int 0, .null], vm := .none }]
def classes : Array Class := #[k0, k1, k2, k3, k4, k5, k6, k7, k8, k9, k10, k11]
def interned : List (Array UInt16 × Addr) := []
def slotsUsed : Nat := 31
def theMethod : MethodId := ⟨1, 1⟩
def args0 : Array Value := #[.int 5]
def aboutOver (below : List Frame) : State where
  vm := { classes := classes, interned := interned.toArray }
  heap := heap
  slotsUsed := slotsUsed
  threads := #[{ frames := .invoking theMethod args0 :: below }]
def below0 : List Frame := [.native { method := ⟨0, 0⟩, args := #[] }]
def about1 : State := aboutOver below0
def p0 : Program := .bare "" "" ""
def e0 : Env := launch0.env 0 0 0
theorem w_frames : about1.frames = Frame.invoking theMethod args0 :: below0 := rfl
set_option maxRecDepth 65536 in
theorem w_args : argsFit about1.vm theMethod args0 = true := by decide +kernel
set_option maxRecDepth 65536 in
theorem w_heap : heapFits about1 = true := by decide +kernel
set_option maxRecDepth 65536 in
theorem w_runnable : about1.curStatus? = some .runnable := by decide +kernel
set_option maxRecDepth 65536 in
theorem w_alone : about1.alone = true := by decide +kernel
set_option maxRecDepth 65536 in
theorem w_named : about1.methodNamed? x = some theMethod := by decide +kernel
set_option maxRecDepth 65536 in
theorem w_hears : about1.hears theMethod below0 = true := by decide +kernel
set_option maxRecDepth 65536 in
theorem w_ripe : about1.ripe theMethod args0 below0 = true := by decide +kernel
theorem w_running : about1.status = .running := rfl
set_option maxRecDepth 65536 in
theorem w_room : about1.hasRoom e0.platform room_1 = true :=
  launch0.hasRoom_least _ room_1 (by decide +kernel) (by decide +kernel) (by decide +kernel) (by decide +kernel) (by decide +kernel) (by decide +kernel)
theorem allAtoms_all (ts : List Jvm.Cond) (a : Array Jvm.Value) (st : Jvm.State) : (allAtoms ts).before a st = ts.all (fun c => c.before a st) := by
  induction ts with
  | nil => rfl
  | cons c t ih =>
    show (Jvm.Cond.and c (allAtoms t)).before a st = _
    rw [Jvm.Cond.before_and, ih, List.all_cons]
def words1 : List Jvm.Cond := Jvm.Cond.code x code maxLocals ret :: tables_1
/-- a 'code' word, met by the world's own term for the bytes: nothing is compared byte by byte -/
theorem code_word {y : MethodName} {bytes : ByteArray} {mx : Nat} {rt : Option FieldType} {a : Array Value} {s : State} {m : MethodId} {meth : Method} {c : Code} (h1 : s.methodNamed? y = some m) (h2 : s.vm.method? m = some meth) (h3 : meth.code = some c) (h4 : c.code = bytes)
    (h5 : (c.maxLocals == mx && c.exceptionTable.isEmpty && decide (c.maxStack ≤ mostOperands) && decide (meth.sig.returnType = rt) && !meth.locks && decide (parseMethodDescriptor y.desc = some meth.sig)) = true) : (Jvm.Cond.code y bytes mx rt).before a s = true := by
  simp only [Bool.and_eq_true, beq_iff_eq, Bool.not_eq_true', decide_eq_true_eq] at h5
  obtain ⟨⟨⟨⟨⟨g1, g2⟩, g3⟩, g4⟩, g5⟩, g6⟩ := h5
  simp [Cond.before, Cond.holds, Cond.value, h1, h2, h3, h4, g1, g2, g3, g4, g5, g6]
def isCode : Jvm.Cond → Bool
  | .code _ _ _ _ => true
  | _ => false
theorem all_split {L : List Jvm.Cond} {P : Jvm.Cond → Bool} (h1 : L.all (fun c => isCode c || P c) = true) (h2 : ∀ c ∈ L.filter isCode, P c = true) : L.all P = true := by
  refine List.all_eq_true.mpr fun c hc => ?_
  have h := List.all_eq_true.mp h1 c hc
  rcases Bool.eq_false_or_eq_true (isCode c) with hi | hi
  · exact h2 c (List.mem_filter.mpr ⟨hc, hi⟩)
  · simpa [hi] using h
set_option maxRecDepth 65536 in
theorem w_c0 : (Jvm.Cond.code x code maxLocals ret).before args0 about1 = true := code_word (m := ⟨1, 1⟩) (meth := k1m1) (c := k1c1) (by decide +kernel) rfl rfl rfl (by decide +kernel)
set_option maxRecDepth 65536 in
theorem w_c1 : (Jvm.Cond.code ({ cls := "com/example/statementforge/statementforge/ResultMapDefinition$Kind", name := "isId", desc := "()Z" } : Jvm.MethodName) prog_86_method_7_code (1 : Nat) (Option.some Jvm.ClassFile.FieldType.boolean)).before args0 about1 = true := code_word (m := ⟨6, 0⟩) (meth := k6m0) (c := k6c0) (by decide +kernel) rfl rfl rfl (by decide +kernel)
def codes1 : List Jvm.Cond := [Jvm.Cond.code x code maxLocals ret, Jvm.Cond.code ({ cls := "com/example/statementforge/statementforge/ResultMapDefinition$Kind", name := "isId", desc := "()Z" } : Jvm.MethodName) prog_86_method_7_code (1 : Nat) (Option.some Jvm.ClassFile.FieldType.boolean)]
set_option maxRecDepth 65536 in
theorem codes_eq : words1.filter isCode = codes1 := rfl
theorem w_codes : ∀ c ∈ words1.filter isCode, c.before args0 about1 = true := by
  rw [codes_eq]
  intro c hc
  simp only [codes1, List.mem_cons, List.not_mem_nil, or_false] at hc
  rcases hc with rfl | rfl
  · exact w_c0
  · exact w_c1
set_option maxRecDepth 65536 in
theorem w_t1 : words1.all (fun c => isCode c || c.before args0 about1) = true := by decide +kernel
theorem w_tables : (allAtoms (Jvm.Cond.code x code maxLocals ret :: tables_1)).before args0 about1 = true := by
  rw [allAtoms_all]
  show words1.all (fun c => c.before args0 about1) = true
  refine all_split ?_ w_codes
  rw [w_t1]
set_option maxRecDepth 65536 in
theorem w_case : (Jvm.Cond.and given_1 narrow_1).before args0 about1 = true := by decide +kernel
theorem w_applies : (headSpec (Jvm.Cond.code x code maxLocals ret :: tables_1) room_1).applies x e0.platform about1 = true :=
  (Spec.applies_iff w_frames).mpr ⟨w_running, w_runnable, w_alone, w_named, w_hears, w_ripe, w_room, w_tables⟩
theorem atStart : AtStart classFile x code maxLocals ret World_1 tables_1 room_1 Calls_1 rest_1 Pre_1 launch0 p0 e0 about1 theMethod args0 below0 :=
  ⟨lists_1, trivial, launch0.admits_env _ _ _, launch0.least_env, fairChoices_fair.cas, fairChoices_fair.clock, w_frames, w_args, w_heap, w_applies, trivial, trivial, w_case⟩
end start1
theorem witness_1 : WitnessClaimed_1 := ⟨start1.p0, start1.e0, start1.about1, start1.theMethod, start1.args0, start1.below0, start1.atStart⟩
end Jvm.Pilot.@@N@@
