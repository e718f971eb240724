import JvmDerived
import JvmDerived.Pilot.@@N@@Statement
import JvmDerived.Pilot.@@N@@Code
set_option linter.unusedVariables false
set_option linter.unusedSimpArgs false
namespace Jvm.RoadKit
open Sem ClassFile Op Lib Jvm.Stand Jvm.Free Jvm.LawKit
section New
variable {p : Program} {l : Launch} {e : Env} {R : Room} {s : State} {m : MethodId} {args : Array Value} {below : List Frame} {meth : Method} {c : Code} {T : State} {locs : List Loc} {cells slots : Nat}
theorem retI (X : Stand p l e R s m args below meth c T locs cells slots) (hx : p.tables.exec = Jvm.exec) {pc : Nat} {Ls : Array Slot} {z : Int32} {rest : List Value} (hret : meth.sig.returnType = some .int) (hd : decode c.code pc = .ok (.ireturn, 1)) {fs : List Frame}
    (hl : ∀ (f : JFrame) (acts : List Action), f.method = m → f.locked = none → f.entered = [] → (doReturn e (T.setTop f) acts (some (.int z))).1 = T.setFrames fs) : Steps p.tables e below (T.setTop (mkF m pc Ls (.int z :: rest))) (T.setFrames fs) := by
  have hm' : T.vm.method? m = some meth := X.method'
  have hn : narrow .int (.int z) = .int z := rfl
  show Steps p.tables e below (T.setTop { method := m, pc := pc, locals := Ls, stack := _ :: rest, locked := none }) _
  jvm_step X.here [X.here.top, hx, hd, hm', hret, hn]
  first | (intro acts; rw [hl _ acts rfl rfl rfl]) | rw [hl _ _ rfl rfl rfl]
  exact Steps.refl _
end New
end Jvm.RoadKit
namespace Jvm.Pilot.@@N@@
open Jvm Jvm.ClassFile Sem Op Lib Jvm.Free Jvm.Stand Jvm.LawKit Jvm.RoadKit Bundle Jvm.Pilot.@@N@@.Jvm.D
theorem own_ord {args : Array Value} {s : State} {t : Term} {C n d : String} {k : Int32} {x : Addr} (ht : t.eval args s none [] s = some (.ref x)) (h : (Jvm.Cond.eq (.field t C n d) (.int k)).value args s none s [] = some true) : s.fieldOf? x C n d = some (.int k) := by
  have e := fld_at (C := C) (n := n) (dd := d) ht
  simp only [Cond.value, e, Term.int_eval] at h
  cases hq : s.fieldOf? x C n d with
  | none => simp [hq] at h
  | some v => cases v <;> simp [hq] at h ⊢; exact h
theorem own_ne {s : State} {x y : Addr} {C n d : String} {j k : Int32} (hx : s.fieldOf? x C n d = some (.int j)) (hy : s.fieldOf? y C n d = some (.int k)) (h : j ≠ k) : ¬ (x = y) := fun q => by
  subst q; rw [hx] at hy; exact h (Value.int.inj (Option.some.inj hy))
def own_pk (k : Int32) (w0 w1 w2 w3 w4 w5 w6 w7 w8 w9 w10 : Addr) : Addr := if k = 0 then w0 else if k = 1 then w1 else if k = 2 then w2 else if k = 3 then w3 else if k = 4 then w4 else if k = 5 then w5 else if k = 6 then w6 else if k = 7 then w7 else if k = 8 then w8 else if k = 9 then w9 else w10
theorem own_k (p0 : Int32) : ((p0 &&& (2147483647 : Int32)) % (11 : Int32)) = (0 : Int32) ∨ ((p0 &&& (2147483647 : Int32)) % (11 : Int32)) = (1 : Int32) ∨ ((p0 &&& (2147483647 : Int32)) % (11 : Int32)) = (2 : Int32) ∨ ((p0 &&& (2147483647 : Int32)) % (11 : Int32)) = (3 : Int32) ∨ ((p0 &&& (2147483647 : Int32)) % (11 : Int32)) = (4 : Int32) ∨ ((p0 &&& (2147483647 : Int32)) % (11 : Int32)) = (5 : Int32) ∨ ((p0 &&& (2147483647 : Int32)) % (11 : Int32)) = (6 : Int32) ∨ ((p0 &&& (2147483647 : Int32)) % (11 : Int32)) = (7 : Int32) ∨ ((p0 &&& (2147483647 : Int32)) % (11 : Int32)) = (8 : Int32) ∨ ((p0 &&& (2147483647 : Int32)) % (11 : Int32)) = (9 : Int32) ∨ ((p0 &&& (2147483647 : Int32)) % (11 : Int32)) = (10 : Int32) := by
  have h1 := c_mask p0 2147483647 31 (by decide) (by decide)
  have h2 := (c_irem (p0 &&& 2147483647) 11 11 (by decide)).1 (by omega)
  have h3 : ((p0 &&& (2147483647 : Int32)) % (11 : Int32)).toInt = 0 ∨ ((p0 &&& (2147483647 : Int32)) % (11 : Int32)).toInt = 1 ∨ ((p0 &&& (2147483647 : Int32)) % (11 : Int32)).toInt = 2 ∨ ((p0 &&& (2147483647 : Int32)) % (11 : Int32)).toInt = 3 ∨ ((p0 &&& (2147483647 : Int32)) % (11 : Int32)).toInt = 4 ∨ ((p0 &&& (2147483647 : Int32)) % (11 : Int32)).toInt = 5 ∨ ((p0 &&& (2147483647 : Int32)) % (11 : Int32)).toInt = 6 ∨ ((p0 &&& (2147483647 : Int32)) % (11 : Int32)).toInt = 7 ∨ ((p0 &&& (2147483647 : Int32)) % (11 : Int32)).toInt = 8 ∨ ((p0 &&& (2147483647 : Int32)) % (11 : Int32)).toInt = 9 ∨ ((p0 &&& (2147483647 : Int32)) % (11 : Int32)).toInt = 10 := by omega
  rcases h3 with h | h | h | h | h | h | h | h | h | h | h
  · exact Or.inl (Int32.toInt_inj.mp (h.trans (by decide)))
  · exact Or.inr (Or.inl (Int32.toInt_inj.mp (h.trans (by decide))))
  · exact Or.inr (Or.inr (Or.inl (Int32.toInt_inj.mp (h.trans (by decide)))))
  · exact Or.inr (Or.inr (Or.inr (Or.inl (Int32.toInt_inj.mp (h.trans (by decide))))))
  · exact Or.inr (Or.inr (Or.inr (Or.inr (Or.inl (Int32.toInt_inj.mp (h.trans (by decide)))))))
  · exact Or.inr (Or.inr (Or.inr (Or.inr (Or.inr (Or.inl (Int32.toInt_inj.mp (h.trans (by decide))))))))
  · exact Or.inr (Or.inr (Or.inr (Or.inr (Or.inr (Or.inr (Or.inl (Int32.toInt_inj.mp (h.trans (by decide)))))))))
  · exact Or.inr (Or.inr (Or.inr (Or.inr (Or.inr (Or.inr (Or.inr (Or.inl (Int32.toInt_inj.mp (h.trans (by decide))))))))))
  · exact Or.inr (Or.inr (Or.inr (Or.inr (Or.inr (Or.inr (Or.inr (Or.inr (Or.inl (Int32.toInt_inj.mp (h.trans (by decide)))))))))))
  · exact Or.inr (Or.inr (Or.inr (Or.inr (Or.inr (Or.inr (Or.inr (Or.inr (Or.inr (Or.inl (Int32.toInt_inj.mp (h.trans (by decide))))))))))))
  · exact Or.inr (Or.inr (Or.inr (Or.inr (Or.inr (Or.inr (Or.inr (Or.inr (Or.inr (Or.inr (Int32.toInt_inj.mp (h.trans (by decide))))))))))))
theorem pn_com_example_refute_refute_core_Concept_Kind : plainName "com/example/refute/refute/core/Concept$Kind" = true := by first | (simp [plainName, overriddenIn]; done) | decide +kernel
theorem pn_com_example_refute_refute_core_KindIsNumberRestrictionPinLaw : plainName "com/example/refute/refute/core/KindIsNumberRestrictionPinLaw" = true := by first | (simp [plainName, overriddenIn]; done) | decide +kernel
theorem ef_rm1 (m : MethodId) (p0 : Int32) : entryFrame m #[(.int p0)] 1 = mkF m 0 #[.val (.int p0)] [] := by first | (simp [entryFrame, mkF, argsToLocals, Value.category]; done) | rfl
theorem d1_0 : decode method_3_code 0 = .ok (.iload_n 0, 1) := by decide +kernel
theorem d1_1 : decode method_3_code 1 = .ok (.ifCond .ne 7, 3) := by decide +kernel
theorem d1_4 : decode method_3_code 4 = .ok (.getstatic 20, 3) := by decide +kernel
theorem d1_7 : decode method_3_code 7 = .ok (.areturn, 1) := by decide +kernel
theorem d1_8 : decode method_3_code 8 = .ok (.iload_n 0, 1) := by decide +kernel
theorem d1_9 : decode method_3_code 9 = .ok (.iconst 1, 1) := by decide +kernel
theorem d1_10 : decode method_3_code 10 = .ok (.if_icmp .ne 7, 3) := by decide +kernel
theorem d1_13 : decode method_3_code 13 = .ok (.getstatic 24, 3) := by decide +kernel
theorem d1_16 : decode method_3_code 16 = .ok (.areturn, 1) := by decide +kernel
theorem d1_17 : decode method_3_code 17 = .ok (.iload_n 0, 1) := by decide +kernel
theorem d1_18 : decode method_3_code 18 = .ok (.iconst 2, 1) := by decide +kernel
theorem d1_19 : decode method_3_code 19 = .ok (.if_icmp .ne 7, 3) := by decide +kernel
theorem d1_22 : decode method_3_code 22 = .ok (.getstatic 27, 3) := by decide +kernel
theorem d1_25 : decode method_3_code 25 = .ok (.areturn, 1) := by decide +kernel
theorem d1_26 : decode method_3_code 26 = .ok (.iload_n 0, 1) := by decide +kernel
theorem d1_27 : decode method_3_code 27 = .ok (.iconst 3, 1) := by decide +kernel
theorem d1_28 : decode method_3_code 28 = .ok (.if_icmp .ne 7, 3) := by decide +kernel
theorem d1_31 : decode method_3_code 31 = .ok (.getstatic 30, 3) := by decide +kernel
theorem d1_34 : decode method_3_code 34 = .ok (.areturn, 1) := by decide +kernel
theorem d1_35 : decode method_3_code 35 = .ok (.iload_n 0, 1) := by decide +kernel
theorem d1_36 : decode method_3_code 36 = .ok (.iconst 4, 1) := by decide +kernel
theorem d1_37 : decode method_3_code 37 = .ok (.if_icmp .ne 7, 3) := by decide +kernel
theorem d1_40 : decode method_3_code 40 = .ok (.getstatic 33, 3) := by decide +kernel
theorem d1_43 : decode method_3_code 43 = .ok (.areturn, 1) := by decide +kernel
theorem d1_44 : decode method_3_code 44 = .ok (.iload_n 0, 1) := by decide +kernel
theorem d1_45 : decode method_3_code 45 = .ok (.iconst 5, 1) := by decide +kernel
theorem d1_46 : decode method_3_code 46 = .ok (.if_icmp .ne 7, 3) := by decide +kernel
theorem d1_49 : decode method_3_code 49 = .ok (.getstatic 36, 3) := by decide +kernel
theorem d1_52 : decode method_3_code 52 = .ok (.areturn, 1) := by decide +kernel
theorem d1_53 : decode method_3_code 53 = .ok (.iload_n 0, 1) := by decide +kernel
theorem d1_54 : decode method_3_code 54 = .ok (.bipush 6, 2) := by decide +kernel
theorem d1_56 : decode method_3_code 56 = .ok (.if_icmp .ne 7, 3) := by decide +kernel
theorem d1_59 : decode method_3_code 59 = .ok (.getstatic 39, 3) := by decide +kernel
theorem d1_62 : decode method_3_code 62 = .ok (.areturn, 1) := by decide +kernel
theorem d1_63 : decode method_3_code 63 = .ok (.iload_n 0, 1) := by decide +kernel
theorem d1_64 : decode method_3_code 64 = .ok (.bipush 7, 2) := by decide +kernel
theorem d1_66 : decode method_3_code 66 = .ok (.if_icmp .ne 7, 3) := by decide +kernel
theorem d1_69 : decode method_3_code 69 = .ok (.getstatic 42, 3) := by decide +kernel
theorem d1_72 : decode method_3_code 72 = .ok (.areturn, 1) := by decide +kernel
theorem d1_73 : decode method_3_code 73 = .ok (.iload_n 0, 1) := by decide +kernel
theorem d1_74 : decode method_3_code 74 = .ok (.bipush 8, 2) := by decide +kernel
theorem d1_76 : decode method_3_code 76 = .ok (.if_icmp .ne 7, 3) := by decide +kernel
theorem d1_79 : decode method_3_code 79 = .ok (.getstatic 45, 3) := by decide +kernel
theorem d1_82 : decode method_3_code 82 = .ok (.areturn, 1) := by decide +kernel
theorem d1_83 : decode method_3_code 83 = .ok (.iload_n 0, 1) := by decide +kernel
theorem d1_84 : decode method_3_code 84 = .ok (.bipush 9, 2) := by decide +kernel
theorem d1_86 : decode method_3_code 86 = .ok (.if_icmp .ne 7, 3) := by decide +kernel
theorem d1_89 : decode method_3_code 89 = .ok (.getstatic 48, 3) := by decide +kernel
theorem d1_92 : decode method_3_code 92 = .ok (.areturn, 1) := by decide +kernel
theorem d1_93 : decode method_3_code 93 = .ok (.getstatic 51, 3) := by decide +kernel
theorem d1_96 : decode method_3_code 96 = .ok (.areturn, 1) := by decide +kernel
def Q_rm1 (Z : State) (p0 : Int32) (w0 : Addr) (w1 : Addr) (w2 : Addr) (w3 : Addr) (w4 : Addr) (w5 : Addr) (w6 : Addr) (w7 : Addr) (w8 : Addr) (w9 : Addr) (w10 : Addr) (r : Addr) (h0 : Heap) (n0 : Nat) (v : Option Value) (h : Heap) (L : List Loc) : Prop := v = some (.ref r) ∧ Fr n0 L ∧ h = h0
set_option maxRecDepth 65536 in
set_option maxHeartbeats 40000000 in
theorem rm1 (l : Launch) (Z : State) (a0 : Array Value) (hw : ∀ d ∈ tables_1, d.before a0 Z = true) (ws : List Jvm.Cond) (p0 : Int32) (w0 : Addr) (w1 : Addr) (w2 : Addr) (w3 : Addr) (w4 : Addr) (w5 : Addr) (w6 : Addr) (w7 : Addr) (w8 : Addr) (w9 : Addr) (w10 : Addr) (r : Addr) (h0 : Heap) (n0 : Nat) (Z0 : n0 ≤ h0.size) (S_CLASS : Sta Z h0 "com/example/refute/refute/core/Concept$Kind" "CLASS" "Lcom/example/refute/refute/core/Concept$Kind;" (.ref w0)) (S_THING : Sta Z h0 "com/example/refute/refute/core/Concept$Kind" "THING" "Lcom/example/refute/refute/core/Concept$Kind;" (.ref w1)) (S_NOTHING : Sta Z h0 "com/example/refute/refute/core/Concept$Kind" "NOTHING" "Lcom/example/refute/refute/core/Concept$Kind;" (.ref w2)) (S_INTERSECTION : Sta Z h0 "com/example/refute/refute/core/Concept$Kind" "INTERSECTION" "Lcom/example/refute/refute/core/Concept$Kind;" (.ref w3)) (S_UNION : Sta Z h0 "com/example/refute/refute/core/Concept$Kind" "UNION" "Lcom/example/refute/refute/core/Concept$Kind;" (.ref w4)) (S_COMPLEMENT : Sta Z h0 "com/example/refute/refute/core/Concept$Kind" "COMPLEMENT" "Lcom/example/refute/refute/core/Concept$Kind;" (.ref w5)) (S_SOME : Sta Z h0 "com/example/refute/refute/core/Concept$Kind" "SOME" "Lcom/example/refute/refute/core/Concept$Kind;" (.ref w6)) (S_ALL : Sta Z h0 "com/example/refute/refute/core/Concept$Kind" "ALL" "Lcom/example/refute/refute/core/Concept$Kind;" (.ref w7)) (S_MIN : Sta Z h0 "com/example/refute/refute/core/Concept$Kind" "MIN" "Lcom/example/refute/refute/core/Concept$Kind;" (.ref w8)) (S_MAX : Sta Z h0 "com/example/refute/refute/core/Concept$Kind" "MAX" "Lcom/example/refute/refute/core/Concept$Kind;" (.ref w9)) (S_EXACT : Sta Z h0 "com/example/refute/refute/core/Concept$Kind" "EXACT" "Lcom/example/refute/refute/core/Concept$Kind;" (.ref w10)) (hres : r = own_pk p0 w0 w1 w2 w3 w4 w5 w6 w7 w8 w9 w10) :
    MetFree l (⟨"com/example/refute/refute/core/KindIsNumberRestrictionPinLaw", "pick", "(I)Lcom/example/refute/refute/core/Concept$Kind;"⟩ : MethodName) (head1 (Jvm.Cond.code (⟨"com/example/refute/refute/core/KindIsNumberRestrictionPinLaw", "pick", "(I)Lcom/example/refute/refute/core/Concept$Kind;"⟩ : MethodName) method_3_code 1 (some (.object "com/example/refute/refute/core/Concept$Kind")) :: ws) ({ frames := 0, cells := 0, slots := 0, locals := 0 } : Room)) (fun a U => a = #[(.int p0)] ∧ Z.Warmed39 U.vm ∧ U.heap = h0) (fun _ _ _ _ _ => True) (fun _ U o U' => ∃ v L, o = .returned v ∧ Q_rm1 Z p0 w0 w1 w2 w3 w4 w5 w6 w7 w8 w9 w10 r h0 n0 v U'.heap L ∧ FrameEnd U o U' L ({ frames := 0, cells := 0, slots := 0, locals := 0 } : Room).cells ({ frames := 0, cells := 0, slots := 0, locals := 0 } : Room).slots) := by
  refine MetFree.of_bodySF (plainFor_of_name pn_com_example_refute_refute_core_KindIsNumberRestrictionPinLaw) hisR ?_
  intro p e s m args below meth c s₁ Bd hml0 hP hK
  obtain ⟨rfl, hZ, hh⟩ := hP
  have hx := Bd.exec
  have hby := Bd.bytes
  have hml : c.maxLocals = 1 := hml0
  have hown : s.vm.findClass "com/example/refute/refute/core/KindIsNumberRestrictionPinLaw" = some m.cls := findClass_of_methodNamed Bd.named
  have hnm := (name_of_methodNamed Bd.named Bd.method).1
  have X0 : Stand p l e ({ frames := 0, cells := 0, slots := 0, locals := 0 } : Room) s m #[(.int p0)] below meth c s₁ [] 0 0 := Stand.of_body Bd
  have e0 : s₁.heap = h0 := by rw [← hh, Bd.state]; rfl
  have N0 := Fr.nil n0
  have pre0 : ∀ t, Steps p.tables e below (s₁.setTop (mkF m 0 #[.val (.int p0)] [])) t → Steps p.tables e below (s₁.setTop (entryFrame m #[(.int p0)] 1)) t := fun t k => castTop (ef_rm1 m p0 ) k
  have pre2 : ∀ t, Steps p.tables e below (s₁.setTop (mkF m 1 #[.val (.int p0)] [(.int p0)])) t → Steps p.tables e below (s₁.setTop (entryFrame m #[(.int p0)] 1)) t := fun t kt => pre0 t (by
    show Steps p.tables e below (s₁.setTop (mkF m 0 #[.val (.int p0)] [])) _
    refine XS.iloadN X0.here hx rfl (hb hby d1_0) rfl  ?_
    exact kt)
  by_cases hc1_1 : p0 = (0 : Int32)
  · obtain ⟨T3, X3, e3, st3⟩ := getS2 X0 hx hZ hown (host := "") (Or.inl (hw _ (List.mem_of_getElem? (i := 5) rfl))) Via.refl e0 S_CLASS (g := (mkF m 4 #[.val (.int p0)] [])) rfl (hb hby d1_4)
    obtain ⟨fs, hr, hrun, hended, hW, hsame⟩ := X3.leave (v := some (.ref w0)) (fun h => by rw [Bd.returns] at h; cases h)
    refine ⟨_, _, pre2 _ ?_, hrun, hended, _, _, rfl, ?_, ⟨_, rfl⟩, hW, hsame.mono (by decide) (by decide)⟩
    · show Steps p.tables e below (s₁.setTop (mkF m 1 #[.val (.int p0)] [(.int p0)])) _
      refine XS.ifNo X0.here hx rfl (hb hby d1_1) rfl ((if0 _ _).trans (teq hc1_1).2) ?_
      show Steps p.tables e below (s₁.setTop (mkF m 4 #[.val (.int p0)] [])) _
      refine st3 _ ?_
      show Steps p.tables e below (T3.setTop (mkF m 7 #[.val (.int p0)] [(.ref w0)])) _
      jvm_step X3.here [X3.here.top, hx, (hb hby d1_7), X3.method', Bd.returns, Value.isRef, FieldType.isReference]
      first | (intro acts; rw [hr _ acts rfl rfl rfl]) | rw [hr _ _ rfl rfl rfl]
      exact Steps.refl _
    · show Q_rm1 Z p0 w0 w1 w2 w3 w4 w5 w6 w7 w8 w9 w10 r h0 n0 _ T3.heap _
      rw [e3]
      exact ⟨by rw [hres]; unfold own_pk; rw [if_pos hc1_1], N0, rfl⟩
  · have pre5 : ∀ t, Steps p.tables e below (s₁.setTop (mkF m 10 #[.val (.int p0)] [(.int (1 : Int32)), (.int p0)])) t → Steps p.tables e below (s₁.setTop (entryFrame m #[(.int p0)] 1)) t := fun t kt => pre2 t (by
      show Steps p.tables e below (s₁.setTop (mkF m 1 #[.val (.int p0)] [(.int p0)])) _
      refine XS.ifYes X0.here hx rfl (pc0 := 1) (pc' := 8) rfl (hb hby d1_1) rfl ((if0 _ _).trans (feq hc1_1).2) (by decide) (by decide) ?_
      show Steps p.tables e below (s₁.setTop (mkF m 8 #[.val (.int p0)] [])) _
      refine XS.iloadN X0.here hx rfl (hb hby d1_8) rfl  ?_
      show Steps p.tables e below (s₁.setTop (mkF m 9 #[.val (.int p0)] [(.int p0)])) _
      refine XS.iconst X0.here hx rfl (hb hby d1_9) ?_
      exact kt)
    by_cases hc10_4 : p0 = (1 : Int32)
    · obtain ⟨T6, X6, e6, st6⟩ := getS2 X0 hx hZ hown (host := "") (Or.inl (hw _ (List.mem_of_getElem? (i := 27) rfl))) Via.refl e0 S_THING (g := (mkF m 13 #[.val (.int p0)] [])) rfl (hb hby d1_13)
      obtain ⟨fs, hr, hrun, hended, hW, hsame⟩ := X6.leave (v := some (.ref w1)) (fun h => by rw [Bd.returns] at h; cases h)
      refine ⟨_, _, pre5 _ ?_, hrun, hended, _, _, rfl, ?_, ⟨_, rfl⟩, hW, hsame.mono (by decide) (by decide)⟩
      · show Steps p.tables e below (s₁.setTop (mkF m 10 #[.val (.int p0)] [(.int (1 : Int32)), (.int p0)])) _
        refine XS.icmpNo X0.here hx rfl (hb hby d1_10) rfl (teq hc10_4).2 ?_
        show Steps p.tables e below (s₁.setTop (mkF m 13 #[.val (.int p0)] [])) _
        refine st6 _ ?_
        show Steps p.tables e below (T6.setTop (mkF m 16 #[.val (.int p0)] [(.ref w1)])) _
        jvm_step X6.here [X6.here.top, hx, (hb hby d1_16), X6.method', Bd.returns, Value.isRef, FieldType.isReference]
        first | (intro acts; rw [hr _ acts rfl rfl rfl]) | rw [hr _ _ rfl rfl rfl]
        exact Steps.refl _
      · show Q_rm1 Z p0 w0 w1 w2 w3 w4 w5 w6 w7 w8 w9 w10 r h0 n0 _ T6.heap _
        rw [e6]
        exact ⟨by rw [hres]; unfold own_pk; rw [if_neg hc1_1, if_pos hc10_4], N0, rfl⟩
    · have pre8 : ∀ t, Steps p.tables e below (s₁.setTop (mkF m 19 #[.val (.int p0)] [(.int (2 : Int32)), (.int p0)])) t → Steps p.tables e below (s₁.setTop (entryFrame m #[(.int p0)] 1)) t := fun t kt => pre5 t (by
        show Steps p.tables e below (s₁.setTop (mkF m 10 #[.val (.int p0)] [(.int (1 : Int32)), (.int p0)])) _
        refine XS.icmpYes X0.here hx rfl (pc0 := 10) (pc' := 17) rfl (hb hby d1_10) rfl (feq hc10_4).2 (by decide) (by decide) ?_
        show Steps p.tables e below (s₁.setTop (mkF m 17 #[.val (.int p0)] [])) _
        refine XS.iloadN X0.here hx rfl (hb hby d1_17) rfl  ?_
        show Steps p.tables e below (s₁.setTop (mkF m 18 #[.val (.int p0)] [(.int p0)])) _
        refine XS.iconst X0.here hx rfl (hb hby d1_18) ?_
        exact kt)
      by_cases hc19_7 : p0 = (2 : Int32)
      · obtain ⟨T9, X9, e9, st9⟩ := getS2 X0 hx hZ hown (host := "") (Or.inl (hw _ (List.mem_of_getElem? (i := 24) rfl))) Via.refl e0 S_NOTHING (g := (mkF m 22 #[.val (.int p0)] [])) rfl (hb hby d1_22)
        obtain ⟨fs, hr, hrun, hended, hW, hsame⟩ := X9.leave (v := some (.ref w2)) (fun h => by rw [Bd.returns] at h; cases h)
        refine ⟨_, _, pre8 _ ?_, hrun, hended, _, _, rfl, ?_, ⟨_, rfl⟩, hW, hsame.mono (by decide) (by decide)⟩
        · show Steps p.tables e below (s₁.setTop (mkF m 19 #[.val (.int p0)] [(.int (2 : Int32)), (.int p0)])) _
          refine XS.icmpNo X0.here hx rfl (hb hby d1_19) rfl (teq hc19_7).2 ?_
          show Steps p.tables e below (s₁.setTop (mkF m 22 #[.val (.int p0)] [])) _
          refine st9 _ ?_
          show Steps p.tables e below (T9.setTop (mkF m 25 #[.val (.int p0)] [(.ref w2)])) _
          jvm_step X9.here [X9.here.top, hx, (hb hby d1_25), X9.method', Bd.returns, Value.isRef, FieldType.isReference]
          first | (intro acts; rw [hr _ acts rfl rfl rfl]) | rw [hr _ _ rfl rfl rfl]
          exact Steps.refl _
        · show Q_rm1 Z p0 w0 w1 w2 w3 w4 w5 w6 w7 w8 w9 w10 r h0 n0 _ T9.heap _
          rw [e9]
          exact ⟨by rw [hres]; unfold own_pk; rw [if_neg hc1_1, if_neg hc10_4, if_pos hc19_7], N0, rfl⟩
      · have pre11 : ∀ t, Steps p.tables e below (s₁.setTop (mkF m 28 #[.val (.int p0)] [(.int (3 : Int32)), (.int p0)])) t → Steps p.tables e below (s₁.setTop (entryFrame m #[(.int p0)] 1)) t := fun t kt => pre8 t (by
          show Steps p.tables e below (s₁.setTop (mkF m 19 #[.val (.int p0)] [(.int (2 : Int32)), (.int p0)])) _
          refine XS.icmpYes X0.here hx rfl (pc0 := 19) (pc' := 26) rfl (hb hby d1_19) rfl (feq hc19_7).2 (by decide) (by decide) ?_
          show Steps p.tables e below (s₁.setTop (mkF m 26 #[.val (.int p0)] [])) _
          refine XS.iloadN X0.here hx rfl (hb hby d1_26) rfl  ?_
          show Steps p.tables e below (s₁.setTop (mkF m 27 #[.val (.int p0)] [(.int p0)])) _
          refine XS.iconst X0.here hx rfl (hb hby d1_27) ?_
          exact kt)
        by_cases hc28_10 : p0 = (3 : Int32)
        · obtain ⟨T12, X12, e12, st12⟩ := getS2 X0 hx hZ hown (host := "") (Or.inl (hw _ (List.mem_of_getElem? (i := 19) rfl))) Via.refl e0 S_INTERSECTION (g := (mkF m 31 #[.val (.int p0)] [])) rfl (hb hby d1_31)
          obtain ⟨fs, hr, hrun, hended, hW, hsame⟩ := X12.leave (v := some (.ref w3)) (fun h => by rw [Bd.returns] at h; cases h)
          refine ⟨_, _, pre11 _ ?_, hrun, hended, _, _, rfl, ?_, ⟨_, rfl⟩, hW, hsame.mono (by decide) (by decide)⟩
          · show Steps p.tables e below (s₁.setTop (mkF m 28 #[.val (.int p0)] [(.int (3 : Int32)), (.int p0)])) _
            refine XS.icmpNo X0.here hx rfl (hb hby d1_28) rfl (teq hc28_10).2 ?_
            show Steps p.tables e below (s₁.setTop (mkF m 31 #[.val (.int p0)] [])) _
            refine st12 _ ?_
            show Steps p.tables e below (T12.setTop (mkF m 34 #[.val (.int p0)] [(.ref w3)])) _
            jvm_step X12.here [X12.here.top, hx, (hb hby d1_34), X12.method', Bd.returns, Value.isRef, FieldType.isReference]
            first | (intro acts; rw [hr _ acts rfl rfl rfl]) | rw [hr _ _ rfl rfl rfl]
            exact Steps.refl _
          · show Q_rm1 Z p0 w0 w1 w2 w3 w4 w5 w6 w7 w8 w9 w10 r h0 n0 _ T12.heap _
            rw [e12]
            exact ⟨by rw [hres]; unfold own_pk; rw [if_neg hc1_1, if_neg hc10_4, if_neg hc19_7, if_pos hc28_10], N0, rfl⟩
        · have pre14 : ∀ t, Steps p.tables e below (s₁.setTop (mkF m 37 #[.val (.int p0)] [(.int (4 : Int32)), (.int p0)])) t → Steps p.tables e below (s₁.setTop (entryFrame m #[(.int p0)] 1)) t := fun t kt => pre11 t (by
            show Steps p.tables e below (s₁.setTop (mkF m 28 #[.val (.int p0)] [(.int (3 : Int32)), (.int p0)])) _
            refine XS.icmpYes X0.here hx rfl (pc0 := 28) (pc' := 35) rfl (hb hby d1_28) rfl (feq hc28_10).2 (by decide) (by decide) ?_
            show Steps p.tables e below (s₁.setTop (mkF m 35 #[.val (.int p0)] [])) _
            refine XS.iloadN X0.here hx rfl (hb hby d1_35) rfl  ?_
            show Steps p.tables e below (s₁.setTop (mkF m 36 #[.val (.int p0)] [(.int p0)])) _
            refine XS.iconst X0.here hx rfl (hb hby d1_36) ?_
            exact kt)
          by_cases hc37_13 : p0 = (4 : Int32)
          · obtain ⟨T15, X15, e15, st15⟩ := getS2 X0 hx hZ hown (host := "") (Or.inl (hw _ (List.mem_of_getElem? (i := 34) rfl))) Via.refl e0 S_UNION (g := (mkF m 40 #[.val (.int p0)] [])) rfl (hb hby d1_40)
            obtain ⟨fs, hr, hrun, hended, hW, hsame⟩ := X15.leave (v := some (.ref w4)) (fun h => by rw [Bd.returns] at h; cases h)
            refine ⟨_, _, pre14 _ ?_, hrun, hended, _, _, rfl, ?_, ⟨_, rfl⟩, hW, hsame.mono (by decide) (by decide)⟩
            · show Steps p.tables e below (s₁.setTop (mkF m 37 #[.val (.int p0)] [(.int (4 : Int32)), (.int p0)])) _
              refine XS.icmpNo X0.here hx rfl (hb hby d1_37) rfl (teq hc37_13).2 ?_
              show Steps p.tables e below (s₁.setTop (mkF m 40 #[.val (.int p0)] [])) _
              refine st15 _ ?_
              show Steps p.tables e below (T15.setTop (mkF m 43 #[.val (.int p0)] [(.ref w4)])) _
              jvm_step X15.here [X15.here.top, hx, (hb hby d1_43), X15.method', Bd.returns, Value.isRef, FieldType.isReference]
              first | (intro acts; rw [hr _ acts rfl rfl rfl]) | rw [hr _ _ rfl rfl rfl]
              exact Steps.refl _
            · show Q_rm1 Z p0 w0 w1 w2 w3 w4 w5 w6 w7 w8 w9 w10 r h0 n0 _ T15.heap _
              rw [e15]
              exact ⟨by rw [hres]; unfold own_pk; rw [if_neg hc1_1, if_neg hc10_4, if_neg hc19_7, if_neg hc28_10, if_pos hc37_13], N0, rfl⟩
          · have pre17 : ∀ t, Steps p.tables e below (s₁.setTop (mkF m 46 #[.val (.int p0)] [(.int (5 : Int32)), (.int p0)])) t → Steps p.tables e below (s₁.setTop (entryFrame m #[(.int p0)] 1)) t := fun t kt => pre14 t (by
              show Steps p.tables e below (s₁.setTop (mkF m 37 #[.val (.int p0)] [(.int (4 : Int32)), (.int p0)])) _
              refine XS.icmpYes X0.here hx rfl (pc0 := 37) (pc' := 44) rfl (hb hby d1_37) rfl (feq hc37_13).2 (by decide) (by decide) ?_
              show Steps p.tables e below (s₁.setTop (mkF m 44 #[.val (.int p0)] [])) _
              refine XS.iloadN X0.here hx rfl (hb hby d1_44) rfl  ?_
              show Steps p.tables e below (s₁.setTop (mkF m 45 #[.val (.int p0)] [(.int p0)])) _
              refine XS.iconst X0.here hx rfl (hb hby d1_45) ?_
              exact kt)
            by_cases hc46_16 : p0 = (5 : Int32)
            · obtain ⟨T18, X18, e18, st18⟩ := getS2 X0 hx hZ hown (host := "") (Or.inl (hw _ (List.mem_of_getElem? (i := 30) rfl))) Via.refl e0 S_COMPLEMENT (g := (mkF m 49 #[.val (.int p0)] [])) rfl (hb hby d1_49)
              obtain ⟨fs, hr, hrun, hended, hW, hsame⟩ := X18.leave (v := some (.ref w5)) (fun h => by rw [Bd.returns] at h; cases h)
              refine ⟨_, _, pre17 _ ?_, hrun, hended, _, _, rfl, ?_, ⟨_, rfl⟩, hW, hsame.mono (by decide) (by decide)⟩
              · show Steps p.tables e below (s₁.setTop (mkF m 46 #[.val (.int p0)] [(.int (5 : Int32)), (.int p0)])) _
                refine XS.icmpNo X0.here hx rfl (hb hby d1_46) rfl (teq hc46_16).2 ?_
                show Steps p.tables e below (s₁.setTop (mkF m 49 #[.val (.int p0)] [])) _
                refine st18 _ ?_
                show Steps p.tables e below (T18.setTop (mkF m 52 #[.val (.int p0)] [(.ref w5)])) _
                jvm_step X18.here [X18.here.top, hx, (hb hby d1_52), X18.method', Bd.returns, Value.isRef, FieldType.isReference]
                first | (intro acts; rw [hr _ acts rfl rfl rfl]) | rw [hr _ _ rfl rfl rfl]
                exact Steps.refl _
              · show Q_rm1 Z p0 w0 w1 w2 w3 w4 w5 w6 w7 w8 w9 w10 r h0 n0 _ T18.heap _
                rw [e18]
                exact ⟨by rw [hres]; unfold own_pk; rw [if_neg hc1_1, if_neg hc10_4, if_neg hc19_7, if_neg hc28_10, if_neg hc37_13, if_pos hc46_16], N0, rfl⟩
            · have pre20 : ∀ t, Steps p.tables e below (s₁.setTop (mkF m 56 #[.val (.int p0)] [(.int (6 : Int32)), (.int p0)])) t → Steps p.tables e below (s₁.setTop (entryFrame m #[(.int p0)] 1)) t := fun t kt => pre17 t (by
                show Steps p.tables e below (s₁.setTop (mkF m 46 #[.val (.int p0)] [(.int (5 : Int32)), (.int p0)])) _
                refine XS.icmpYes X0.here hx rfl (pc0 := 46) (pc' := 53) rfl (hb hby d1_46) rfl (feq hc46_16).2 (by decide) (by decide) ?_
                show Steps p.tables e below (s₁.setTop (mkF m 53 #[.val (.int p0)] [])) _
                refine XS.iloadN X0.here hx rfl (hb hby d1_53) rfl  ?_
                show Steps p.tables e below (s₁.setTop (mkF m 54 #[.val (.int p0)] [(.int p0)])) _
                refine XS.bipush X0.here hx rfl (hb hby d1_54) ?_
                exact kt)
              by_cases hc56_19 : p0 = (6 : Int32)
              · obtain ⟨T21, X21, e21, st21⟩ := getS2 X0 hx hZ hown (host := "") (Or.inl (hw _ (List.mem_of_getElem? (i := 32) rfl))) Via.refl e0 S_SOME (g := (mkF m 59 #[.val (.int p0)] [])) rfl (hb hby d1_59)
                obtain ⟨fs, hr, hrun, hended, hW, hsame⟩ := X21.leave (v := some (.ref w6)) (fun h => by rw [Bd.returns] at h; cases h)
                refine ⟨_, _, pre20 _ ?_, hrun, hended, _, _, rfl, ?_, ⟨_, rfl⟩, hW, hsame.mono (by decide) (by decide)⟩
                · show Steps p.tables e below (s₁.setTop (mkF m 56 #[.val (.int p0)] [(.int (6 : Int32)), (.int p0)])) _
                  refine XS.icmpNo X0.here hx rfl (hb hby d1_56) rfl (teq hc56_19).2 ?_
                  show Steps p.tables e below (s₁.setTop (mkF m 59 #[.val (.int p0)] [])) _
                  refine st21 _ ?_
                  show Steps p.tables e below (T21.setTop (mkF m 62 #[.val (.int p0)] [(.ref w6)])) _
                  jvm_step X21.here [X21.here.top, hx, (hb hby d1_62), X21.method', Bd.returns, Value.isRef, FieldType.isReference]
                  first | (intro acts; rw [hr _ acts rfl rfl rfl]) | rw [hr _ _ rfl rfl rfl]
                  exact Steps.refl _
                · show Q_rm1 Z p0 w0 w1 w2 w3 w4 w5 w6 w7 w8 w9 w10 r h0 n0 _ T21.heap _
                  rw [e21]
                  exact ⟨by rw [hres]; unfold own_pk; rw [if_neg hc1_1, if_neg hc10_4, if_neg hc19_7, if_neg hc28_10, if_neg hc37_13, if_neg hc46_16, if_pos hc56_19], N0, rfl⟩
              · have pre23 : ∀ t, Steps p.tables e below (s₁.setTop (mkF m 66 #[.val (.int p0)] [(.int (7 : Int32)), (.int p0)])) t → Steps p.tables e below (s₁.setTop (entryFrame m #[(.int p0)] 1)) t := fun t kt => pre20 t (by
                  show Steps p.tables e below (s₁.setTop (mkF m 56 #[.val (.int p0)] [(.int (6 : Int32)), (.int p0)])) _
                  refine XS.icmpYes X0.here hx rfl (pc0 := 56) (pc' := 63) rfl (hb hby d1_56) rfl (feq hc56_19).2 (by decide) (by decide) ?_
                  show Steps p.tables e below (s₁.setTop (mkF m 63 #[.val (.int p0)] [])) _
                  refine XS.iloadN X0.here hx rfl (hb hby d1_63) rfl  ?_
                  show Steps p.tables e below (s₁.setTop (mkF m 64 #[.val (.int p0)] [(.int p0)])) _
                  refine XS.bipush X0.here hx rfl (hb hby d1_64) ?_
                  exact kt)
                by_cases hc66_22 : p0 = (7 : Int32)
                · obtain ⟨T24, X24, e24, st24⟩ := getS2 X0 hx hZ hown (host := "") (Or.inl (hw _ (List.mem_of_getElem? (i := 21) rfl))) Via.refl e0 S_ALL (g := (mkF m 69 #[.val (.int p0)] [])) rfl (hb hby d1_69)
                  obtain ⟨fs, hr, hrun, hended, hW, hsame⟩ := X24.leave (v := some (.ref w7)) (fun h => by rw [Bd.returns] at h; cases h)
                  refine ⟨_, _, pre23 _ ?_, hrun, hended, _, _, rfl, ?_, ⟨_, rfl⟩, hW, hsame.mono (by decide) (by decide)⟩
                  · show Steps p.tables e below (s₁.setTop (mkF m 66 #[.val (.int p0)] [(.int (7 : Int32)), (.int p0)])) _
                    refine XS.icmpNo X0.here hx rfl (hb hby d1_66) rfl (teq hc66_22).2 ?_
                    show Steps p.tables e below (s₁.setTop (mkF m 69 #[.val (.int p0)] [])) _
                    refine st24 _ ?_
                    show Steps p.tables e below (T24.setTop (mkF m 72 #[.val (.int p0)] [(.ref w7)])) _
                    jvm_step X24.here [X24.here.top, hx, (hb hby d1_72), X24.method', Bd.returns, Value.isRef, FieldType.isReference]
                    first | (intro acts; rw [hr _ acts rfl rfl rfl]) | rw [hr _ _ rfl rfl rfl]
                    exact Steps.refl _
                  · show Q_rm1 Z p0 w0 w1 w2 w3 w4 w5 w6 w7 w8 w9 w10 r h0 n0 _ T24.heap _
                    rw [e24]
                    exact ⟨by rw [hres]; unfold own_pk; rw [if_neg hc1_1, if_neg hc10_4, if_neg hc19_7, if_neg hc28_10, if_neg hc37_13, if_neg hc46_16, if_neg hc56_19, if_pos hc66_22], N0, rfl⟩
                · have pre26 : ∀ t, Steps p.tables e below (s₁.setTop (mkF m 76 #[.val (.int p0)] [(.int (8 : Int32)), (.int p0)])) t → Steps p.tables e below (s₁.setTop (entryFrame m #[(.int p0)] 1)) t := fun t kt => pre23 t (by
                    show Steps p.tables e below (s₁.setTop (mkF m 66 #[.val (.int p0)] [(.int (7 : Int32)), (.int p0)])) _
                    refine XS.icmpYes X0.here hx rfl (pc0 := 66) (pc' := 73) rfl (hb hby d1_66) rfl (feq hc66_22).2 (by decide) (by decide) ?_
                    show Steps p.tables e below (s₁.setTop (mkF m 73 #[.val (.int p0)] [])) _
                    refine XS.iloadN X0.here hx rfl (hb hby d1_73) rfl  ?_
                    show Steps p.tables e below (s₁.setTop (mkF m 74 #[.val (.int p0)] [(.int p0)])) _
                    refine XS.bipush X0.here hx rfl (hb hby d1_74) ?_
                    exact kt)
                  by_cases hc76_25 : p0 = (8 : Int32)
                  · obtain ⟨T27, X27, e27, st27⟩ := getS2 X0 hx hZ hown (host := "") (Or.inl (hw _ (List.mem_of_getElem? (i := 23) rfl))) Via.refl e0 S_MIN (g := (mkF m 79 #[.val (.int p0)] [])) rfl (hb hby d1_79)
                    obtain ⟨fs, hr, hrun, hended, hW, hsame⟩ := X27.leave (v := some (.ref w8)) (fun h => by rw [Bd.returns] at h; cases h)
                    refine ⟨_, _, pre26 _ ?_, hrun, hended, _, _, rfl, ?_, ⟨_, rfl⟩, hW, hsame.mono (by decide) (by decide)⟩
                    · show Steps p.tables e below (s₁.setTop (mkF m 76 #[.val (.int p0)] [(.int (8 : Int32)), (.int p0)])) _
                      refine XS.icmpNo X0.here hx rfl (hb hby d1_76) rfl (teq hc76_25).2 ?_
                      show Steps p.tables e below (s₁.setTop (mkF m 79 #[.val (.int p0)] [])) _
                      refine st27 _ ?_
                      show Steps p.tables e below (T27.setTop (mkF m 82 #[.val (.int p0)] [(.ref w8)])) _
                      jvm_step X27.here [X27.here.top, hx, (hb hby d1_82), X27.method', Bd.returns, Value.isRef, FieldType.isReference]
                      first | (intro acts; rw [hr _ acts rfl rfl rfl]) | rw [hr _ _ rfl rfl rfl]
                      exact Steps.refl _
                    · show Q_rm1 Z p0 w0 w1 w2 w3 w4 w5 w6 w7 w8 w9 w10 r h0 n0 _ T27.heap _
                      rw [e27]
                      exact ⟨by rw [hres]; unfold own_pk; rw [if_neg hc1_1, if_neg hc10_4, if_neg hc19_7, if_neg hc28_10, if_neg hc37_13, if_neg hc46_16, if_neg hc56_19, if_neg hc66_22, if_pos hc76_25], N0, rfl⟩
                  · have pre29 : ∀ t, Steps p.tables e below (s₁.setTop (mkF m 86 #[.val (.int p0)] [(.int (9 : Int32)), (.int p0)])) t → Steps p.tables e below (s₁.setTop (entryFrame m #[(.int p0)] 1)) t := fun t kt => pre26 t (by
                      show Steps p.tables e below (s₁.setTop (mkF m 76 #[.val (.int p0)] [(.int (8 : Int32)), (.int p0)])) _
                      refine XS.icmpYes X0.here hx rfl (pc0 := 76) (pc' := 83) rfl (hb hby d1_76) rfl (feq hc76_25).2 (by decide) (by decide) ?_
                      show Steps p.tables e below (s₁.setTop (mkF m 83 #[.val (.int p0)] [])) _
                      refine XS.iloadN X0.here hx rfl (hb hby d1_83) rfl  ?_
                      show Steps p.tables e below (s₁.setTop (mkF m 84 #[.val (.int p0)] [(.int p0)])) _
                      refine XS.bipush X0.here hx rfl (hb hby d1_84) ?_
                      exact kt)
                    by_cases hc86_28 : p0 = (9 : Int32)
                    · obtain ⟨T30, X30, e30, st30⟩ := getS2 X0 hx hZ hown (host := "") (Or.inl (hw _ (List.mem_of_getElem? (i := 29) rfl))) Via.refl e0 S_MAX (g := (mkF m 89 #[.val (.int p0)] [])) rfl (hb hby d1_89)
                      obtain ⟨fs, hr, hrun, hended, hW, hsame⟩ := X30.leave (v := some (.ref w9)) (fun h => by rw [Bd.returns] at h; cases h)
                      refine ⟨_, _, pre29 _ ?_, hrun, hended, _, _, rfl, ?_, ⟨_, rfl⟩, hW, hsame.mono (by decide) (by decide)⟩
                      · show Steps p.tables e below (s₁.setTop (mkF m 86 #[.val (.int p0)] [(.int (9 : Int32)), (.int p0)])) _
                        refine XS.icmpNo X0.here hx rfl (hb hby d1_86) rfl (teq hc86_28).2 ?_
                        show Steps p.tables e below (s₁.setTop (mkF m 89 #[.val (.int p0)] [])) _
                        refine st30 _ ?_
                        show Steps p.tables e below (T30.setTop (mkF m 92 #[.val (.int p0)] [(.ref w9)])) _
                        jvm_step X30.here [X30.here.top, hx, (hb hby d1_92), X30.method', Bd.returns, Value.isRef, FieldType.isReference]
                        first | (intro acts; rw [hr _ acts rfl rfl rfl]) | rw [hr _ _ rfl rfl rfl]
                        exact Steps.refl _
                      · show Q_rm1 Z p0 w0 w1 w2 w3 w4 w5 w6 w7 w8 w9 w10 r h0 n0 _ T30.heap _
                        rw [e30]
                        exact ⟨by rw [hres]; unfold own_pk; rw [if_neg hc1_1, if_neg hc10_4, if_neg hc19_7, if_neg hc28_10, if_neg hc37_13, if_neg hc46_16, if_neg hc56_19, if_neg hc66_22, if_neg hc76_25, if_pos hc86_28], N0, rfl⟩
                    · obtain ⟨T31, X31, e31, st31⟩ := getS2 X0 hx hZ hown (host := "") (Or.inl (hw _ (List.mem_of_getElem? (i := 26) rfl))) Via.refl e0 S_EXACT (g := (mkF m 93 #[.val (.int p0)] [])) rfl (hb hby d1_93)
                      obtain ⟨fs, hr, hrun, hended, hW, hsame⟩ := X31.leave (v := some (.ref w10)) (fun h => by rw [Bd.returns] at h; cases h)
                      refine ⟨_, _, pre29 _ ?_, hrun, hended, _, _, rfl, ?_, ⟨_, rfl⟩, hW, hsame.mono (by decide) (by decide)⟩
                      · show Steps p.tables e below (s₁.setTop (mkF m 86 #[.val (.int p0)] [(.int (9 : Int32)), (.int p0)])) _
                        refine XS.icmpYes X0.here hx rfl (pc0 := 86) (pc' := 93) rfl (hb hby d1_86) rfl (feq hc86_28).2 (by decide) (by decide) ?_
                        show Steps p.tables e below (s₁.setTop (mkF m 93 #[.val (.int p0)] [])) _
                        refine st31 _ ?_
                        show Steps p.tables e below (T31.setTop (mkF m 96 #[.val (.int p0)] [(.ref w10)])) _
                        jvm_step X31.here [X31.here.top, hx, (hb hby d1_96), X31.method', Bd.returns, Value.isRef, FieldType.isReference]
                        first | (intro acts; rw [hr _ acts rfl rfl rfl]) | rw [hr _ _ rfl rfl rfl]
                        exact Steps.refl _
                      · show Q_rm1 Z p0 w0 w1 w2 w3 w4 w5 w6 w7 w8 w9 w10 r h0 n0 _ T31.heap _
                        rw [e31]
                        exact ⟨by rw [hres]; unfold own_pk; rw [if_neg hc1_1, if_neg hc10_4, if_neg hc19_7, if_neg hc28_10, if_neg hc37_13, if_neg hc46_16, if_neg hc56_19, if_neg hc66_22, if_neg hc76_25, if_neg hc86_28], N0, rfl⟩
theorem ef_rm2 (m : MethodId) (p0 : Addr) : entryFrame m #[(.ref p0)] 1 = mkF m 0 #[.val (.ref p0)] [] := by first | (simp [entryFrame, mkF, argsToLocals, Value.category]; done) | rfl
theorem d2_0 : decode prog_13_method_4_code 0 = .ok (.aload_n 0, 1) := by decide +kernel
theorem d2_1 : decode prog_13_method_4_code 1 = .ok (.getstatic 28, 3) := by decide +kernel
theorem d2_4 : decode prog_13_method_4_code 4 = .ok (.if_acmp .eq 17, 3) := by decide +kernel
theorem d2_21 : decode prog_13_method_4_code 21 = .ok (.iconst 1, 1) := by decide +kernel
theorem d2_22 : decode prog_13_method_4_code 22 = .ok (.goto 4, 3) := by decide +kernel
theorem d2_26 : decode prog_13_method_4_code 26 = .ok (.ireturn, 1) := by decide +kernel
theorem d2_7 : decode prog_13_method_4_code 7 = .ok (.aload_n 0, 1) := by decide +kernel
theorem d2_8 : decode prog_13_method_4_code 8 = .ok (.getstatic 31, 3) := by decide +kernel
theorem d2_11 : decode prog_13_method_4_code 11 = .ok (.if_acmp .eq 10, 3) := by decide +kernel
theorem d2_14 : decode prog_13_method_4_code 14 = .ok (.aload_n 0, 1) := by decide +kernel
theorem d2_15 : decode prog_13_method_4_code 15 = .ok (.getstatic 34, 3) := by decide +kernel
theorem d2_18 : decode prog_13_method_4_code 18 = .ok (.if_acmp .ne 7, 3) := by decide +kernel
theorem d2_25 : decode prog_13_method_4_code 25 = .ok (.iconst 0, 1) := by decide +kernel
def Q_rm2 (Z : State) (p0 : Addr) (w8 : Addr) (w9 : Addr) (w10 : Addr) (r : Int32) (h0 : Heap) (n0 : Nat) (v : Option Value) (h : Heap) (L : List Loc) : Prop := v = some (.int r) ∧ Fr n0 L ∧ h = h0
set_option maxRecDepth 65536 in
set_option maxHeartbeats 40000000 in
theorem rm2 (l : Launch) (Z : State) (a0 : Array Value) (hw : ∀ d ∈ tables_1, d.before a0 Z = true) (ws : List Jvm.Cond) (p0 : Addr) (w8 : Addr) (w9 : Addr) (w10 : Addr) (r : Int32) (h0 : Heap) (n0 : Nat) (Z0 : n0 ≤ h0.size) (S_MIN : Sta Z h0 "com/example/refute/refute/core/Concept$Kind" "MIN" "Lcom/example/refute/refute/core/Concept$Kind;" (.ref w8)) (S_MAX : Sta Z h0 "com/example/refute/refute/core/Concept$Kind" "MAX" "Lcom/example/refute/refute/core/Concept$Kind;" (.ref w9)) (S_EXACT : Sta Z h0 "com/example/refute/refute/core/Concept$Kind" "EXACT" "Lcom/example/refute/refute/core/Concept$Kind;" (.ref w10)) (hres : r = if p0 = w8 ∨ p0 = w9 ∨ p0 = w10 then 1 else 0) :
    MetFree l (⟨"com/example/refute/refute/core/Concept$Kind", "isNumberRestriction", "()Z"⟩ : MethodName) (head1 (Jvm.Cond.code (⟨"com/example/refute/refute/core/Concept$Kind", "isNumberRestriction", "()Z"⟩ : MethodName) prog_13_method_4_code 1 (some .boolean) :: ws) ({ frames := 0, cells := 0, slots := 0, locals := 0 } : Room)) (fun a U => a = #[(.ref p0)] ∧ Z.Warmed39 U.vm ∧ U.heap = h0) (fun _ _ _ _ _ => True) (fun _ U o U' => ∃ v L, o = .returned v ∧ Q_rm2 Z p0 w8 w9 w10 r h0 n0 v U'.heap L ∧ FrameEnd U o U' L ({ frames := 0, cells := 0, slots := 0, locals := 0 } : Room).cells ({ frames := 0, cells := 0, slots := 0, locals := 0 } : Room).slots) := by
  refine MetFree.of_bodySF (plainFor_of_name pn_com_example_refute_refute_core_Concept_Kind) hisR ?_
  intro p e s m args below meth c s₁ Bd hml0 hP hK
  obtain ⟨rfl, hZ, hh⟩ := hP
  have hx := Bd.exec
  have hby := Bd.bytes
  have hml : c.maxLocals = 1 := hml0
  have hown : s.vm.findClass "com/example/refute/refute/core/Concept$Kind" = some m.cls := findClass_of_methodNamed Bd.named
  have hnm := (name_of_methodNamed Bd.named Bd.method).1
  have X0 : Stand p l e ({ frames := 0, cells := 0, slots := 0, locals := 0 } : Room) s m #[(.ref p0)] below meth c s₁ [] 0 0 := Stand.of_body Bd
  have e0 : s₁.heap = h0 := by rw [← hh, Bd.state]; rfl
  have N0 := Fr.nil n0
  have pre0 : ∀ t, Steps p.tables e below (s₁.setTop (mkF m 0 #[.val (.ref p0)] [])) t → Steps p.tables e below (s₁.setTop (entryFrame m #[(.ref p0)] 1)) t := fun t k => castTop (ef_rm2 m p0 ) k
  obtain ⟨T1, X1, e1, st1⟩ := getS2 X0 hx hZ hown (host := "") (Or.inl (hw _ (List.mem_of_getElem? (i := 13) rfl))) Via.refl e0 S_MIN (g := (mkF m 1 #[.val (.ref p0)] [(.ref p0)])) rfl (hb hby d2_1)
  have pre3 : ∀ t, Steps p.tables e below (T1.setTop (mkF m 4 #[.val (.ref p0)] [(.ref w8), (.ref p0)])) t → Steps p.tables e below (s₁.setTop (entryFrame m #[(.ref p0)] 1)) t := fun t kt => pre0 t (by
    show Steps p.tables e below (s₁.setTop (mkF m 0 #[.val (.ref p0)] [])) _
    refine XS.aloadN X0.here hx rfl (hb hby d2_0) rfl rfl ?_
    show Steps p.tables e below (s₁.setTop (mkF m 1 #[.val (.ref p0)] [(.ref p0)])) _
    refine st1 _ ?_
    exact kt)
  by_cases hc4_2 : p0 = w8
  · obtain ⟨fs, hr, hrun, hended, hW, hsame⟩ := X1.leave (v := some (.int (1 : Int32))) (fun h => by rw [Bd.returns] at h; cases h)
    refine ⟨_, _, pre3 _ ?_, hrun, hended, _, _, rfl, ?_, ⟨_, rfl⟩, hW, hsame.mono (by decide) (by decide)⟩
    · show Steps p.tables e below (T1.setTop (mkF m 4 #[.val (.ref p0)] [(.ref w8), (.ref p0)])) _
      refine Jvm.RoadKit.acmp (g := (mkF m 4 #[.val (.ref p0)] [(.ref w8), (.ref p0)])) X1 hx rfl rfl rfl (pc0 := 4) (pc' := 21) (same := true) rfl (hb hby d2_4) rfl (decide_eq_true (congrArg Value.ref hc4_2)) (by decide) (by decide) ?_
      show Steps p.tables e below (T1.setTop (mkF m 21 #[.val (.ref p0)] [])) _
      refine XS.iconst X1.here hx rfl (hb hby d2_21) ?_
      show Steps p.tables e below (T1.setTop (mkF m 22 #[.val (.ref p0)] [(.int (1 : Int32))])) _
      refine XS.goto X1.here hx rfl (pc0 := 22) (pc' := 26) rfl (hb hby d2_22) (by decide) (by decide) ?_
      show Steps p.tables e below (T1.setTop (mkF m 26 #[.val (.ref p0)] [(.int (1 : Int32))])) _
      exact retN X1 hx (t := .boolean) Bd.returns (by simp) (hb hby d2_26) hr
    · show Q_rm2 Z p0 w8 w9 w10 r h0 n0 _ T1.heap _
      rw [e1]
      exact ⟨by rw [hres, if_pos (Or.inl hc4_2)], N0, rfl⟩
  · obtain ⟨T4, X4, e4, st4⟩ := getS2 X1 hx hZ hown (host := "") (Or.inl (hw _ (List.mem_of_getElem? (i := 15) rfl))) Via.refl e1 S_MAX (g := (mkF m 8 #[.val (.ref p0)] [(.ref p0)])) rfl (hb hby d2_8)
    have pre6 : ∀ t, Steps p.tables e below (T4.setTop (mkF m 11 #[.val (.ref p0)] [(.ref w9), (.ref p0)])) t → Steps p.tables e below (s₁.setTop (entryFrame m #[(.ref p0)] 1)) t := fun t kt => pre3 t (by
      show Steps p.tables e below (T1.setTop (mkF m 4 #[.val (.ref p0)] [(.ref w8), (.ref p0)])) _
      refine Jvm.RoadKit.acmp (g := (mkF m 4 #[.val (.ref p0)] [(.ref w8), (.ref p0)])) X1 hx rfl rfl rfl (pc0 := 4) (pc' := 7) (same := false) rfl (hb hby d2_4) rfl (decide_eq_false fun q => hc4_2 (Value.ref.inj q)) (by decide) (by decide) ?_
      show Steps p.tables e below (T1.setTop (mkF m 7 #[.val (.ref p0)] [])) _
      refine XS.aloadN X1.here hx rfl (hb hby d2_7) rfl rfl ?_
      show Steps p.tables e below (T1.setTop (mkF m 8 #[.val (.ref p0)] [(.ref p0)])) _
      refine st4 _ ?_
      exact kt)
    by_cases hc11_5 : p0 = w9
    · obtain ⟨fs, hr, hrun, hended, hW, hsame⟩ := X4.leave (v := some (.int (1 : Int32))) (fun h => by rw [Bd.returns] at h; cases h)
      refine ⟨_, _, pre6 _ ?_, hrun, hended, _, _, rfl, ?_, ⟨_, rfl⟩, hW, hsame.mono (by decide) (by decide)⟩
      · show Steps p.tables e below (T4.setTop (mkF m 11 #[.val (.ref p0)] [(.ref w9), (.ref p0)])) _
        refine Jvm.RoadKit.acmp (g := (mkF m 11 #[.val (.ref p0)] [(.ref w9), (.ref p0)])) X4 hx rfl rfl rfl (pc0 := 11) (pc' := 21) (same := true) rfl (hb hby d2_11) rfl (decide_eq_true (congrArg Value.ref hc11_5)) (by decide) (by decide) ?_
        show Steps p.tables e below (T4.setTop (mkF m 21 #[.val (.ref p0)] [])) _
        refine XS.iconst X4.here hx rfl (hb hby d2_21) ?_
        show Steps p.tables e below (T4.setTop (mkF m 22 #[.val (.ref p0)] [(.int (1 : Int32))])) _
        refine XS.goto X4.here hx rfl (pc0 := 22) (pc' := 26) rfl (hb hby d2_22) (by decide) (by decide) ?_
        show Steps p.tables e below (T4.setTop (mkF m 26 #[.val (.ref p0)] [(.int (1 : Int32))])) _
        exact retN X4 hx (t := .boolean) Bd.returns (by simp) (hb hby d2_26) hr
      · show Q_rm2 Z p0 w8 w9 w10 r h0 n0 _ T4.heap _
        rw [e4]
        exact ⟨by rw [hres, if_pos (Or.inr (Or.inl hc11_5))], N0, rfl⟩
    · obtain ⟨T7, X7, e7, st7⟩ := getS2 X4 hx hZ hown (host := "") (Or.inl (hw _ (List.mem_of_getElem? (i := 17) rfl))) Via.refl e4 S_EXACT (g := (mkF m 15 #[.val (.ref p0)] [(.ref p0)])) rfl (hb hby d2_15)
      have pre9 : ∀ t, Steps p.tables e below (T7.setTop (mkF m 18 #[.val (.ref p0)] [(.ref w10), (.ref p0)])) t → Steps p.tables e below (s₁.setTop (entryFrame m #[(.ref p0)] 1)) t := fun t kt => pre6 t (by
        show Steps p.tables e below (T4.setTop (mkF m 11 #[.val (.ref p0)] [(.ref w9), (.ref p0)])) _
        refine Jvm.RoadKit.acmp (g := (mkF m 11 #[.val (.ref p0)] [(.ref w9), (.ref p0)])) X4 hx rfl rfl rfl (pc0 := 11) (pc' := 14) (same := false) rfl (hb hby d2_11) rfl (decide_eq_false fun q => hc11_5 (Value.ref.inj q)) (by decide) (by decide) ?_
        show Steps p.tables e below (T4.setTop (mkF m 14 #[.val (.ref p0)] [])) _
        refine XS.aloadN X4.here hx rfl (hb hby d2_14) rfl rfl ?_
        show Steps p.tables e below (T4.setTop (mkF m 15 #[.val (.ref p0)] [(.ref p0)])) _
        refine st7 _ ?_
        exact kt)
      by_cases hc18_8 : p0 = w10
      · obtain ⟨fs, hr, hrun, hended, hW, hsame⟩ := X7.leave (v := some (.int (1 : Int32))) (fun h => by rw [Bd.returns] at h; cases h)
        refine ⟨_, _, pre9 _ ?_, hrun, hended, _, _, rfl, ?_, ⟨_, rfl⟩, hW, hsame.mono (by decide) (by decide)⟩
        · show Steps p.tables e below (T7.setTop (mkF m 18 #[.val (.ref p0)] [(.ref w10), (.ref p0)])) _
          refine Jvm.RoadKit.acmp (g := (mkF m 18 #[.val (.ref p0)] [(.ref w10), (.ref p0)])) X7 hx rfl rfl rfl (pc0 := 18) (pc' := 21) (same := true) rfl (hb hby d2_18) rfl (decide_eq_true (congrArg Value.ref hc18_8)) (by decide) (by decide) ?_
          show Steps p.tables e below (T7.setTop (mkF m 21 #[.val (.ref p0)] [])) _
          refine XS.iconst X7.here hx rfl (hb hby d2_21) ?_
          show Steps p.tables e below (T7.setTop (mkF m 22 #[.val (.ref p0)] [(.int (1 : Int32))])) _
          refine XS.goto X7.here hx rfl (pc0 := 22) (pc' := 26) rfl (hb hby d2_22) (by decide) (by decide) ?_
          show Steps p.tables e below (T7.setTop (mkF m 26 #[.val (.ref p0)] [(.int (1 : Int32))])) _
          exact retN X7 hx (t := .boolean) Bd.returns (by simp) (hb hby d2_26) hr
        · show Q_rm2 Z p0 w8 w9 w10 r h0 n0 _ T7.heap _
          rw [e7]
          exact ⟨by rw [hres, if_pos (Or.inr (Or.inr hc18_8))], N0, rfl⟩
      · obtain ⟨fs, hr, hrun, hended, hW, hsame⟩ := X7.leave (v := some (.int (0 : Int32))) (fun h => by rw [Bd.returns] at h; cases h)
        refine ⟨_, _, pre9 _ ?_, hrun, hended, _, _, rfl, ?_, ⟨_, rfl⟩, hW, hsame.mono (by decide) (by decide)⟩
        · show Steps p.tables e below (T7.setTop (mkF m 18 #[.val (.ref p0)] [(.ref w10), (.ref p0)])) _
          refine Jvm.RoadKit.acmp (g := (mkF m 18 #[.val (.ref p0)] [(.ref w10), (.ref p0)])) X7 hx rfl rfl rfl (pc0 := 18) (pc' := 25) (same := false) rfl (hb hby d2_18) rfl (decide_eq_false fun q => hc18_8 (Value.ref.inj q)) (by decide) (by decide) ?_
          show Steps p.tables e below (T7.setTop (mkF m 25 #[.val (.ref p0)] [])) _
          refine XS.iconst X7.here hx rfl (hb hby d2_25) ?_
          show Steps p.tables e below (T7.setTop (mkF m 26 #[.val (.ref p0)] [(.int (0 : Int32))])) _
          exact retN X7 hx (t := .boolean) Bd.returns (by simp) (hb hby d2_26) hr
        · show Q_rm2 Z p0 w8 w9 w10 r h0 n0 _ T7.heap _
          rw [e7]
          exact ⟨by rw [hres, if_neg (fun q => q.elim hc4_2 (fun q => q.elim hc11_5 hc18_8))], N0, rfl⟩
theorem ef_rm0 (m : MethodId) (p0 : Int32) : entryFrame m #[(.int p0)] maxLocals = mkF m 0 #[.val (.int p0), .unset, .unset, .unset] [] := by first | (simp [entryFrame, mkF, argsToLocals, Value.category, maxLocals]; done) | rfl
theorem pd__I_Lcom_example_refute_refute_core_Concept_Kind_ : parseMethodDescriptor "(I)Lcom/example/refute/refute/core/Concept$Kind;" = some ⟨[.int], some (.object "com/example/refute/refute/core/Concept$Kind")⟩ := by decide +kernel
theorem pd___Z : parseMethodDescriptor "()Z" = some ⟨[], some .boolean⟩ := by decide +kernel
def Q_rm0 (Z : State) (p0 : Int32) (w0 : Addr) (w1 : Addr) (w2 : Addr) (w3 : Addr) (w4 : Addr) (w5 : Addr) (w6 : Addr) (w7 : Addr) (w8 : Addr) (w9 : Addr) (w10 : Addr) (h0 : Heap) (n0 : Nat) (v : Option Value) (h : Heap) (L : List Loc) : Prop := v = some (.int (1 : Int32)) ∧ Fr n0 L
set_option maxRecDepth 65536 in
set_option maxHeartbeats 40000000 in
theorem rm0 (l : Launch) (Z : State) (a0 : Array Value) (hw : ∀ d ∈ tables_1, d.before a0 Z = true) (ws : List Jvm.Cond) (p0 : Int32) (w0 : Addr) (w1 : Addr) (w2 : Addr) (w3 : Addr) (w4 : Addr) (w5 : Addr) (w6 : Addr) (w7 : Addr) (w8 : Addr) (w9 : Addr) (w10 : Addr) (h0 : Heap) (n0 : Nat) (Z0 : n0 ≤ h0.size) (S_CLASS : Sta Z h0 "com/example/refute/refute/core/Concept$Kind" "CLASS" "Lcom/example/refute/refute/core/Concept$Kind;" (.ref w0)) (S_THING : Sta Z h0 "com/example/refute/refute/core/Concept$Kind" "THING" "Lcom/example/refute/refute/core/Concept$Kind;" (.ref w1)) (S_NOTHING : Sta Z h0 "com/example/refute/refute/core/Concept$Kind" "NOTHING" "Lcom/example/refute/refute/core/Concept$Kind;" (.ref w2)) (S_INTERSECTION : Sta Z h0 "com/example/refute/refute/core/Concept$Kind" "INTERSECTION" "Lcom/example/refute/refute/core/Concept$Kind;" (.ref w3)) (S_UNION : Sta Z h0 "com/example/refute/refute/core/Concept$Kind" "UNION" "Lcom/example/refute/refute/core/Concept$Kind;" (.ref w4)) (S_COMPLEMENT : Sta Z h0 "com/example/refute/refute/core/Concept$Kind" "COMPLEMENT" "Lcom/example/refute/refute/core/Concept$Kind;" (.ref w5)) (S_SOME : Sta Z h0 "com/example/refute/refute/core/Concept$Kind" "SOME" "Lcom/example/refute/refute/core/Concept$Kind;" (.ref w6)) (S_ALL : Sta Z h0 "com/example/refute/refute/core/Concept$Kind" "ALL" "Lcom/example/refute/refute/core/Concept$Kind;" (.ref w7)) (S_MIN : Sta Z h0 "com/example/refute/refute/core/Concept$Kind" "MIN" "Lcom/example/refute/refute/core/Concept$Kind;" (.ref w8)) (S_MAX : Sta Z h0 "com/example/refute/refute/core/Concept$Kind" "MAX" "Lcom/example/refute/refute/core/Concept$Kind;" (.ref w9)) (S_EXACT : Sta Z h0 "com/example/refute/refute/core/Concept$Kind" "EXACT" "Lcom/example/refute/refute/core/Concept$Kind;" (.ref w10)) (E_CLASS : Exa Z h0 w0 "com/example/refute/refute/core/Concept$Kind") (E_THING : Exa Z h0 w1 "com/example/refute/refute/core/Concept$Kind") (E_NOTHING : Exa Z h0 w2 "com/example/refute/refute/core/Concept$Kind") (E_INTERSECTION : Exa Z h0 w3 "com/example/refute/refute/core/Concept$Kind") (E_UNION : Exa Z h0 w4 "com/example/refute/refute/core/Concept$Kind") (E_COMPLEMENT : Exa Z h0 w5 "com/example/refute/refute/core/Concept$Kind") (E_SOME : Exa Z h0 w6 "com/example/refute/refute/core/Concept$Kind") (E_ALL : Exa Z h0 w7 "com/example/refute/refute/core/Concept$Kind") (E_MIN : Exa Z h0 w8 "com/example/refute/refute/core/Concept$Kind") (E_MAX : Exa Z h0 w9 "com/example/refute/refute/core/Concept$Kind") (E_EXACT : Exa Z h0 w10 "com/example/refute/refute/core/Concept$Kind") (h_CLASS_MIN : ¬ (w0 = w8)) (h_CLASS_MAX : ¬ (w0 = w9)) (h_CLASS_EXACT : ¬ (w0 = w10)) (h_THING_MIN : ¬ (w1 = w8)) (h_THING_MAX : ¬ (w1 = w9)) (h_THING_EXACT : ¬ (w1 = w10)) (h_NOTHING_MIN : ¬ (w2 = w8)) (h_NOTHING_MAX : ¬ (w2 = w9)) (h_NOTHING_EXACT : ¬ (w2 = w10)) (h_INTERSECTION_MIN : ¬ (w3 = w8)) (h_INTERSECTION_MAX : ¬ (w3 = w9)) (h_INTERSECTION_EXACT : ¬ (w3 = w10)) (h_UNION_MIN : ¬ (w4 = w8)) (h_UNION_MAX : ¬ (w4 = w9)) (h_UNION_EXACT : ¬ (w4 = w10)) (h_COMPLEMENT_MIN : ¬ (w5 = w8)) (h_COMPLEMENT_MAX : ¬ (w5 = w9)) (h_COMPLEMENT_EXACT : ¬ (w5 = w10)) (h_SOME_MIN : ¬ (w6 = w8)) (h_SOME_MAX : ¬ (w6 = w9)) (h_SOME_EXACT : ¬ (w6 = w10)) (h_ALL_MIN : ¬ (w7 = w8)) (h_ALL_MAX : ¬ (w7 = w9)) (h_ALL_EXACT : ¬ (w7 = w10)) :
    MetFree l x (head1 (Jvm.Cond.code x code maxLocals ret :: ws) room_1) (fun a U => a = #[(.int p0)] ∧ Z.Warmed39 U.vm ∧ U.heap = h0) (fun _ _ _ _ _ => True) (fun _ U o U' => ∃ v L, o = .returned v ∧ Q_rm0 Z p0 w0 w1 w2 w3 w4 w5 w6 w7 w8 w9 w10 h0 n0 v U'.heap L ∧ FrameEnd U o U' L room_1.cells room_1.slots) := by
  refine MetFree.of_bodySF (plainFor_of_name pn_com_example_refute_refute_core_KindIsNumberRestrictionPinLaw) hisR ?_
  intro p e s m args below meth c s₁ Bd hml0 hP hK
  obtain ⟨rfl, hZ, hh⟩ := hP
  have hx := Bd.exec
  have hby := Bd.bytes
  have hml : c.maxLocals = 4 := hml0
  have hown : s.vm.findClass "com/example/refute/refute/core/KindIsNumberRestrictionPinLaw" = some m.cls := findClass_of_methodNamed Bd.named
  have hnm := (name_of_methodNamed Bd.named Bd.method).1
  have X0 : Stand p l e room_1 s m #[(.int p0)] below meth c s₁ [] 0 0 := Stand.of_body Bd
  have e0 : s₁.heap = h0 := by rw [← hh, Bd.state]; rfl
  have N0 := Fr.nil n0
  have pre0 : ∀ t, Steps p.tables e below (s₁.setTop (mkF m 0 #[.val (.int p0), .unset, .unset, .unset] [])) t → Steps p.tables e below (s₁.setTop (entryFrame m #[(.int p0)] maxLocals)) t := fun t k => castTop (ef_rm0 m p0 ) k
  have pre1 : ∀ t, Steps p.tables e below (s₁.setTop (mkF m 9 #[.val (.int p0), .val (.int ((p0 &&& (2147483647 : Int32)) % (11 : Int32))), .unset, .unset] [(.int ((p0 &&& (2147483647 : Int32)) % (11 : Int32)))])) t → Steps p.tables e below (s₁.setTop (entryFrame m #[(.int p0)] maxLocals)) t := fun t kt => pre0 t (by
    show Steps p.tables e below (s₁.setTop (mkF m 0 #[.val (.int p0), .unset, .unset, .unset] [])) _
    refine XS.iloadN X0.here hx rfl (hb hby at_0) rfl  ?_
    show Steps p.tables e below (s₁.setTop (mkF m 1 #[.val (.int p0), .unset, .unset, .unset] [(.int p0)])) _
    refine X0.ldcInt hx hown (mvT hZ (hw _ (List.mem_of_getElem? (i := 0) rfl))) (g := (mkF m 1 #[.val (.int p0), .unset, .unset, .unset] [(.int p0)])) rfl (hb hby at_1) _ ?_
    show Steps p.tables e below (s₁.setTop (mkF m 3 #[.val (.int p0), .unset, .unset, .unset] [(.int (2147483647 : Int32)), (.int p0)])) _
    refine XS.iand X0.here hx rfl (hb hby at_3) rfl ?_
    show Steps p.tables e below (s₁.setTop (mkF m 4 #[.val (.int p0), .unset, .unset, .unset] [(.int (p0 &&& (2147483647 : Int32)))])) _
    refine XS.bipush X0.here hx rfl (hb hby at_4) ?_
    show Steps p.tables e below (s₁.setTop (mkF m 6 #[.val (.int p0), .unset, .unset, .unset] [(.int (11 : Int32)), (.int (p0 &&& (2147483647 : Int32)))])) _
    refine Jvm.RoadKit.iremM X0 hx rfl (hb hby at_6) rfl (by decide) ?_
    show Steps p.tables e below (s₁.setTop (mkF m 7 #[.val (.int p0), .unset, .unset, .unset] [(.int ((p0 &&& (2147483647 : Int32)) % (11 : Int32)))])) _
    refine XS.istoreN X0.here hx rfl (hb hby at_7) rfl (l' := #[.val (.int p0), .val (.int ((p0 &&& (2147483647 : Int32)) % (11 : Int32))), .unset, .unset]) rfl ?_
    show Steps p.tables e below (s₁.setTop (mkF m 8 #[.val (.int p0), .val (.int ((p0 &&& (2147483647 : Int32)) % (11 : Int32))), .unset, .unset] [])) _
    refine XS.iloadN X0.here hx rfl (hb hby at_8) rfl  ?_
    exact kt)
  rcases own_k p0 with hk | hk | hk | hk | hk | hk | hk | hk | hk | hk | hk
  · obtain ⟨_, _, ⟨T2, L2, k2, n2⟩, -, X2, ⟨Lc2, hQ2, l2, y2, z2⟩, st2⟩ := Jvm.LawKit.callS X0 hx (y := (⟨"com/example/refute/refute/core/KindIsNumberRestrictionPinLaw", "pick", "(I)Lcom/example/refute/refute/core/Concept$Kind;"⟩ : MethodName)) hown (mvT hZ (hw _ (List.mem_of_getElem? (i := 1) rfl))) (mvT hZ (hw _ (List.mem_of_getElem? (i := 2) rfl))) (mvT hZ (hw _ (List.mem_of_getElem? (i := 3) rfl))) (mvT hZ (hw _ (List.mem_of_getElem? (i := 4) rfl))) (by decide) (backOf (W := 0) (rm1 l Z a0 hw [] ((p0 &&& (2147483647 : Int32)) % (11 : Int32)) w0 w1 w2 w3 w4 w5 w6 w7 w8 w9 w10 w0 h0 n0 Z0 S_CLASS S_THING S_NOTHING S_INTERSECTION S_UNION S_COMPLEMENT S_SOME S_ALL S_MIN S_MAX S_EXACT (by rw [hk]; rfl)) hZ (hw _ (List.mem_of_getElem? (i := 4) rfl)) (hw _ (List.mem_of_getElem? (i := 3) rfl)) (by decide) (by decide)) (g := (mkF m 9 #[.val (.int p0), .val (.int ((p0 &&& (2147483647 : Int32)) % (11 : Int32))), .unset, .unset] [(.int ((p0 &&& (2147483647 : Int32)) % (11 : Int32)))])) rfl (by rw [hml]; rfl) (argsL := [(.int ((p0 &&& (2147483647 : Int32)) % (11 : Int32)))]) (rest := []) (lenOf pd__I_Lcom_example_refute_refute_core_Concept_Kind_ rfl) rfl (by show 2 * 0 + _ ≤ _; exact Nat.le_of_eq rfl) (hb hby at_9) (fun _ _ => ⟨rfl, e0, (by decide : 0 + 0 ≤ _), (by decide : 0 + 0 ≤ _)⟩)
    dsimp only [Pt.U, Pt.locs, Pt.cells, Pt.slots] at X2 l2 y2 z2 st2 hQ2
    subst l2 y2 z2
    obtain ⟨rfl, Nq2, e2⟩ := hQ2
    have N2 := Fr.app N0 Nq2
    obtain ⟨cq3, kq3, q3a, q3b, q3c⟩ := isOf hZ e2 E_CLASS
    obtain ⟨_, _, ⟨T3, L3, k3, n3⟩, -, X3, ⟨Lc3, hQ3, l3, y3, z3⟩, st3⟩ := X2.virtualBack hx (y := (⟨"com/example/refute/refute/core/Concept$Kind", "isNumberRestriction", "()Z"⟩ : MethodName)) (z := (⟨"com/example/refute/refute/core/Concept$Kind", "isNumberRestriction", "()Z"⟩ : MethodName)) hown (mvT hZ (hw _ (List.mem_of_getElem? (i := 8) rfl))) (mvT hZ (hw _ (List.mem_of_getElem? (i := 9) rfl))) (notFace_of_selects (args := #[]) (mvT hZ (hw _ (List.mem_of_getElem? (i := 11) rfl)))) (mvT hZ (hw _ (List.mem_of_getElem? (i := 11) rfl))) (mvT hZ (hw _ (List.mem_of_getElem? (i := 10) rfl))) (by decide) (backOf (W := 0) (rm2 l Z a0 hw [] w0 w8 w9 w10 (0 : Int32) h0 n0 Z0 S_MIN S_MAX S_EXACT (if_neg (fun q => q.elim h_CLASS_MIN (fun q => q.elim h_CLASS_MAX h_CLASS_EXACT))).symm) hZ (hw _ (List.mem_of_getElem? (i := 12) rfl)) (hw _ (List.mem_of_getElem? (i := 6) rfl)) (by decide) (by decide)) q3a q3c (g := (mkF m 26 #[.val (.int p0), .val (.int ((p0 &&& (2147483647 : Int32)) % (11 : Int32))), .val (.ref w0), .val (.int (0 : Int32))] [(.ref w0)])) rfl (by rw [hml]; rfl) (Steps.refl _) (argsL := []) (rest := []) (lenOf pd___Z rfl) rfl (by show 2 * 0 + _ ≤ _; exact Nat.le_of_eq rfl) (hb hby at_26) (fun _ _ => ⟨rfl, e2, (by decide : 0 + 0 ≤ _), (by decide : 0 + 0 ≤ _)⟩)
    dsimp only [Pt.U, Pt.locs, Pt.cells, Pt.slots] at X3 l3 y3 z3 st3 hQ3
    subst l3 y3 z3
    obtain ⟨rfl, Nq3, e3⟩ := hQ3
    have N3 := Fr.app N2 Nq3
    obtain ⟨fs, hr, hrun, hended, hW, hsame⟩ := X3.leave (v := some (.int (1 : Int32))) (fun h => by rw [Bd.returns] at h; cases h)
    refine ⟨_, _, pre1 _ ?_, hrun, hended, _, _, rfl, ?_, ⟨_, rfl⟩, hW, hsame.mono (by decide) (by decide)⟩
    · show Steps p.tables e below (s₁.setTop (mkF m 9 #[.val (.int p0), .val (.int ((p0 &&& (2147483647 : Int32)) % (11 : Int32))), .unset, .unset] [(.int ((p0 &&& (2147483647 : Int32)) % (11 : Int32)))])) _
      refine st2 _ ?_
      show Steps p.tables e below (T2.setTop (mkF m 12 #[.val (.int p0), .val (.int ((p0 &&& (2147483647 : Int32)) % (11 : Int32))), .unset, .unset] [(.ref w0)])) _
      refine XS.astoreN X2.here hx rfl (hb hby at_12) rfl rfl (l' := #[.val (.int p0), .val (.int ((p0 &&& (2147483647 : Int32)) % (11 : Int32))), .val (.ref w0), .unset]) rfl ?_
      show Steps p.tables e below (T2.setTop (mkF m 13 #[.val (.int p0), .val (.int ((p0 &&& (2147483647 : Int32)) % (11 : Int32))), .val (.ref w0), .unset] [])) _
      refine XS.iloadN X2.here hx rfl (hb hby at_13) rfl  ?_
      show Steps p.tables e below (T2.setTop (mkF m 14 #[.val (.int p0), .val (.int ((p0 &&& (2147483647 : Int32)) % (11 : Int32))), .val (.ref w0), .unset] [(.int ((p0 &&& (2147483647 : Int32)) % (11 : Int32)))])) _
      refine XS.bipush X2.here hx rfl (hb hby at_14) ?_
      show Steps p.tables e below (T2.setTop (mkF m 16 #[.val (.int p0), .val (.int ((p0 &&& (2147483647 : Int32)) % (11 : Int32))), .val (.ref w0), .unset] [(.int (8 : Int32)), (.int ((p0 &&& (2147483647 : Int32)) % (11 : Int32)))])) _
      refine XS.icmpYes X2.here hx rfl (pc0 := 16) (pc' := 23) rfl (hb hby at_16) rfl (tlt (by rw [hk]; decide)).1 (by decide) (by decide) ?_
      show Steps p.tables e below (T2.setTop (mkF m 23 #[.val (.int p0), .val (.int ((p0 &&& (2147483647 : Int32)) % (11 : Int32))), .val (.ref w0), .unset] [])) _
      refine XS.iconst X2.here hx rfl (hb hby at_23) ?_
      show Steps p.tables e below (T2.setTop (mkF m 24 #[.val (.int p0), .val (.int ((p0 &&& (2147483647 : Int32)) % (11 : Int32))), .val (.ref w0), .unset] [(.int (0 : Int32))])) _
      refine XS.istoreN X2.here hx rfl (hb hby at_24) rfl (l' := #[.val (.int p0), .val (.int ((p0 &&& (2147483647 : Int32)) % (11 : Int32))), .val (.ref w0), .val (.int (0 : Int32))]) rfl ?_
      show Steps p.tables e below (T2.setTop (mkF m 25 #[.val (.int p0), .val (.int ((p0 &&& (2147483647 : Int32)) % (11 : Int32))), .val (.ref w0), .val (.int (0 : Int32))] [])) _
      refine XS.aloadN X2.here hx rfl (hb hby at_25) rfl rfl ?_
      show Steps p.tables e below (T2.setTop (mkF m 26 #[.val (.int p0), .val (.int ((p0 &&& (2147483647 : Int32)) % (11 : Int32))), .val (.ref w0), .val (.int (0 : Int32))] [(.ref w0)])) _
      refine st3.trans ?_
      show Steps p.tables e below (T3.setTop (mkF m 29 #[.val (.int p0), .val (.int ((p0 &&& (2147483647 : Int32)) % (11 : Int32))), .val (.ref w0), .val (.int (0 : Int32))] [(.int (0 : Int32))])) _
      refine XS.iloadN X3.here hx rfl (hb hby at_29) rfl  ?_
      show Steps p.tables e below (T3.setTop (mkF m 30 #[.val (.int p0), .val (.int ((p0 &&& (2147483647 : Int32)) % (11 : Int32))), .val (.ref w0), .val (.int (0 : Int32))] [(.int (0 : Int32)), (.int (0 : Int32))])) _
      refine XS.icmpNo X3.here hx rfl (hb hby at_30) rfl (teq (by decide : (0 : Int32) = (0 : Int32))).2 ?_
      show Steps p.tables e below (T3.setTop (mkF m 33 #[.val (.int p0), .val (.int ((p0 &&& (2147483647 : Int32)) % (11 : Int32))), .val (.ref w0), .val (.int (0 : Int32))] [])) _
      refine XS.iconst X3.here hx rfl (hb hby at_33) ?_
      show Steps p.tables e below (T3.setTop (mkF m 34 #[.val (.int p0), .val (.int ((p0 &&& (2147483647 : Int32)) % (11 : Int32))), .val (.ref w0), .val (.int (0 : Int32))] [(.int (1 : Int32))])) _
      refine XS.goto X3.here hx rfl (pc0 := 34) (pc' := 38) rfl (hb hby at_34) (by decide) (by decide) ?_
      show Steps p.tables e below (T3.setTop (mkF m 38 #[.val (.int p0), .val (.int ((p0 &&& (2147483647 : Int32)) % (11 : Int32))), .val (.ref w0), .val (.int (0 : Int32))] [(.int (1 : Int32))])) _
      exact retN X3 hx (t := .boolean) Bd.returns (by simp) (hb hby at_38) hr
    · show Q_rm0 Z p0 w0 w1 w2 w3 w4 w5 w6 w7 w8 w9 w10 h0 n0 _ T3.heap _
      rw [e3]
      exact ⟨rfl, N3⟩
  · obtain ⟨_, _, ⟨T4, L4, k4, n4⟩, -, X4, ⟨Lc4, hQ4, l4, y4, z4⟩, st4⟩ := Jvm.LawKit.callS X0 hx (y := (⟨"com/example/refute/refute/core/KindIsNumberRestrictionPinLaw", "pick", "(I)Lcom/example/refute/refute/core/Concept$Kind;"⟩ : MethodName)) hown (mvT hZ (hw _ (List.mem_of_getElem? (i := 1) rfl))) (mvT hZ (hw _ (List.mem_of_getElem? (i := 2) rfl))) (mvT hZ (hw _ (List.mem_of_getElem? (i := 3) rfl))) (mvT hZ (hw _ (List.mem_of_getElem? (i := 4) rfl))) (by decide) (backOf (W := 0) (rm1 l Z a0 hw [] ((p0 &&& (2147483647 : Int32)) % (11 : Int32)) w0 w1 w2 w3 w4 w5 w6 w7 w8 w9 w10 w1 h0 n0 Z0 S_CLASS S_THING S_NOTHING S_INTERSECTION S_UNION S_COMPLEMENT S_SOME S_ALL S_MIN S_MAX S_EXACT (by rw [hk]; rfl)) hZ (hw _ (List.mem_of_getElem? (i := 4) rfl)) (hw _ (List.mem_of_getElem? (i := 3) rfl)) (by decide) (by decide)) (g := (mkF m 9 #[.val (.int p0), .val (.int ((p0 &&& (2147483647 : Int32)) % (11 : Int32))), .unset, .unset] [(.int ((p0 &&& (2147483647 : Int32)) % (11 : Int32)))])) rfl (by rw [hml]; rfl) (argsL := [(.int ((p0 &&& (2147483647 : Int32)) % (11 : Int32)))]) (rest := []) (lenOf pd__I_Lcom_example_refute_refute_core_Concept_Kind_ rfl) rfl (by show 2 * 0 + _ ≤ _; exact Nat.le_of_eq rfl) (hb hby at_9) (fun _ _ => ⟨rfl, e0, (by decide : 0 + 0 ≤ _), (by decide : 0 + 0 ≤ _)⟩)
    dsimp only [Pt.U, Pt.locs, Pt.cells, Pt.slots] at X4 l4 y4 z4 st4 hQ4
    subst l4 y4 z4
    obtain ⟨rfl, Nq4, e4⟩ := hQ4
    have N4 := Fr.app N0 Nq4
    obtain ⟨cq5, kq5, q5a, q5b, q5c⟩ := isOf hZ e4 E_THING
    obtain ⟨_, _, ⟨T5, L5, k5, n5⟩, -, X5, ⟨Lc5, hQ5, l5, y5, z5⟩, st5⟩ := X4.virtualBack hx (y := (⟨"com/example/refute/refute/core/Concept$Kind", "isNumberRestriction", "()Z"⟩ : MethodName)) (z := (⟨"com/example/refute/refute/core/Concept$Kind", "isNumberRestriction", "()Z"⟩ : MethodName)) hown (mvT hZ (hw _ (List.mem_of_getElem? (i := 8) rfl))) (mvT hZ (hw _ (List.mem_of_getElem? (i := 9) rfl))) (notFace_of_selects (args := #[]) (mvT hZ (hw _ (List.mem_of_getElem? (i := 11) rfl)))) (mvT hZ (hw _ (List.mem_of_getElem? (i := 11) rfl))) (mvT hZ (hw _ (List.mem_of_getElem? (i := 10) rfl))) (by decide) (backOf (W := 0) (rm2 l Z a0 hw [] w1 w8 w9 w10 (0 : Int32) h0 n0 Z0 S_MIN S_MAX S_EXACT (if_neg (fun q => q.elim h_THING_MIN (fun q => q.elim h_THING_MAX h_THING_EXACT))).symm) hZ (hw _ (List.mem_of_getElem? (i := 12) rfl)) (hw _ (List.mem_of_getElem? (i := 6) rfl)) (by decide) (by decide)) q5a q5c (g := (mkF m 26 #[.val (.int p0), .val (.int ((p0 &&& (2147483647 : Int32)) % (11 : Int32))), .val (.ref w1), .val (.int (0 : Int32))] [(.ref w1)])) rfl (by rw [hml]; rfl) (Steps.refl _) (argsL := []) (rest := []) (lenOf pd___Z rfl) rfl (by show 2 * 0 + _ ≤ _; exact Nat.le_of_eq rfl) (hb hby at_26) (fun _ _ => ⟨rfl, e4, (by decide : 0 + 0 ≤ _), (by decide : 0 + 0 ≤ _)⟩)
    dsimp only [Pt.U, Pt.locs, Pt.cells, Pt.slots] at X5 l5 y5 z5 st5 hQ5
    subst l5 y5 z5
    obtain ⟨rfl, Nq5, e5⟩ := hQ5
    have N5 := Fr.app N4 Nq5
    obtain ⟨fs, hr, hrun, hended, hW, hsame⟩ := X5.leave (v := some (.int (1 : Int32))) (fun h => by rw [Bd.returns] at h; cases h)
    refine ⟨_, _, pre1 _ ?_, hrun, hended, _, _, rfl, ?_, ⟨_, rfl⟩, hW, hsame.mono (by decide) (by decide)⟩
    · show Steps p.tables e below (s₁.setTop (mkF m 9 #[.val (.int p0), .val (.int ((p0 &&& (2147483647 : Int32)) % (11 : Int32))), .unset, .unset] [(.int ((p0 &&& (2147483647 : Int32)) % (11 : Int32)))])) _
      refine st4 _ ?_
      show Steps p.tables e below (T4.setTop (mkF m 12 #[.val (.int p0), .val (.int ((p0 &&& (2147483647 : Int32)) % (11 : Int32))), .unset, .unset] [(.ref w1)])) _
      refine XS.astoreN X4.here hx rfl (hb hby at_12) rfl rfl (l' := #[.val (.int p0), .val (.int ((p0 &&& (2147483647 : Int32)) % (11 : Int32))), .val (.ref w1), .unset]) rfl ?_
      show Steps p.tables e below (T4.setTop (mkF m 13 #[.val (.int p0), .val (.int ((p0 &&& (2147483647 : Int32)) % (11 : Int32))), .val (.ref w1), .unset] [])) _
      refine XS.iloadN X4.here hx rfl (hb hby at_13) rfl  ?_
      show Steps p.tables e below (T4.setTop (mkF m 14 #[.val (.int p0), .val (.int ((p0 &&& (2147483647 : Int32)) % (11 : Int32))), .val (.ref w1), .unset] [(.int ((p0 &&& (2147483647 : Int32)) % (11 : Int32)))])) _
      refine XS.bipush X4.here hx rfl (hb hby at_14) ?_
      show Steps p.tables e below (T4.setTop (mkF m 16 #[.val (.int p0), .val (.int ((p0 &&& (2147483647 : Int32)) % (11 : Int32))), .val (.ref w1), .unset] [(.int (8 : Int32)), (.int ((p0 &&& (2147483647 : Int32)) % (11 : Int32)))])) _
      refine XS.icmpYes X4.here hx rfl (pc0 := 16) (pc' := 23) rfl (hb hby at_16) rfl (tlt (by rw [hk]; decide)).1 (by decide) (by decide) ?_
      show Steps p.tables e below (T4.setTop (mkF m 23 #[.val (.int p0), .val (.int ((p0 &&& (2147483647 : Int32)) % (11 : Int32))), .val (.ref w1), .unset] [])) _
      refine XS.iconst X4.here hx rfl (hb hby at_23) ?_
      show Steps p.tables e below (T4.setTop (mkF m 24 #[.val (.int p0), .val (.int ((p0 &&& (2147483647 : Int32)) % (11 : Int32))), .val (.ref w1), .unset] [(.int (0 : Int32))])) _
      refine XS.istoreN X4.here hx rfl (hb hby at_24) rfl (l' := #[.val (.int p0), .val (.int ((p0 &&& (2147483647 : Int32)) % (11 : Int32))), .val (.ref w1), .val (.int (0 : Int32))]) rfl ?_
      show Steps p.tables e below (T4.setTop (mkF m 25 #[.val (.int p0), .val (.int ((p0 &&& (2147483647 : Int32)) % (11 : Int32))), .val (.ref w1), .val (.int (0 : Int32))] [])) _
      refine XS.aloadN X4.here hx rfl (hb hby at_25) rfl rfl ?_
      show Steps p.tables e below (T4.setTop (mkF m 26 #[.val (.int p0), .val (.int ((p0 &&& (2147483647 : Int32)) % (11 : Int32))), .val (.ref w1), .val (.int (0 : Int32))] [(.ref w1)])) _
      refine st5.trans ?_
      show Steps p.tables e below (T5.setTop (mkF m 29 #[.val (.int p0), .val (.int ((p0 &&& (2147483647 : Int32)) % (11 : Int32))), .val (.ref w1), .val (.int (0 : Int32))] [(.int (0 : Int32))])) _
      refine XS.iloadN X5.here hx rfl (hb hby at_29) rfl  ?_
      show Steps p.tables e below (T5.setTop (mkF m 30 #[.val (.int p0), .val (.int ((p0 &&& (2147483647 : Int32)) % (11 : Int32))), .val (.ref w1), .val (.int (0 : Int32))] [(.int (0 : Int32)), (.int (0 : Int32))])) _
      refine XS.icmpNo X5.here hx rfl (hb hby at_30) rfl (teq (by decide : (0 : Int32) = (0 : Int32))).2 ?_
      show Steps p.tables e below (T5.setTop (mkF m 33 #[.val (.int p0), .val (.int ((p0 &&& (2147483647 : Int32)) % (11 : Int32))), .val (.ref w1), .val (.int (0 : Int32))] [])) _
      refine XS.iconst X5.here hx rfl (hb hby at_33) ?_
      show Steps p.tables e below (T5.setTop (mkF m 34 #[.val (.int p0), .val (.int ((p0 &&& (2147483647 : Int32)) % (11 : Int32))), .val (.ref w1), .val (.int (0 : Int32))] [(.int (1 : Int32))])) _
      refine XS.goto X5.here hx rfl (pc0 := 34) (pc' := 38) rfl (hb hby at_34) (by decide) (by decide) ?_
      show Steps p.tables e below (T5.setTop (mkF m 38 #[.val (.int p0), .val (.int ((p0 &&& (2147483647 : Int32)) % (11 : Int32))), .val (.ref w1), .val (.int (0 : Int32))] [(.int (1 : Int32))])) _
      exact retN X5 hx (t := .boolean) Bd.returns (by simp) (hb hby at_38) hr
    · show Q_rm0 Z p0 w0 w1 w2 w3 w4 w5 w6 w7 w8 w9 w10 h0 n0 _ T5.heap _
      rw [e5]
      exact ⟨rfl, N5⟩
  · obtain ⟨_, _, ⟨T6, L6, k6, n6⟩, -, X6, ⟨Lc6, hQ6, l6, y6, z6⟩, st6⟩ := Jvm.LawKit.callS X0 hx (y := (⟨"com/example/refute/refute/core/KindIsNumberRestrictionPinLaw", "pick", "(I)Lcom/example/refute/refute/core/Concept$Kind;"⟩ : MethodName)) hown (mvT hZ (hw _ (List.mem_of_getElem? (i := 1) rfl))) (mvT hZ (hw _ (List.mem_of_getElem? (i := 2) rfl))) (mvT hZ (hw _ (List.mem_of_getElem? (i := 3) rfl))) (mvT hZ (hw _ (List.mem_of_getElem? (i := 4) rfl))) (by decide) (backOf (W := 0) (rm1 l Z a0 hw [] ((p0 &&& (2147483647 : Int32)) % (11 : Int32)) w0 w1 w2 w3 w4 w5 w6 w7 w8 w9 w10 w2 h0 n0 Z0 S_CLASS S_THING S_NOTHING S_INTERSECTION S_UNION S_COMPLEMENT S_SOME S_ALL S_MIN S_MAX S_EXACT (by rw [hk]; rfl)) hZ (hw _ (List.mem_of_getElem? (i := 4) rfl)) (hw _ (List.mem_of_getElem? (i := 3) rfl)) (by decide) (by decide)) (g := (mkF m 9 #[.val (.int p0), .val (.int ((p0 &&& (2147483647 : Int32)) % (11 : Int32))), .unset, .unset] [(.int ((p0 &&& (2147483647 : Int32)) % (11 : Int32)))])) rfl (by rw [hml]; rfl) (argsL := [(.int ((p0 &&& (2147483647 : Int32)) % (11 : Int32)))]) (rest := []) (lenOf pd__I_Lcom_example_refute_refute_core_Concept_Kind_ rfl) rfl (by show 2 * 0 + _ ≤ _; exact Nat.le_of_eq rfl) (hb hby at_9) (fun _ _ => ⟨rfl, e0, (by decide : 0 + 0 ≤ _), (by decide : 0 + 0 ≤ _)⟩)
    dsimp only [Pt.U, Pt.locs, Pt.cells, Pt.slots] at X6 l6 y6 z6 st6 hQ6
    subst l6 y6 z6
    obtain ⟨rfl, Nq6, e6⟩ := hQ6
    have N6 := Fr.app N0 Nq6
    obtain ⟨cq7, kq7, q7a, q7b, q7c⟩ := isOf hZ e6 E_NOTHING
    obtain ⟨_, _, ⟨T7, L7, k7, n7⟩, -, X7, ⟨Lc7, hQ7, l7, y7, z7⟩, st7⟩ := X6.virtualBack hx (y := (⟨"com/example/refute/refute/core/Concept$Kind", "isNumberRestriction", "()Z"⟩ : MethodName)) (z := (⟨"com/example/refute/refute/core/Concept$Kind", "isNumberRestriction", "()Z"⟩ : MethodName)) hown (mvT hZ (hw _ (List.mem_of_getElem? (i := 8) rfl))) (mvT hZ (hw _ (List.mem_of_getElem? (i := 9) rfl))) (notFace_of_selects (args := #[]) (mvT hZ (hw _ (List.mem_of_getElem? (i := 11) rfl)))) (mvT hZ (hw _ (List.mem_of_getElem? (i := 11) rfl))) (mvT hZ (hw _ (List.mem_of_getElem? (i := 10) rfl))) (by decide) (backOf (W := 0) (rm2 l Z a0 hw [] w2 w8 w9 w10 (0 : Int32) h0 n0 Z0 S_MIN S_MAX S_EXACT (if_neg (fun q => q.elim h_NOTHING_MIN (fun q => q.elim h_NOTHING_MAX h_NOTHING_EXACT))).symm) hZ (hw _ (List.mem_of_getElem? (i := 12) rfl)) (hw _ (List.mem_of_getElem? (i := 6) rfl)) (by decide) (by decide)) q7a q7c (g := (mkF m 26 #[.val (.int p0), .val (.int ((p0 &&& (2147483647 : Int32)) % (11 : Int32))), .val (.ref w2), .val (.int (0 : Int32))] [(.ref w2)])) rfl (by rw [hml]; rfl) (Steps.refl _) (argsL := []) (rest := []) (lenOf pd___Z rfl) rfl (by show 2 * 0 + _ ≤ _; exact Nat.le_of_eq rfl) (hb hby at_26) (fun _ _ => ⟨rfl, e6, (by decide : 0 + 0 ≤ _), (by decide : 0 + 0 ≤ _)⟩)
    dsimp only [Pt.U, Pt.locs, Pt.cells, Pt.slots] at X7 l7 y7 z7 st7 hQ7
    subst l7 y7 z7
    obtain ⟨rfl, Nq7, e7⟩ := hQ7
    have N7 := Fr.app N6 Nq7
    obtain ⟨fs, hr, hrun, hended, hW, hsame⟩ := X7.leave (v := some (.int (1 : Int32))) (fun h => by rw [Bd.returns] at h; cases h)
    refine ⟨_, _, pre1 _ ?_, hrun, hended, _, _, rfl, ?_, ⟨_, rfl⟩, hW, hsame.mono (by decide) (by decide)⟩
    · show Steps p.tables e below (s₁.setTop (mkF m 9 #[.val (.int p0), .val (.int ((p0 &&& (2147483647 : Int32)) % (11 : Int32))), .unset, .unset] [(.int ((p0 &&& (2147483647 : Int32)) % (11 : Int32)))])) _
      refine st6 _ ?_
      show Steps p.tables e below (T6.setTop (mkF m 12 #[.val (.int p0), .val (.int ((p0 &&& (2147483647 : Int32)) % (11 : Int32))), .unset, .unset] [(.ref w2)])) _
      refine XS.astoreN X6.here hx rfl (hb hby at_12) rfl rfl (l' := #[.val (.int p0), .val (.int ((p0 &&& (2147483647 : Int32)) % (11 : Int32))), .val (.ref w2), .unset]) rfl ?_
      show Steps p.tables e below (T6.setTop (mkF m 13 #[.val (.int p0), .val (.int ((p0 &&& (2147483647 : Int32)) % (11 : Int32))), .val (.ref w2), .unset] [])) _
      refine XS.iloadN X6.here hx rfl (hb hby at_13) rfl  ?_
      show Steps p.tables e below (T6.setTop (mkF m 14 #[.val (.int p0), .val (.int ((p0 &&& (2147483647 : Int32)) % (11 : Int32))), .val (.ref w2), .unset] [(.int ((p0 &&& (2147483647 : Int32)) % (11 : Int32)))])) _
      refine XS.bipush X6.here hx rfl (hb hby at_14) ?_
      show Steps p.tables e below (T6.setTop (mkF m 16 #[.val (.int p0), .val (.int ((p0 &&& (2147483647 : Int32)) % (11 : Int32))), .val (.ref w2), .unset] [(.int (8 : Int32)), (.int ((p0 &&& (2147483647 : Int32)) % (11 : Int32)))])) _
      refine XS.icmpYes X6.here hx rfl (pc0 := 16) (pc' := 23) rfl (hb hby at_16) rfl (tlt (by rw [hk]; decide)).1 (by decide) (by decide) ?_
      show Steps p.tables e below (T6.setTop (mkF m 23 #[.val (.int p0), .val (.int ((p0 &&& (2147483647 : Int32)) % (11 : Int32))), .val (.ref w2), .unset] [])) _
      refine XS.iconst X6.here hx rfl (hb hby at_23) ?_
      show Steps p.tables e below (T6.setTop (mkF m 24 #[.val (.int p0), .val (.int ((p0 &&& (2147483647 : Int32)) % (11 : Int32))), .val (.ref w2), .unset] [(.int (0 : Int32))])) _
      refine XS.istoreN X6.here hx rfl (hb hby at_24) rfl (l' := #[.val (.int p0), .val (.int ((p0 &&& (2147483647 : Int32)) % (11 : Int32))), .val (.ref w2), .val (.int (0 : Int32))]) rfl ?_
      show Steps p.tables e below (T6.setTop (mkF m 25 #[.val (.int p0), .val (.int ((p0 &&& (2147483647 : Int32)) % (11 : Int32))), .val (.ref w2), .val (.int (0 : Int32))] [])) _
      refine XS.aloadN X6.here hx rfl (hb hby at_25) rfl rfl ?_
      show Steps p.tables e below (T6.setTop (mkF m 26 #[.val (.int p0), .val (.int ((p0 &&& (2147483647 : Int32)) % (11 : Int32))), .val (.ref w2), .val (.int (0 : Int32))] [(.ref w2)])) _
      refine st7.trans ?_
      show Steps p.tables e below (T7.setTop (mkF m 29 #[.val (.int p0), .val (.int ((p0 &&& (2147483647 : Int32)) % (11 : Int32))), .val (.ref w2), .val (.int (0 : Int32))] [(.int (0 : Int32))])) _
      refine XS.iloadN X7.here hx rfl (hb hby at_29) rfl  ?_
      show Steps p.tables e below (T7.setTop (mkF m 30 #[.val (.int p0), .val (.int ((p0 &&& (2147483647 : Int32)) % (11 : Int32))), .val (.ref w2), .val (.int (0 : Int32))] [(.int (0 : Int32)), (.int (0 : Int32))])) _
      refine XS.icmpNo X7.here hx rfl (hb hby at_30) rfl (teq (by decide : (0 : Int32) = (0 : Int32))).2 ?_
      show Steps p.tables e below (T7.setTop (mkF m 33 #[.val (.int p0), .val (.int ((p0 &&& (2147483647 : Int32)) % (11 : Int32))), .val (.ref w2), .val (.int (0 : Int32))] [])) _
      refine XS.iconst X7.here hx rfl (hb hby at_33) ?_
      show Steps p.tables e below (T7.setTop (mkF m 34 #[.val (.int p0), .val (.int ((p0 &&& (2147483647 : Int32)) % (11 : Int32))), .val (.ref w2), .val (.int (0 : Int32))] [(.int (1 : Int32))])) _
      refine XS.goto X7.here hx rfl (pc0 := 34) (pc' := 38) rfl (hb hby at_34) (by decide) (by decide) ?_
      show Steps p.tables e below (T7.setTop (mkF m 38 #[.val (.int p0), .val (.int ((p0 &&& (2147483647 : Int32)) % (11 : Int32))), .val (.ref w2), .val (.int (0 : Int32))] [(.int (1 : Int32))])) _
      exact retN X7 hx (t := .boolean) Bd.returns (by simp) (hb hby at_38) hr
    · show Q_rm0 Z p0 w0 w1 w2 w3 w4 w5 w6 w7 w8 w9 w10 h0 n0 _ T7.heap _
      rw [e7]
      exact ⟨rfl, N7⟩
  · obtain ⟨_, _, ⟨T8, L8, k8, n8⟩, -, X8, ⟨Lc8, hQ8, l8, y8, z8⟩, st8⟩ := Jvm.LawKit.callS X0 hx (y := (⟨"com/example/refute/refute/core/KindIsNumberRestrictionPinLaw", "pick", "(I)Lcom/example/refute/refute/core/Concept$Kind;"⟩ : MethodName)) hown (mvT hZ (hw _ (List.mem_of_getElem? (i := 1) rfl))) (mvT hZ (hw _ (List.mem_of_getElem? (i := 2) rfl))) (mvT hZ (hw _ (List.mem_of_getElem? (i := 3) rfl))) (mvT hZ (hw _ (List.mem_of_getElem? (i := 4) rfl))) (by decide) (backOf (W := 0) (rm1 l Z a0 hw [] ((p0 &&& (2147483647 : Int32)) % (11 : Int32)) w0 w1 w2 w3 w4 w5 w6 w7 w8 w9 w10 w3 h0 n0 Z0 S_CLASS S_THING S_NOTHING S_INTERSECTION S_UNION S_COMPLEMENT S_SOME S_ALL S_MIN S_MAX S_EXACT (by rw [hk]; rfl)) hZ (hw _ (List.mem_of_getElem? (i := 4) rfl)) (hw _ (List.mem_of_getElem? (i := 3) rfl)) (by decide) (by decide)) (g := (mkF m 9 #[.val (.int p0), .val (.int ((p0 &&& (2147483647 : Int32)) % (11 : Int32))), .unset, .unset] [(.int ((p0 &&& (2147483647 : Int32)) % (11 : Int32)))])) rfl (by rw [hml]; rfl) (argsL := [(.int ((p0 &&& (2147483647 : Int32)) % (11 : Int32)))]) (rest := []) (lenOf pd__I_Lcom_example_refute_refute_core_Concept_Kind_ rfl) rfl (by show 2 * 0 + _ ≤ _; exact Nat.le_of_eq rfl) (hb hby at_9) (fun _ _ => ⟨rfl, e0, (by decide : 0 + 0 ≤ _), (by decide : 0 + 0 ≤ _)⟩)
    dsimp only [Pt.U, Pt.locs, Pt.cells, Pt.slots] at X8 l8 y8 z8 st8 hQ8
    subst l8 y8 z8
    obtain ⟨rfl, Nq8, e8⟩ := hQ8
    have N8 := Fr.app N0 Nq8
    obtain ⟨cq9, kq9, q9a, q9b, q9c⟩ := isOf hZ e8 E_INTERSECTION
    obtain ⟨_, _, ⟨T9, L9, k9, n9⟩, -, X9, ⟨Lc9, hQ9, l9, y9, z9⟩, st9⟩ := X8.virtualBack hx (y := (⟨"com/example/refute/refute/core/Concept$Kind", "isNumberRestriction", "()Z"⟩ : MethodName)) (z := (⟨"com/example/refute/refute/core/Concept$Kind", "isNumberRestriction", "()Z"⟩ : MethodName)) hown (mvT hZ (hw _ (List.mem_of_getElem? (i := 8) rfl))) (mvT hZ (hw _ (List.mem_of_getElem? (i := 9) rfl))) (notFace_of_selects (args := #[]) (mvT hZ (hw _ (List.mem_of_getElem? (i := 11) rfl)))) (mvT hZ (hw _ (List.mem_of_getElem? (i := 11) rfl))) (mvT hZ (hw _ (List.mem_of_getElem? (i := 10) rfl))) (by decide) (backOf (W := 0) (rm2 l Z a0 hw [] w3 w8 w9 w10 (0 : Int32) h0 n0 Z0 S_MIN S_MAX S_EXACT (if_neg (fun q => q.elim h_INTERSECTION_MIN (fun q => q.elim h_INTERSECTION_MAX h_INTERSECTION_EXACT))).symm) hZ (hw _ (List.mem_of_getElem? (i := 12) rfl)) (hw _ (List.mem_of_getElem? (i := 6) rfl)) (by decide) (by decide)) q9a q9c (g := (mkF m 26 #[.val (.int p0), .val (.int ((p0 &&& (2147483647 : Int32)) % (11 : Int32))), .val (.ref w3), .val (.int (0 : Int32))] [(.ref w3)])) rfl (by rw [hml]; rfl) (Steps.refl _) (argsL := []) (rest := []) (lenOf pd___Z rfl) rfl (by show 2 * 0 + _ ≤ _; exact Nat.le_of_eq rfl) (hb hby at_26) (fun _ _ => ⟨rfl, e8, (by decide : 0 + 0 ≤ _), (by decide : 0 + 0 ≤ _)⟩)
    dsimp only [Pt.U, Pt.locs, Pt.cells, Pt.slots] at X9 l9 y9 z9 st9 hQ9
    subst l9 y9 z9
    obtain ⟨rfl, Nq9, e9⟩ := hQ9
    have N9 := Fr.app N8 Nq9
    obtain ⟨fs, hr, hrun, hended, hW, hsame⟩ := X9.leave (v := some (.int (1 : Int32))) (fun h => by rw [Bd.returns] at h; cases h)
    refine ⟨_, _, pre1 _ ?_, hrun, hended, _, _, rfl, ?_, ⟨_, rfl⟩, hW, hsame.mono (by decide) (by decide)⟩
    · show Steps p.tables e below (s₁.setTop (mkF m 9 #[.val (.int p0), .val (.int ((p0 &&& (2147483647 : Int32)) % (11 : Int32))), .unset, .unset] [(.int ((p0 &&& (2147483647 : Int32)) % (11 : Int32)))])) _
      refine st8 _ ?_
      show Steps p.tables e below (T8.setTop (mkF m 12 #[.val (.int p0), .val (.int ((p0 &&& (2147483647 : Int32)) % (11 : Int32))), .unset, .unset] [(.ref w3)])) _
      refine XS.astoreN X8.here hx rfl (hb hby at_12) rfl rfl (l' := #[.val (.int p0), .val (.int ((p0 &&& (2147483647 : Int32)) % (11 : Int32))), .val (.ref w3), .unset]) rfl ?_
      show Steps p.tables e below (T8.setTop (mkF m 13 #[.val (.int p0), .val (.int ((p0 &&& (2147483647 : Int32)) % (11 : Int32))), .val (.ref w3), .unset] [])) _
      refine XS.iloadN X8.here hx rfl (hb hby at_13) rfl  ?_
      show Steps p.tables e below (T8.setTop (mkF m 14 #[.val (.int p0), .val (.int ((p0 &&& (2147483647 : Int32)) % (11 : Int32))), .val (.ref w3), .unset] [(.int ((p0 &&& (2147483647 : Int32)) % (11 : Int32)))])) _
      refine XS.bipush X8.here hx rfl (hb hby at_14) ?_
      show Steps p.tables e below (T8.setTop (mkF m 16 #[.val (.int p0), .val (.int ((p0 &&& (2147483647 : Int32)) % (11 : Int32))), .val (.ref w3), .unset] [(.int (8 : Int32)), (.int ((p0 &&& (2147483647 : Int32)) % (11 : Int32)))])) _
      refine XS.icmpYes X8.here hx rfl (pc0 := 16) (pc' := 23) rfl (hb hby at_16) rfl (tlt (by rw [hk]; decide)).1 (by decide) (by decide) ?_
      show Steps p.tables e below (T8.setTop (mkF m 23 #[.val (.int p0), .val (.int ((p0 &&& (2147483647 : Int32)) % (11 : Int32))), .val (.ref w3), .unset] [])) _
      refine XS.iconst X8.here hx rfl (hb hby at_23) ?_
      show Steps p.tables e below (T8.setTop (mkF m 24 #[.val (.int p0), .val (.int ((p0 &&& (2147483647 : Int32)) % (11 : Int32))), .val (.ref w3), .unset] [(.int (0 : Int32))])) _
      refine XS.istoreN X8.here hx rfl (hb hby at_24) rfl (l' := #[.val (.int p0), .val (.int ((p0 &&& (2147483647 : Int32)) % (11 : Int32))), .val (.ref w3), .val (.int (0 : Int32))]) rfl ?_
      show Steps p.tables e below (T8.setTop (mkF m 25 #[.val (.int p0), .val (.int ((p0 &&& (2147483647 : Int32)) % (11 : Int32))), .val (.ref w3), .val (.int (0 : Int32))] [])) _
      refine XS.aloadN X8.here hx rfl (hb hby at_25) rfl rfl ?_
      show Steps p.tables e below (T8.setTop (mkF m 26 #[.val (.int p0), .val (.int ((p0 &&& (2147483647 : Int32)) % (11 : Int32))), .val (.ref w3), .val (.int (0 : Int32))] [(.ref w3)])) _
      refine st9.trans ?_
      show Steps p.tables e below (T9.setTop (mkF m 29 #[.val (.int p0), .val (.int ((p0 &&& (2147483647 : Int32)) % (11 : Int32))), .val (.ref w3), .val (.int (0 : Int32))] [(.int (0 : Int32))])) _
      refine XS.iloadN X9.here hx rfl (hb hby at_29) rfl  ?_
      show Steps p.tables e below (T9.setTop (mkF m 30 #[.val (.int p0), .val (.int ((p0 &&& (2147483647 : Int32)) % (11 : Int32))), .val (.ref w3), .val (.int (0 : Int32))] [(.int (0 : Int32)), (.int (0 : Int32))])) _
      refine XS.icmpNo X9.here hx rfl (hb hby at_30) rfl (teq (by decide : (0 : Int32) = (0 : Int32))).2 ?_
      show Steps p.tables e below (T9.setTop (mkF m 33 #[.val (.int p0), .val (.int ((p0 &&& (2147483647 : Int32)) % (11 : Int32))), .val (.ref w3), .val (.int (0 : Int32))] [])) _
      refine XS.iconst X9.here hx rfl (hb hby at_33) ?_
      show Steps p.tables e below (T9.setTop (mkF m 34 #[.val (.int p0), .val (.int ((p0 &&& (2147483647 : Int32)) % (11 : Int32))), .val (.ref w3), .val (.int (0 : Int32))] [(.int (1 : Int32))])) _
      refine XS.goto X9.here hx rfl (pc0 := 34) (pc' := 38) rfl (hb hby at_34) (by decide) (by decide) ?_
      show Steps p.tables e below (T9.setTop (mkF m 38 #[.val (.int p0), .val (.int ((p0 &&& (2147483647 : Int32)) % (11 : Int32))), .val (.ref w3), .val (.int (0 : Int32))] [(.int (1 : Int32))])) _
      exact retN X9 hx (t := .boolean) Bd.returns (by simp) (hb hby at_38) hr
    · show Q_rm0 Z p0 w0 w1 w2 w3 w4 w5 w6 w7 w8 w9 w10 h0 n0 _ T9.heap _
      rw [e9]
      exact ⟨rfl, N9⟩
  · obtain ⟨_, _, ⟨T10, L10, k10, n10⟩, -, X10, ⟨Lc10, hQ10, l10, y10, z10⟩, st10⟩ := Jvm.LawKit.callS X0 hx (y := (⟨"com/example/refute/refute/core/KindIsNumberRestrictionPinLaw", "pick", "(I)Lcom/example/refute/refute/core/Concept$Kind;"⟩ : MethodName)) hown (mvT hZ (hw _ (List.mem_of_getElem? (i := 1) rfl))) (mvT hZ (hw _ (List.mem_of_getElem? (i := 2) rfl))) (mvT hZ (hw _ (List.mem_of_getElem? (i := 3) rfl))) (mvT hZ (hw _ (List.mem_of_getElem? (i := 4) rfl))) (by decide) (backOf (W := 0) (rm1 l Z a0 hw [] ((p0 &&& (2147483647 : Int32)) % (11 : Int32)) w0 w1 w2 w3 w4 w5 w6 w7 w8 w9 w10 w4 h0 n0 Z0 S_CLASS S_THING S_NOTHING S_INTERSECTION S_UNION S_COMPLEMENT S_SOME S_ALL S_MIN S_MAX S_EXACT (by rw [hk]; rfl)) hZ (hw _ (List.mem_of_getElem? (i := 4) rfl)) (hw _ (List.mem_of_getElem? (i := 3) rfl)) (by decide) (by decide)) (g := (mkF m 9 #[.val (.int p0), .val (.int ((p0 &&& (2147483647 : Int32)) % (11 : Int32))), .unset, .unset] [(.int ((p0 &&& (2147483647 : Int32)) % (11 : Int32)))])) rfl (by rw [hml]; rfl) (argsL := [(.int ((p0 &&& (2147483647 : Int32)) % (11 : Int32)))]) (rest := []) (lenOf pd__I_Lcom_example_refute_refute_core_Concept_Kind_ rfl) rfl (by show 2 * 0 + _ ≤ _; exact Nat.le_of_eq rfl) (hb hby at_9) (fun _ _ => ⟨rfl, e0, (by decide : 0 + 0 ≤ _), (by decide : 0 + 0 ≤ _)⟩)
    dsimp only [Pt.U, Pt.locs, Pt.cells, Pt.slots] at X10 l10 y10 z10 st10 hQ10
    subst l10 y10 z10
    obtain ⟨rfl, Nq10, e10⟩ := hQ10
    have N10 := Fr.app N0 Nq10
    obtain ⟨cq11, kq11, q11a, q11b, q11c⟩ := isOf hZ e10 E_UNION
    obtain ⟨_, _, ⟨T11, L11, k11, n11⟩, -, X11, ⟨Lc11, hQ11, l11, y11, z11⟩, st11⟩ := X10.virtualBack hx (y := (⟨"com/example/refute/refute/core/Concept$Kind", "isNumberRestriction", "()Z"⟩ : MethodName)) (z := (⟨"com/example/refute/refute/core/Concept$Kind", "isNumberRestriction", "()Z"⟩ : MethodName)) hown (mvT hZ (hw _ (List.mem_of_getElem? (i := 8) rfl))) (mvT hZ (hw _ (List.mem_of_getElem? (i := 9) rfl))) (notFace_of_selects (args := #[]) (mvT hZ (hw _ (List.mem_of_getElem? (i := 11) rfl)))) (mvT hZ (hw _ (List.mem_of_getElem? (i := 11) rfl))) (mvT hZ (hw _ (List.mem_of_getElem? (i := 10) rfl))) (by decide) (backOf (W := 0) (rm2 l Z a0 hw [] w4 w8 w9 w10 (0 : Int32) h0 n0 Z0 S_MIN S_MAX S_EXACT (if_neg (fun q => q.elim h_UNION_MIN (fun q => q.elim h_UNION_MAX h_UNION_EXACT))).symm) hZ (hw _ (List.mem_of_getElem? (i := 12) rfl)) (hw _ (List.mem_of_getElem? (i := 6) rfl)) (by decide) (by decide)) q11a q11c (g := (mkF m 26 #[.val (.int p0), .val (.int ((p0 &&& (2147483647 : Int32)) % (11 : Int32))), .val (.ref w4), .val (.int (0 : Int32))] [(.ref w4)])) rfl (by rw [hml]; rfl) (Steps.refl _) (argsL := []) (rest := []) (lenOf pd___Z rfl) rfl (by show 2 * 0 + _ ≤ _; exact Nat.le_of_eq rfl) (hb hby at_26) (fun _ _ => ⟨rfl, e10, (by decide : 0 + 0 ≤ _), (by decide : 0 + 0 ≤ _)⟩)
    dsimp only [Pt.U, Pt.locs, Pt.cells, Pt.slots] at X11 l11 y11 z11 st11 hQ11
    subst l11 y11 z11
    obtain ⟨rfl, Nq11, e11⟩ := hQ11
    have N11 := Fr.app N10 Nq11
    obtain ⟨fs, hr, hrun, hended, hW, hsame⟩ := X11.leave (v := some (.int (1 : Int32))) (fun h => by rw [Bd.returns] at h; cases h)
    refine ⟨_, _, pre1 _ ?_, hrun, hended, _, _, rfl, ?_, ⟨_, rfl⟩, hW, hsame.mono (by decide) (by decide)⟩
    · show Steps p.tables e below (s₁.setTop (mkF m 9 #[.val (.int p0), .val (.int ((p0 &&& (2147483647 : Int32)) % (11 : Int32))), .unset, .unset] [(.int ((p0 &&& (2147483647 : Int32)) % (11 : Int32)))])) _
      refine st10 _ ?_
      show Steps p.tables e below (T10.setTop (mkF m 12 #[.val (.int p0), .val (.int ((p0 &&& (2147483647 : Int32)) % (11 : Int32))), .unset, .unset] [(.ref w4)])) _
      refine XS.astoreN X10.here hx rfl (hb hby at_12) rfl rfl (l' := #[.val (.int p0), .val (.int ((p0 &&& (2147483647 : Int32)) % (11 : Int32))), .val (.ref w4), .unset]) rfl ?_
      show Steps p.tables e below (T10.setTop (mkF m 13 #[.val (.int p0), .val (.int ((p0 &&& (2147483647 : Int32)) % (11 : Int32))), .val (.ref w4), .unset] [])) _
      refine XS.iloadN X10.here hx rfl (hb hby at_13) rfl  ?_
      show Steps p.tables e below (T10.setTop (mkF m 14 #[.val (.int p0), .val (.int ((p0 &&& (2147483647 : Int32)) % (11 : Int32))), .val (.ref w4), .unset] [(.int ((p0 &&& (2147483647 : Int32)) % (11 : Int32)))])) _
      refine XS.bipush X10.here hx rfl (hb hby at_14) ?_
      show Steps p.tables e below (T10.setTop (mkF m 16 #[.val (.int p0), .val (.int ((p0 &&& (2147483647 : Int32)) % (11 : Int32))), .val (.ref w4), .unset] [(.int (8 : Int32)), (.int ((p0 &&& (2147483647 : Int32)) % (11 : Int32)))])) _
      refine XS.icmpYes X10.here hx rfl (pc0 := 16) (pc' := 23) rfl (hb hby at_16) rfl (tlt (by rw [hk]; decide)).1 (by decide) (by decide) ?_
      show Steps p.tables e below (T10.setTop (mkF m 23 #[.val (.int p0), .val (.int ((p0 &&& (2147483647 : Int32)) % (11 : Int32))), .val (.ref w4), .unset] [])) _
      refine XS.iconst X10.here hx rfl (hb hby at_23) ?_
      show Steps p.tables e below (T10.setTop (mkF m 24 #[.val (.int p0), .val (.int ((p0 &&& (2147483647 : Int32)) % (11 : Int32))), .val (.ref w4), .unset] [(.int (0 : Int32))])) _
      refine XS.istoreN X10.here hx rfl (hb hby at_24) rfl (l' := #[.val (.int p0), .val (.int ((p0 &&& (2147483647 : Int32)) % (11 : Int32))), .val (.ref w4), .val (.int (0 : Int32))]) rfl ?_
      show Steps p.tables e below (T10.setTop (mkF m 25 #[.val (.int p0), .val (.int ((p0 &&& (2147483647 : Int32)) % (11 : Int32))), .val (.ref w4), .val (.int (0 : Int32))] [])) _
      refine XS.aloadN X10.here hx rfl (hb hby at_25) rfl rfl ?_
      show Steps p.tables e below (T10.setTop (mkF m 26 #[.val (.int p0), .val (.int ((p0 &&& (2147483647 : Int32)) % (11 : Int32))), .val (.ref w4), .val (.int (0 : Int32))] [(.ref w4)])) _
      refine st11.trans ?_
      show Steps p.tables e below (T11.setTop (mkF m 29 #[.val (.int p0), .val (.int ((p0 &&& (2147483647 : Int32)) % (11 : Int32))), .val (.ref w4), .val (.int (0 : Int32))] [(.int (0 : Int32))])) _
      refine XS.iloadN X11.here hx rfl (hb hby at_29) rfl  ?_
      show Steps p.tables e below (T11.setTop (mkF m 30 #[.val (.int p0), .val (.int ((p0 &&& (2147483647 : Int32)) % (11 : Int32))), .val (.ref w4), .val (.int (0 : Int32))] [(.int (0 : Int32)), (.int (0 : Int32))])) _
      refine XS.icmpNo X11.here hx rfl (hb hby at_30) rfl (teq (by decide : (0 : Int32) = (0 : Int32))).2 ?_
      show Steps p.tables e below (T11.setTop (mkF m 33 #[.val (.int p0), .val (.int ((p0 &&& (2147483647 : Int32)) % (11 : Int32))), .val (.ref w4), .val (.int (0 : Int32))] [])) _
      refine XS.iconst X11.here hx rfl (hb hby at_33) ?_
      show Steps p.tables e below (T11.setTop (mkF m 34 #[.val (.int p0), .val (.int ((p0 &&& (2147483647 : Int32)) % (11 : Int32))), .val (.ref w4), .val (.int (0 : Int32))] [(.int (1 : Int32))])) _
      refine XS.goto X11.here hx rfl (pc0 := 34) (pc' := 38) rfl (hb hby at_34) (by decide) (by decide) ?_
      show Steps p.tables e below (T11.setTop (mkF m 38 #[.val (.int p0), .val (.int ((p0 &&& (2147483647 : Int32)) % (11 : Int32))), .val (.ref w4), .val (.int (0 : Int32))] [(.int (1 : Int32))])) _
      exact retN X11 hx (t := .boolean) Bd.returns (by simp) (hb hby at_38) hr
    · show Q_rm0 Z p0 w0 w1 w2 w3 w4 w5 w6 w7 w8 w9 w10 h0 n0 _ T11.heap _
      rw [e11]
      exact ⟨rfl, N11⟩
  · obtain ⟨_, _, ⟨T12, L12, k12, n12⟩, -, X12, ⟨Lc12, hQ12, l12, y12, z12⟩, st12⟩ := Jvm.LawKit.callS X0 hx (y := (⟨"com/example/refute/refute/core/KindIsNumberRestrictionPinLaw", "pick", "(I)Lcom/example/refute/refute/core/Concept$Kind;"⟩ : MethodName)) hown (mvT hZ (hw _ (List.mem_of_getElem? (i := 1) rfl))) (mvT hZ (hw _ (List.mem_of_getElem? (i := 2) rfl))) (mvT hZ (hw _ (List.mem_of_getElem? (i := 3) rfl))) (mvT hZ (hw _ (List.mem_of_getElem? (i := 4) rfl))) (by decide) (backOf (W := 0) (rm1 l Z a0 hw [] ((p0 &&& (2147483647 : Int32)) % (11 : Int32)) w0 w1 w2 w3 w4 w5 w6 w7 w8 w9 w10 w5 h0 n0 Z0 S_CLASS S_THING S_NOTHING S_INTERSECTION S_UNION S_COMPLEMENT S_SOME S_ALL S_MIN S_MAX S_EXACT (by rw [hk]; rfl)) hZ (hw _ (List.mem_of_getElem? (i := 4) rfl)) (hw _ (List.mem_of_getElem? (i := 3) rfl)) (by decide) (by decide)) (g := (mkF m 9 #[.val (.int p0), .val (.int ((p0 &&& (2147483647 : Int32)) % (11 : Int32))), .unset, .unset] [(.int ((p0 &&& (2147483647 : Int32)) % (11 : Int32)))])) rfl (by rw [hml]; rfl) (argsL := [(.int ((p0 &&& (2147483647 : Int32)) % (11 : Int32)))]) (rest := []) (lenOf pd__I_Lcom_example_refute_refute_core_Concept_Kind_ rfl) rfl (by show 2 * 0 + _ ≤ _; exact Nat.le_of_eq rfl) (hb hby at_9) (fun _ _ => ⟨rfl, e0, (by decide : 0 + 0 ≤ _), (by decide : 0 + 0 ≤ _)⟩)
    dsimp only [Pt.U, Pt.locs, Pt.cells, Pt.slots] at X12 l12 y12 z12 st12 hQ12
    subst l12 y12 z12
    obtain ⟨rfl, Nq12, e12⟩ := hQ12
    have N12 := Fr.app N0 Nq12
    obtain ⟨cq13, kq13, q13a, q13b, q13c⟩ := isOf hZ e12 E_COMPLEMENT
    obtain ⟨_, _, ⟨T13, L13, k13, n13⟩, -, X13, ⟨Lc13, hQ13, l13, y13, z13⟩, st13⟩ := X12.virtualBack hx (y := (⟨"com/example/refute/refute/core/Concept$Kind", "isNumberRestriction", "()Z"⟩ : MethodName)) (z := (⟨"com/example/refute/refute/core/Concept$Kind", "isNumberRestriction", "()Z"⟩ : MethodName)) hown (mvT hZ (hw _ (List.mem_of_getElem? (i := 8) rfl))) (mvT hZ (hw _ (List.mem_of_getElem? (i := 9) rfl))) (notFace_of_selects (args := #[]) (mvT hZ (hw _ (List.mem_of_getElem? (i := 11) rfl)))) (mvT hZ (hw _ (List.mem_of_getElem? (i := 11) rfl))) (mvT hZ (hw _ (List.mem_of_getElem? (i := 10) rfl))) (by decide) (backOf (W := 0) (rm2 l Z a0 hw [] w5 w8 w9 w10 (0 : Int32) h0 n0 Z0 S_MIN S_MAX S_EXACT (if_neg (fun q => q.elim h_COMPLEMENT_MIN (fun q => q.elim h_COMPLEMENT_MAX h_COMPLEMENT_EXACT))).symm) hZ (hw _ (List.mem_of_getElem? (i := 12) rfl)) (hw _ (List.mem_of_getElem? (i := 6) rfl)) (by decide) (by decide)) q13a q13c (g := (mkF m 26 #[.val (.int p0), .val (.int ((p0 &&& (2147483647 : Int32)) % (11 : Int32))), .val (.ref w5), .val (.int (0 : Int32))] [(.ref w5)])) rfl (by rw [hml]; rfl) (Steps.refl _) (argsL := []) (rest := []) (lenOf pd___Z rfl) rfl (by show 2 * 0 + _ ≤ _; exact Nat.le_of_eq rfl) (hb hby at_26) (fun _ _ => ⟨rfl, e12, (by decide : 0 + 0 ≤ _), (by decide : 0 + 0 ≤ _)⟩)
    dsimp only [Pt.U, Pt.locs, Pt.cells, Pt.slots] at X13 l13 y13 z13 st13 hQ13
    subst l13 y13 z13
    obtain ⟨rfl, Nq13, e13⟩ := hQ13
    have N13 := Fr.app N12 Nq13
    obtain ⟨fs, hr, hrun, hended, hW, hsame⟩ := X13.leave (v := some (.int (1 : Int32))) (fun h => by rw [Bd.returns] at h; cases h)
    refine ⟨_, _, pre1 _ ?_, hrun, hended, _, _, rfl, ?_, ⟨_, rfl⟩, hW, hsame.mono (by decide) (by decide)⟩
    · show Steps p.tables e below (s₁.setTop (mkF m 9 #[.val (.int p0), .val (.int ((p0 &&& (2147483647 : Int32)) % (11 : Int32))), .unset, .unset] [(.int ((p0 &&& (2147483647 : Int32)) % (11 : Int32)))])) _
      refine st12 _ ?_
      show Steps p.tables e below (T12.setTop (mkF m 12 #[.val (.int p0), .val (.int ((p0 &&& (2147483647 : Int32)) % (11 : Int32))), .unset, .unset] [(.ref w5)])) _
      refine XS.astoreN X12.here hx rfl (hb hby at_12) rfl rfl (l' := #[.val (.int p0), .val (.int ((p0 &&& (2147483647 : Int32)) % (11 : Int32))), .val (.ref w5), .unset]) rfl ?_
      show Steps p.tables e below (T12.setTop (mkF m 13 #[.val (.int p0), .val (.int ((p0 &&& (2147483647 : Int32)) % (11 : Int32))), .val (.ref w5), .unset] [])) _
      refine XS.iloadN X12.here hx rfl (hb hby at_13) rfl  ?_
      show Steps p.tables e below (T12.setTop (mkF m 14 #[.val (.int p0), .val (.int ((p0 &&& (2147483647 : Int32)) % (11 : Int32))), .val (.ref w5), .unset] [(.int ((p0 &&& (2147483647 : Int32)) % (11 : Int32)))])) _
      refine XS.bipush X12.here hx rfl (hb hby at_14) ?_
      show Steps p.tables e below (T12.setTop (mkF m 16 #[.val (.int p0), .val (.int ((p0 &&& (2147483647 : Int32)) % (11 : Int32))), .val (.ref w5), .unset] [(.int (8 : Int32)), (.int ((p0 &&& (2147483647 : Int32)) % (11 : Int32)))])) _
      refine XS.icmpYes X12.here hx rfl (pc0 := 16) (pc' := 23) rfl (hb hby at_16) rfl (tlt (by rw [hk]; decide)).1 (by decide) (by decide) ?_
      show Steps p.tables e below (T12.setTop (mkF m 23 #[.val (.int p0), .val (.int ((p0 &&& (2147483647 : Int32)) % (11 : Int32))), .val (.ref w5), .unset] [])) _
      refine XS.iconst X12.here hx rfl (hb hby at_23) ?_
      show Steps p.tables e below (T12.setTop (mkF m 24 #[.val (.int p0), .val (.int ((p0 &&& (2147483647 : Int32)) % (11 : Int32))), .val (.ref w5), .unset] [(.int (0 : Int32))])) _
      refine XS.istoreN X12.here hx rfl (hb hby at_24) rfl (l' := #[.val (.int p0), .val (.int ((p0 &&& (2147483647 : Int32)) % (11 : Int32))), .val (.ref w5), .val (.int (0 : Int32))]) rfl ?_
      show Steps p.tables e below (T12.setTop (mkF m 25 #[.val (.int p0), .val (.int ((p0 &&& (2147483647 : Int32)) % (11 : Int32))), .val (.ref w5), .val (.int (0 : Int32))] [])) _
      refine XS.aloadN X12.here hx rfl (hb hby at_25) rfl rfl ?_
      show Steps p.tables e below (T12.setTop (mkF m 26 #[.val (.int p0), .val (.int ((p0 &&& (2147483647 : Int32)) % (11 : Int32))), .val (.ref w5), .val (.int (0 : Int32))] [(.ref w5)])) _
      refine st13.trans ?_
      show Steps p.tables e below (T13.setTop (mkF m 29 #[.val (.int p0), .val (.int ((p0 &&& (2147483647 : Int32)) % (11 : Int32))), .val (.ref w5), .val (.int (0 : Int32))] [(.int (0 : Int32))])) _
      refine XS.iloadN X13.here hx rfl (hb hby at_29) rfl  ?_
      show Steps p.tables e below (T13.setTop (mkF m 30 #[.val (.int p0), .val (.int ((p0 &&& (2147483647 : Int32)) % (11 : Int32))), .val (.ref w5), .val (.int (0 : Int32))] [(.int (0 : Int32)), (.int (0 : Int32))])) _
      refine XS.icmpNo X13.here hx rfl (hb hby at_30) rfl (teq (by decide : (0 : Int32) = (0 : Int32))).2 ?_
      show Steps p.tables e below (T13.setTop (mkF m 33 #[.val (.int p0), .val (.int ((p0 &&& (2147483647 : Int32)) % (11 : Int32))), .val (.ref w5), .val (.int (0 : Int32))] [])) _
      refine XS.iconst X13.here hx rfl (hb hby at_33) ?_
      show Steps p.tables e below (T13.setTop (mkF m 34 #[.val (.int p0), .val (.int ((p0 &&& (2147483647 : Int32)) % (11 : Int32))), .val (.ref w5), .val (.int (0 : Int32))] [(.int (1 : Int32))])) _
      refine XS.goto X13.here hx rfl (pc0 := 34) (pc' := 38) rfl (hb hby at_34) (by decide) (by decide) ?_
      show Steps p.tables e below (T13.setTop (mkF m 38 #[.val (.int p0), .val (.int ((p0 &&& (2147483647 : Int32)) % (11 : Int32))), .val (.ref w5), .val (.int (0 : Int32))] [(.int (1 : Int32))])) _
      exact retN X13 hx (t := .boolean) Bd.returns (by simp) (hb hby at_38) hr
    · show Q_rm0 Z p0 w0 w1 w2 w3 w4 w5 w6 w7 w8 w9 w10 h0 n0 _ T13.heap _
      rw [e13]
      exact ⟨rfl, N13⟩
  · obtain ⟨_, _, ⟨T14, L14, k14, n14⟩, -, X14, ⟨Lc14, hQ14, l14, y14, z14⟩, st14⟩ := Jvm.LawKit.callS X0 hx (y := (⟨"com/example/refute/refute/core/KindIsNumberRestrictionPinLaw", "pick", "(I)Lcom/example/refute/refute/core/Concept$Kind;"⟩ : MethodName)) hown (mvT hZ (hw _ (List.mem_of_getElem? (i := 1) rfl))) (mvT hZ (hw _ (List.mem_of_getElem? (i := 2) rfl))) (mvT hZ (hw _ (List.mem_of_getElem? (i := 3) rfl))) (mvT hZ (hw _ (List.mem_of_getElem? (i := 4) rfl))) (by decide) (backOf (W := 0) (rm1 l Z a0 hw [] ((p0 &&& (2147483647 : Int32)) % (11 : Int32)) w0 w1 w2 w3 w4 w5 w6 w7 w8 w9 w10 w6 h0 n0 Z0 S_CLASS S_THING S_NOTHING S_INTERSECTION S_UNION S_COMPLEMENT S_SOME S_ALL S_MIN S_MAX S_EXACT (by rw [hk]; rfl)) hZ (hw _ (List.mem_of_getElem? (i := 4) rfl)) (hw _ (List.mem_of_getElem? (i := 3) rfl)) (by decide) (by decide)) (g := (mkF m 9 #[.val (.int p0), .val (.int ((p0 &&& (2147483647 : Int32)) % (11 : Int32))), .unset, .unset] [(.int ((p0 &&& (2147483647 : Int32)) % (11 : Int32)))])) rfl (by rw [hml]; rfl) (argsL := [(.int ((p0 &&& (2147483647 : Int32)) % (11 : Int32)))]) (rest := []) (lenOf pd__I_Lcom_example_refute_refute_core_Concept_Kind_ rfl) rfl (by show 2 * 0 + _ ≤ _; exact Nat.le_of_eq rfl) (hb hby at_9) (fun _ _ => ⟨rfl, e0, (by decide : 0 + 0 ≤ _), (by decide : 0 + 0 ≤ _)⟩)
    dsimp only [Pt.U, Pt.locs, Pt.cells, Pt.slots] at X14 l14 y14 z14 st14 hQ14
    subst l14 y14 z14
    obtain ⟨rfl, Nq14, e14⟩ := hQ14
    have N14 := Fr.app N0 Nq14
    obtain ⟨cq15, kq15, q15a, q15b, q15c⟩ := isOf hZ e14 E_SOME
    obtain ⟨_, _, ⟨T15, L15, k15, n15⟩, -, X15, ⟨Lc15, hQ15, l15, y15, z15⟩, st15⟩ := X14.virtualBack hx (y := (⟨"com/example/refute/refute/core/Concept$Kind", "isNumberRestriction", "()Z"⟩ : MethodName)) (z := (⟨"com/example/refute/refute/core/Concept$Kind", "isNumberRestriction", "()Z"⟩ : MethodName)) hown (mvT hZ (hw _ (List.mem_of_getElem? (i := 8) rfl))) (mvT hZ (hw _ (List.mem_of_getElem? (i := 9) rfl))) (notFace_of_selects (args := #[]) (mvT hZ (hw _ (List.mem_of_getElem? (i := 11) rfl)))) (mvT hZ (hw _ (List.mem_of_getElem? (i := 11) rfl))) (mvT hZ (hw _ (List.mem_of_getElem? (i := 10) rfl))) (by decide) (backOf (W := 0) (rm2 l Z a0 hw [] w6 w8 w9 w10 (0 : Int32) h0 n0 Z0 S_MIN S_MAX S_EXACT (if_neg (fun q => q.elim h_SOME_MIN (fun q => q.elim h_SOME_MAX h_SOME_EXACT))).symm) hZ (hw _ (List.mem_of_getElem? (i := 12) rfl)) (hw _ (List.mem_of_getElem? (i := 6) rfl)) (by decide) (by decide)) q15a q15c (g := (mkF m 26 #[.val (.int p0), .val (.int ((p0 &&& (2147483647 : Int32)) % (11 : Int32))), .val (.ref w6), .val (.int (0 : Int32))] [(.ref w6)])) rfl (by rw [hml]; rfl) (Steps.refl _) (argsL := []) (rest := []) (lenOf pd___Z rfl) rfl (by show 2 * 0 + _ ≤ _; exact Nat.le_of_eq rfl) (hb hby at_26) (fun _ _ => ⟨rfl, e14, (by decide : 0 + 0 ≤ _), (by decide : 0 + 0 ≤ _)⟩)
    dsimp only [Pt.U, Pt.locs, Pt.cells, Pt.slots] at X15 l15 y15 z15 st15 hQ15
    subst l15 y15 z15
    obtain ⟨rfl, Nq15, e15⟩ := hQ15
    have N15 := Fr.app N14 Nq15
    obtain ⟨fs, hr, hrun, hended, hW, hsame⟩ := X15.leave (v := some (.int (1 : Int32))) (fun h => by rw [Bd.returns] at h; cases h)
    refine ⟨_, _, pre1 _ ?_, hrun, hended, _, _, rfl, ?_, ⟨_, rfl⟩, hW, hsame.mono (by decide) (by decide)⟩
    · show Steps p.tables e below (s₁.setTop (mkF m 9 #[.val (.int p0), .val (.int ((p0 &&& (2147483647 : Int32)) % (11 : Int32))), .unset, .unset] [(.int ((p0 &&& (2147483647 : Int32)) % (11 : Int32)))])) _
      refine st14 _ ?_
      show Steps p.tables e below (T14.setTop (mkF m 12 #[.val (.int p0), .val (.int ((p0 &&& (2147483647 : Int32)) % (11 : Int32))), .unset, .unset] [(.ref w6)])) _
      refine XS.astoreN X14.here hx rfl (hb hby at_12) rfl rfl (l' := #[.val (.int p0), .val (.int ((p0 &&& (2147483647 : Int32)) % (11 : Int32))), .val (.ref w6), .unset]) rfl ?_
      show Steps p.tables e below (T14.setTop (mkF m 13 #[.val (.int p0), .val (.int ((p0 &&& (2147483647 : Int32)) % (11 : Int32))), .val (.ref w6), .unset] [])) _
      refine XS.iloadN X14.here hx rfl (hb hby at_13) rfl  ?_
      show Steps p.tables e below (T14.setTop (mkF m 14 #[.val (.int p0), .val (.int ((p0 &&& (2147483647 : Int32)) % (11 : Int32))), .val (.ref w6), .unset] [(.int ((p0 &&& (2147483647 : Int32)) % (11 : Int32)))])) _
      refine XS.bipush X14.here hx rfl (hb hby at_14) ?_
      show Steps p.tables e below (T14.setTop (mkF m 16 #[.val (.int p0), .val (.int ((p0 &&& (2147483647 : Int32)) % (11 : Int32))), .val (.ref w6), .unset] [(.int (8 : Int32)), (.int ((p0 &&& (2147483647 : Int32)) % (11 : Int32)))])) _
      refine XS.icmpYes X14.here hx rfl (pc0 := 16) (pc' := 23) rfl (hb hby at_16) rfl (tlt (by rw [hk]; decide)).1 (by decide) (by decide) ?_
      show Steps p.tables e below (T14.setTop (mkF m 23 #[.val (.int p0), .val (.int ((p0 &&& (2147483647 : Int32)) % (11 : Int32))), .val (.ref w6), .unset] [])) _
      refine XS.iconst X14.here hx rfl (hb hby at_23) ?_
      show Steps p.tables e below (T14.setTop (mkF m 24 #[.val (.int p0), .val (.int ((p0 &&& (2147483647 : Int32)) % (11 : Int32))), .val (.ref w6), .unset] [(.int (0 : Int32))])) _
      refine XS.istoreN X14.here hx rfl (hb hby at_24) rfl (l' := #[.val (.int p0), .val (.int ((p0 &&& (2147483647 : Int32)) % (11 : Int32))), .val (.ref w6), .val (.int (0 : Int32))]) rfl ?_
      show Steps p.tables e below (T14.setTop (mkF m 25 #[.val (.int p0), .val (.int ((p0 &&& (2147483647 : Int32)) % (11 : Int32))), .val (.ref w6), .val (.int (0 : Int32))] [])) _
      refine XS.aloadN X14.here hx rfl (hb hby at_25) rfl rfl ?_
      show Steps p.tables e below (T14.setTop (mkF m 26 #[.val (.int p0), .val (.int ((p0 &&& (2147483647 : Int32)) % (11 : Int32))), .val (.ref w6), .val (.int (0 : Int32))] [(.ref w6)])) _
      refine st15.trans ?_
      show Steps p.tables e below (T15.setTop (mkF m 29 #[.val (.int p0), .val (.int ((p0 &&& (2147483647 : Int32)) % (11 : Int32))), .val (.ref w6), .val (.int (0 : Int32))] [(.int (0 : Int32))])) _
      refine XS.iloadN X15.here hx rfl (hb hby at_29) rfl  ?_
      show Steps p.tables e below (T15.setTop (mkF m 30 #[.val (.int p0), .val (.int ((p0 &&& (2147483647 : Int32)) % (11 : Int32))), .val (.ref w6), .val (.int (0 : Int32))] [(.int (0 : Int32)), (.int (0 : Int32))])) _
      refine XS.icmpNo X15.here hx rfl (hb hby at_30) rfl (teq (by decide : (0 : Int32) = (0 : Int32))).2 ?_
      show Steps p.tables e below (T15.setTop (mkF m 33 #[.val (.int p0), .val (.int ((p0 &&& (2147483647 : Int32)) % (11 : Int32))), .val (.ref w6), .val (.int (0 : Int32))] [])) _
      refine XS.iconst X15.here hx rfl (hb hby at_33) ?_
      show Steps p.tables e below (T15.setTop (mkF m 34 #[.val (.int p0), .val (.int ((p0 &&& (2147483647 : Int32)) % (11 : Int32))), .val (.ref w6), .val (.int (0 : Int32))] [(.int (1 : Int32))])) _
      refine XS.goto X15.here hx rfl (pc0 := 34) (pc' := 38) rfl (hb hby at_34) (by decide) (by decide) ?_
      show Steps p.tables e below (T15.setTop (mkF m 38 #[.val (.int p0), .val (.int ((p0 &&& (2147483647 : Int32)) % (11 : Int32))), .val (.ref w6), .val (.int (0 : Int32))] [(.int (1 : Int32))])) _
      exact retN X15 hx (t := .boolean) Bd.returns (by simp) (hb hby at_38) hr
    · show Q_rm0 Z p0 w0 w1 w2 w3 w4 w5 w6 w7 w8 w9 w10 h0 n0 _ T15.heap _
      rw [e15]
      exact ⟨rfl, N15⟩
  · obtain ⟨_, _, ⟨T16, L16, k16, n16⟩, -, X16, ⟨Lc16, hQ16, l16, y16, z16⟩, st16⟩ := Jvm.LawKit.callS X0 hx (y := (⟨"com/example/refute/refute/core/KindIsNumberRestrictionPinLaw", "pick", "(I)Lcom/example/refute/refute/core/Concept$Kind;"⟩ : MethodName)) hown (mvT hZ (hw _ (List.mem_of_getElem? (i := 1) rfl))) (mvT hZ (hw _ (List.mem_of_getElem? (i := 2) rfl))) (mvT hZ (hw _ (List.mem_of_getElem? (i := 3) rfl))) (mvT hZ (hw _ (List.mem_of_getElem? (i := 4) rfl))) (by decide) (backOf (W := 0) (rm1 l Z a0 hw [] ((p0 &&& (2147483647 : Int32)) % (11 : Int32)) w0 w1 w2 w3 w4 w5 w6 w7 w8 w9 w10 w7 h0 n0 Z0 S_CLASS S_THING S_NOTHING S_INTERSECTION S_UNION S_COMPLEMENT S_SOME S_ALL S_MIN S_MAX S_EXACT (by rw [hk]; rfl)) hZ (hw _ (List.mem_of_getElem? (i := 4) rfl)) (hw _ (List.mem_of_getElem? (i := 3) rfl)) (by decide) (by decide)) (g := (mkF m 9 #[.val (.int p0), .val (.int ((p0 &&& (2147483647 : Int32)) % (11 : Int32))), .unset, .unset] [(.int ((p0 &&& (2147483647 : Int32)) % (11 : Int32)))])) rfl (by rw [hml]; rfl) (argsL := [(.int ((p0 &&& (2147483647 : Int32)) % (11 : Int32)))]) (rest := []) (lenOf pd__I_Lcom_example_refute_refute_core_Concept_Kind_ rfl) rfl (by show 2 * 0 + _ ≤ _; exact Nat.le_of_eq rfl) (hb hby at_9) (fun _ _ => ⟨rfl, e0, (by decide : 0 + 0 ≤ _), (by decide : 0 + 0 ≤ _)⟩)
    dsimp only [Pt.U, Pt.locs, Pt.cells, Pt.slots] at X16 l16 y16 z16 st16 hQ16
    subst l16 y16 z16
    obtain ⟨rfl, Nq16, e16⟩ := hQ16
    have N16 := Fr.app N0 Nq16
    obtain ⟨cq17, kq17, q17a, q17b, q17c⟩ := isOf hZ e16 E_ALL
    obtain ⟨_, _, ⟨T17, L17, k17, n17⟩, -, X17, ⟨Lc17, hQ17, l17, y17, z17⟩, st17⟩ := X16.virtualBack hx (y := (⟨"com/example/refute/refute/core/Concept$Kind", "isNumberRestriction", "()Z"⟩ : MethodName)) (z := (⟨"com/example/refute/refute/core/Concept$Kind", "isNumberRestriction", "()Z"⟩ : MethodName)) hown (mvT hZ (hw _ (List.mem_of_getElem? (i := 8) rfl))) (mvT hZ (hw _ (List.mem_of_getElem? (i := 9) rfl))) (notFace_of_selects (args := #[]) (mvT hZ (hw _ (List.mem_of_getElem? (i := 11) rfl)))) (mvT hZ (hw _ (List.mem_of_getElem? (i := 11) rfl))) (mvT hZ (hw _ (List.mem_of_getElem? (i := 10) rfl))) (by decide) (backOf (W := 0) (rm2 l Z a0 hw [] w7 w8 w9 w10 (0 : Int32) h0 n0 Z0 S_MIN S_MAX S_EXACT (if_neg (fun q => q.elim h_ALL_MIN (fun q => q.elim h_ALL_MAX h_ALL_EXACT))).symm) hZ (hw _ (List.mem_of_getElem? (i := 12) rfl)) (hw _ (List.mem_of_getElem? (i := 6) rfl)) (by decide) (by decide)) q17a q17c (g := (mkF m 26 #[.val (.int p0), .val (.int ((p0 &&& (2147483647 : Int32)) % (11 : Int32))), .val (.ref w7), .val (.int (0 : Int32))] [(.ref w7)])) rfl (by rw [hml]; rfl) (Steps.refl _) (argsL := []) (rest := []) (lenOf pd___Z rfl) rfl (by show 2 * 0 + _ ≤ _; exact Nat.le_of_eq rfl) (hb hby at_26) (fun _ _ => ⟨rfl, e16, (by decide : 0 + 0 ≤ _), (by decide : 0 + 0 ≤ _)⟩)
    dsimp only [Pt.U, Pt.locs, Pt.cells, Pt.slots] at X17 l17 y17 z17 st17 hQ17
    subst l17 y17 z17
    obtain ⟨rfl, Nq17, e17⟩ := hQ17
    have N17 := Fr.app N16 Nq17
    obtain ⟨fs, hr, hrun, hended, hW, hsame⟩ := X17.leave (v := some (.int (1 : Int32))) (fun h => by rw [Bd.returns] at h; cases h)
    refine ⟨_, _, pre1 _ ?_, hrun, hended, _, _, rfl, ?_, ⟨_, rfl⟩, hW, hsame.mono (by decide) (by decide)⟩
    · show Steps p.tables e below (s₁.setTop (mkF m 9 #[.val (.int p0), .val (.int ((p0 &&& (2147483647 : Int32)) % (11 : Int32))), .unset, .unset] [(.int ((p0 &&& (2147483647 : Int32)) % (11 : Int32)))])) _
      refine st16 _ ?_
      show Steps p.tables e below (T16.setTop (mkF m 12 #[.val (.int p0), .val (.int ((p0 &&& (2147483647 : Int32)) % (11 : Int32))), .unset, .unset] [(.ref w7)])) _
      refine XS.astoreN X16.here hx rfl (hb hby at_12) rfl rfl (l' := #[.val (.int p0), .val (.int ((p0 &&& (2147483647 : Int32)) % (11 : Int32))), .val (.ref w7), .unset]) rfl ?_
      show Steps p.tables e below (T16.setTop (mkF m 13 #[.val (.int p0), .val (.int ((p0 &&& (2147483647 : Int32)) % (11 : Int32))), .val (.ref w7), .unset] [])) _
      refine XS.iloadN X16.here hx rfl (hb hby at_13) rfl  ?_
      show Steps p.tables e below (T16.setTop (mkF m 14 #[.val (.int p0), .val (.int ((p0 &&& (2147483647 : Int32)) % (11 : Int32))), .val (.ref w7), .unset] [(.int ((p0 &&& (2147483647 : Int32)) % (11 : Int32)))])) _
      refine XS.bipush X16.here hx rfl (hb hby at_14) ?_
      show Steps p.tables e below (T16.setTop (mkF m 16 #[.val (.int p0), .val (.int ((p0 &&& (2147483647 : Int32)) % (11 : Int32))), .val (.ref w7), .unset] [(.int (8 : Int32)), (.int ((p0 &&& (2147483647 : Int32)) % (11 : Int32)))])) _
      refine XS.icmpYes X16.here hx rfl (pc0 := 16) (pc' := 23) rfl (hb hby at_16) rfl (tlt (by rw [hk]; decide)).1 (by decide) (by decide) ?_
      show Steps p.tables e below (T16.setTop (mkF m 23 #[.val (.int p0), .val (.int ((p0 &&& (2147483647 : Int32)) % (11 : Int32))), .val (.ref w7), .unset] [])) _
      refine XS.iconst X16.here hx rfl (hb hby at_23) ?_
      show Steps p.tables e below (T16.setTop (mkF m 24 #[.val (.int p0), .val (.int ((p0 &&& (2147483647 : Int32)) % (11 : Int32))), .val (.ref w7), .unset] [(.int (0 : Int32))])) _
      refine XS.istoreN X16.here hx rfl (hb hby at_24) rfl (l' := #[.val (.int p0), .val (.int ((p0 &&& (2147483647 : Int32)) % (11 : Int32))), .val (.ref w7), .val (.int (0 : Int32))]) rfl ?_
      show Steps p.tables e below (T16.setTop (mkF m 25 #[.val (.int p0), .val (.int ((p0 &&& (2147483647 : Int32)) % (11 : Int32))), .val (.ref w7), .val (.int (0 : Int32))] [])) _
      refine XS.aloadN X16.here hx rfl (hb hby at_25) rfl rfl ?_
      show Steps p.tables e below (T16.setTop (mkF m 26 #[.val (.int p0), .val (.int ((p0 &&& (2147483647 : Int32)) % (11 : Int32))), .val (.ref w7), .val (.int (0 : Int32))] [(.ref w7)])) _
      refine st17.trans ?_
      show Steps p.tables e below (T17.setTop (mkF m 29 #[.val (.int p0), .val (.int ((p0 &&& (2147483647 : Int32)) % (11 : Int32))), .val (.ref w7), .val (.int (0 : Int32))] [(.int (0 : Int32))])) _
      refine XS.iloadN X17.here hx rfl (hb hby at_29) rfl  ?_
      show Steps p.tables e below (T17.setTop (mkF m 30 #[.val (.int p0), .val (.int ((p0 &&& (2147483647 : Int32)) % (11 : Int32))), .val (.ref w7), .val (.int (0 : Int32))] [(.int (0 : Int32)), (.int (0 : Int32))])) _
      refine XS.icmpNo X17.here hx rfl (hb hby at_30) rfl (teq (by decide : (0 : Int32) = (0 : Int32))).2 ?_
      show Steps p.tables e below (T17.setTop (mkF m 33 #[.val (.int p0), .val (.int ((p0 &&& (2147483647 : Int32)) % (11 : Int32))), .val (.ref w7), .val (.int (0 : Int32))] [])) _
      refine XS.iconst X17.here hx rfl (hb hby at_33) ?_
      show Steps p.tables e below (T17.setTop (mkF m 34 #[.val (.int p0), .val (.int ((p0 &&& (2147483647 : Int32)) % (11 : Int32))), .val (.ref w7), .val (.int (0 : Int32))] [(.int (1 : Int32))])) _
      refine XS.goto X17.here hx rfl (pc0 := 34) (pc' := 38) rfl (hb hby at_34) (by decide) (by decide) ?_
      show Steps p.tables e below (T17.setTop (mkF m 38 #[.val (.int p0), .val (.int ((p0 &&& (2147483647 : Int32)) % (11 : Int32))), .val (.ref w7), .val (.int (0 : Int32))] [(.int (1 : Int32))])) _
      exact retN X17 hx (t := .boolean) Bd.returns (by simp) (hb hby at_38) hr
    · show Q_rm0 Z p0 w0 w1 w2 w3 w4 w5 w6 w7 w8 w9 w10 h0 n0 _ T17.heap _
      rw [e17]
      exact ⟨rfl, N17⟩
  · obtain ⟨_, _, ⟨T18, L18, k18, n18⟩, -, X18, ⟨Lc18, hQ18, l18, y18, z18⟩, st18⟩ := Jvm.LawKit.callS X0 hx (y := (⟨"com/example/refute/refute/core/KindIsNumberRestrictionPinLaw", "pick", "(I)Lcom/example/refute/refute/core/Concept$Kind;"⟩ : MethodName)) hown (mvT hZ (hw _ (List.mem_of_getElem? (i := 1) rfl))) (mvT hZ (hw _ (List.mem_of_getElem? (i := 2) rfl))) (mvT hZ (hw _ (List.mem_of_getElem? (i := 3) rfl))) (mvT hZ (hw _ (List.mem_of_getElem? (i := 4) rfl))) (by decide) (backOf (W := 0) (rm1 l Z a0 hw [] ((p0 &&& (2147483647 : Int32)) % (11 : Int32)) w0 w1 w2 w3 w4 w5 w6 w7 w8 w9 w10 w8 h0 n0 Z0 S_CLASS S_THING S_NOTHING S_INTERSECTION S_UNION S_COMPLEMENT S_SOME S_ALL S_MIN S_MAX S_EXACT (by rw [hk]; rfl)) hZ (hw _ (List.mem_of_getElem? (i := 4) rfl)) (hw _ (List.mem_of_getElem? (i := 3) rfl)) (by decide) (by decide)) (g := (mkF m 9 #[.val (.int p0), .val (.int ((p0 &&& (2147483647 : Int32)) % (11 : Int32))), .unset, .unset] [(.int ((p0 &&& (2147483647 : Int32)) % (11 : Int32)))])) rfl (by rw [hml]; rfl) (argsL := [(.int ((p0 &&& (2147483647 : Int32)) % (11 : Int32)))]) (rest := []) (lenOf pd__I_Lcom_example_refute_refute_core_Concept_Kind_ rfl) rfl (by show 2 * 0 + _ ≤ _; exact Nat.le_of_eq rfl) (hb hby at_9) (fun _ _ => ⟨rfl, e0, (by decide : 0 + 0 ≤ _), (by decide : 0 + 0 ≤ _)⟩)
    dsimp only [Pt.U, Pt.locs, Pt.cells, Pt.slots] at X18 l18 y18 z18 st18 hQ18
    subst l18 y18 z18
    obtain ⟨rfl, Nq18, e18⟩ := hQ18
    have N18 := Fr.app N0 Nq18
    obtain ⟨cq19, kq19, q19a, q19b, q19c⟩ := isOf hZ e18 E_MIN
    obtain ⟨_, _, ⟨T19, L19, k19, n19⟩, -, X19, ⟨Lc19, hQ19, l19, y19, z19⟩, st19⟩ := X18.virtualBack hx (y := (⟨"com/example/refute/refute/core/Concept$Kind", "isNumberRestriction", "()Z"⟩ : MethodName)) (z := (⟨"com/example/refute/refute/core/Concept$Kind", "isNumberRestriction", "()Z"⟩ : MethodName)) hown (mvT hZ (hw _ (List.mem_of_getElem? (i := 8) rfl))) (mvT hZ (hw _ (List.mem_of_getElem? (i := 9) rfl))) (notFace_of_selects (args := #[]) (mvT hZ (hw _ (List.mem_of_getElem? (i := 11) rfl)))) (mvT hZ (hw _ (List.mem_of_getElem? (i := 11) rfl))) (mvT hZ (hw _ (List.mem_of_getElem? (i := 10) rfl))) (by decide) (backOf (W := 0) (rm2 l Z a0 hw [] w8 w8 w9 w10 (1 : Int32) h0 n0 Z0 S_MIN S_MAX S_EXACT (if_pos (Or.inl rfl)).symm) hZ (hw _ (List.mem_of_getElem? (i := 12) rfl)) (hw _ (List.mem_of_getElem? (i := 6) rfl)) (by decide) (by decide)) q19a q19c (g := (mkF m 26 #[.val (.int p0), .val (.int ((p0 &&& (2147483647 : Int32)) % (11 : Int32))), .val (.ref w8), .val (.int (1 : Int32))] [(.ref w8)])) rfl (by rw [hml]; rfl) (Steps.refl _) (argsL := []) (rest := []) (lenOf pd___Z rfl) rfl (by show 2 * 0 + _ ≤ _; exact Nat.le_of_eq rfl) (hb hby at_26) (fun _ _ => ⟨rfl, e18, (by decide : 0 + 0 ≤ _), (by decide : 0 + 0 ≤ _)⟩)
    dsimp only [Pt.U, Pt.locs, Pt.cells, Pt.slots] at X19 l19 y19 z19 st19 hQ19
    subst l19 y19 z19
    obtain ⟨rfl, Nq19, e19⟩ := hQ19
    have N19 := Fr.app N18 Nq19
    obtain ⟨fs, hr, hrun, hended, hW, hsame⟩ := X19.leave (v := some (.int (1 : Int32))) (fun h => by rw [Bd.returns] at h; cases h)
    refine ⟨_, _, pre1 _ ?_, hrun, hended, _, _, rfl, ?_, ⟨_, rfl⟩, hW, hsame.mono (by decide) (by decide)⟩
    · show Steps p.tables e below (s₁.setTop (mkF m 9 #[.val (.int p0), .val (.int ((p0 &&& (2147483647 : Int32)) % (11 : Int32))), .unset, .unset] [(.int ((p0 &&& (2147483647 : Int32)) % (11 : Int32)))])) _
      refine st18 _ ?_
      show Steps p.tables e below (T18.setTop (mkF m 12 #[.val (.int p0), .val (.int ((p0 &&& (2147483647 : Int32)) % (11 : Int32))), .unset, .unset] [(.ref w8)])) _
      refine XS.astoreN X18.here hx rfl (hb hby at_12) rfl rfl (l' := #[.val (.int p0), .val (.int ((p0 &&& (2147483647 : Int32)) % (11 : Int32))), .val (.ref w8), .unset]) rfl ?_
      show Steps p.tables e below (T18.setTop (mkF m 13 #[.val (.int p0), .val (.int ((p0 &&& (2147483647 : Int32)) % (11 : Int32))), .val (.ref w8), .unset] [])) _
      refine XS.iloadN X18.here hx rfl (hb hby at_13) rfl  ?_
      show Steps p.tables e below (T18.setTop (mkF m 14 #[.val (.int p0), .val (.int ((p0 &&& (2147483647 : Int32)) % (11 : Int32))), .val (.ref w8), .unset] [(.int ((p0 &&& (2147483647 : Int32)) % (11 : Int32)))])) _
      refine XS.bipush X18.here hx rfl (hb hby at_14) ?_
      show Steps p.tables e below (T18.setTop (mkF m 16 #[.val (.int p0), .val (.int ((p0 &&& (2147483647 : Int32)) % (11 : Int32))), .val (.ref w8), .unset] [(.int (8 : Int32)), (.int ((p0 &&& (2147483647 : Int32)) % (11 : Int32)))])) _
      refine XS.icmpNo X18.here hx rfl (hb hby at_16) rfl (flt (by rw [hk]; decide)).1 ?_
      show Steps p.tables e below (T18.setTop (mkF m 19 #[.val (.int p0), .val (.int ((p0 &&& (2147483647 : Int32)) % (11 : Int32))), .val (.ref w8), .unset] [])) _
      refine XS.iconst X18.here hx rfl (hb hby at_19) ?_
      show Steps p.tables e below (T18.setTop (mkF m 20 #[.val (.int p0), .val (.int ((p0 &&& (2147483647 : Int32)) % (11 : Int32))), .val (.ref w8), .unset] [(.int (1 : Int32))])) _
      refine XS.goto X18.here hx rfl (pc0 := 20) (pc' := 24) rfl (hb hby at_20) (by decide) (by decide) ?_
      show Steps p.tables e below (T18.setTop (mkF m 24 #[.val (.int p0), .val (.int ((p0 &&& (2147483647 : Int32)) % (11 : Int32))), .val (.ref w8), .unset] [(.int (1 : Int32))])) _
      refine XS.istoreN X18.here hx rfl (hb hby at_24) rfl (l' := #[.val (.int p0), .val (.int ((p0 &&& (2147483647 : Int32)) % (11 : Int32))), .val (.ref w8), .val (.int (1 : Int32))]) rfl ?_
      show Steps p.tables e below (T18.setTop (mkF m 25 #[.val (.int p0), .val (.int ((p0 &&& (2147483647 : Int32)) % (11 : Int32))), .val (.ref w8), .val (.int (1 : Int32))] [])) _
      refine XS.aloadN X18.here hx rfl (hb hby at_25) rfl rfl ?_
      show Steps p.tables e below (T18.setTop (mkF m 26 #[.val (.int p0), .val (.int ((p0 &&& (2147483647 : Int32)) % (11 : Int32))), .val (.ref w8), .val (.int (1 : Int32))] [(.ref w8)])) _
      refine st19.trans ?_
      show Steps p.tables e below (T19.setTop (mkF m 29 #[.val (.int p0), .val (.int ((p0 &&& (2147483647 : Int32)) % (11 : Int32))), .val (.ref w8), .val (.int (1 : Int32))] [(.int (1 : Int32))])) _
      refine XS.iloadN X19.here hx rfl (hb hby at_29) rfl  ?_
      show Steps p.tables e below (T19.setTop (mkF m 30 #[.val (.int p0), .val (.int ((p0 &&& (2147483647 : Int32)) % (11 : Int32))), .val (.ref w8), .val (.int (1 : Int32))] [(.int (1 : Int32)), (.int (1 : Int32))])) _
      refine XS.icmpNo X19.here hx rfl (hb hby at_30) rfl (teq (by decide : (1 : Int32) = (1 : Int32))).2 ?_
      show Steps p.tables e below (T19.setTop (mkF m 33 #[.val (.int p0), .val (.int ((p0 &&& (2147483647 : Int32)) % (11 : Int32))), .val (.ref w8), .val (.int (1 : Int32))] [])) _
      refine XS.iconst X19.here hx rfl (hb hby at_33) ?_
      show Steps p.tables e below (T19.setTop (mkF m 34 #[.val (.int p0), .val (.int ((p0 &&& (2147483647 : Int32)) % (11 : Int32))), .val (.ref w8), .val (.int (1 : Int32))] [(.int (1 : Int32))])) _
      refine XS.goto X19.here hx rfl (pc0 := 34) (pc' := 38) rfl (hb hby at_34) (by decide) (by decide) ?_
      show Steps p.tables e below (T19.setTop (mkF m 38 #[.val (.int p0), .val (.int ((p0 &&& (2147483647 : Int32)) % (11 : Int32))), .val (.ref w8), .val (.int (1 : Int32))] [(.int (1 : Int32))])) _
      exact retN X19 hx (t := .boolean) Bd.returns (by simp) (hb hby at_38) hr
    · show Q_rm0 Z p0 w0 w1 w2 w3 w4 w5 w6 w7 w8 w9 w10 h0 n0 _ T19.heap _
      rw [e19]
      exact ⟨rfl, N19⟩
  · obtain ⟨_, _, ⟨T20, L20, k20, n20⟩, -, X20, ⟨Lc20, hQ20, l20, y20, z20⟩, st20⟩ := Jvm.LawKit.callS X0 hx (y := (⟨"com/example/refute/refute/core/KindIsNumberRestrictionPinLaw", "pick", "(I)Lcom/example/refute/refute/core/Concept$Kind;"⟩ : MethodName)) hown (mvT hZ (hw _ (List.mem_of_getElem? (i := 1) rfl))) (mvT hZ (hw _ (List.mem_of_getElem? (i := 2) rfl))) (mvT hZ (hw _ (List.mem_of_getElem? (i := 3) rfl))) (mvT hZ (hw _ (List.mem_of_getElem? (i := 4) rfl))) (by decide) (backOf (W := 0) (rm1 l Z a0 hw [] ((p0 &&& (2147483647 : Int32)) % (11 : Int32)) w0 w1 w2 w3 w4 w5 w6 w7 w8 w9 w10 w9 h0 n0 Z0 S_CLASS S_THING S_NOTHING S_INTERSECTION S_UNION S_COMPLEMENT S_SOME S_ALL S_MIN S_MAX S_EXACT (by rw [hk]; rfl)) hZ (hw _ (List.mem_of_getElem? (i := 4) rfl)) (hw _ (List.mem_of_getElem? (i := 3) rfl)) (by decide) (by decide)) (g := (mkF m 9 #[.val (.int p0), .val (.int ((p0 &&& (2147483647 : Int32)) % (11 : Int32))), .unset, .unset] [(.int ((p0 &&& (2147483647 : Int32)) % (11 : Int32)))])) rfl (by rw [hml]; rfl) (argsL := [(.int ((p0 &&& (2147483647 : Int32)) % (11 : Int32)))]) (rest := []) (lenOf pd__I_Lcom_example_refute_refute_core_Concept_Kind_ rfl) rfl (by show 2 * 0 + _ ≤ _; exact Nat.le_of_eq rfl) (hb hby at_9) (fun _ _ => ⟨rfl, e0, (by decide : 0 + 0 ≤ _), (by decide : 0 + 0 ≤ _)⟩)
    dsimp only [Pt.U, Pt.locs, Pt.cells, Pt.slots] at X20 l20 y20 z20 st20 hQ20
    subst l20 y20 z20
    obtain ⟨rfl, Nq20, e20⟩ := hQ20
    have N20 := Fr.app N0 Nq20
    obtain ⟨cq21, kq21, q21a, q21b, q21c⟩ := isOf hZ e20 E_MAX
    obtain ⟨_, _, ⟨T21, L21, k21, n21⟩, -, X21, ⟨Lc21, hQ21, l21, y21, z21⟩, st21⟩ := X20.virtualBack hx (y := (⟨"com/example/refute/refute/core/Concept$Kind", "isNumberRestriction", "()Z"⟩ : MethodName)) (z := (⟨"com/example/refute/refute/core/Concept$Kind", "isNumberRestriction", "()Z"⟩ : MethodName)) hown (mvT hZ (hw _ (List.mem_of_getElem? (i := 8) rfl))) (mvT hZ (hw _ (List.mem_of_getElem? (i := 9) rfl))) (notFace_of_selects (args := #[]) (mvT hZ (hw _ (List.mem_of_getElem? (i := 11) rfl)))) (mvT hZ (hw _ (List.mem_of_getElem? (i := 11) rfl))) (mvT hZ (hw _ (List.mem_of_getElem? (i := 10) rfl))) (by decide) (backOf (W := 0) (rm2 l Z a0 hw [] w9 w8 w9 w10 (1 : Int32) h0 n0 Z0 S_MIN S_MAX S_EXACT (if_pos (Or.inr (Or.inl rfl))).symm) hZ (hw _ (List.mem_of_getElem? (i := 12) rfl)) (hw _ (List.mem_of_getElem? (i := 6) rfl)) (by decide) (by decide)) q21a q21c (g := (mkF m 26 #[.val (.int p0), .val (.int ((p0 &&& (2147483647 : Int32)) % (11 : Int32))), .val (.ref w9), .val (.int (1 : Int32))] [(.ref w9)])) rfl (by rw [hml]; rfl) (Steps.refl _) (argsL := []) (rest := []) (lenOf pd___Z rfl) rfl (by show 2 * 0 + _ ≤ _; exact Nat.le_of_eq rfl) (hb hby at_26) (fun _ _ => ⟨rfl, e20, (by decide : 0 + 0 ≤ _), (by decide : 0 + 0 ≤ _)⟩)
    dsimp only [Pt.U, Pt.locs, Pt.cells, Pt.slots] at X21 l21 y21 z21 st21 hQ21
    subst l21 y21 z21
    obtain ⟨rfl, Nq21, e21⟩ := hQ21
    have N21 := Fr.app N20 Nq21
    obtain ⟨fs, hr, hrun, hended, hW, hsame⟩ := X21.leave (v := some (.int (1 : Int32))) (fun h => by rw [Bd.returns] at h; cases h)
    refine ⟨_, _, pre1 _ ?_, hrun, hended, _, _, rfl, ?_, ⟨_, rfl⟩, hW, hsame.mono (by decide) (by decide)⟩
    · show Steps p.tables e below (s₁.setTop (mkF m 9 #[.val (.int p0), .val (.int ((p0 &&& (2147483647 : Int32)) % (11 : Int32))), .unset, .unset] [(.int ((p0 &&& (2147483647 : Int32)) % (11 : Int32)))])) _
      refine st20 _ ?_
      show Steps p.tables e below (T20.setTop (mkF m 12 #[.val (.int p0), .val (.int ((p0 &&& (2147483647 : Int32)) % (11 : Int32))), .unset, .unset] [(.ref w9)])) _
      refine XS.astoreN X20.here hx rfl (hb hby at_12) rfl rfl (l' := #[.val (.int p0), .val (.int ((p0 &&& (2147483647 : Int32)) % (11 : Int32))), .val (.ref w9), .unset]) rfl ?_
      show Steps p.tables e below (T20.setTop (mkF m 13 #[.val (.int p0), .val (.int ((p0 &&& (2147483647 : Int32)) % (11 : Int32))), .val (.ref w9), .unset] [])) _
      refine XS.iloadN X20.here hx rfl (hb hby at_13) rfl  ?_
      show Steps p.tables e below (T20.setTop (mkF m 14 #[.val (.int p0), .val (.int ((p0 &&& (2147483647 : Int32)) % (11 : Int32))), .val (.ref w9), .unset] [(.int ((p0 &&& (2147483647 : Int32)) % (11 : Int32)))])) _
      refine XS.bipush X20.here hx rfl (hb hby at_14) ?_
      show Steps p.tables e below (T20.setTop (mkF m 16 #[.val (.int p0), .val (.int ((p0 &&& (2147483647 : Int32)) % (11 : Int32))), .val (.ref w9), .unset] [(.int (8 : Int32)), (.int ((p0 &&& (2147483647 : Int32)) % (11 : Int32)))])) _
      refine XS.icmpNo X20.here hx rfl (hb hby at_16) rfl (flt (by rw [hk]; decide)).1 ?_
      show Steps p.tables e below (T20.setTop (mkF m 19 #[.val (.int p0), .val (.int ((p0 &&& (2147483647 : Int32)) % (11 : Int32))), .val (.ref w9), .unset] [])) _
      refine XS.iconst X20.here hx rfl (hb hby at_19) ?_
      show Steps p.tables e below (T20.setTop (mkF m 20 #[.val (.int p0), .val (.int ((p0 &&& (2147483647 : Int32)) % (11 : Int32))), .val (.ref w9), .unset] [(.int (1 : Int32))])) _
      refine XS.goto X20.here hx rfl (pc0 := 20) (pc' := 24) rfl (hb hby at_20) (by decide) (by decide) ?_
      show Steps p.tables e below (T20.setTop (mkF m 24 #[.val (.int p0), .val (.int ((p0 &&& (2147483647 : Int32)) % (11 : Int32))), .val (.ref w9), .unset] [(.int (1 : Int32))])) _
      refine XS.istoreN X20.here hx rfl (hb hby at_24) rfl (l' := #[.val (.int p0), .val (.int ((p0 &&& (2147483647 : Int32)) % (11 : Int32))), .val (.ref w9), .val (.int (1 : Int32))]) rfl ?_
      show Steps p.tables e below (T20.setTop (mkF m 25 #[.val (.int p0), .val (.int ((p0 &&& (2147483647 : Int32)) % (11 : Int32))), .val (.ref w9), .val (.int (1 : Int32))] [])) _
      refine XS.aloadN X20.here hx rfl (hb hby at_25) rfl rfl ?_
      show Steps p.tables e below (T20.setTop (mkF m 26 #[.val (.int p0), .val (.int ((p0 &&& (2147483647 : Int32)) % (11 : Int32))), .val (.ref w9), .val (.int (1 : Int32))] [(.ref w9)])) _
      refine st21.trans ?_
      show Steps p.tables e below (T21.setTop (mkF m 29 #[.val (.int p0), .val (.int ((p0 &&& (2147483647 : Int32)) % (11 : Int32))), .val (.ref w9), .val (.int (1 : Int32))] [(.int (1 : Int32))])) _
      refine XS.iloadN X21.here hx rfl (hb hby at_29) rfl  ?_
      show Steps p.tables e below (T21.setTop (mkF m 30 #[.val (.int p0), .val (.int ((p0 &&& (2147483647 : Int32)) % (11 : Int32))), .val (.ref w9), .val (.int (1 : Int32))] [(.int (1 : Int32)), (.int (1 : Int32))])) _
      refine XS.icmpNo X21.here hx rfl (hb hby at_30) rfl (teq (by decide : (1 : Int32) = (1 : Int32))).2 ?_
      show Steps p.tables e below (T21.setTop (mkF m 33 #[.val (.int p0), .val (.int ((p0 &&& (2147483647 : Int32)) % (11 : Int32))), .val (.ref w9), .val (.int (1 : Int32))] [])) _
      refine XS.iconst X21.here hx rfl (hb hby at_33) ?_
      show Steps p.tables e below (T21.setTop (mkF m 34 #[.val (.int p0), .val (.int ((p0 &&& (2147483647 : Int32)) % (11 : Int32))), .val (.ref w9), .val (.int (1 : Int32))] [(.int (1 : Int32))])) _
      refine XS.goto X21.here hx rfl (pc0 := 34) (pc' := 38) rfl (hb hby at_34) (by decide) (by decide) ?_
      show Steps p.tables e below (T21.setTop (mkF m 38 #[.val (.int p0), .val (.int ((p0 &&& (2147483647 : Int32)) % (11 : Int32))), .val (.ref w9), .val (.int (1 : Int32))] [(.int (1 : Int32))])) _
      exact retN X21 hx (t := .boolean) Bd.returns (by simp) (hb hby at_38) hr
    · show Q_rm0 Z p0 w0 w1 w2 w3 w4 w5 w6 w7 w8 w9 w10 h0 n0 _ T21.heap _
      rw [e21]
      exact ⟨rfl, N21⟩
  · obtain ⟨_, _, ⟨T22, L22, k22, n22⟩, -, X22, ⟨Lc22, hQ22, l22, y22, z22⟩, st22⟩ := Jvm.LawKit.callS X0 hx (y := (⟨"com/example/refute/refute/core/KindIsNumberRestrictionPinLaw", "pick", "(I)Lcom/example/refute/refute/core/Concept$Kind;"⟩ : MethodName)) hown (mvT hZ (hw _ (List.mem_of_getElem? (i := 1) rfl))) (mvT hZ (hw _ (List.mem_of_getElem? (i := 2) rfl))) (mvT hZ (hw _ (List.mem_of_getElem? (i := 3) rfl))) (mvT hZ (hw _ (List.mem_of_getElem? (i := 4) rfl))) (by decide) (backOf (W := 0) (rm1 l Z a0 hw [] ((p0 &&& (2147483647 : Int32)) % (11 : Int32)) w0 w1 w2 w3 w4 w5 w6 w7 w8 w9 w10 w10 h0 n0 Z0 S_CLASS S_THING S_NOTHING S_INTERSECTION S_UNION S_COMPLEMENT S_SOME S_ALL S_MIN S_MAX S_EXACT (by rw [hk]; rfl)) hZ (hw _ (List.mem_of_getElem? (i := 4) rfl)) (hw _ (List.mem_of_getElem? (i := 3) rfl)) (by decide) (by decide)) (g := (mkF m 9 #[.val (.int p0), .val (.int ((p0 &&& (2147483647 : Int32)) % (11 : Int32))), .unset, .unset] [(.int ((p0 &&& (2147483647 : Int32)) % (11 : Int32)))])) rfl (by rw [hml]; rfl) (argsL := [(.int ((p0 &&& (2147483647 : Int32)) % (11 : Int32)))]) (rest := []) (lenOf pd__I_Lcom_example_refute_refute_core_Concept_Kind_ rfl) rfl (by show 2 * 0 + _ ≤ _; exact Nat.le_of_eq rfl) (hb hby at_9) (fun _ _ => ⟨rfl, e0, (by decide : 0 + 0 ≤ _), (by decide : 0 + 0 ≤ _)⟩)
    dsimp only [Pt.U, Pt.locs, Pt.cells, Pt.slots] at X22 l22 y22 z22 st22 hQ22
    subst l22 y22 z22
    obtain ⟨rfl, Nq22, e22⟩ := hQ22
    have N22 := Fr.app N0 Nq22
    obtain ⟨cq23, kq23, q23a, q23b, q23c⟩ := isOf hZ e22 E_EXACT
    obtain ⟨_, _, ⟨T23, L23, k23, n23⟩, -, X23, ⟨Lc23, hQ23, l23, y23, z23⟩, st23⟩ := X22.virtualBack hx (y := (⟨"com/example/refute/refute/core/Concept$Kind", "isNumberRestriction", "()Z"⟩ : MethodName)) (z := (⟨"com/example/refute/refute/core/Concept$Kind", "isNumberRestriction", "()Z"⟩ : MethodName)) hown (mvT hZ (hw _ (List.mem_of_getElem? (i := 8) rfl))) (mvT hZ (hw _ (List.mem_of_getElem? (i := 9) rfl))) (notFace_of_selects (args := #[]) (mvT hZ (hw _ (List.mem_of_getElem? (i := 11) rfl)))) (mvT hZ (hw _ (List.mem_of_getElem? (i := 11) rfl))) (mvT hZ (hw _ (List.mem_of_getElem? (i := 10) rfl))) (by decide) (backOf (W := 0) (rm2 l Z a0 hw [] w10 w8 w9 w10 (1 : Int32) h0 n0 Z0 S_MIN S_MAX S_EXACT (if_pos (Or.inr (Or.inr rfl))).symm) hZ (hw _ (List.mem_of_getElem? (i := 12) rfl)) (hw _ (List.mem_of_getElem? (i := 6) rfl)) (by decide) (by decide)) q23a q23c (g := (mkF m 26 #[.val (.int p0), .val (.int ((p0 &&& (2147483647 : Int32)) % (11 : Int32))), .val (.ref w10), .val (.int (1 : Int32))] [(.ref w10)])) rfl (by rw [hml]; rfl) (Steps.refl _) (argsL := []) (rest := []) (lenOf pd___Z rfl) rfl (by show 2 * 0 + _ ≤ _; exact Nat.le_of_eq rfl) (hb hby at_26) (fun _ _ => ⟨rfl, e22, (by decide : 0 + 0 ≤ _), (by decide : 0 + 0 ≤ _)⟩)
    dsimp only [Pt.U, Pt.locs, Pt.cells, Pt.slots] at X23 l23 y23 z23 st23 hQ23
    subst l23 y23 z23
    obtain ⟨rfl, Nq23, e23⟩ := hQ23
    have N23 := Fr.app N22 Nq23
    obtain ⟨fs, hr, hrun, hended, hW, hsame⟩ := X23.leave (v := some (.int (1 : Int32))) (fun h => by rw [Bd.returns] at h; cases h)
    refine ⟨_, _, pre1 _ ?_, hrun, hended, _, _, rfl, ?_, ⟨_, rfl⟩, hW, hsame.mono (by decide) (by decide)⟩
    · show Steps p.tables e below (s₁.setTop (mkF m 9 #[.val (.int p0), .val (.int ((p0 &&& (2147483647 : Int32)) % (11 : Int32))), .unset, .unset] [(.int ((p0 &&& (2147483647 : Int32)) % (11 : Int32)))])) _
      refine st22 _ ?_
      show Steps p.tables e below (T22.setTop (mkF m 12 #[.val (.int p0), .val (.int ((p0 &&& (2147483647 : Int32)) % (11 : Int32))), .unset, .unset] [(.ref w10)])) _
      refine XS.astoreN X22.here hx rfl (hb hby at_12) rfl rfl (l' := #[.val (.int p0), .val (.int ((p0 &&& (2147483647 : Int32)) % (11 : Int32))), .val (.ref w10), .unset]) rfl ?_
      show Steps p.tables e below (T22.setTop (mkF m 13 #[.val (.int p0), .val (.int ((p0 &&& (2147483647 : Int32)) % (11 : Int32))), .val (.ref w10), .unset] [])) _
      refine XS.iloadN X22.here hx rfl (hb hby at_13) rfl  ?_
      show Steps p.tables e below (T22.setTop (mkF m 14 #[.val (.int p0), .val (.int ((p0 &&& (2147483647 : Int32)) % (11 : Int32))), .val (.ref w10), .unset] [(.int ((p0 &&& (2147483647 : Int32)) % (11 : Int32)))])) _
      refine XS.bipush X22.here hx rfl (hb hby at_14) ?_
      show Steps p.tables e below (T22.setTop (mkF m 16 #[.val (.int p0), .val (.int ((p0 &&& (2147483647 : Int32)) % (11 : Int32))), .val (.ref w10), .unset] [(.int (8 : Int32)), (.int ((p0 &&& (2147483647 : Int32)) % (11 : Int32)))])) _
      refine XS.icmpNo X22.here hx rfl (hb hby at_16) rfl (flt (by rw [hk]; decide)).1 ?_
      show Steps p.tables e below (T22.setTop (mkF m 19 #[.val (.int p0), .val (.int ((p0 &&& (2147483647 : Int32)) % (11 : Int32))), .val (.ref w10), .unset] [])) _
      refine XS.iconst X22.here hx rfl (hb hby at_19) ?_
      show Steps p.tables e below (T22.setTop (mkF m 20 #[.val (.int p0), .val (.int ((p0 &&& (2147483647 : Int32)) % (11 : Int32))), .val (.ref w10), .unset] [(.int (1 : Int32))])) _
      refine XS.goto X22.here hx rfl (pc0 := 20) (pc' := 24) rfl (hb hby at_20) (by decide) (by decide) ?_
      show Steps p.tables e below (T22.setTop (mkF m 24 #[.val (.int p0), .val (.int ((p0 &&& (2147483647 : Int32)) % (11 : Int32))), .val (.ref w10), .unset] [(.int (1 : Int32))])) _
      refine XS.istoreN X22.here hx rfl (hb hby at_24) rfl (l' := #[.val (.int p0), .val (.int ((p0 &&& (2147483647 : Int32)) % (11 : Int32))), .val (.ref w10), .val (.int (1 : Int32))]) rfl ?_
      show Steps p.tables e below (T22.setTop (mkF m 25 #[.val (.int p0), .val (.int ((p0 &&& (2147483647 : Int32)) % (11 : Int32))), .val (.ref w10), .val (.int (1 : Int32))] [])) _
      refine XS.aloadN X22.here hx rfl (hb hby at_25) rfl rfl ?_
      show Steps p.tables e below (T22.setTop (mkF m 26 #[.val (.int p0), .val (.int ((p0 &&& (2147483647 : Int32)) % (11 : Int32))), .val (.ref w10), .val (.int (1 : Int32))] [(.ref w10)])) _
      refine st23.trans ?_
      show Steps p.tables e below (T23.setTop (mkF m 29 #[.val (.int p0), .val (.int ((p0 &&& (2147483647 : Int32)) % (11 : Int32))), .val (.ref w10), .val (.int (1 : Int32))] [(.int (1 : Int32))])) _
      refine XS.iloadN X23.here hx rfl (hb hby at_29) rfl  ?_
      show Steps p.tables e below (T23.setTop (mkF m 30 #[.val (.int p0), .val (.int ((p0 &&& (2147483647 : Int32)) % (11 : Int32))), .val (.ref w10), .val (.int (1 : Int32))] [(.int (1 : Int32)), (.int (1 : Int32))])) _
      refine XS.icmpNo X23.here hx rfl (hb hby at_30) rfl (teq (by decide : (1 : Int32) = (1 : Int32))).2 ?_
      show Steps p.tables e below (T23.setTop (mkF m 33 #[.val (.int p0), .val (.int ((p0 &&& (2147483647 : Int32)) % (11 : Int32))), .val (.ref w10), .val (.int (1 : Int32))] [])) _
      refine XS.iconst X23.here hx rfl (hb hby at_33) ?_
      show Steps p.tables e below (T23.setTop (mkF m 34 #[.val (.int p0), .val (.int ((p0 &&& (2147483647 : Int32)) % (11 : Int32))), .val (.ref w10), .val (.int (1 : Int32))] [(.int (1 : Int32))])) _
      refine XS.goto X23.here hx rfl (pc0 := 34) (pc' := 38) rfl (hb hby at_34) (by decide) (by decide) ?_
      show Steps p.tables e below (T23.setTop (mkF m 38 #[.val (.int p0), .val (.int ((p0 &&& (2147483647 : Int32)) % (11 : Int32))), .val (.ref w10), .val (.int (1 : Int32))] [(.int (1 : Int32))])) _
      exact retN X23 hx (t := .boolean) Bd.returns (by simp) (hb hby at_38) hr
    · show Q_rm0 Z p0 w0 w1 w2 w3 w4 w5 w6 w7 w8 w9 w10 h0 n0 _ T23.heap _
      rw [e23]
      exact ⟨rfl, N23⟩
set_option maxRecDepth 65536 in
set_option maxHeartbeats 40000000 in
theorem comes_1 {Post : Tables → Env → Array Value → State → Outcome → State → Prop} (hpost : ∀ tb e args s v u, (limb_1_1.after args s (.returned v) u = true ∧ limb_1_2.after args s (.returned v) u = true ∧ True) → FrameEnd s (.returned v) u (Jvm.fieldLocs frame_1_writes args s ++ Jvm.arrayLocs frame_1_arrays args s ++ Jvm.staticLocs frame_1_statics s) 0 0 → Post tb e args s (.returned v) u) :
    ArmFor flags0 classFile x code maxLocals ret World_1 tables_1 room_1 Calls_1 rest_1 Pre_1 Post := by
  intro l hfl _ _ p e ha hc hk s m args below hf hA hF happ hP
  obtain ⟨hcalls, hrest, hpre⟩ := hP
  obtain ⟨-, -, -, hnamed, -, -, -, hat⟩ := (Spec.applies_iff hf).mp happ
  obtain ⟨hg, hn⟩ := and_e (Cond.before_iff.mp (show (Jvm.Cond.and given_1 narrow_1).before args s = true from hpre))
  obtain ⟨gc, gr0⟩ := and_e hg
  obtain ⟨w0, rfl⟩ : ∃ w0 : Value, args = #[w0] := by
    have hs : args.size = 1 := by simpa [Cond.value, given_1] using gc
    obtain ⟨L⟩ := args
    match L, hs with
    | [w0], _ => exact ⟨w0, rfl⟩
  have hw := fun d (hd : d ∈ tables_1) => atoms_spec (ws := Jvm.Cond.code x code maxLocals ret :: tables_1) hat d (List.mem_cons_of_mem _ hd)
  have hfit : Fit s := fun {y c} hc i hi => by
    obtain ⟨ha, rfl⟩ := Array.getElem?_eq_some_iff.mp hc
    have q := List.all_eq_true.mp ((Array.all_eq_true_iff_forall_mem.mp hF) _ (Array.getElem_mem ha)) i (List.mem_range.mpr hi)
    simpa [Array.getElem?_eq_getElem hi] using q
  obtain ⟨i0, ei0⟩ := is_v gr0
  obtain rfl : w0 = (.int i0) := Option.some.inj ei0
  obtain ⟨nn0, nr0⟩ := and_e hn
  obtain ⟨nn1, nr1⟩ := and_e nr0
  obtain ⟨nn2, nr2⟩ := and_e nr1
  obtain ⟨nn3, nr3⟩ := and_e nr2
  obtain ⟨nn4, nr4⟩ := and_e nr3
  obtain ⟨nn5, nr5⟩ := and_e nr4
  obtain ⟨nn6, nr6⟩ := and_e nr5
  obtain ⟨nn7, nr7⟩ := and_e nr6
  obtain ⟨nn8, nr8⟩ := and_e nr7
  obtain ⟨nn9, nr9⟩ := and_e nr8
  obtain ⟨nn10, nr10⟩ := and_e nr9
  obtain ⟨nn11, nr11⟩ := and_e nr10
  obtain ⟨nn12, nr12⟩ := and_e nr11
  obtain ⟨nn13, nr13⟩ := and_e nr12
  obtain ⟨nn14, nr14⟩ := and_e nr13
  obtain ⟨nn15, nr15⟩ := and_e nr14
  obtain ⟨nn16, nr16⟩ := and_e nr15
  obtain ⟨nn17, nr17⟩ := and_e nr16
  obtain ⟨nn18, nr18⟩ := and_e nr17
  obtain ⟨nn19, nr19⟩ := and_e nr18
  obtain ⟨nn20, nr20⟩ := and_e nr19
  have nn21 := nr20
  obtain ⟨w0, ev_CLASS⟩ := exa_v nn0
  have E_CLASS := Exa.start ev_CLASS nn0
  have S_CLASS := Sta.start ev_CLASS (Or.inr ⟨(hw _ (List.mem_of_getElem? (i := 6) rfl)), (hw _ (List.mem_of_getElem? (i := 7) rfl))⟩)
  obtain ⟨w8, ev_MIN⟩ := exa_v nn1
  have E_MIN := Exa.start ev_MIN nn1
  have S_MIN := Sta.start ev_MIN (Or.inr ⟨(hw _ (List.mem_of_getElem? (i := 6) rfl)), (hw _ (List.mem_of_getElem? (i := 14) rfl))⟩)
  obtain ⟨w9, ev_MAX⟩ := exa_v nn4
  have E_MAX := Exa.start ev_MAX nn4
  have S_MAX := Sta.start ev_MAX (Or.inr ⟨(hw _ (List.mem_of_getElem? (i := 6) rfl)), (hw _ (List.mem_of_getElem? (i := 16) rfl))⟩)
  obtain ⟨w10, ev_EXACT⟩ := exa_v nn6
  have E_EXACT := Exa.start ev_EXACT nn6
  have S_EXACT := Sta.start ev_EXACT (Or.inr ⟨(hw _ (List.mem_of_getElem? (i := 6) rfl)), (hw _ (List.mem_of_getElem? (i := 18) rfl))⟩)
  obtain ⟨w3, ev_INTERSECTION⟩ := exa_v nn8
  have E_INTERSECTION := Exa.start ev_INTERSECTION nn8
  have S_INTERSECTION := Sta.start ev_INTERSECTION (Or.inr ⟨(hw _ (List.mem_of_getElem? (i := 6) rfl)), (hw _ (List.mem_of_getElem? (i := 20) rfl))⟩)
  obtain ⟨w7, ev_ALL⟩ := exa_v nn10
  have E_ALL := Exa.start ev_ALL nn10
  have S_ALL := Sta.start ev_ALL (Or.inr ⟨(hw _ (List.mem_of_getElem? (i := 6) rfl)), (hw _ (List.mem_of_getElem? (i := 22) rfl))⟩)
  obtain ⟨w2, ev_NOTHING⟩ := exa_v nn12
  have E_NOTHING := Exa.start ev_NOTHING nn12
  have S_NOTHING := Sta.start ev_NOTHING (Or.inr ⟨(hw _ (List.mem_of_getElem? (i := 6) rfl)), (hw _ (List.mem_of_getElem? (i := 25) rfl))⟩)
  obtain ⟨w1, ev_THING⟩ := exa_v nn14
  have E_THING := Exa.start ev_THING nn14
  have S_THING := Sta.start ev_THING (Or.inr ⟨(hw _ (List.mem_of_getElem? (i := 6) rfl)), (hw _ (List.mem_of_getElem? (i := 28) rfl))⟩)
  obtain ⟨w5, ev_COMPLEMENT⟩ := exa_v nn16
  have E_COMPLEMENT := Exa.start ev_COMPLEMENT nn16
  have S_COMPLEMENT := Sta.start ev_COMPLEMENT (Or.inr ⟨(hw _ (List.mem_of_getElem? (i := 6) rfl)), (hw _ (List.mem_of_getElem? (i := 31) rfl))⟩)
  obtain ⟨w6, ev_SOME⟩ := exa_v nn18
  have E_SOME := Exa.start ev_SOME nn18
  have S_SOME := Sta.start ev_SOME (Or.inr ⟨(hw _ (List.mem_of_getElem? (i := 6) rfl)), (hw _ (List.mem_of_getElem? (i := 33) rfl))⟩)
  obtain ⟨w4, ev_UNION⟩ := exa_v nn20
  have E_UNION := Exa.start ev_UNION nn20
  have S_UNION := Sta.start ev_UNION (Or.inr ⟨(hw _ (List.mem_of_getElem? (i := 6) rfl)), (hw _ (List.mem_of_getElem? (i := 35) rfl))⟩)
  have o_CLASS := own_ord ev_CLASS nn2
  have o_MIN := own_ord ev_MIN nn3
  have o_MAX := own_ord ev_MAX nn5
  have o_EXACT := own_ord ev_EXACT nn7
  have o_INTERSECTION := own_ord ev_INTERSECTION nn9
  have o_ALL := own_ord ev_ALL nn11
  have o_NOTHING := own_ord ev_NOTHING nn13
  have o_THING := own_ord ev_THING nn15
  have o_COMPLEMENT := own_ord ev_COMPLEMENT nn17
  have o_SOME := own_ord ev_SOME nn19
  have o_UNION := own_ord ev_UNION nn21
  obtain ⟨n, o, h1, h2, h3, _, L, rfl, ⟨rfl, N⟩, hq⟩ := rm0 l s _ hw tables_1 i0 w0 w1 w2 w3 w4 w5 w6 w7 w8 w9 w10 s.heap s.heap.size (Nat.le_refl _) S_CLASS S_THING S_NOTHING S_INTERSECTION S_UNION S_COMPLEMENT S_SOME S_ALL S_MIN S_MAX S_EXACT E_CLASS E_THING E_NOTHING E_INTERSECTION E_UNION E_COMPLEMENT E_SOME E_ALL E_MIN E_MAX E_EXACT (own_ne o_CLASS o_MIN (by decide)) (own_ne o_CLASS o_MAX (by decide)) (own_ne o_CLASS o_EXACT (by decide)) (own_ne o_THING o_MIN (by decide)) (own_ne o_THING o_MAX (by decide)) (own_ne o_THING o_EXACT (by decide)) (own_ne o_NOTHING o_MIN (by decide)) (own_ne o_NOTHING o_MAX (by decide)) (own_ne o_NOTHING o_EXACT (by decide)) (own_ne o_INTERSECTION o_MIN (by decide)) (own_ne o_INTERSECTION o_MAX (by decide)) (own_ne o_INTERSECTION o_EXACT (by decide)) (own_ne o_UNION o_MIN (by decide)) (own_ne o_UNION o_MAX (by decide)) (own_ne o_UNION o_EXACT (by decide)) (own_ne o_COMPLEMENT o_MIN (by decide)) (own_ne o_COMPLEMENT o_MAX (by decide)) (own_ne o_COMPLEMENT o_EXACT (by decide)) (own_ne o_SOME o_MIN (by decide)) (own_ne o_SOME o_MAX (by decide)) (own_ne o_SOME o_EXACT (by decide)) (own_ne o_ALL o_MIN (by decide)) (own_ne o_ALL o_MAX (by decide)) (own_ne o_ALL o_EXACT (by decide)) p e ha hc hk s m _ below hf ((Spec.applies_iff_loose hf).mp happ).1 ⟨rfl, State.Warmed39.refl s, rfl⟩ trivial
  refine ⟨n, _, h1, h2, h3, hpost _ _ _ _ _ _ ⟨Cond.after_iff.mpr rfl, Cond.after_iff.mpr (eq_i res_at (Term.int_eval (1)) rfl), trivial⟩ ⟨hq.1, hq.2.1, (hq.2.2.sift fun y hy => Or.inr (N y hy)).mono (by decide) (by decide)⟩⟩
theorem main_1_1 : Claimed_1_1 := comes_1 fun _ _ _ _ _ _ h hF => ⟨h.1, hF⟩
theorem main_1_2 : Claimed_1_2 := comes_1 fun _ _ _ _ _ _ h hF => ⟨h.2.1, hF⟩
end Jvm.Pilot.@@N@@
namespace Jvm.Pilot.@@N@@
open Jvm Jvm.ClassFile Sem Op Lib Jvm.Free Jvm.Stand Jvm.Pilot.@@N@@.Jvm.D
/-! MADE BY PROGRAM (witnessworld.py) out of the Statement's table words and the real class files: 12 classes; the members and pool entries that the words name. The judged class is class 1, her method 1. -/
namespace start1
open Jvm.ClassFile
def u (s : String) : CpInfo := .utf8 (stringToUtf16 s)
/-- a pool by its gaps: so many unusable entries, then the entry; so many at the end -/
def gap : Nat → List CpInfo → List CpInfo
  | 0, r => r
  | n + 1, r => .unusable :: gap n r
def poolList (es : List (Nat × CpInfo)) (last : Nat) : List CpInfo := es.foldr (fun e r => gap e.1 (e.2 :: r)) (gap last [])
def pool (es : List (Nat × CpInfo)) (last : Nat) : Array CpInfo := ⟨poolList es last⟩
def fileOf (pool : Array CpInfo) (this : Nat) (attrs : Array Attribute := #[]) (ms : Array MethodInfo := #[]) (fl : Nat := 33) (sup : Nat := 0) (ifs : Array Nat := #[]) (fds : Array FieldInfo := #[]) : ClassFile where
  minorVersion := 0
  majorVersion := 65
  constantPool := pool
  accessFlags := fl
  thisClass := this
  superClass := sup
  interfaces := ifs
  fields := fds
  methods := ms
  attributes := attrs
def plain (name : String) (sup : Option ClassId) : Class where
  name := name
  kind := .ordinary
  loader := none
  accessFlags := 33
  super := sup
  interfaces := #[]
  cf := none
  fields := #[]
  methods := #[]
  instanceTypes := #[]
  staticTypes := #[]
  resolved := #[]
  callSites := []
  init := .initialized
  statics := none
  mirror := none

def pool0 : Array CpInfo := pool [(5, u "<init>"), (0, u "()V"), (1, .class_ 10), (1, u "java/lang/Object")] 113

def k0m0 : Method := { name := "<init>", desc := "()V", sig := { parameters := [], returnType := none }, accessFlags := 1, code := none }
/-- java/lang/Object -/
def k0 : Class := { plain "java/lang/Object" none with
  accessFlags := 33
  interfaces := #[]
  cf := some (fileOf pool0 8 #[] #[{ accessFlags := 1, nameIndex := 5, descriptorIndex := 6, attributes := #[] }] 33 0 #[] #[])
  fields := #[]
  methods := #[k0m0]
  instanceTypes := #[]
  staticTypes := #[]
  resolved := Array.replicate 124 none
  statics := none }

def pool1 : Array CpInfo := pool [(2, .class_ 4), (1, u "java/lang/Object"), (0, u "<init>"), (0, u "()V"), (0, .integer 2147483647), (0, .methodref 9 10), (0, .class_ 11), (0, .nameAndType 12 13), (0, u "com/example/refute/refute/core/KindIsNumberRestrictionPinLaw"), (0, u "pick"), (0, u "(I)Lcom/example/refute/refute/core/Concept$Kind;"), (0, .methodref 15 16), (0, .class_ 17), (0, .nameAndType 18 19), (0, u "com/example/refute/refute/core/Concept$Kind"), (0, u "isNumberRestriction"), (0, u "()Z"), (0, .fieldref 15 21), (0, .nameAndType 22 23), (0, u "CLASS"), (0, u "Lcom/example/refute/refute/core/Concept$Kind;"), (0, .fieldref 15 25), (0, .nameAndType 26 23), (0, u "THING"), (0, .fieldref 15 28), (0, .nameAndType 29 23), (0, u "NOTHING"), (0, .fieldref 15 31), (0, .nameAndType 32 23), (0, u "INTERSECTION"), (0, .fieldref 15 34), (0, .nameAndType 35 23), (0, u "UNION"), (0, .fieldref 15 37), (0, .nameAndType 38 23), (0, u "COMPLEMENT"), (0, .fieldref 15 40), (0, .nameAndType 41 23), (0, u "SOME"), (0, .fieldref 15 43), (0, .nameAndType 44 23), (0, u "ALL"), (0, .fieldref 15 46), (0, .nameAndType 47 23), (0, u "MIN"), (0, .fieldref 15 49), (0, .nameAndType 50 23), (0, u "MAX"), (0, .fieldref 15 52), (0, .nameAndType 53 23), (0, u "EXACT"), (2, u "law"), (0, u "(I)Z")] 7

def k1m0 : Method := { name := "<init>", desc := "()V", sig := { parameters := [], returnType := none }, accessFlags := 1, code := none }
def k1c1 : Code := { maxStack := 2, maxLocals := 4, code := code, exceptionTable := #[], attributes := #[] }
def k1m1 : Method := { name := "law", desc := "(I)Z", sig := { parameters := [.int], returnType := some .boolean }, accessFlags := 9, code := some k1c1 }
def k1c2 : Code := { maxStack := 2, maxLocals := 1, code := method_3_code, exceptionTable := #[], attributes := #[] }
def k1m2 : Method := { name := "pick", desc := "(I)Lcom/example/refute/refute/core/Concept$Kind;", sig := { parameters := [.int], returnType := some (.object "com/example/refute/refute/core/Concept$Kind") }, accessFlags := 10, code := some k1c2 }
/-- com/example/refute/refute/core/KindIsNumberRestrictionPinLaw -/
def k1 : Class := { plain "com/example/refute/refute/core/KindIsNumberRestrictionPinLaw" (some 0) with
  accessFlags := 49
  interfaces := #[]
  cf := some (fileOf pool1 9 #[] #[{ accessFlags := 1, nameIndex := 5, descriptorIndex := 6, attributes := #[] }, { accessFlags := 9, nameIndex := 56, descriptorIndex := 57, attributes := #[] }, { accessFlags := 10, nameIndex := 12, descriptorIndex := 13, attributes := #[] }] 49 2 #[] #[])
  fields := #[]
  methods := #[k1m0, k1m1, k1m2]
  instanceTypes := #[]
  staticTypes := #[]
  resolved := Array.replicate 65 none
  statics := none }

def pool2 : Array CpInfo := pool [(1, .class_ 2), (0, u "java/lang/constant/Constable"), (0, .class_ 4), (0, u "java/lang/Object")] 6

/-- java/lang/constant/Constable -/
def k2 : Class := { plain "java/lang/constant/Constable" (some 0) with
  accessFlags := 1537
  interfaces := #[]
  cf := some (fileOf pool2 1 #[] #[] 1537 3 #[] #[])
  fields := #[]
  methods := #[]
  instanceTypes := #[]
  staticTypes := #[]
  resolved := Array.replicate 11 none
  statics := none }

def pool3 : Array CpInfo := pool [(1, .class_ 2), (0, u "java/lang/Comparable"), (0, .class_ 4), (0, u "java/lang/Object")] 7

/-- java/lang/Comparable -/
def k3 : Class := { plain "java/lang/Comparable" (some 0) with
  accessFlags := 1537
  interfaces := #[]
  cf := some (fileOf pool3 1 #[] #[] 1537 3 #[] #[])
  fields := #[]
  methods := #[]
  instanceTypes := #[]
  staticTypes := #[]
  resolved := Array.replicate 12 none
  statics := none }

def pool4 : Array CpInfo := pool [(1, .class_ 2), (0, u "java/io/Serializable"), (0, .class_ 4), (0, u "java/lang/Object")] 2

/-- java/io/Serializable -/
def k4 : Class := { plain "java/io/Serializable" (some 0) with
  accessFlags := 1537
  interfaces := #[]
  cf := some (fileOf pool4 1 #[] #[] 1537 3 #[] #[])
  fields := #[]
  methods := #[]
  instanceTypes := #[]
  staticTypes := #[]
  resolved := Array.replicate 7 none
  statics := none }

def pool5 : Array CpInfo := pool [(2, .class_ 4), (1, u "java/lang/Enum"), (0, u "name"), (0, u "Ljava/lang/String;"), (2, u "ordinal"), (0, u "I"), (1, .class_ 14), (1, u "java/lang/Object"), (4, u "hash"), (86, .class_ 108), (1, u "java/lang/Enum$EnumDesc"), (2, .class_ 112), (0, u "java/lang/constant/Constable"), (0, .class_ 114), (0, u "java/lang/Comparable"), (0, .class_ 116), (0, u "java/io/Serializable")] 87

/-- java/lang/Enum -/
def k5 : Class := { plain "java/lang/Enum" (some 0) with
  accessFlags := 1057
  interfaces := #[2, 3, 4]
  cf := some (fileOf pool5 2 #[.nestMembers #[106]] #[] 1057 12 #[111, 113, 115] #[{ accessFlags := 18, nameIndex := 5, descriptorIndex := 6, attributes := #[] }, { accessFlags := 18, nameIndex := 9, descriptorIndex := 10, attributes := #[] }, { accessFlags := 2, nameIndex := 19, descriptorIndex := 10, attributes := #[] }])
  fields := #[{ name := "name", type := (.object "java/lang/String"), accessFlags := 18, slot := 0, constantValue := 0 }, { name := "ordinal", type := .int, accessFlags := 18, slot := 1, constantValue := 0 }, { name := "hash", type := .int, accessFlags := 2, slot := 2, constantValue := 0 }]
  methods := #[]
  instanceTypes := #[(.object "java/lang/String"), .int, .int]
  staticTypes := #[]
  resolved := Array.replicate 204 none
  statics := none }

def pool6 : Array CpInfo := pool [(1, .class_ 2), (0, u "com/example/refute/refute/core/Concept$Kind"), (2, u "CLASS"), (0, u "Lcom/example/refute/refute/core/Concept$Kind;"), (2, u "THING"), (2, u "NOTHING"), (2, u "INTERSECTION"), (2, u "UNION"), (2, u "COMPLEMENT"), (2, u "SOME"), (2, u "ALL"), (0, .fieldref 1 29), (0, .nameAndType 30 6), (0, u "MIN"), (0, .fieldref 1 32), (0, .nameAndType 33 6), (0, u "MAX"), (0, .fieldref 1 35), (0, .nameAndType 36 6), (0, u "EXACT"), (2, u "$VALUES"), (0, u "[Lcom/example/refute/refute/core/Concept$Kind;"), (6, .class_ 49), (1, u "java/lang/Enum"), (8, u "keyword"), (0, u "Ljava/lang/String;"), (2, u "restriction"), (0, u "Z"), (47, u "isNumberRestriction"), (0, u "()Z"), (7, .class_ 121), (0, u "com/example/refute/refute/core/Concept")] 2

def k6c0 : Code := { maxStack := 2, maxLocals := 1, code := prog_13_method_4_code, exceptionTable := #[], attributes := #[] }
def k6m0 : Method := { name := "isNumberRestriction", desc := "()Z", sig := { parameters := [], returnType := some .boolean }, accessFlags := 1, code := some k6c0 }
/-- com/example/refute/refute/core/Concept$Kind -/
def k6 : Class := { plain "com/example/refute/refute/core/Concept$Kind" (some 5) with
  accessFlags := 16433
  interfaces := #[]
  cf := some (fileOf pool6 1 #[.nestHost 120] #[{ accessFlags := 1, nameIndex := 111, descriptorIndex := 112, attributes := #[] }] 16433 47 #[] #[{ accessFlags := 16409, nameIndex := 5, descriptorIndex := 6, attributes := #[] }, { accessFlags := 16409, nameIndex := 9, descriptorIndex := 6, attributes := #[] }, { accessFlags := 16409, nameIndex := 12, descriptorIndex := 6, attributes := #[] }, { accessFlags := 16409, nameIndex := 15, descriptorIndex := 6, attributes := #[] }, { accessFlags := 16409, nameIndex := 18, descriptorIndex := 6, attributes := #[] }, { accessFlags := 16409, nameIndex := 21, descriptorIndex := 6, attributes := #[] }, { accessFlags := 16409, nameIndex := 24, descriptorIndex := 6, attributes := #[] }, { accessFlags := 16409, nameIndex := 27, descriptorIndex := 6, attributes := #[] }, { accessFlags := 16409, nameIndex := 30, descriptorIndex := 6, attributes := #[] }, { accessFlags := 16409, nameIndex := 33, descriptorIndex := 6, attributes := #[] }, { accessFlags := 16409, nameIndex := 36, descriptorIndex := 6, attributes := #[] }, { accessFlags := 18, nameIndex := 58, descriptorIndex := 59, attributes := #[] }, { accessFlags := 18, nameIndex := 62, descriptorIndex := 63, attributes := #[] }, { accessFlags := 4122, nameIndex := 39, descriptorIndex := 40, attributes := #[] }])
  fields := #[{ name := "CLASS", type := (.object "com/example/refute/refute/core/Concept$Kind"), accessFlags := 16409, slot := 0, constantValue := 0 }, { name := "THING", type := (.object "com/example/refute/refute/core/Concept$Kind"), accessFlags := 16409, slot := 1, constantValue := 0 }, { name := "NOTHING", type := (.object "com/example/refute/refute/core/Concept$Kind"), accessFlags := 16409, slot := 2, constantValue := 0 }, { name := "INTERSECTION", type := (.object "com/example/refute/refute/core/Concept$Kind"), accessFlags := 16409, slot := 3, constantValue := 0 }, { name := "UNION", type := (.object "com/example/refute/refute/core/Concept$Kind"), accessFlags := 16409, slot := 4, constantValue := 0 }, { name := "COMPLEMENT", type := (.object "com/example/refute/refute/core/Concept$Kind"), accessFlags := 16409, slot := 5, constantValue := 0 }, { name := "SOME", type := (.object "com/example/refute/refute/core/Concept$Kind"), accessFlags := 16409, slot := 6, constantValue := 0 }, { name := "ALL", type := (.object "com/example/refute/refute/core/Concept$Kind"), accessFlags := 16409, slot := 7, constantValue := 0 }, { name := "MIN", type := (.object "com/example/refute/refute/core/Concept$Kind"), accessFlags := 16409, slot := 8, constantValue := 0 }, { name := "MAX", type := (.object "com/example/refute/refute/core/Concept$Kind"), accessFlags := 16409, slot := 9, constantValue := 0 }, { name := "EXACT", type := (.object "com/example/refute/refute/core/Concept$Kind"), accessFlags := 16409, slot := 10, constantValue := 0 }, { name := "keyword", type := (.object "java/lang/String"), accessFlags := 18, slot := 3, constantValue := 0 }, { name := "restriction", type := .boolean, accessFlags := 18, slot := 4, constantValue := 0 }, { name := "$VALUES", type := (.array (.object "com/example/refute/refute/core/Concept$Kind")), accessFlags := 4122, slot := 11, constantValue := 0 }]
  methods := #[k6m0]
  instanceTypes := #[(.object "java/lang/String"), .int, .int, (.object "java/lang/String"), .boolean]
  staticTypes := #[(.object "com/example/refute/refute/core/Concept$Kind"), (.object "com/example/refute/refute/core/Concept$Kind"), (.object "com/example/refute/refute/core/Concept$Kind"), (.object "com/example/refute/refute/core/Concept$Kind"), (.object "com/example/refute/refute/core/Concept$Kind"), (.object "com/example/refute/refute/core/Concept$Kind"), (.object "com/example/refute/refute/core/Concept$Kind"), (.object "com/example/refute/refute/core/Concept$Kind"), (.object "com/example/refute/refute/core/Concept$Kind"), (.object "com/example/refute/refute/core/Concept$Kind"), (.object "com/example/refute/refute/core/Concept$Kind"), (.array (.object "com/example/refute/refute/core/Concept$Kind"))]
  resolved := Array.replicate 124 none
  statics := some 0 }

def pool7 : Array CpInfo := pool [(1, u "java/lang/Cloneable"), (0, .class_ 1), (0, u "java/lang/Object"), (0, .class_ 3)] 3

/-- java/lang/Cloneable -/
def k7 : Class := { plain "java/lang/Cloneable" (some 0) with
  accessFlags := 1537
  interfaces := #[]
  cf := some (fileOf pool7 2 #[] #[] 1537 4 #[] #[])
  fields := #[]
  methods := #[]
  instanceTypes := #[]
  staticTypes := #[]
  resolved := Array.replicate 8 none
  statics := none }

/-- the primitive byte -/
def k8 : Class := { plain "byte" none with kind := .primitive 'B', accessFlags := 0x411 }
/-- [B -/
def k9 : Class := { plain "[B" (some 0) with kind := .array 8 .byte, interfaces := #[7, 4], accessFlags := 1041 }

/-- the primitive int -/
def k10 : Class := { plain "int" none with kind := .primitive 'I', accessFlags := 0x411 }
/-- [I -/
def k11 : Class := { plain "[I" (some 0) with kind := .array 10 .int, interfaces := #[7, 4], accessFlags := 1041 }

def heap : Heap := #[{ cls := 6, slots := #[.ref 1, .ref 8, .ref 7, .ref 5, .ref 11, .ref 9, .ref 10, .ref 6, .ref 2, .ref 3, .ref 4, .null], vm := .statics 6 },
  { cls := 6, slots := #[.null, .int 0, .int 0, .null, .int 0], vm := .none },
  { cls := 6, slots := #[.null, .int 8, .int 0, .null, .int 0], vm := .none },
  { cls := 6, slots := #[.null, .int 9, .int 0, .null, .int 0], vm := .none },
  { cls := 6, slots := #[.null, .int 10, .int 0, .null, .int 0], vm := .none },
  { cls := 6, slots := #[.null, .int 3, .int 0, .null, .int 0], vm := .none },
  { cls := 6, slots := #[.null, .int 7, .int 0, .null, .int 0], vm := .none },
  { cls := 6, slots := #[.null, .int 2, .int 0, .null, .int 0], vm := .none },
  { cls := 6, slots := #[.null, .int 1, .int 0, .null, .int 0], vm := .none },
  { cls := 6, slots := #[.null, .int 5, .int 0, .null, .int 0], vm := .none },
  { cls := 6, slots := #[.null, .int 6, .int 0, .null, .int 0], vm := .none },
  { cls := 6, slots := #[.null, .int 4, .int 0, .null, .int 0], vm := .none }]
def classes : Array Class := #[k0, k1, k2, k3, k4, k5, k6, k7, k8, k9, k10, k11]
def interned : List (Array UInt16 × Addr) := []
def slotsUsed : Nat := 67
def theMethod : MethodId := ⟨1, 1⟩
def args0 : Array Value := #[.int 5]
def aboutOver (below : List Frame) : State where
  vm := { classes := classes, interned := interned.toArray }
  heap := heap
  slotsUsed := slotsUsed
  threads := #[{ frames := .invoking theMethod args0 :: below }]
def below0 : List Frame := [.native { method := ⟨0, 0⟩, args := #[] }]
def about1 : State := aboutOver below0
def p0 : Program := .bare "" "" ""
def e0 : Env := launch0.env 0 0 0
theorem w_frames : about1.frames = Frame.invoking theMethod args0 :: below0 := rfl
set_option maxRecDepth 65536 in
theorem w_args : argsFit about1.vm theMethod args0 = true := by decide +kernel
set_option maxRecDepth 65536 in
theorem w_heap : heapFits about1 = true := by decide +kernel
set_option maxRecDepth 65536 in
theorem w_runnable : about1.curStatus? = some .runnable := by decide +kernel
set_option maxRecDepth 65536 in
theorem w_alone : about1.alone = true := by decide +kernel
set_option maxRecDepth 65536 in
theorem w_named : about1.methodNamed? x = some theMethod := by decide +kernel
set_option maxRecDepth 65536 in
theorem w_hears : about1.hears theMethod below0 = true := by decide +kernel
set_option maxRecDepth 65536 in
theorem w_ripe : about1.ripe theMethod args0 below0 = true := by decide +kernel
theorem w_running : about1.status = .running := rfl
set_option maxRecDepth 65536 in
theorem w_room : about1.hasRoom e0.platform room_1 = true :=
  launch0.hasRoom_least _ room_1 (by decide +kernel) (by decide +kernel) (by decide +kernel) (by decide +kernel) (by decide +kernel) (by decide +kernel)
theorem allAtoms_all (ts : List Jvm.Cond) (a : Array Jvm.Value) (st : Jvm.State) : (allAtoms ts).before a st = ts.all (fun c => c.before a st) := by
  induction ts with
  | nil => rfl
  | cons c t ih =>
    show (Jvm.Cond.and c (allAtoms t)).before a st = _
    rw [Jvm.Cond.before_and, ih, List.all_cons]
def words1 : List Jvm.Cond := Jvm.Cond.code x code maxLocals ret :: tables_1
/-- a 'code' word, met by the world's own term for the bytes: nothing is compared byte by byte -/
theorem code_word {y : MethodName} {bytes : ByteArray} {mx : Nat} {rt : Option FieldType} {a : Array Value} {s : State} {m : MethodId} {meth : Method} {c : Code} (h1 : s.methodNamed? y = some m) (h2 : s.vm.method? m = some meth) (h3 : meth.code = some c) (h4 : c.code = bytes)
    (h5 : (c.maxLocals == mx && c.exceptionTable.isEmpty && decide (c.maxStack ≤ mostOperands) && decide (meth.sig.returnType = rt) && !meth.locks && decide (parseMethodDescriptor y.desc = some meth.sig)) = true) : (Jvm.Cond.code y bytes mx rt).before a s = true := by
  simp only [Bool.and_eq_true, beq_iff_eq, Bool.not_eq_true', decide_eq_true_eq] at h5
  obtain ⟨⟨⟨⟨⟨g1, g2⟩, g3⟩, g4⟩, g5⟩, g6⟩ := h5
  simp [Cond.before, Cond.holds, Cond.value, h1, h2, h3, h4, g1, g2, g3, g4, g5, g6]
def isCode : Jvm.Cond → Bool
  | .code _ _ _ _ => true
  | _ => false
theorem all_split {L : List Jvm.Cond} {P : Jvm.Cond → Bool} (h1 : L.all (fun c => isCode c || P c) = true) (h2 : ∀ c ∈ L.filter isCode, P c = true) : L.all P = true := by
  refine List.all_eq_true.mpr fun c hc => ?_
  have h := List.all_eq_true.mp h1 c hc
  rcases Bool.eq_false_or_eq_true (isCode c) with hi | hi
  · exact h2 c (List.mem_filter.mpr ⟨hc, hi⟩)
  · simpa [hi] using h
set_option maxRecDepth 65536 in
theorem w_c0 : (Jvm.Cond.code x code maxLocals ret).before args0 about1 = true := code_word (m := ⟨1, 1⟩) (meth := k1m1) (c := k1c1) (by decide +kernel) rfl rfl rfl (by decide +kernel)
set_option maxRecDepth 65536 in
theorem w_c1 : (Jvm.Cond.code ({ cls := "com/example/refute/refute/core/KindIsNumberRestrictionPinLaw", name := "pick", desc := "(I)Lcom/example/refute/refute/core/Concept$Kind;" } : Jvm.MethodName) method_3_code (1 : Nat) (Option.some (Jvm.ClassFile.FieldType.object "com/example/refute/refute/core/Concept$Kind"))).before args0 about1 = true := code_word (m := ⟨1, 2⟩) (meth := k1m2) (c := k1c2) (by decide +kernel) rfl rfl rfl (by decide +kernel)
set_option maxRecDepth 65536 in
theorem w_c2 : (Jvm.Cond.code ({ cls := "com/example/refute/refute/core/Concept$Kind", name := "isNumberRestriction", desc := "()Z" } : Jvm.MethodName) prog_13_method_4_code (1 : Nat) (Option.some Jvm.ClassFile.FieldType.boolean)).before args0 about1 = true := code_word (m := ⟨6, 0⟩) (meth := k6m0) (c := k6c0) (by decide +kernel) rfl rfl rfl (by decide +kernel)
def codes1 : List Jvm.Cond := [Jvm.Cond.code x code maxLocals ret, Jvm.Cond.code ({ cls := "com/example/refute/refute/core/KindIsNumberRestrictionPinLaw", name := "pick", desc := "(I)Lcom/example/refute/refute/core/Concept$Kind;" } : Jvm.MethodName) method_3_code (1 : Nat) (Option.some (Jvm.ClassFile.FieldType.object "com/example/refute/refute/core/Concept$Kind")), Jvm.Cond.code ({ cls := "com/example/refute/refute/core/Concept$Kind", name := "isNumberRestriction", desc := "()Z" } : Jvm.MethodName) prog_13_method_4_code (1 : Nat) (Option.some Jvm.ClassFile.FieldType.boolean)]
set_option maxRecDepth 65536 in
theorem codes_eq : words1.filter isCode = codes1 := rfl
theorem w_codes : ∀ c ∈ words1.filter isCode, c.before args0 about1 = true := by
  rw [codes_eq]
  intro c hc
  simp only [codes1, List.mem_cons, List.not_mem_nil, or_false] at hc
  rcases hc with rfl | rfl | rfl
  · exact w_c0
  · exact w_c1
  · exact w_c2
set_option maxRecDepth 65536 in
theorem w_t1 : (words1.take 24).all (fun c => isCode c || c.before args0 about1) = true := by decide +kernel
set_option maxRecDepth 65536 in
theorem w_t2 : (words1.drop 24).all (fun c => isCode c || c.before args0 about1) = true := by decide +kernel
theorem w_tables : (allAtoms (Jvm.Cond.code x code maxLocals ret :: tables_1)).before args0 about1 = true := by
  rw [allAtoms_all]
  show words1.all (fun c => c.before args0 about1) = true
  refine all_split ?_ w_codes
  rw [← List.take_append_drop 24 words1, List.all_append, w_t1, w_t2]
  rfl
set_option maxRecDepth 65536 in
theorem w_case : (Jvm.Cond.and given_1 narrow_1).before args0 about1 = true := by decide +kernel
theorem w_applies : (headSpec (Jvm.Cond.code x code maxLocals ret :: tables_1) room_1).applies x e0.platform about1 = true :=
  (Spec.applies_iff w_frames).mpr ⟨w_running, w_runnable, w_alone, w_named, w_hears, w_ripe, w_room, w_tables⟩
theorem atStart : AtStart classFile x code maxLocals ret World_1 tables_1 room_1 Calls_1 rest_1 Pre_1 launch0 p0 e0 about1 theMethod args0 below0 :=
  ⟨lists_1, trivial, launch0.admits_env _ _ _, launch0.least_env, fairChoices_fair.cas, fairChoices_fair.clock, w_frames, w_args, w_heap, w_applies, trivial, trivial, w_case⟩
end start1
theorem witness_1 : WitnessClaimed_1 := ⟨start1.p0, start1.e0, start1.about1, start1.theMethod, start1.args0, start1.below0, start1.atStart⟩
end Jvm.Pilot.@@N@@
