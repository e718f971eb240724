import JvmDerived
import JvmDerived.Pilot.@@N@@Statement
import JvmDerived.Pilot.@@N@@Code
set_option linter.unusedVariables false
set_option linter.unusedSimpArgs false
namespace Jvm.RoadKit
open Sem ClassFile Op Lib Jvm.Stand Jvm.Free Jvm.LawKit
section New
variable {p : Program} {l : Launch} {e : Env} {R : Room} {s : State} {m : MethodId} {args : Array Value} {below : List Frame} {meth : Method} {c : Code} {T : State} {locs : List Loc} {cells slots : Nat}
theorem retI (X : Stand p l e R s m args below meth c T locs cells slots) (hx : p.tables.exec = Jvm.exec) {pc : Nat} {Ls : Array Slot} {z : Int32} {rest : List Value} (hret : meth.sig.returnType = some .int) (hd : decode c.code pc = .ok (.ireturn, 1)) {fs : List Frame}
    (hl : ∀ (f : JFrame) (acts : List Action), f.method = m → f.locked = none → f.entered = [] → (doReturn e (T.setTop f) acts (some (.int z))).1 = T.setFrames fs) : Steps p.tables e below (T.setTop (mkF m pc Ls (.int z :: rest))) (T.setFrames fs) := by
  have hm' : T.vm.method? m = some meth := X.method'
  have hn : narrow .int (.int z) = .int z := rfl
  show Steps p.tables e below (T.setTop { method := m, pc := pc, locals := Ls, stack := _ :: rest, locked := none }) _
  jvm_step X.here [X.here.top, hx, hd, hm', hret, hn]
  first | (intro acts; rw [hl _ acts rfl rfl rfl]) | rw [hl _ _ rfl rfl rfl]
  exact Steps.refl _
end New
end Jvm.RoadKit
namespace Jvm.Pilot.@@N@@
open Jvm Jvm.ClassFile Sem Op Lib Jvm.Free Jvm.Stand Jvm.LawKit Jvm.RoadKit Bundle Jvm.Pilot.@@N@@.Jvm.D
def own_b (c : Int32) : Int32 := nar .byte c.toInt8.toInt32
def own_wl (c : Int32) : Int32 := nar .byte (c >>> ((0 : Int32) &&& 31)).toInt8.toInt32
def own_wh (c : Int32) : Int32 := nar .byte (c >>> ((8 : Int32) &&& 31)).toInt8.toInt32
def own_nrw (cs : List Int32) : List Value := cs.map fun c => Value.int (own_b c)
def own_wide : List Int32 → List Value
  | [] => []
  | c :: r => .int (own_wl c) :: .int (own_wh c) :: own_wide r
def own_Cod (cs : List Int32) (cd z : Int32) (vs : List Value) : Prop := (cd = 0 ∧ z = Int32.ofNat cs.length ∧ vs = own_nrw cs ∧ ∀ c ∈ cs, ¬ (255 : Int32) < c) ∨ (cd = 1 ∧ z = Int32.ofNat (2 * cs.length) ∧ vs = own_wide cs)
def own_Chs (cs : List Int32) : Prop := (∀ c ∈ cs, ¬ c < (0 : Int32) ∧ ¬ (65535 : Int32) < c) ∧ cs.length < 1000
def own_Str (Z : State) (h : Heap) (x : Addr) (cs : List Int32) : Prop := ∃ (t : Addr) (k : ClassId) (cd z : Int32) (vs : List Value), Exa Z h x "java/lang/String" ∧ Fld Z h x "java/lang/String" "value" "[B" (.ref t) ∧ Fld Z h x "java/lang/String" "coder" "B" (.int cd) ∧ Arv Z h t k .byte z vs (.int (0 : Int32)) ∧ own_Cod cs cd z vs ∧ own_Chs cs
theorem own_Str.exa {Z : State} {h : Heap} {x : Addr} {cs : List Int32} (F : own_Str Z h x cs) : Exa Z h x "java/lang/String" := by obtain ⟨_, _, _, _, _, E, -⟩ := F; exact E
theorem own_Str.lt {Z : State} {h : Heap} {x : Addr} {cs : List Int32} (F : own_Str Z h x cs) : x < h.size := F.exa.lt
theorem own_Str.ext {Z : State} {h h' : Heap} {x : Addr} {cs : List Int32} (F : own_Str Z h x cs) (E : Ext h h') : own_Str Z h' x cs := by
  obtain ⟨t, k, cd, z, vs, e, f, g, a, r⟩ := F; exact ⟨t, k, cd, z, vs, e.ext E, f.ext E, g.ext E, a.ext E, r⟩
theorem own_Str.keep {Z : State} {h h' : Heap} {x : Addr} {cs : List Int32} {ws : List Addr} (F : own_Str Z h x cs) (K : Keep h h' ws) (q : ∀ w ∈ ws, h.size ≤ w) : own_Str Z h' x cs := by
  obtain ⟨t, k, cd, z, vs, e, f, g, a, r⟩ := F
  have n1 : x ∉ ws := fun hx => absurd e.lt (Nat.not_lt.mpr (q x hx))
  have n2 : t ∉ ws := fun hx => absurd a.lt (Nat.not_lt.mpr (q t hx))
  exact ⟨t, k, cd, z, vs, e.keep K, f.keep K n1, g.keep K n1, a.keep K n2, r⟩
theorem own_ofI {n : Nat} (h : n < 2 ^ 31) : (Int32.ofNat n).toInt = n := Int32.toInt_ofNat_of_lt h
theorem own_getb : ∀ (cs : List Int32) (j : Nat), j < cs.length → (own_nrw cs).getD j (.int (0 : Int32)) = .int (own_b (cs.getD j 0))
  | [], _, h => nomatch h
  | _ :: _, 0, _ => rfl
  | _ :: r, j + 1, h => own_getb r j (Nat.lt_of_succ_lt_succ h)
theorem own_getw : ∀ (cs : List Int32) (j : Nat), j < cs.length → (own_wide cs).getD (2 * j) (.int (0 : Int32)) = .int (own_wl (cs.getD j 0)) ∧ (own_wide cs).getD (2 * j + 1) (.int (0 : Int32)) = .int (own_wh (cs.getD j 0))
  | [], _, h => nomatch h
  | _ :: _, 0, _ => ⟨rfl, rfl⟩
  | _ :: r, j + 1, h => own_getw r j (Nat.lt_of_succ_lt_succ h)
theorem own_mem {cs : List Int32} {j : Nat} (h : j < cs.length) : cs.getD j 0 ∈ cs := by rw [List.getD_eq_getElem?_getD, List.getElem?_eq_getElem h]; exact List.getElem_mem h
theorem own_narc {c : Int32} (h : ¬ c < (0 : Int32) ∧ ¬ (65535 : Int32) < c) : nar .char c = c := by
  have q := c_i2c c
  have e0 : (0 : Int32).toInt = 0 := by decide
  have e1 : (65535 : Int32).toInt = 65535 := by decide
  simp only [Int32.lt_iff_toInt_lt] at h
  exact Int32.toInt_inj.mp (by show (c.toUInt32.toUInt16.toUInt32.toInt32).toInt = _; omega)
theorem own_rec8 {c : Int32} (h0 : ¬ c < (0 : Int32)) (h1 : ¬ (255 : Int32) < c) : nar .char (own_b c &&& (255 : Int32)).toUInt32.toUInt16.toUInt32.toInt32 = c := by
  have e0 : (0 : Int32).toInt = 0 := by decide
  have e1 : (255 : Int32).toInt = 255 := by decide
  simp only [Int32.lt_iff_toInt_lt] at h0 h1
  have a1 := c_i2b c
  have a2 := c_i2b c.toInt8.toInt32
  have a3 := c_mask (own_b c) 255 8 (by decide) (by decide)
  have e : own_b c = (c.toInt8.toInt32).toInt8.toInt32 := rfl
  rw [← e] at a2
  have a4 := c_i2c (own_b c &&& 255)
  have hh : (own_b c &&& (255 : Int32)).toUInt32.toUInt16.toUInt32.toInt32 = c := Int32.toInt_inj.mp (by omega)
  rw [hh]; exact own_narc ⟨by simp only [Int32.lt_iff_toInt_lt]; omega, by
    have e2 : (65535 : Int32).toInt = 65535 := by decide
    simp only [Int32.lt_iff_toInt_lt]; omega⟩
theorem own_len0 {n : Nat} (h : n < 1000) : Int32.ofNat n = Int32.ofNat n >>> ((0 : Int32) &&& 31) := by
  have a := c_ishr (Int32.ofNat n) 0 0 (by decide)
  exact Int32.toInt_inj.mp (by rw [a]; simp)
theorem own_len1 {n : Nat} (h : n < 1000) : Int32.ofNat n = Int32.ofNat (2 * n) >>> ((1 : Int32) &&& 31) := by
  have a := c_ishr (Int32.ofNat (2 * n)) 1 1 (by decide)
  exact Int32.toInt_inj.mp (by rw [a, own_ofI (by omega), own_ofI (by omega)]; omega)
theorem own_inr {i : Int32} {n : Nat} (h0 : ¬ i < 0) (h : i.toNatClampNeg < n) (hn : n < 1000) : i < Int32.ofNat n := by
  have := nat_of h0
  rw [Int32.lt_iff_toInt_lt, own_ofI (by omega)]; omega
theorem own_jin {i : Int32} {j : Nat} (hi : i = Int32.ofNat j) (hj : j < 2000) : ¬ i < (0 : Int32) ∧ i.toNatClampNeg = j := by
  subst hi
  have e0 : (0 : Int32).toInt = 0 := by decide
  have e := own_ofI (n := j) (by omega)
  simp only [Int32.lt_iff_toInt_lt, Int32.toNatClampNeg]; omega
theorem own_ofne {j n : Nat} (h : j < n) (hn : n < 1000) : ¬ Int32.ofNat j = Int32.ofNat n := fun q => by
  have e1 := own_ofI (n := j) (by omega)
  have e2 := own_ofI (n := n) (by omega)
  rw [q] at e1; omega
def own_St (Z : State) (zc : Int32) (fm : Value) : Prop := Sta Z Z.heap "java/lang/String" "COMPACT_STRINGS" "Z" (.int zc) ∧ ¬ zc = (0 : Int32) ∧ Sta Z Z.heap "jdk/internal/util/Preconditions" "SIOOBE_FORMATTER" "Ljava/util/function/BiFunction;" fm ∧ fm.isRef = true
def own_Nrw (Z : State) (h : Heap) (x : Addr) : Prop := ∀ (t : Addr) (cd : Int32), Fld Z h x "java/lang/String" "coder" "B" (.int cd) → ¬ cd = 1
theorem own_allc {P : Int32 → Prop} {c : Int32} {L : List Int32} (h : P c) (r : ∀ x ∈ L, P x) : ∀ x ∈ c :: L, P x := fun x hx => (List.mem_cons.mp hx).elim (fun u => u ▸ h) (r x)
theorem own_nrwOf {Z : State} {h : Heap} {x : Addr} (F : Fld Z h x "java/lang/String" "coder" "B" (.int (0 : Int32))) : ∀ (t : Addr) (cd : Int32), Fld Z h x "java/lang/String" "coder" "B" (.int cd) → ¬ cd = 1 := fun _ cd G e => by
  subst e
  obtain ⟨c1, _, _, _, _, h1, h2, -, -, -, -, h7⟩ := F
  obtain ⟨c2, _, _, _, _, g1, g2, -, -, -, -, g7⟩ := G
  cases h1.symm.trans g1; cases h2.symm.trans g2; cases h7.symm.trans g7
theorem own_Y (p0 : Int32) : 0 ≤ ((p0 &&& (2147483647 : Int32)) % (10000 : Int32)).toInt ∧ ((p0 &&& (2147483647 : Int32)) % (10000 : Int32)).toInt < 10000 := by
  have h1 := c_mask p0 2147483647 31 (by decide) (by decide)
  have h2 := (c_irem (p0 &&& 2147483647) 10000 10000 (by decide)).1 (by omega)
  omega
theorem own_i2c {x : Int32} (h : 0 ≤ x.toInt ∧ x.toInt < 65536) : x.toUInt32.toUInt16.toUInt32.toInt32.toUInt32.toUInt16.toUInt32.toInt32 = x := by
  have a := c_i2c x
  have b : x.toUInt32.toUInt16.toUInt32.toInt32 = x := Int32.toInt_inj.mp (by omega)
  rw [b, b]
theorem own_dig {x d : Int32} (h : 0 ≤ x.toInt ∧ x.toInt < 10) (hd : d = (((48 : Int32) + x).toUInt32.toUInt16.toUInt32.toInt32).toUInt32.toUInt16.toUInt32.toInt32) : d.toInt = 48 + x.toInt := by
  have a := c_iadd 48 x
  have r := rng32 (48 + x)
  have e : (48 : Int32).toInt = 48 := by decide
  have q : ((48 : Int32) + x).toInt = 48 + x.toInt := by omega
  rw [hd, own_i2c (by omega)]; exact q
theorem own_rd {d : Int32} {k : Int} (h : d.toInt = 48 + k) (h0 : 0 ≤ k) (h1 : k < 10) : (¬ d < (0 : Int32) ∧ ¬ (65535 : Int32) < d) ∧ ¬ (255 : Int32) < d ∧ (¬ d < (48 : Int32) ∧ ¬ (57 : Int32) < d) := by
  have e0 : (0 : Int32).toInt = 0 := by decide
  have e1 : (65535 : Int32).toInt = 65535 := by decide
  have e2 : (255 : Int32).toInt = 255 := by decide
  have e3 : (48 : Int32).toInt = 48 := by decide
  have e4 : (57 : Int32).toInt = 57 := by decide
  simp only [Int32.lt_iff_toInt_lt]; omega
theorem own_step {v d : Int32} {a k : Int} (hv : v.toInt = a) (hd : d.toInt = 48 + k) (ha : 0 ≤ a) (hb : a < 100000) (h0 : 0 ≤ k) (h1 : k < 10) : ((v * (10 : Int32)) + (d - (48 : Int32))).toInt = 10 * a + k := by
  have e3 : (48 : Int32).toInt = 48 := by decide
  have e4 : (10 : Int32).toInt = 10 := by decide
  have m := c_imul v 10
  rw [e4, hv] at m
  have r1 := rng32 (v * 10)
  have s := c_isub d 48
  have r2 := rng32 (d - 48)
  have t := c_iadd (v * 10) (d - 48)
  have r3 := rng32 ((v * 10) + (d - 48))
  omega
theorem pn_com_example_abeyance_abeyance_model_DatesParseYearPinLaw : plainName "com/example/abeyance/abeyance/model/DatesParseYearPinLaw" = true := by first | (simp [plainName, overriddenIn]; done) | decide +kernel
theorem pn_com_example_abeyance_abeyance_model_Dates : plainName "com/example/abeyance/abeyance/model/Dates" = true := by first | (simp [plainName, overriddenIn]; done) | decide +kernel
theorem pn_java_lang_StringUTF16 : plainName "java/lang/StringUTF16" = true := by first | (simp [plainName, overriddenIn]; done) | decide +kernel
theorem pn_java_lang_StringLatin1 : plainName "java/lang/StringLatin1" = true := by first | (simp [plainName, overriddenIn]; done) | decide +kernel
theorem pn_java_lang_String : plainName "java/lang/String" = true := by first | (simp [plainName, overriddenIn]; done) | decide +kernel
theorem pn_jdk_internal_util_Preconditions : plainName "jdk/internal/util/Preconditions" = true := by first | (simp [plainName, overriddenIn]; done) | decide +kernel
theorem ef_rmPre (m : MethodId) (p0 : Int32) (p1 : Int32) (fm : Value) (hfm : fm.isRef = true) : entryFrame m #[(.int p0), (.int p1), fm] 3 = mkF m 0 #[.val (.int p0), .val (.int p1), .val fm] [] := by rcases ref_cases hfm with rfl | ⟨z, rfl⟩ <;> first | (simp [entryFrame, mkF, argsToLocals, Value.category]; done) | rfl
theorem d14_0 : decode jdk_41_method_11_code 0 = .ok (.iload_n 0, 1) := by decide +kernel
theorem d14_1 : decode jdk_41_method_11_code 1 = .ok (.ifCond .lt 8, 3) := by decide +kernel
theorem d14_4 : decode jdk_41_method_11_code 4 = .ok (.iload_n 0, 1) := by decide +kernel
theorem d14_5 : decode jdk_41_method_11_code 5 = .ok (.iload_n 1, 1) := by decide +kernel
theorem d14_6 : decode jdk_41_method_11_code 6 = .ok (.if_icmp .lt 10, 3) := by decide +kernel
theorem d14_16 : decode jdk_41_method_11_code 16 = .ok (.iload_n 0, 1) := by decide +kernel
theorem d14_17 : decode jdk_41_method_11_code 17 = .ok (.ireturn, 1) := by decide +kernel
def Q_rmPre (Z : State) (p0 : Int32) (p1 : Int32) (fm : Value) (h0 : Heap) (n0 : Nat) (v : Option Value) (h : Heap) (L : List Loc) : Prop := v = some (.int p0) ∧ Fr n0 L ∧ h = h0
set_option maxRecDepth 65536 in
set_option maxHeartbeats 40000000 in
theorem rmPre (l : Launch) (Z : State) (a0 : Array Value) (hw : ∀ d ∈ tables_1, d.before a0 Z = true) (ws : List Jvm.Cond) (p0 : Int32) (p1 : Int32) (fm : Value) (h0 : Heap) (n0 : Nat) (Z0 : n0 ≤ h0.size) (hfm : fm.isRef = true) (h0_ : ¬ p0 < (0 : Int32)) (h1_ : p0 < p1) :
    MetFree l (⟨"jdk/internal/util/Preconditions", "checkIndex", "(IILjava/util/function/BiFunction;)I"⟩ : MethodName) (head1 (Jvm.Cond.code (⟨"jdk/internal/util/Preconditions", "checkIndex", "(IILjava/util/function/BiFunction;)I"⟩ : MethodName) jdk_41_method_11_code 3 (some .int) :: ws) ({ frames := 0, cells := 0, slots := 0, locals := 0 } : Room)) (fun a U => a = #[(.int p0), (.int p1), fm] ∧ Z.Warmed39 U.vm ∧ U.heap = h0) (fun _ _ _ _ _ => True) (fun _ U o U' => ∃ v L, o = .returned v ∧ Q_rmPre Z p0 p1 fm h0 n0 v U'.heap L ∧ FrameEnd U o U' L ({ frames := 0, cells := 0, slots := 0, locals := 0 } : Room).cells ({ frames := 0, cells := 0, slots := 0, locals := 0 } : Room).slots) := by
  refine MetFree.of_bodySF (plainFor_of_name pn_jdk_internal_util_Preconditions) hisR ?_
  intro p e s m args below meth c s₁ Bd hml0 hP hK
  obtain ⟨rfl, hZ, hh⟩ := hP
  have hx := Bd.exec
  have hby := Bd.bytes
  have hml : c.maxLocals = 3 := hml0
  have hown : s.vm.findClass "jdk/internal/util/Preconditions" = some m.cls := findClass_of_methodNamed Bd.named
  have hnm := (name_of_methodNamed Bd.named Bd.method).1
  have X0 : Stand p l e ({ frames := 0, cells := 0, slots := 0, locals := 0 } : Room) s m #[(.int p0), (.int p1), fm] below meth c s₁ [] 0 0 := Stand.of_body Bd
  have e0 : s₁.heap = h0 := by rw [← hh, Bd.state]; rfl
  have N0 := Fr.nil n0
  have pre0 : ∀ t, Steps p.tables e below (s₁.setTop (mkF m 0 #[.val (.int p0), .val (.int p1), .val fm] [])) t → Steps p.tables e below (s₁.setTop (entryFrame m #[(.int p0), (.int p1), fm] 3)) t := fun t k => castTop (ef_rmPre m p0 p1 fm hfm) k
  obtain ⟨fs, hr, hrun, hended, hW, hsame⟩ := X0.leave (v := some (.int p0)) (fun h => by rw [Bd.returns] at h; cases h)
  refine ⟨_, _, pre0 _ ?_, hrun, hended, _, _, rfl, ?_, ⟨_, rfl⟩, hW, hsame.mono (by decide) (by decide)⟩
  · show Steps p.tables e below (s₁.setTop (mkF m 0 #[.val (.int p0), .val (.int p1), .val fm] [])) _
    refine XS.iloadN X0.here hx rfl (hb hby d14_0) rfl  ?_
    show Steps p.tables e below (s₁.setTop (mkF m 1 #[.val (.int p0), .val (.int p1), .val fm] [(.int p0)])) _
    refine XS.ifNo X0.here hx rfl (hb hby d14_1) rfl ((if0 _ _).trans (flt h0_).1) ?_
    show Steps p.tables e below (s₁.setTop (mkF m 4 #[.val (.int p0), .val (.int p1), .val fm] [])) _
    refine XS.iloadN X0.here hx rfl (hb hby d14_4) rfl  ?_
    show Steps p.tables e below (s₁.setTop (mkF m 5 #[.val (.int p0), .val (.int p1), .val fm] [(.int p0)])) _
    refine XS.iloadN X0.here hx rfl (hb hby d14_5) rfl  ?_
    show Steps p.tables e below (s₁.setTop (mkF m 6 #[.val (.int p0), .val (.int p1), .val fm] [(.int p1), (.int p0)])) _
    refine XS.icmpYes X0.here hx rfl (pc0 := 6) (pc' := 16) rfl (hb hby d14_6) rfl (tlt h1_).1 (by decide) (by decide) ?_
    show Steps p.tables e below (s₁.setTop (mkF m 16 #[.val (.int p0), .val (.int p1), .val fm] [])) _
    refine XS.iloadN X0.here hx rfl (hb hby d14_16) rfl  ?_
    show Steps p.tables e below (s₁.setTop (mkF m 17 #[.val (.int p0), .val (.int p1), .val fm] [(.int p0)])) _
    exact retI X0 hx Bd.returns (hb hby d14_17) hr
  · show Q_rmPre Z p0 p1 fm h0 n0 _ s₁.heap _
    rw [e0]
    exact ⟨rfl, N0, rfl⟩
theorem ef_rmChk (m : MethodId) (p0 : Int32) (p1 : Int32) : entryFrame m #[(.int p0), (.int p1)] 2 = mkF m 0 #[.val (.int p0), .val (.int p1)] [] := by first | (simp [entryFrame, mkF, argsToLocals, Value.category]; done) | rfl
theorem d13_0 : decode jdk_42_method_155_code 0 = .ok (.iload_n 0, 1) := by decide +kernel
theorem d13_1 : decode jdk_42_method_155_code 1 = .ok (.iload_n 1, 1) := by decide +kernel
theorem d13_2 : decode jdk_42_method_155_code 2 = .ok (.getstatic 1053, 3) := by decide +kernel
theorem pd__IILjava_util_function_BiFunction__I : parseMethodDescriptor "(IILjava/util/function/BiFunction;)I" = some ⟨[.int, .int, (.object "java/util/function/BiFunction")], some .int⟩ := by decide +kernel
theorem d13_5 : decode jdk_42_method_155_code 5 = .ok (.invokestatic 1059, 3) := by decide +kernel
theorem d13_8 : decode jdk_42_method_155_code 8 = .ok (.pop, 1) := by decide +kernel
theorem d13_9 : decode jdk_42_method_155_code 9 = .ok (.return_, 1) := by decide +kernel
def Q_rmChk (Z : State) (p0 : Int32) (p1 : Int32) (zc : Int32) (fm : Value) (h0 : Heap) (n0 : Nat) (v : Option Value) (h : Heap) (L : List Loc) : Prop := v = none ∧ Fr n0 L ∧ h = h0
set_option maxRecDepth 65536 in
set_option maxHeartbeats 40000000 in
theorem rmChk (l : Launch) (Z : State) (a0 : Array Value) (hw : ∀ d ∈ tables_1, d.before a0 Z = true) (ws : List Jvm.Cond) (p0 : Int32) (p1 : Int32) (zc : Int32) (fm : Value) (h0 : Heap) (n0 : Nat) (Z0 : n0 ≤ h0.size) (hSt : own_St Z zc fm) (Ol : Old Z n0 h0) (h0_ : ¬ p0 < (0 : Int32)) (h1_ : p0 < p1) :
    MetFree l (⟨"java/lang/String", "checkIndex", "(II)V"⟩ : MethodName) (head1 (Jvm.Cond.code (⟨"java/lang/String", "checkIndex", "(II)V"⟩ : MethodName) jdk_42_method_155_code 2 none :: ws) ({ frames := 1, cells := 0, slots := 0, locals := 14 } : Room)) (fun a U => a = #[(.int p0), (.int p1)] ∧ Z.Warmed39 U.vm ∧ U.heap = h0) (fun _ _ _ _ _ => True) (fun _ U o U' => ∃ v L, o = .returned v ∧ Q_rmChk Z p0 p1 zc fm h0 n0 v U'.heap L ∧ FrameEnd U o U' L ({ frames := 1, cells := 0, slots := 0, locals := 14 } : Room).cells ({ frames := 1, cells := 0, slots := 0, locals := 14 } : Room).slots) := by
  refine MetFree.of_bodySF (plainFor_of_name pn_java_lang_String) hisR ?_
  intro p e s m args below meth c s₁ Bd hml0 hP hK
  obtain ⟨rfl, hZ, hh⟩ := hP
  have hx := Bd.exec
  have hby := Bd.bytes
  have hml : c.maxLocals = 2 := hml0
  have hown : s.vm.findClass "java/lang/String" = some m.cls := findClass_of_methodNamed Bd.named
  have hnm := (name_of_methodNamed Bd.named Bd.method).1
  have X0 : Stand p l e ({ frames := 1, cells := 0, slots := 0, locals := 14 } : Room) s m #[(.int p0), (.int p1)] below meth c s₁ [] 0 0 := Stand.of_body Bd
  have e0 : s₁.heap = h0 := by rw [← hh, Bd.state]; rfl
  have N0 := Fr.nil n0
  have pre0 : ∀ t, Steps p.tables e below (s₁.setTop (mkF m 0 #[.val (.int p0), .val (.int p1)] [])) t → Steps p.tables e below (s₁.setTop (entryFrame m #[(.int p0), (.int p1)] 2)) t := fun t k => castTop (ef_rmChk m p0 p1 ) k
  obtain ⟨T1, X1, e1, st1⟩ := getS2 X0 hx hZ hown (host := "") (Or.inl (hw _ (List.mem_of_getElem? (i := 69) rfl))) Via.refl e0 (hSt.2.2.1.ext Ol.2) (g := (mkF m 2 #[.val (.int p0), .val (.int p1)] [(.int p1), (.int p0)])) rfl (hb hby d13_2)
  obtain ⟨_, _, ⟨T2, L2, k2, n2⟩, -, X2, ⟨Lc2, hQ2, l2, y2, z2⟩, st2⟩ := Jvm.LawKit.callS X1 hx (y := (⟨"jdk/internal/util/Preconditions", "checkIndex", "(IILjava/util/function/BiFunction;)I"⟩ : MethodName)) hown (mvT hZ (hw _ (List.mem_of_getElem? (i := 71) rfl))) (mvT hZ (hw _ (List.mem_of_getElem? (i := 72) rfl))) (mvT hZ (hw _ (List.mem_of_getElem? (i := 70) rfl))) (mvT hZ (hw _ (List.mem_of_getElem? (i := 73) rfl))) (by decide) (backOf (W := 0) (rmPre l Z a0 hw [] p0 p1 fm h0 n0 Z0 hSt.2.2.2 h0_ h1_) hZ (hw _ (List.mem_of_getElem? (i := 73) rfl)) (hw _ (List.mem_of_getElem? (i := 70) rfl)) (by decide) (by decide)) (g := (mkF m 5 #[.val (.int p0), .val (.int p1)] [fm, (.int p1), (.int p0)])) rfl (by rw [hml]; rfl) (argsL := [(.int p0), (.int p1), fm]) (rest := []) (lenOf pd__IILjava_util_function_BiFunction__I rfl) rfl (by show 2 * 0 + _ ≤ _; exact Nat.le_of_eq rfl) (hb hby d13_5) (fun _ _ => ⟨rfl, e1, (by decide : 0 + 0 ≤ _), (by decide : 0 + 0 ≤ _)⟩)
  dsimp only [Pt.U, Pt.locs, Pt.cells, Pt.slots] at X2 l2 y2 z2 st2 hQ2
  subst l2 y2 z2
  obtain ⟨rfl, Nq2, e2⟩ := hQ2
  have N2 := Fr.app N0 Nq2
  obtain ⟨fs, hr, hrun, hended, hW, hsame⟩ := X2.leave (v := none) (fun _ => rfl)
  refine ⟨_, _, pre0 _ ?_, hrun, hended, _, _, rfl, ?_, ⟨_, rfl⟩, hW, hsame.mono (by decide) (by decide)⟩
  · show Steps p.tables e below (s₁.setTop (mkF m 0 #[.val (.int p0), .val (.int p1)] [])) _
    refine XS.iloadN X0.here hx rfl (hb hby d13_0) rfl  ?_
    show Steps p.tables e below (s₁.setTop (mkF m 1 #[.val (.int p0), .val (.int p1)] [(.int p0)])) _
    refine XS.iloadN X0.here hx rfl (hb hby d13_1) rfl  ?_
    show Steps p.tables e below (s₁.setTop (mkF m 2 #[.val (.int p0), .val (.int p1)] [(.int p1), (.int p0)])) _
    refine st1 _ ?_
    show Steps p.tables e below (T1.setTop (mkF m 5 #[.val (.int p0), .val (.int p1)] [fm, (.int p1), (.int p0)])) _
    refine st2 _ ?_
    show Steps p.tables e below (T2.setTop (mkF m 8 #[.val (.int p0), .val (.int p1)] [(.int p0)])) _
    refine XS.pop X2.here hx rfl (hb hby d13_8) rfl rfl ?_
    show Steps p.tables e below (T2.setTop (mkF m 9 #[.val (.int p0), .val (.int p1)] [])) _
    exact X2.returnOut hx Bd.returns (hb hby d13_9) hr
  · show Q_rmChk Z p0 p1 zc fm h0 n0 _ T2.heap _
    rw [e2]
    exact ⟨rfl, N2, rfl⟩
theorem ef_rmCoder (m : MethodId) (p0 : Addr) : entryFrame m #[(.ref p0)] 1 = mkF m 0 #[.val (.ref p0)] [] := by first | (simp [entryFrame, mkF, argsToLocals, Value.category]; done) | rfl
theorem d9_0 : decode jdk_42_method_152_code 0 = .ok (.getstatic 38, 3) := by decide +kernel
theorem d9_3 : decode jdk_42_method_152_code 3 = .ok (.ifCond .eq 10, 3) := by decide +kernel
theorem d9_6 : decode jdk_42_method_152_code 6 = .ok (.aload_n 0, 1) := by decide +kernel
theorem d9_7 : decode jdk_42_method_152_code 7 = .ok (.getfield 15, 3) := by decide +kernel
theorem d9_10 : decode jdk_42_method_152_code 10 = .ok (.goto 4, 3) := by decide +kernel
theorem d9_14 : decode jdk_42_method_152_code 14 = .ok (.ireturn, 1) := by decide +kernel
def Q_rmCoder (Z : State) (p0 : Addr) (zc : Int32) (fm : Value) (cd : Int32) (h0 : Heap) (n0 : Nat) (v : Option Value) (h : Heap) (L : List Loc) : Prop := v = some (.int cd) ∧ Fr n0 L ∧ h = h0
set_option maxRecDepth 65536 in
set_option maxHeartbeats 40000000 in
theorem rmCoder (l : Launch) (Z : State) (a0 : Array Value) (hw : ∀ d ∈ tables_1, d.before a0 Z = true) (ws : List Jvm.Cond) (p0 : Addr) (zc : Int32) (fm : Value) (cd : Int32) (h0 : Heap) (n0 : Nat) (Z0 : n0 ≤ h0.size) (hSt : own_St Z zc fm) (Ol : Old Z n0 h0) (Fc : Fld Z h0 p0 "java/lang/String" "coder" "B" (.int cd)) (hcd : nar .byte cd = cd) :
    MetFree l (⟨"java/lang/String", "coder", "()B"⟩ : MethodName) (head1 (Jvm.Cond.code (⟨"java/lang/String", "coder", "()B"⟩ : MethodName) jdk_42_method_152_code 1 (some .byte) :: ws) ({ frames := 0, cells := 0, slots := 0, locals := 0 } : Room)) (fun a U => a = #[(.ref p0)] ∧ Z.Warmed39 U.vm ∧ U.heap = h0) (fun _ _ _ _ _ => True) (fun _ U o U' => ∃ v L, o = .returned v ∧ Q_rmCoder Z p0 zc fm cd h0 n0 v U'.heap L ∧ FrameEnd U o U' L ({ frames := 0, cells := 0, slots := 0, locals := 0 } : Room).cells ({ frames := 0, cells := 0, slots := 0, locals := 0 } : Room).slots) := by
  refine MetFree.of_bodySF (plainFor_of_name pn_java_lang_String) hisR ?_
  intro p e s m args below meth c s₁ Bd hml0 hP hK
  obtain ⟨rfl, hZ, hh⟩ := hP
  have hx := Bd.exec
  have hby := Bd.bytes
  have hml : c.maxLocals = 1 := hml0
  have hown : s.vm.findClass "java/lang/String" = some m.cls := findClass_of_methodNamed Bd.named
  have hnm := (name_of_methodNamed Bd.named Bd.method).1
  have X0 : Stand p l e ({ frames := 0, cells := 0, slots := 0, locals := 0 } : Room) s m #[(.ref p0)] below meth c s₁ [] 0 0 := Stand.of_body Bd
  have e0 : s₁.heap = h0 := by rw [← hh, Bd.state]; rfl
  have N0 := Fr.nil n0
  have pre0 : ∀ t, Steps p.tables e below (s₁.setTop (mkF m 0 #[.val (.ref p0)] [])) t → Steps p.tables e below (s₁.setTop (entryFrame m #[(.ref p0)] 1)) t := fun t k => castTop (ef_rmCoder m p0 ) k
  obtain ⟨T1, X1, e1, st1⟩ := getS2 X0 hx hZ hown (host := "") (Or.inl (hw _ (List.mem_of_getElem? (i := 15) rfl))) Via.refl e0 (hSt.1.ext Ol.2) (g := (mkF m 0 #[.val (.ref p0)] [])) rfl (hb hby d9_0)
  obtain ⟨T2, X2, e2, st2⟩ := getF X1 hx hZ hown (host := "") (Or.inl (hw _ (List.mem_of_getElem? (i := 27) rfl))) Via.refl e1 Fc (g := (mkF m 7 #[.val (.ref p0)] [(.ref p0)])) rfl rfl (hb hby d9_7)
  obtain ⟨fs, hr, hrun, hended, hW, hsame⟩ := X2.leave (v := some (.int (nar .byte cd))) (fun h => by rw [Bd.returns] at h; cases h)
  refine ⟨_, _, pre0 _ ?_, hrun, hended, _, _, rfl, ?_, ⟨_, rfl⟩, hW, hsame.mono (by decide) (by decide)⟩
  · show Steps p.tables e below (s₁.setTop (mkF m 0 #[.val (.ref p0)] [])) _
    refine st1 _ ?_
    show Steps p.tables e below (T1.setTop (mkF m 3 #[.val (.ref p0)] [(.int zc)])) _
    refine XS.ifNo X1.here hx rfl (hb hby d9_3) rfl ((if0 _ _).trans (feq hSt.2.1).1) ?_
    show Steps p.tables e below (T1.setTop (mkF m 6 #[.val (.ref p0)] [])) _
    refine XS.aloadN X1.here hx rfl (hb hby d9_6) rfl rfl ?_
    show Steps p.tables e below (T1.setTop (mkF m 7 #[.val (.ref p0)] [(.ref p0)])) _
    refine st2 _ ?_
    show Steps p.tables e below (T2.setTop (mkF m 10 #[.val (.ref p0)] [(.int cd)])) _
    refine XS.goto X2.here hx rfl (pc0 := 10) (pc' := 14) rfl (hb hby d9_10) (by decide) (by decide) ?_
    show Steps p.tables e below (T2.setTop (mkF m 14 #[.val (.ref p0)] [(.int cd)])) _
    exact retN X2 hx (t := .byte) Bd.returns (by simp) (hb hby d9_14) hr
  · show Q_rmCoder Z p0 zc fm cd h0 n0 _ T2.heap _
    rw [e2]
    exact ⟨by rw [hcd], N0, rfl⟩
theorem ef_rmLat (m : MethodId) (p0 : Addr) : entryFrame m #[(.ref p0)] 1 = mkF m 0 #[.val (.ref p0)] [] := by first | (simp [entryFrame, mkF, argsToLocals, Value.category]; done) | rfl
theorem d11_0 : decode jdk_42_method_154_code 0 = .ok (.getstatic 38, 3) := by decide +kernel
theorem d11_3 : decode jdk_42_method_154_code 3 = .ok (.ifCond .eq 14, 3) := by decide +kernel
theorem d11_6 : decode jdk_42_method_154_code 6 = .ok (.aload_n 0, 1) := by decide +kernel
theorem d11_7 : decode jdk_42_method_154_code 7 = .ok (.getfield 15, 3) := by decide +kernel
theorem d11_10 : decode jdk_42_method_154_code 10 = .ok (.ifCond .ne 7, 3) := by decide +kernel
theorem d11_13 : decode jdk_42_method_154_code 13 = .ok (.iconst 1, 1) := by decide +kernel
theorem d11_14 : decode jdk_42_method_154_code 14 = .ok (.goto 4, 3) := by decide +kernel
theorem d11_18 : decode jdk_42_method_154_code 18 = .ok (.ireturn, 1) := by decide +kernel
theorem d11_17 : decode jdk_42_method_154_code 17 = .ok (.iconst 0, 1) := by decide +kernel
def Q_rmLat (Z : State) (p0 : Addr) (zc : Int32) (fm : Value) (cd : Int32) (r : Int32) (h0 : Heap) (n0 : Nat) (v : Option Value) (h : Heap) (L : List Loc) : Prop := v = some (.int r) ∧ Fr n0 L ∧ h = h0
set_option maxRecDepth 65536 in
set_option maxHeartbeats 40000000 in
theorem rmLat (l : Launch) (Z : State) (a0 : Array Value) (hw : ∀ d ∈ tables_1, d.before a0 Z = true) (ws : List Jvm.Cond) (p0 : Addr) (zc : Int32) (fm : Value) (cd : Int32) (r : Int32) (h0 : Heap) (n0 : Nat) (Z0 : n0 ≤ h0.size) (hSt : own_St Z zc fm) (Ol : Old Z n0 h0) (Fc : Fld Z h0 p0 "java/lang/String" "coder" "B" (.int cd)) (hres : r = if cd = 0 then 1 else 0) :
    MetFree l (⟨"java/lang/String", "isLatin1", "()Z"⟩ : MethodName) (head1 (Jvm.Cond.code (⟨"java/lang/String", "isLatin1", "()Z"⟩ : MethodName) jdk_42_method_154_code 1 (some .boolean) :: ws) ({ frames := 0, cells := 0, slots := 0, locals := 0 } : Room)) (fun a U => a = #[(.ref p0)] ∧ Z.Warmed39 U.vm ∧ U.heap = h0) (fun _ _ _ _ _ => True) (fun _ U o U' => ∃ v L, o = .returned v ∧ Q_rmLat Z p0 zc fm cd r h0 n0 v U'.heap L ∧ FrameEnd U o U' L ({ frames := 0, cells := 0, slots := 0, locals := 0 } : Room).cells ({ frames := 0, cells := 0, slots := 0, locals := 0 } : Room).slots) := by
  refine MetFree.of_bodySF (plainFor_of_name pn_java_lang_String) hisR ?_
  intro p e s m args below meth c s₁ Bd hml0 hP hK
  obtain ⟨rfl, hZ, hh⟩ := hP
  have hx := Bd.exec
  have hby := Bd.bytes
  have hml : c.maxLocals = 1 := hml0
  have hown : s.vm.findClass "java/lang/String" = some m.cls := findClass_of_methodNamed Bd.named
  have hnm := (name_of_methodNamed Bd.named Bd.method).1
  have X0 : Stand p l e ({ frames := 0, cells := 0, slots := 0, locals := 0 } : Room) s m #[(.ref p0)] below meth c s₁ [] 0 0 := Stand.of_body Bd
  have e0 : s₁.heap = h0 := by rw [← hh, Bd.state]; rfl
  have N0 := Fr.nil n0
  have pre0 : ∀ t, Steps p.tables e below (s₁.setTop (mkF m 0 #[.val (.ref p0)] [])) t → Steps p.tables e below (s₁.setTop (entryFrame m #[(.ref p0)] 1)) t := fun t k => castTop (ef_rmLat m p0 ) k
  obtain ⟨T1, X1, e1, st1⟩ := getS2 X0 hx hZ hown (host := "") (Or.inl (hw _ (List.mem_of_getElem? (i := 15) rfl))) Via.refl e0 (hSt.1.ext Ol.2) (g := (mkF m 0 #[.val (.ref p0)] [])) rfl (hb hby d11_0)
  obtain ⟨T2, X2, e2, st2⟩ := getF X1 hx hZ hown (host := "") (Or.inl (hw _ (List.mem_of_getElem? (i := 27) rfl))) Via.refl e1 Fc (g := (mkF m 7 #[.val (.ref p0)] [(.ref p0)])) rfl rfl (hb hby d11_7)
  have pre4 : ∀ t, Steps p.tables e below (T2.setTop (mkF m 10 #[.val (.ref p0)] [(.int cd)])) t → Steps p.tables e below (s₁.setTop (entryFrame m #[(.ref p0)] 1)) t := fun t kt => pre0 t (by
    show Steps p.tables e below (s₁.setTop (mkF m 0 #[.val (.ref p0)] [])) _
    refine st1 _ ?_
    show Steps p.tables e below (T1.setTop (mkF m 3 #[.val (.ref p0)] [(.int zc)])) _
    refine XS.ifNo X1.here hx rfl (hb hby d11_3) rfl ((if0 _ _).trans (feq hSt.2.1).1) ?_
    show Steps p.tables e below (T1.setTop (mkF m 6 #[.val (.ref p0)] [])) _
    refine XS.aloadN X1.here hx rfl (hb hby d11_6) rfl rfl ?_
    show Steps p.tables e below (T1.setTop (mkF m 7 #[.val (.ref p0)] [(.ref p0)])) _
    refine st2 _ ?_
    exact kt)
  by_cases hc10_3 : cd = (0 : Int32)
  · obtain ⟨fs, hr, hrun, hended, hW, hsame⟩ := X2.leave (v := some (.int (1 : Int32))) (fun h => by rw [Bd.returns] at h; cases h)
    refine ⟨_, _, pre4 _ ?_, hrun, hended, _, _, rfl, ?_, ⟨_, rfl⟩, hW, hsame.mono (by decide) (by decide)⟩
    · show Steps p.tables e below (T2.setTop (mkF m 10 #[.val (.ref p0)] [(.int cd)])) _
      refine XS.ifNo X2.here hx rfl (hb hby d11_10) rfl ((if0 _ _).trans (teq hc10_3).2) ?_
      show Steps p.tables e below (T2.setTop (mkF m 13 #[.val (.ref p0)] [])) _
      refine XS.iconst X2.here hx rfl (hb hby d11_13) ?_
      show Steps p.tables e below (T2.setTop (mkF m 14 #[.val (.ref p0)] [(.int (1 : Int32))])) _
      refine XS.goto X2.here hx rfl (pc0 := 14) (pc' := 18) rfl (hb hby d11_14) (by decide) (by decide) ?_
      show Steps p.tables e below (T2.setTop (mkF m 18 #[.val (.ref p0)] [(.int (1 : Int32))])) _
      exact retN X2 hx (t := .boolean) Bd.returns (by simp) (hb hby d11_18) hr
    · show Q_rmLat Z p0 zc fm cd r h0 n0 _ T2.heap _
      rw [e2]
      exact ⟨by rw [hres, if_pos hc10_3], N0, rfl⟩
  · obtain ⟨fs, hr, hrun, hended, hW, hsame⟩ := X2.leave (v := some (.int (0 : Int32))) (fun h => by rw [Bd.returns] at h; cases h)
    refine ⟨_, _, pre4 _ ?_, hrun, hended, _, _, rfl, ?_, ⟨_, rfl⟩, hW, hsame.mono (by decide) (by decide)⟩
    · show Steps p.tables e below (T2.setTop (mkF m 10 #[.val (.ref p0)] [(.int cd)])) _
      refine XS.ifYes X2.here hx rfl (pc0 := 10) (pc' := 17) rfl (hb hby d11_10) rfl ((if0 _ _).trans (feq hc10_3).2) (by decide) (by decide) ?_
      show Steps p.tables e below (T2.setTop (mkF m 17 #[.val (.ref p0)] [])) _
      refine XS.iconst X2.here hx rfl (hb hby d11_17) ?_
      show Steps p.tables e below (T2.setTop (mkF m 18 #[.val (.ref p0)] [(.int (0 : Int32))])) _
      exact retN X2 hx (t := .boolean) Bd.returns (by simp) (hb hby d11_18) hr
    · show Q_rmLat Z p0 zc fm cd r h0 n0 _ T2.heap _
      rw [e2]
      exact ⟨by rw [hres, if_neg hc10_3], N0, rfl⟩
theorem ef_rmLen (m : MethodId) (p0 : Addr) : entryFrame m #[(.ref p0)] 1 = mkF m 0 #[.val (.ref p0)] [] := by first | (simp [entryFrame, mkF, argsToLocals, Value.category]; done) | rfl
theorem d8_0 : decode jdk_42_method_54_code 0 = .ok (.aload_n 0, 1) := by decide +kernel
theorem d8_1 : decode jdk_42_method_54_code 1 = .ok (.getfield 9, 3) := by decide +kernel
theorem d8_4 : decode jdk_42_method_54_code 4 = .ok (.arraylength, 1) := by decide +kernel
theorem d8_5 : decode jdk_42_method_54_code 5 = .ok (.aload_n 0, 1) := by decide +kernel
theorem pd___B : parseMethodDescriptor "()B" = some ⟨[], some .byte⟩ := by decide +kernel
theorem d8_6 : decode jdk_42_method_54_code 6 = .ok (.invokevirtual 335, 3) := by decide +kernel
theorem d8_9 : decode jdk_42_method_54_code 9 = .ok (.ishr, 1) := by decide +kernel
theorem d8_10 : decode jdk_42_method_54_code 10 = .ok (.ireturn, 1) := by decide +kernel
def Q_rmLen (Z : State) (p0 : Addr) (zc : Int32) (fm : Value) (cs : List Int32) (r : Int32) (h0 : Heap) (n0 : Nat) (v : Option Value) (h : Heap) (L : List Loc) : Prop := v = some (.int r) ∧ Fr n0 L ∧ h = h0
set_option maxRecDepth 65536 in
set_option maxHeartbeats 40000000 in
theorem rmLen (l : Launch) (Z : State) (a0 : Array Value) (hw : ∀ d ∈ tables_1, d.before a0 Z = true) (ws : List Jvm.Cond) (p0 : Addr) (zc : Int32) (fm : Value) (cs : List Int32) (r : Int32) (h0 : Heap) (n0 : Nat) (Z0 : n0 ≤ h0.size) (hSt : own_St Z zc fm) (Ol : Old Z n0 h0) (hS : own_Str Z h0 p0 cs) (hnw : own_Nrw Z h0 p0) (hres : r = Int32.ofNat cs.length) :
    MetFree l (⟨"java/lang/String", "length", "()I"⟩ : MethodName) (head1 (Jvm.Cond.code (⟨"java/lang/String", "length", "()I"⟩ : MethodName) jdk_42_method_54_code 1 (some .int) :: ws) ({ frames := 1, cells := 0, slots := 0, locals := 13 } : Room)) (fun a U => a = #[(.ref p0)] ∧ Z.Warmed39 U.vm ∧ U.heap = h0) (fun _ _ _ _ _ => True) (fun _ U o U' => ∃ v L, o = .returned v ∧ Q_rmLen Z p0 zc fm cs r h0 n0 v U'.heap L ∧ FrameEnd U o U' L ({ frames := 1, cells := 0, slots := 0, locals := 13 } : Room).cells ({ frames := 1, cells := 0, slots := 0, locals := 13 } : Room).slots) := by
  refine MetFree.of_bodySF (plainFor_of_name pn_java_lang_String) hisR ?_
  intro p e s m args below meth c s₁ Bd hml0 hP hK
  obtain ⟨rfl, hZ, hh⟩ := hP
  have hx := Bd.exec
  have hby := Bd.bytes
  have hml : c.maxLocals = 1 := hml0
  have hown : s.vm.findClass "java/lang/String" = some m.cls := findClass_of_methodNamed Bd.named
  have hnm := (name_of_methodNamed Bd.named Bd.method).1
  have X0 : Stand p l e ({ frames := 1, cells := 0, slots := 0, locals := 13 } : Room) s m #[(.ref p0)] below meth c s₁ [] 0 0 := Stand.of_body Bd
  have e0 : s₁.heap = h0 := by rw [← hh, Bd.state]; rfl
  have N0 := Fr.nil n0
  have pre0 : ∀ t, Steps p.tables e below (s₁.setTop (mkF m 0 #[.val (.ref p0)] [])) t → Steps p.tables e below (s₁.setTop (entryFrame m #[(.ref p0)] 1)) t := fun t k => castTop (ef_rmLen m p0 ) k
  obtain ⟨t, k, cd, z, vs, E0, Fv, Fc, A0, hcod, hch, hln⟩ := hS
  obtain ⟨rfl, rfl, rfl, hle⟩ := hcod.resolve_right (fun q => hnw t cd Fc q.1)
  obtain ⟨T1, X1, e1, st1⟩ := getF X0 hx hZ hown (host := "") (Or.inl (hw _ (List.mem_of_getElem? (i := 29) rfl))) Via.refl e0 Fv (g := (mkF m 1 #[.val (.ref p0)] [(.ref p0)])) rfl rfl (hb hby d8_1)
  obtain ⟨cl2, Ar2, -, S2, N2, -, -⟩ := id A0
  obtain ⟨cq3, kq3, q3a, q3b, q3c⟩ := isOf hZ e1 E0
  obtain ⟨_, _, ⟨T3, L3, k3, n3⟩, -, X3, ⟨Lc3, hQ3, l3, y3, z3⟩, st3⟩ := X1.virtualBack hx (y := (⟨"java/lang/String", "coder", "()B"⟩ : MethodName)) (z := (⟨"java/lang/String", "coder", "()B"⟩ : MethodName)) hown (mvT hZ (hw _ (List.mem_of_getElem? (i := 44) rfl))) (mvT hZ (hw _ (List.mem_of_getElem? (i := 45) rfl))) (notFace_of_selects (args := #[]) (mvT hZ (hw _ (List.mem_of_getElem? (i := 47) rfl)))) (mvT hZ (hw _ (List.mem_of_getElem? (i := 47) rfl))) (mvT hZ (hw _ (List.mem_of_getElem? (i := 46) rfl))) (by decide) (backOf (W := 1) (rmCoder l Z a0 hw [] p0 zc fm (0 : Int32) h0 n0 Z0 hSt Ol Fc (by decide)) hZ (hw _ (List.mem_of_getElem? (i := 48) rfl)) (hw _ (List.mem_of_getElem? (i := 4) rfl)) (by decide) (by decide)) q3a q3c (g := (mkF m 6 #[.val (.ref p0)] [(.ref p0), (.int (Int32.ofNat cs.length))])) rfl (by rw [hml]; rfl) (Steps.refl _) (argsL := []) (rest := [(.int (Int32.ofNat cs.length))]) (lenOf pd___B rfl) rfl (by show 2 * 0 + _ ≤ _; exact Nat.le_of_eq rfl) (hb hby d8_6) (fun _ _ => ⟨rfl, e1, (by decide : 0 + 0 ≤ _), (by decide : 0 + 0 ≤ _)⟩)
  dsimp only [Pt.U, Pt.locs, Pt.cells, Pt.slots] at X3 l3 y3 z3 st3 hQ3
  subst l3 y3 z3
  obtain ⟨rfl, Nq3, e3⟩ := hQ3
  have N3 := Fr.app N0 Nq3
  obtain ⟨fs, hr, hrun, hended, hW, hsame⟩ := X3.leave (v := some (.int ((Int32.ofNat cs.length) >>> ((0 : Int32) &&& 31)))) (fun h => by rw [Bd.returns] at h; cases h)
  refine ⟨_, _, pre0 _ ?_, hrun, hended, _, _, rfl, ?_, ⟨_, rfl⟩, hW, hsame.mono (by decide) (by decide)⟩
  · show Steps p.tables e below (s₁.setTop (mkF m 0 #[.val (.ref p0)] [])) _
    refine XS.aloadN X0.here hx rfl (hb hby d8_0) rfl rfl ?_
    show Steps p.tables e below (s₁.setTop (mkF m 1 #[.val (.ref p0)] [(.ref p0)])) _
    refine st1 _ ?_
    show Steps p.tables e below (T1.setTop (mkF m 4 #[.val (.ref p0)] [(.ref t)])) _
    refine X1.arraylength hx (by rw [e1]; exact Ar2.1) (State.isArrayOf_alike hZ.alike Ar2.2.1) (g := (mkF m 4 #[.val (.ref p0)] [(.ref t)])) rfl rfl (hb hby d8_4) _ ?_
    rw [len_of S2 N2]
    show Steps p.tables e below (T1.setTop (mkF m 5 #[.val (.ref p0)] [(.int (Int32.ofNat cs.length))])) _
    refine XS.aloadN X1.here hx rfl (hb hby d8_5) rfl rfl ?_
    show Steps p.tables e below (T1.setTop (mkF m 6 #[.val (.ref p0)] [(.ref p0), (.int (Int32.ofNat cs.length))])) _
    refine st3.trans ?_
    show Steps p.tables e below (T3.setTop (mkF m 9 #[.val (.ref p0)] [(.int (0 : Int32)), (.int (Int32.ofNat cs.length))])) _
    refine XS.ishr X3.here hx rfl (hb hby d8_9) rfl ?_
    show Steps p.tables e below (T3.setTop (mkF m 10 #[.val (.ref p0)] [(.int ((Int32.ofNat cs.length) >>> ((0 : Int32) &&& 31)))])) _
    exact retI X3 hx Bd.returns (hb hby d8_10) hr
  · show Q_rmLen Z p0 zc fm cs r h0 n0 _ T3.heap _
    rw [e3]
    exact ⟨by rw [hres, ← own_len0 hln], N3, rfl⟩
theorem ef_rmLCh (m : MethodId) (p0 : Addr) (p1 : Int32) : entryFrame m #[(.ref p0), (.int p1)] 2 = mkF m 0 #[.val (.ref p0), .val (.int p1)] [] := by first | (simp [entryFrame, mkF, argsToLocals, Value.category]; done) | rfl
theorem d12_0 : decode jdk_43_method_2_code 0 = .ok (.iload_n 1, 1) := by decide +kernel
theorem d12_1 : decode jdk_43_method_2_code 1 = .ok (.aload_n 0, 1) := by decide +kernel
theorem d12_2 : decode jdk_43_method_2_code 2 = .ok (.arraylength, 1) := by decide +kernel
theorem pd__II_V : parseMethodDescriptor "(II)V" = some ⟨[.int, .int], none⟩ := by decide +kernel
theorem d12_3 : decode jdk_43_method_2_code 3 = .ok (.invokestatic 9, 3) := by decide +kernel
theorem d12_6 : decode jdk_43_method_2_code 6 = .ok (.aload_n 0, 1) := by decide +kernel
theorem d12_7 : decode jdk_43_method_2_code 7 = .ok (.iload_n 1, 1) := by decide +kernel
theorem d12_8 : decode jdk_43_method_2_code 8 = .ok (.baload, 1) := by decide +kernel
theorem d12_9 : decode jdk_43_method_2_code 9 = .ok (.sipush 255, 3) := by decide +kernel
theorem d12_12 : decode jdk_43_method_2_code 12 = .ok (.iand, 1) := by decide +kernel
theorem d12_13 : decode jdk_43_method_2_code 13 = .ok (.i2c, 1) := by decide +kernel
theorem d12_14 : decode jdk_43_method_2_code 14 = .ok (.ireturn, 1) := by decide +kernel
def Q_rmLCh (Z : State) (p0 : Addr) (p1 : Int32) (zc : Int32) (fm : Value) (k : ClassId) (z : Int32) (vs : List Value) (b : Int32) (r : Int32) (h0 : Heap) (n0 : Nat) (v : Option Value) (h : Heap) (L : List Loc) : Prop := v = some (.int r) ∧ Fr n0 L ∧ h = h0
set_option maxRecDepth 65536 in
set_option maxHeartbeats 40000000 in
theorem rmLCh (l : Launch) (Z : State) (a0 : Array Value) (hw : ∀ d ∈ tables_1, d.before a0 Z = true) (ws : List Jvm.Cond) (p0 : Addr) (p1 : Int32) (zc : Int32) (fm : Value) (k : ClassId) (z : Int32) (vs : List Value) (b : Int32) (r : Int32) (h0 : Heap) (n0 : Nat) (Z0 : n0 ≤ h0.size) (hSt : own_St Z zc fm) (Ol : Old Z n0 h0) (A0 : Arv Z h0 p0 k .byte z vs (.int (0 : Int32))) (hi : ¬ p1 < (0 : Int32) ∧ p1 < z) (hat : vs.getD p1.toNatClampNeg (.int (0 : Int32)) = .int b) (hres : r = nar .char (b &&& (255 : Int32)).toUInt32.toUInt16.toUInt32.toInt32) :
    MetFree l (⟨"java/lang/StringLatin1", "charAt", "([BI)C"⟩ : MethodName) (head1 (Jvm.Cond.code (⟨"java/lang/StringLatin1", "charAt", "([BI)C"⟩ : MethodName) jdk_43_method_2_code 2 (some .char) :: ws) ({ frames := 2, cells := 0, slots := 0, locals := 27 } : Room)) (fun a U => a = #[(.ref p0), (.int p1)] ∧ Z.Warmed39 U.vm ∧ U.heap = h0) (fun _ _ _ _ _ => True) (fun _ U o U' => ∃ v L, o = .returned v ∧ Q_rmLCh Z p0 p1 zc fm k z vs b r h0 n0 v U'.heap L ∧ FrameEnd U o U' L ({ frames := 2, cells := 0, slots := 0, locals := 27 } : Room).cells ({ frames := 2, cells := 0, slots := 0, locals := 27 } : Room).slots) := by
  refine MetFree.of_bodySF (plainFor_of_name pn_java_lang_StringLatin1) hisR ?_
  intro p e s m args below meth c s₁ Bd hml0 hP hK
  obtain ⟨rfl, hZ, hh⟩ := hP
  have hx := Bd.exec
  have hby := Bd.bytes
  have hml : c.maxLocals = 2 := hml0
  have hown : s.vm.findClass "java/lang/StringLatin1" = some m.cls := findClass_of_methodNamed Bd.named
  have hnm := (name_of_methodNamed Bd.named Bd.method).1
  have X0 : Stand p l e ({ frames := 2, cells := 0, slots := 0, locals := 27 } : Room) s m #[(.ref p0), (.int p1)] below meth c s₁ [] 0 0 := Stand.of_body Bd
  have e0 : s₁.heap = h0 := by rw [← hh, Bd.state]; rfl
  have N0 := Fr.nil n0
  have pre0 : ∀ t, Steps p.tables e below (s₁.setTop (mkF m 0 #[.val (.ref p0), .val (.int p1)] [])) t → Steps p.tables e below (s₁.setTop (entryFrame m #[(.ref p0), (.int p1)] 2)) t := fun t k => castTop (ef_rmLCh m p0 p1 ) k
  obtain ⟨cl1, Ar1, -, S1, N1, -, -⟩ := id A0
  obtain ⟨_, _, ⟨T2, L2, k2, n2⟩, -, X2, ⟨Lc2, hQ2, l2, y2, z2⟩, st2⟩ := Jvm.LawKit.callS X0 hx (y := (⟨"java/lang/String", "checkIndex", "(II)V"⟩ : MethodName)) hown (mvT hZ (hw _ (List.mem_of_getElem? (i := 66) rfl))) (mvT hZ (hw _ (List.mem_of_getElem? (i := 67) rfl))) (mvT hZ (hw _ (List.mem_of_getElem? (i := 4) rfl))) (mvT hZ (hw _ (List.mem_of_getElem? (i := 68) rfl))) (by decide) (backOf (W := 0) (rmChk l Z a0 hw [] p1 z zc fm  h0 n0 Z0 hSt Ol hi.1 hi.2) hZ (hw _ (List.mem_of_getElem? (i := 68) rfl)) (hw _ (List.mem_of_getElem? (i := 4) rfl)) (by decide) (by decide)) (g := (mkF m 3 #[.val (.ref p0), .val (.int p1)] [(.int z), (.int p1)])) rfl (by rw [hml]; rfl) (argsL := [(.int p1), (.int z)]) (rest := []) (lenOf pd__II_V rfl) rfl (by show 2 * 0 + _ ≤ _; exact Nat.le_of_eq rfl) (hb hby d12_3) (fun _ _ => ⟨rfl, e0, (by decide : 0 + 0 ≤ _), (by decide : 0 + 0 ≤ _)⟩)
  dsimp only [Pt.U, Pt.locs, Pt.cells, Pt.slots] at X2 l2 y2 z2 st2 hQ2
  subst l2 y2 z2
  obtain ⟨rfl, Nq2, e2⟩ := hQ2
  have N2 := Fr.app N0 Nq2
  obtain ⟨cl3, Ar3, q3, S3, N3, H3, G3⟩ := id A0
  have hin3 : ¬ (p1 < 0 ∨ cl3.slots.size ≤ (p1).toNatClampNeg) := inb_of S3 hi
  have hat3 : cl3.slots[(p1).toNatClampNeg]? = some (.int b) := Has.at H3 hin3 hat
  obtain ⟨fs, hr, hrun, hended, hW, hsame⟩ := X2.leave (v := some (.int (nar .char ((b &&& (255 : Int32)).toUInt32.toUInt16.toUInt32.toInt32)))) (fun h => by rw [Bd.returns] at h; cases h)
  refine ⟨_, _, pre0 _ ?_, hrun, hended, _, _, rfl, ?_, ⟨_, rfl⟩, hW, hsame.mono (by decide) (by decide)⟩
  · show Steps p.tables e below (s₁.setTop (mkF m 0 #[.val (.ref p0), .val (.int p1)] [])) _
    refine XS.iloadN X0.here hx rfl (hb hby d12_0) rfl  ?_
    show Steps p.tables e below (s₁.setTop (mkF m 1 #[.val (.ref p0), .val (.int p1)] [(.int p1)])) _
    refine XS.aloadN X0.here hx rfl (hb hby d12_1) rfl rfl ?_
    show Steps p.tables e below (s₁.setTop (mkF m 2 #[.val (.ref p0), .val (.int p1)] [(.ref p0), (.int p1)])) _
    refine X0.arraylength hx (by rw [e0]; exact Ar1.1) (State.isArrayOf_alike hZ.alike Ar1.2.1) (g := (mkF m 2 #[.val (.ref p0), .val (.int p1)] [(.ref p0), (.int p1)])) rfl rfl (hb hby d12_2) _ ?_
    rw [len_of S1 N1]
    show Steps p.tables e below (s₁.setTop (mkF m 3 #[.val (.ref p0), .val (.int p1)] [(.int z), (.int p1)])) _
    refine st2 _ ?_
    show Steps p.tables e below (T2.setTop (mkF m 6 #[.val (.ref p0), .val (.int p1)] [])) _
    refine XS.aloadN X2.here hx rfl (hb hby d12_6) rfl rfl ?_
    show Steps p.tables e below (T2.setTop (mkF m 7 #[.val (.ref p0), .val (.int p1)] [(.ref p0)])) _
    refine XS.iloadN X2.here hx rfl (hb hby d12_7) rfl  ?_
    show Steps p.tables e below (T2.setTop (mkF m 8 #[.val (.ref p0), .val (.int p1)] [(.int p1), (.ref p0)])) _
    refine X2.baloadBytes hx (j := p1) (v := (.int b)) (by rw [e2]; exact Ar3.1) (State.isArrayOf_alike hZ.alike Ar3.2.1) Ar3.2.2 hin3 hat3 (g := (mkF m 8 #[.val (.ref p0), .val (.int p1)] [(.int p1), (.ref p0)])) rfl rfl (hb hby d12_8) _ ?_
    show Steps p.tables e below (T2.setTop (mkF m 9 #[.val (.ref p0), .val (.int p1)] [(.int b)])) _
    refine XS.sipush X2.here hx rfl (hb hby d12_9) ?_
    show Steps p.tables e below (T2.setTop (mkF m 12 #[.val (.ref p0), .val (.int p1)] [(.int (255 : Int32)), (.int b)])) _
    refine XS.iand X2.here hx rfl (hb hby d12_12) rfl ?_
    show Steps p.tables e below (T2.setTop (mkF m 13 #[.val (.ref p0), .val (.int p1)] [(.int (b &&& (255 : Int32)))])) _
    refine XS.i2c X2.here hx rfl (hb hby d12_13) rfl ?_
    show Steps p.tables e below (T2.setTop (mkF m 14 #[.val (.ref p0), .val (.int p1)] [(.int ((b &&& (255 : Int32)).toUInt32.toUInt16.toUInt32.toInt32))])) _
    exact retN X2 hx (t := .char) Bd.returns (by simp) (hb hby d12_14) hr
  · show Q_rmLCh Z p0 p1 zc fm k z vs b r h0 n0 _ T2.heap _
    rw [e2]
    exact ⟨by rw [hres], N2, rfl⟩
theorem ef_rmCharAt (m : MethodId) (p0 : Addr) (p1 : Int32) : entryFrame m #[(.ref p0), (.int p1)] 2 = mkF m 0 #[.val (.ref p0), .val (.int p1)] [] := by first | (simp [entryFrame, mkF, argsToLocals, Value.category]; done) | rfl
theorem d10_0 : decode jdk_42_method_56_code 0 = .ok (.aload_n 0, 1) := by decide +kernel
theorem pd___Z : parseMethodDescriptor "()Z" = some ⟨[], some .boolean⟩ := by decide +kernel
theorem d10_1 : decode jdk_42_method_56_code 1 = .ok (.invokevirtual 492, 3) := by decide +kernel
theorem d10_4 : decode jdk_42_method_56_code 4 = .ok (.ifCond .eq 12, 3) := by decide +kernel
theorem d10_7 : decode jdk_42_method_56_code 7 = .ok (.aload_n 0, 1) := by decide +kernel
theorem d10_8 : decode jdk_42_method_56_code 8 = .ok (.getfield 9, 3) := by decide +kernel
theorem d10_11 : decode jdk_42_method_56_code 11 = .ok (.iload_n 1, 1) := by decide +kernel
theorem pd___BI_C : parseMethodDescriptor "([BI)C" = some ⟨[(.array .byte), .int], some .char⟩ := by decide +kernel
theorem d10_12 : decode jdk_42_method_56_code 12 = .ok (.invokestatic 495, 3) := by decide +kernel
theorem d10_15 : decode jdk_42_method_56_code 15 = .ok (.ireturn, 1) := by decide +kernel
def Q_rmCharAt (Z : State) (p0 : Addr) (p1 : Int32) (zc : Int32) (fm : Value) (cs : List Int32) (r : Int32) (h0 : Heap) (n0 : Nat) (v : Option Value) (h : Heap) (L : List Loc) : Prop := v = some (.int r) ∧ Fr n0 L ∧ h = h0
set_option maxRecDepth 65536 in
set_option maxHeartbeats 40000000 in
theorem rmCharAt (l : Launch) (Z : State) (a0 : Array Value) (hw : ∀ d ∈ tables_1, d.before a0 Z = true) (ws : List Jvm.Cond) (p0 : Addr) (p1 : Int32) (zc : Int32) (fm : Value) (cs : List Int32) (r : Int32) (h0 : Heap) (n0 : Nat) (Z0 : n0 ≤ h0.size) (hSt : own_St Z zc fm) (Ol : Old Z n0 h0) (hS : own_Str Z h0 p0 cs) (hnw : own_Nrw Z h0 p0) (hi : ¬ p1 < (0 : Int32) ∧ p1.toNatClampNeg < cs.length) (hres : r = cs.getD p1.toNatClampNeg 0) :
    MetFree l (⟨"java/lang/String", "charAt", "(I)C"⟩ : MethodName) (head1 (Jvm.Cond.code (⟨"java/lang/String", "charAt", "(I)C"⟩ : MethodName) jdk_42_method_56_code 2 (some .char) :: ws) ({ frames := 3, cells := 0, slots := 0, locals := 40 } : Room)) (fun a U => a = #[(.ref p0), (.int p1)] ∧ Z.Warmed39 U.vm ∧ U.heap = h0) (fun _ _ _ _ _ => True) (fun _ U o U' => ∃ v L, o = .returned v ∧ Q_rmCharAt Z p0 p1 zc fm cs r h0 n0 v U'.heap L ∧ FrameEnd U o U' L ({ frames := 3, cells := 0, slots := 0, locals := 40 } : Room).cells ({ frames := 3, cells := 0, slots := 0, locals := 40 } : Room).slots) := by
  refine MetFree.of_bodySF (plainFor_of_name pn_java_lang_String) hisR ?_
  intro p e s m args below meth c s₁ Bd hml0 hP hK
  obtain ⟨rfl, hZ, hh⟩ := hP
  have hx := Bd.exec
  have hby := Bd.bytes
  have hml : c.maxLocals = 2 := hml0
  have hown : s.vm.findClass "java/lang/String" = some m.cls := findClass_of_methodNamed Bd.named
  have hnm := (name_of_methodNamed Bd.named Bd.method).1
  have X0 : Stand p l e ({ frames := 3, cells := 0, slots := 0, locals := 40 } : Room) s m #[(.ref p0), (.int p1)] below meth c s₁ [] 0 0 := Stand.of_body Bd
  have e0 : s₁.heap = h0 := by rw [← hh, Bd.state]; rfl
  have N0 := Fr.nil n0
  have pre0 : ∀ t, Steps p.tables e below (s₁.setTop (mkF m 0 #[.val (.ref p0), .val (.int p1)] [])) t → Steps p.tables e below (s₁.setTop (entryFrame m #[(.ref p0), (.int p1)] 2)) t := fun t k => castTop (ef_rmCharAt m p0 p1 ) k
  obtain ⟨t, k, cd, z, vs, E0, Fv, Fc, A0, hcod, hch, hln⟩ := hS
  obtain ⟨rfl, rfl, rfl, hle⟩ := hcod.resolve_right (fun q => hnw t cd Fc q.1)
  obtain ⟨cq1, kq1, q1a, q1b, q1c⟩ := isOf hZ e0 E0
  obtain ⟨_, _, ⟨T1, L1, k1, n1⟩, -, X1, ⟨Lc1, hQ1, l1, y1, z1⟩, st1⟩ := X0.virtualBack hx (y := (⟨"java/lang/String", "isLatin1", "()Z"⟩ : MethodName)) (z := (⟨"java/lang/String", "isLatin1", "()Z"⟩ : MethodName)) hown (mvT hZ (hw _ (List.mem_of_getElem? (i := 57) rfl))) (mvT hZ (hw _ (List.mem_of_getElem? (i := 58) rfl))) (notFace_of_selects (args := #[]) (mvT hZ (hw _ (List.mem_of_getElem? (i := 60) rfl)))) (mvT hZ (hw _ (List.mem_of_getElem? (i := 60) rfl))) (mvT hZ (hw _ (List.mem_of_getElem? (i := 59) rfl))) (by decide) (backOf (W := 0) (rmLat l Z a0 hw [] p0 zc fm (0 : Int32) (1 : Int32) h0 n0 Z0 hSt Ol Fc (by decide)) hZ (hw _ (List.mem_of_getElem? (i := 61) rfl)) (hw _ (List.mem_of_getElem? (i := 4) rfl)) (by decide) (by decide)) q1a q1c (g := (mkF m 1 #[.val (.ref p0), .val (.int p1)] [(.ref p0)])) rfl (by rw [hml]; rfl) (Steps.refl _) (argsL := []) (rest := []) (lenOf pd___Z rfl) rfl (by show 2 * 0 + _ ≤ _; exact Nat.le_of_eq rfl) (hb hby d10_1) (fun _ _ => ⟨rfl, e0, (by decide : 0 + 0 ≤ _), (by decide : 0 + 0 ≤ _)⟩)
  dsimp only [Pt.U, Pt.locs, Pt.cells, Pt.slots] at X1 l1 y1 z1 st1 hQ1
  subst l1 y1 z1
  obtain ⟨rfl, Nq1, e1⟩ := hQ1
  have N1 := Fr.app N0 Nq1
  obtain ⟨T2, X2, e2, st2⟩ := getF X1 hx hZ hown (host := "") (Or.inl (hw _ (List.mem_of_getElem? (i := 29) rfl))) Via.refl e1 Fv (g := (mkF m 8 #[.val (.ref p0), .val (.int p1)] [(.ref p0)])) rfl rfl (hb hby d10_8)
  have hcm := hch _ (own_mem hi.2)
  obtain ⟨_, _, ⟨T3, L3, k3, n3⟩, -, X3, ⟨Lc3, hQ3, l3, y3, z3⟩, st3⟩ := Jvm.LawKit.callS X2 hx (y := (⟨"java/lang/StringLatin1", "charAt", "([BI)C"⟩ : MethodName)) hown (mvT hZ (hw _ (List.mem_of_getElem? (i := 62) rfl))) (mvT hZ (hw _ (List.mem_of_getElem? (i := 63) rfl))) (mvT hZ (hw _ (List.mem_of_getElem? (i := 64) rfl))) (mvT hZ (hw _ (List.mem_of_getElem? (i := 65) rfl))) (by decide) (backOf (W := 0) (rmLCh l Z a0 hw [] t p1 zc fm k (Int32.ofNat cs.length) (own_nrw cs) (own_b (cs.getD p1.toNatClampNeg 0)) (cs.getD p1.toNatClampNeg 0) h0 n0 Z0 hSt Ol A0 ⟨hi.1, own_inr hi.1 hi.2 hln⟩ (own_getb cs _ hi.2) (own_rec8 hcm.1 (hle _ (own_mem hi.2))).symm) hZ (hw _ (List.mem_of_getElem? (i := 65) rfl)) (hw _ (List.mem_of_getElem? (i := 64) rfl)) (by decide) (by decide)) (g := (mkF m 12 #[.val (.ref p0), .val (.int p1)] [(.int p1), (.ref t)])) rfl (by rw [hml]; rfl) (argsL := [(.ref t), (.int p1)]) (rest := []) (lenOf pd___BI_C rfl) rfl (by show 2 * 0 + _ ≤ _; exact Nat.le_of_eq rfl) (hb hby d10_12) (fun _ _ => ⟨rfl, e2, (by decide : 0 + 0 ≤ _), (by decide : 0 + 0 ≤ _)⟩)
  dsimp only [Pt.U, Pt.locs, Pt.cells, Pt.slots] at X3 l3 y3 z3 st3 hQ3
  subst l3 y3 z3
  obtain ⟨rfl, Nq3, e3⟩ := hQ3
  have N3 := Fr.app N1 Nq3
  obtain ⟨fs, hr, hrun, hended, hW, hsame⟩ := X3.leave (v := some (.int (nar .char (cs.getD p1.toNatClampNeg 0)))) (fun h => by rw [Bd.returns] at h; cases h)
  refine ⟨_, _, pre0 _ ?_, hrun, hended, _, _, rfl, ?_, ⟨_, rfl⟩, hW, hsame.mono (by decide) (by decide)⟩
  · show Steps p.tables e below (s₁.setTop (mkF m 0 #[.val (.ref p0), .val (.int p1)] [])) _
    refine XS.aloadN X0.here hx rfl (hb hby d10_0) rfl rfl ?_
    show Steps p.tables e below (s₁.setTop (mkF m 1 #[.val (.ref p0), .val (.int p1)] [(.ref p0)])) _
    refine st1.trans ?_
    show Steps p.tables e below (T1.setTop (mkF m 4 #[.val (.ref p0), .val (.int p1)] [(.int (1 : Int32))])) _
    refine XS.ifNo X1.here hx rfl (hb hby d10_4) rfl ((if0 _ _).trans (feq (by decide : ¬ ((1 : Int32) = (0 : Int32)))).1) ?_
    show Steps p.tables e below (T1.setTop (mkF m 7 #[.val (.ref p0), .val (.int p1)] [])) _
    refine XS.aloadN X1.here hx rfl (hb hby d10_7) rfl rfl ?_
    show Steps p.tables e below (T1.setTop (mkF m 8 #[.val (.ref p0), .val (.int p1)] [(.ref p0)])) _
    refine st2 _ ?_
    show Steps p.tables e below (T2.setTop (mkF m 11 #[.val (.ref p0), .val (.int p1)] [(.ref t)])) _
    refine XS.iloadN X2.here hx rfl (hb hby d10_11) rfl  ?_
    show Steps p.tables e below (T2.setTop (mkF m 12 #[.val (.ref p0), .val (.int p1)] [(.int p1), (.ref t)])) _
    refine st3 _ ?_
    show Steps p.tables e below (T3.setTop (mkF m 15 #[.val (.ref p0), .val (.int p1)] [(.int (cs.getD p1.toNatClampNeg 0))])) _
    exact retN X3 hx (t := .char) Bd.returns (by simp) (hb hby d10_15) hr
  · show Q_rmCharAt Z p0 p1 zc fm cs r h0 n0 _ T3.heap _
    rw [e3]
    exact ⟨by rw [hres, own_narc hcm], N3, rfl⟩
theorem ef_rmCmp4 (m : MethodId) (p0 : Addr) (p2 : Addr) : entryFrame m #[(.ref p0), (.int (0 : Int32)), (.ref p2), (.int (0 : Int32)), (.int (4 : Int32))] 7 = mkF m 0 #[.val (.ref p0), .val (.int (0 : Int32)), .val (.ref p2), .val (.int (0 : Int32)), .val (.int (4 : Int32)), .unset, .unset] [] := by first | (simp [entryFrame, mkF, argsToLocals, Value.category]; done) | rfl
theorem d5_0 : decode jdk_52_method_21_code 0 = .ok (.iconst 0, 1) := by decide +kernel
theorem d5_1 : decode jdk_52_method_21_code 1 = .ok (.istore 5, 2) := by decide +kernel
theorem d5_3 : decode jdk_52_method_21_code 3 = .ok (.iload 5, 2) := by decide +kernel
theorem d5_5 : decode jdk_52_method_21_code 5 = .ok (.iload 4, 2) := by decide +kernel
theorem d5_7 : decode jdk_52_method_21_code 7 = .ok (.if_icmp .ge 37, 3) := by decide +kernel
theorem d5_10 : decode jdk_52_method_21_code 10 = .ok (.aload_n 0, 1) := by decide +kernel
theorem d5_11 : decode jdk_52_method_21_code 11 = .ok (.iload_n 1, 1) := by decide +kernel
theorem d5_12 : decode jdk_52_method_21_code 12 = .ok (.caload, 1) := by decide +kernel
theorem d5_13 : decode jdk_52_method_21_code 13 = .ok (.istore 6, 2) := by decide +kernel
theorem d5_15 : decode jdk_52_method_21_code 15 = .ok (.iload 6, 2) := by decide +kernel
theorem d5_17 : decode jdk_52_method_21_code 17 = .ok (.sipush 255, 3) := by decide +kernel
theorem d5_20 : decode jdk_52_method_21_code 20 = .ok (.if_icmp .le 6, 3) := by decide +kernel
theorem d5_26 : decode jdk_52_method_21_code 26 = .ok (.aload_n 2, 1) := by decide +kernel
theorem d5_27 : decode jdk_52_method_21_code 27 = .ok (.iload_n 3, 1) := by decide +kernel
theorem d5_28 : decode jdk_52_method_21_code 28 = .ok (.iload 6, 2) := by decide +kernel
theorem d5_30 : decode jdk_52_method_21_code 30 = .ok (.i2b, 1) := by decide +kernel
theorem d5_31 : decode jdk_52_method_21_code 31 = .ok (.bastore, 1) := by decide +kernel
theorem d5_32 : decode jdk_52_method_21_code 32 = .ok (.iinc 1 1, 3) := by decide +kernel
theorem d5_35 : decode jdk_52_method_21_code 35 = .ok (.iinc 3 1, 3) := by decide +kernel
theorem d5_38 : decode jdk_52_method_21_code 38 = .ok (.iinc 5 1, 3) := by decide +kernel
theorem d5_41 : decode jdk_52_method_21_code 41 = .ok (.goto (-38), 3) := by decide +kernel
theorem d5_44 : decode jdk_52_method_21_code 44 = .ok (.iload 4, 2) := by decide +kernel
theorem d5_46 : decode jdk_52_method_21_code 46 = .ok (.ireturn, 1) := by decide +kernel
def Q_rmCmp4 (Z : State) (p0 : Addr) (p2 : Addr) (zc : Int32) (fm : Value) (ks : ClassId) (kd : ClassId) (c0 : Int32) (c1 : Int32) (c2 : Int32) (c3 : Int32) (h0 : Heap) (n0 : Nat) (v : Option Value) (h : Heap) (L : List Loc) : Prop := (∃ r : Int32, v = some (.int r) ∧ ((r = (4 : Int32) ∧ (¬ (255 : Int32) < c0 ∧ ¬ (255 : Int32) < c1 ∧ ¬ (255 : Int32) < c2 ∧ ¬ (255 : Int32) < c3) ∧ Arv Z h p2 kd .byte (4 : Int32) [(.int (own_b c0)), (.int (own_b c1)), (.int (own_b c2)), (.int (own_b c3))] (.int (0 : Int32))))) ∧ Fr n0 L ∧ Keep h0 h [p2]
set_option maxRecDepth 65536 in
set_option maxHeartbeats 40000000 in
theorem rmCmp4 (l : Launch) (Z : State) (a0 : Array Value) (hw : ∀ d ∈ tables_1, d.before a0 Z = true) (ws : List Jvm.Cond) (p0 : Addr) (p2 : Addr) (zc : Int32) (fm : Value) (ks : ClassId) (kd : ClassId) (c0 : Int32) (c1 : Int32) (c2 : Int32) (c3 : Int32) (h0 : Heap) (n0 : Nat) (Z0 : n0 ≤ h0.size) (hSt : own_St Z zc fm) (Ol : Old Z n0 h0) (As : Arv Z h0 p0 ks .char (4 : Int32) [(.int c0), (.int c1), (.int c2), (.int c3)] (.int (0 : Int32))) (Ad : Arv Z h0 p2 kd .byte (4 : Int32) [(.int (0 : Int32)), (.int (0 : Int32)), (.int (0 : Int32)), (.int (0 : Int32))] (.int (0 : Int32))) (hne : p0 ≠ p2) (g2 : n0 ≤ p2) (hl_c0 : ¬ (255 : Int32) < c0) (hl_c1 : ¬ (255 : Int32) < c1) (hl_c2 : ¬ (255 : Int32) < c2) (hl_c3 : ¬ (255 : Int32) < c3) :
    MetFree l (⟨"java/lang/StringUTF16", "compress", "([CI[BII)I"⟩ : MethodName) (head1 (Jvm.Cond.code (⟨"java/lang/StringUTF16", "compress", "([CI[BII)I"⟩ : MethodName) jdk_52_method_21_code 7 (some .int) :: ws) ({ frames := 0, cells := 0, slots := 0, locals := 0 } : Room)) (fun a U => a = #[(.ref p0), (.int (0 : Int32)), (.ref p2), (.int (0 : Int32)), (.int (4 : Int32))] ∧ Z.Warmed39 U.vm ∧ U.heap = h0) (fun _ _ _ _ _ => True) (fun _ U o U' => ∃ v L, o = .returned v ∧ Q_rmCmp4 Z p0 p2 zc fm ks kd c0 c1 c2 c3 h0 n0 v U'.heap L ∧ FrameEnd U o U' L ({ frames := 0, cells := 0, slots := 0, locals := 0 } : Room).cells ({ frames := 0, cells := 0, slots := 0, locals := 0 } : Room).slots) := by
  refine MetFree.of_bodySF (plainFor_of_name pn_java_lang_StringUTF16) hisR ?_
  intro p e s m args below meth c s₁ Bd hml0 hP hK
  obtain ⟨rfl, hZ, hh⟩ := hP
  have hx := Bd.exec
  have hby := Bd.bytes
  have hml : c.maxLocals = 7 := hml0
  have hown : s.vm.findClass "java/lang/StringUTF16" = some m.cls := findClass_of_methodNamed Bd.named
  have hnm := (name_of_methodNamed Bd.named Bd.method).1
  have X0 : Stand p l e ({ frames := 0, cells := 0, slots := 0, locals := 0 } : Room) s m #[(.ref p0), (.int (0 : Int32)), (.ref p2), (.int (0 : Int32)), (.int (4 : Int32))] below meth c s₁ [] 0 0 := Stand.of_body Bd
  have e0 : s₁.heap = h0 := by rw [← hh, Bd.state]; rfl
  have N0 := Fr.nil n0
  have pre0 : ∀ t, Steps p.tables e below (s₁.setTop (mkF m 0 #[.val (.ref p0), .val (.int (0 : Int32)), .val (.ref p2), .val (.int (0 : Int32)), .val (.int (4 : Int32)), .unset, .unset] [])) t → Steps p.tables e below (s₁.setTop (entryFrame m #[(.ref p0), (.int (0 : Int32)), (.ref p2), (.int (0 : Int32)), (.int (4 : Int32))] 7)) t := fun t k => castTop (ef_rmCmp4 m p0 p2 ) k
  obtain ⟨cl1, Ar1, q1, S1, N1, H1, G1⟩ := id As
  have hin1 : ¬ ((0 : Int32) < 0 ∨ cl1.slots.size ≤ ((0 : Int32)).toNatClampNeg) := inb_of S1 ⟨by decide, by decide⟩
  have hat1 : cl1.slots[((0 : Int32)).toNatClampNeg]? = some (.int c0) := Has.at H1 hin1 rfl
  obtain ⟨cl2, Ar2, q2, S2, N2, H2, G2⟩ := id Ad
  have hin2 : ¬ ((0 : Int32) < 0 ∨ cl2.slots.size ≤ ((0 : Int32)).toNatClampNeg) := inb_of S2 ⟨by decide, by decide⟩
  obtain ⟨T3, h3, X3, e3, W3, st3⟩ := stB X0 hx hZ e0 Ar2 (j := (0 : Int32)) hin2 (g := (mkF m 31 #[.val (.ref p0), .val (.int (0 : Int32)), .val (.ref p2), .val (.int (0 : Int32)), .val (.int (4 : Int32)), .val (.int (0 : Int32)), .val (.int c0)] [(.int (c0.toInt8.toInt32)), (.int (0 : Int32)), (.ref p2)])) rfl rfl (hb hby d5_31)
  have N3 := Fr.snoc X3 N0 g2
  have K3 := (Keep.refl h0 [p2]).wr W3 (Or.inl (List.mem_of_getElem? (i := 0) rfl))
  have V3 : Arv Z h3 p2 kd .byte (4 : Int32) [(.int (own_b c0)), (.int (0 : Int32)), (.int (0 : Int32)), (.int (0 : Int32))] (.int (0 : Int32)) := Arv.set Ar2 q2 S2 N2 H2 G2 (fits_nar_byte _) W3 0 rfl (Nat.le_of_ble_eq_true rfl)
  have f4 := (As.other W3 hne)
  obtain ⟨cl5, Ar5, q5, S5, N5, H5, G5⟩ := id f4
  have hin5 : ¬ ((1 : Int32) < 0 ∨ cl5.slots.size ≤ ((1 : Int32)).toNatClampNeg) := inb_of S5 ⟨by decide, by decide⟩
  have hat5 : cl5.slots[((1 : Int32)).toNatClampNeg]? = some (.int c1) := Has.at H5 hin5 rfl
  obtain ⟨cl6, Ar6, q6, S6, N6, H6, G6⟩ := id V3
  have hin6 : ¬ ((1 : Int32) < 0 ∨ cl6.slots.size ≤ ((1 : Int32)).toNatClampNeg) := inb_of S6 ⟨by decide, by decide⟩
  obtain ⟨T7, h7, X7, e7, W7, st7⟩ := stB X3 hx hZ e3 Ar6 (j := (1 : Int32)) hin6 (g := (mkF m 31 #[.val (.ref p0), .val (.int (1 : Int32)), .val (.ref p2), .val (.int (1 : Int32)), .val (.int (4 : Int32)), .val (.int (1 : Int32)), .val (.int c1)] [(.int (c1.toInt8.toInt32)), (.int (1 : Int32)), (.ref p2)])) rfl rfl (hb hby d5_31)
  have N7 := Fr.snoc X7 N3 g2
  have K7 := K3.wr W7 (Or.inl (List.mem_of_getElem? (i := 0) rfl))
  have V7 : Arv Z h7 p2 kd .byte (4 : Int32) [(.int (own_b c0)), (.int (own_b c1)), (.int (0 : Int32)), (.int (0 : Int32))] (.int (0 : Int32)) := Arv.set Ar6 q6 S6 N6 H6 G6 (fits_nar_byte _) W7 1 rfl (Nat.le_of_ble_eq_true rfl)
  have f8 := (f4.other W7 hne)
  obtain ⟨cl9, Ar9, q9, S9, N9, H9, G9⟩ := id f8
  have hin9 : ¬ ((2 : Int32) < 0 ∨ cl9.slots.size ≤ ((2 : Int32)).toNatClampNeg) := inb_of S9 ⟨by decide, by decide⟩
  have hat9 : cl9.slots[((2 : Int32)).toNatClampNeg]? = some (.int c2) := Has.at H9 hin9 rfl
  obtain ⟨cl10, Ar10, q10, S10, N10, H10, G10⟩ := id V7
  have hin10 : ¬ ((2 : Int32) < 0 ∨ cl10.slots.size ≤ ((2 : Int32)).toNatClampNeg) := inb_of S10 ⟨by decide, by decide⟩
  obtain ⟨T11, h11, X11, e11, W11, st11⟩ := stB X7 hx hZ e7 Ar10 (j := (2 : Int32)) hin10 (g := (mkF m 31 #[.val (.ref p0), .val (.int (2 : Int32)), .val (.ref p2), .val (.int (2 : Int32)), .val (.int (4 : Int32)), .val (.int (2 : Int32)), .val (.int c2)] [(.int (c2.toInt8.toInt32)), (.int (2 : Int32)), (.ref p2)])) rfl rfl (hb hby d5_31)
  have N11 := Fr.snoc X11 N7 g2
  have K11 := K7.wr W11 (Or.inl (List.mem_of_getElem? (i := 0) rfl))
  have V11 : Arv Z h11 p2 kd .byte (4 : Int32) [(.int (own_b c0)), (.int (own_b c1)), (.int (own_b c2)), (.int (0 : Int32))] (.int (0 : Int32)) := Arv.set Ar10 q10 S10 N10 H10 G10 (fits_nar_byte _) W11 2 rfl (Nat.le_of_ble_eq_true rfl)
  have f12 := (f8.other W11 hne)
  obtain ⟨cl13, Ar13, q13, S13, N13, H13, G13⟩ := id f12
  have hin13 : ¬ ((3 : Int32) < 0 ∨ cl13.slots.size ≤ ((3 : Int32)).toNatClampNeg) := inb_of S13 ⟨by decide, by decide⟩
  have hat13 : cl13.slots[((3 : Int32)).toNatClampNeg]? = some (.int c3) := Has.at H13 hin13 rfl
  obtain ⟨cl14, Ar14, q14, S14, N14, H14, G14⟩ := id V11
  have hin14 : ¬ ((3 : Int32) < 0 ∨ cl14.slots.size ≤ ((3 : Int32)).toNatClampNeg) := inb_of S14 ⟨by decide, by decide⟩
  obtain ⟨T15, h15, X15, e15, W15, st15⟩ := stB X11 hx hZ e11 Ar14 (j := (3 : Int32)) hin14 (g := (mkF m 31 #[.val (.ref p0), .val (.int (3 : Int32)), .val (.ref p2), .val (.int (3 : Int32)), .val (.int (4 : Int32)), .val (.int (3 : Int32)), .val (.int c3)] [(.int (c3.toInt8.toInt32)), (.int (3 : Int32)), (.ref p2)])) rfl rfl (hb hby d5_31)
  have N15 := Fr.snoc X15 N11 g2
  have K15 := K11.wr W15 (Or.inl (List.mem_of_getElem? (i := 0) rfl))
  have V15 : Arv Z h15 p2 kd .byte (4 : Int32) [(.int (own_b c0)), (.int (own_b c1)), (.int (own_b c2)), (.int (own_b c3))] (.int (0 : Int32)) := Arv.set Ar14 q14 S14 N14 H14 G14 (fits_nar_byte _) W15 3 rfl (Nat.le_of_ble_eq_true rfl)
  obtain ⟨fs, hr, hrun, hended, hW, hsame⟩ := X15.leave (v := some (.int (4 : Int32))) (fun h => by rw [Bd.returns] at h; cases h)
  refine ⟨_, _, pre0 _ ?_, hrun, hended, _, _, rfl, ?_, ⟨_, rfl⟩, hW, hsame.mono (by decide) (by decide)⟩
  · show Steps p.tables e below (s₁.setTop (mkF m 0 #[.val (.ref p0), .val (.int (0 : Int32)), .val (.ref p2), .val (.int (0 : Int32)), .val (.int (4 : Int32)), .unset, .unset] [])) _
    refine XS.iconst X0.here hx rfl (hb hby d5_0) ?_
    show Steps p.tables e below (s₁.setTop (mkF m 1 #[.val (.ref p0), .val (.int (0 : Int32)), .val (.ref p2), .val (.int (0 : Int32)), .val (.int (4 : Int32)), .unset, .unset] [(.int (0 : Int32))])) _
    refine XS.istore X0.here hx rfl (hb hby d5_1) rfl (l' := #[.val (.ref p0), .val (.int (0 : Int32)), .val (.ref p2), .val (.int (0 : Int32)), .val (.int (4 : Int32)), .val (.int (0 : Int32)), .unset]) rfl ?_
    show Steps p.tables e below (s₁.setTop (mkF m 3 #[.val (.ref p0), .val (.int (0 : Int32)), .val (.ref p2), .val (.int (0 : Int32)), .val (.int (4 : Int32)), .val (.int (0 : Int32)), .unset] [])) _
    refine XS.iload X0.here hx rfl (hb hby d5_3) rfl  ?_
    show Steps p.tables e below (s₁.setTop (mkF m 5 #[.val (.ref p0), .val (.int (0 : Int32)), .val (.ref p2), .val (.int (0 : Int32)), .val (.int (4 : Int32)), .val (.int (0 : Int32)), .unset] [(.int (0 : Int32))])) _
    refine XS.iload X0.here hx rfl (hb hby d5_5) rfl  ?_
    show Steps p.tables e below (s₁.setTop (mkF m 7 #[.val (.ref p0), .val (.int (0 : Int32)), .val (.ref p2), .val (.int (0 : Int32)), .val (.int (4 : Int32)), .val (.int (0 : Int32)), .unset] [(.int (4 : Int32)), (.int (0 : Int32))])) _
    refine XS.icmpNo X0.here hx rfl (hb hby d5_7) rfl (tlt (by decide : (0 : Int32) < (4 : Int32))).2.1 ?_
    show Steps p.tables e below (s₁.setTop (mkF m 10 #[.val (.ref p0), .val (.int (0 : Int32)), .val (.ref p2), .val (.int (0 : Int32)), .val (.int (4 : Int32)), .val (.int (0 : Int32)), .unset] [])) _
    refine XS.aloadN X0.here hx rfl (hb hby d5_10) rfl rfl ?_
    show Steps p.tables e below (s₁.setTop (mkF m 11 #[.val (.ref p0), .val (.int (0 : Int32)), .val (.ref p2), .val (.int (0 : Int32)), .val (.int (4 : Int32)), .val (.int (0 : Int32)), .unset] [(.ref p0)])) _
    refine XS.iloadN X0.here hx rfl (hb hby d5_11) rfl  ?_
    show Steps p.tables e below (s₁.setTop (mkF m 12 #[.val (.ref p0), .val (.int (0 : Int32)), .val (.ref p2), .val (.int (0 : Int32)), .val (.int (4 : Int32)), .val (.int (0 : Int32)), .unset] [(.int (0 : Int32)), (.ref p0)])) _
    refine X0.caload hx (j := (0 : Int32)) (v := (.int c0)) (by rw [e0]; exact Ar1.1) (State.isArrayOf_alike hZ.alike Ar1.2.1) Ar1.2.2 hin1 hat1 (g := (mkF m 12 #[.val (.ref p0), .val (.int (0 : Int32)), .val (.ref p2), .val (.int (0 : Int32)), .val (.int (4 : Int32)), .val (.int (0 : Int32)), .unset] [(.int (0 : Int32)), (.ref p0)])) rfl rfl (hb hby d5_12) _ ?_
    show Steps p.tables e below (s₁.setTop (mkF m 13 #[.val (.ref p0), .val (.int (0 : Int32)), .val (.ref p2), .val (.int (0 : Int32)), .val (.int (4 : Int32)), .val (.int (0 : Int32)), .unset] [(.int c0)])) _
    refine XS.istore X0.here hx rfl (hb hby d5_13) rfl (l' := #[.val (.ref p0), .val (.int (0 : Int32)), .val (.ref p2), .val (.int (0 : Int32)), .val (.int (4 : Int32)), .val (.int (0 : Int32)), .val (.int c0)]) rfl ?_
    show Steps p.tables e below (s₁.setTop (mkF m 15 #[.val (.ref p0), .val (.int (0 : Int32)), .val (.ref p2), .val (.int (0 : Int32)), .val (.int (4 : Int32)), .val (.int (0 : Int32)), .val (.int c0)] [])) _
    refine XS.iload X0.here hx rfl (hb hby d5_15) rfl  ?_
    show Steps p.tables e below (s₁.setTop (mkF m 17 #[.val (.ref p0), .val (.int (0 : Int32)), .val (.ref p2), .val (.int (0 : Int32)), .val (.int (4 : Int32)), .val (.int (0 : Int32)), .val (.int c0)] [(.int c0)])) _
    refine XS.sipush X0.here hx rfl (hb hby d5_17) ?_
    show Steps p.tables e below (s₁.setTop (mkF m 20 #[.val (.ref p0), .val (.int (0 : Int32)), .val (.ref p2), .val (.int (0 : Int32)), .val (.int (4 : Int32)), .val (.int (0 : Int32)), .val (.int c0)] [(.int (255 : Int32)), (.int c0)])) _
    refine XS.icmpYes X0.here hx rfl (pc0 := 20) (pc' := 26) rfl (hb hby d5_20) rfl (flt hl_c0).2.2.2 (by decide) (by decide) ?_
    show Steps p.tables e below (s₁.setTop (mkF m 26 #[.val (.ref p0), .val (.int (0 : Int32)), .val (.ref p2), .val (.int (0 : Int32)), .val (.int (4 : Int32)), .val (.int (0 : Int32)), .val (.int c0)] [])) _
    refine XS.aloadN X0.here hx rfl (hb hby d5_26) rfl rfl ?_
    show Steps p.tables e below (s₁.setTop (mkF m 27 #[.val (.ref p0), .val (.int (0 : Int32)), .val (.ref p2), .val (.int (0 : Int32)), .val (.int (4 : Int32)), .val (.int (0 : Int32)), .val (.int c0)] [(.ref p2)])) _
    refine XS.iloadN X0.here hx rfl (hb hby d5_27) rfl  ?_
    show Steps p.tables e below (s₁.setTop (mkF m 28 #[.val (.ref p0), .val (.int (0 : Int32)), .val (.ref p2), .val (.int (0 : Int32)), .val (.int (4 : Int32)), .val (.int (0 : Int32)), .val (.int c0)] [(.int (0 : Int32)), (.ref p2)])) _
    refine XS.iload X0.here hx rfl (hb hby d5_28) rfl  ?_
    show Steps p.tables e below (s₁.setTop (mkF m 30 #[.val (.ref p0), .val (.int (0 : Int32)), .val (.ref p2), .val (.int (0 : Int32)), .val (.int (4 : Int32)), .val (.int (0 : Int32)), .val (.int c0)] [(.int c0), (.int (0 : Int32)), (.ref p2)])) _
    refine XS.i2b X0.here hx rfl (hb hby d5_30) rfl ?_
    show Steps p.tables e below (s₁.setTop (mkF m 31 #[.val (.ref p0), .val (.int (0 : Int32)), .val (.ref p2), .val (.int (0 : Int32)), .val (.int (4 : Int32)), .val (.int (0 : Int32)), .val (.int c0)] [(.int (c0.toInt8.toInt32)), (.int (0 : Int32)), (.ref p2)])) _
    refine st3 _ ?_
    show Steps p.tables e below (T3.setTop (mkF m 32 #[.val (.ref p0), .val (.int (0 : Int32)), .val (.ref p2), .val (.int (0 : Int32)), .val (.int (4 : Int32)), .val (.int (0 : Int32)), .val (.int c0)] [])) _
    refine XS.iinc X3.here hx rfl (hb hby d5_32) rfl (l' := #[.val (.ref p0), .val (.int (1 : Int32)), .val (.ref p2), .val (.int (0 : Int32)), .val (.int (4 : Int32)), .val (.int (0 : Int32)), .val (.int c0)]) rfl ?_
    show Steps p.tables e below (T3.setTop (mkF m 35 #[.val (.ref p0), .val (.int (1 : Int32)), .val (.ref p2), .val (.int (0 : Int32)), .val (.int (4 : Int32)), .val (.int (0 : Int32)), .val (.int c0)] [])) _
    refine XS.iinc X3.here hx rfl (hb hby d5_35) rfl (l' := #[.val (.ref p0), .val (.int (1 : Int32)), .val (.ref p2), .val (.int (1 : Int32)), .val (.int (4 : Int32)), .val (.int (0 : Int32)), .val (.int c0)]) rfl ?_
    show Steps p.tables e below (T3.setTop (mkF m 38 #[.val (.ref p0), .val (.int (1 : Int32)), .val (.ref p2), .val (.int (1 : Int32)), .val (.int (4 : Int32)), .val (.int (0 : Int32)), .val (.int c0)] [])) _
    refine XS.iinc X3.here hx rfl (hb hby d5_38) rfl (l' := #[.val (.ref p0), .val (.int (1 : Int32)), .val (.ref p2), .val (.int (1 : Int32)), .val (.int (4 : Int32)), .val (.int (1 : Int32)), .val (.int c0)]) rfl ?_
    show Steps p.tables e below (T3.setTop (mkF m 41 #[.val (.ref p0), .val (.int (1 : Int32)), .val (.ref p2), .val (.int (1 : Int32)), .val (.int (4 : Int32)), .val (.int (1 : Int32)), .val (.int c0)] [])) _
    refine XS.goto X3.here hx rfl (pc0 := 41) (pc' := 3) rfl (hb hby d5_41) (by decide) (by decide) ?_
    show Steps p.tables e below (T3.setTop (mkF m 3 #[.val (.ref p0), .val (.int (1 : Int32)), .val (.ref p2), .val (.int (1 : Int32)), .val (.int (4 : Int32)), .val (.int (1 : Int32)), .val (.int c0)] [])) _
    refine XS.iload X3.here hx rfl (hb hby d5_3) rfl  ?_
    show Steps p.tables e below (T3.setTop (mkF m 5 #[.val (.ref p0), .val (.int (1 : Int32)), .val (.ref p2), .val (.int (1 : Int32)), .val (.int (4 : Int32)), .val (.int (1 : Int32)), .val (.int c0)] [(.int (1 : Int32))])) _
    refine XS.iload X3.here hx rfl (hb hby d5_5) rfl  ?_
    show Steps p.tables e below (T3.setTop (mkF m 7 #[.val (.ref p0), .val (.int (1 : Int32)), .val (.ref p2), .val (.int (1 : Int32)), .val (.int (4 : Int32)), .val (.int (1 : Int32)), .val (.int c0)] [(.int (4 : Int32)), (.int (1 : Int32))])) _
    refine XS.icmpNo X3.here hx rfl (hb hby d5_7) rfl (tlt (by decide : (1 : Int32) < (4 : Int32))).2.1 ?_
    show Steps p.tables e below (T3.setTop (mkF m 10 #[.val (.ref p0), .val (.int (1 : Int32)), .val (.ref p2), .val (.int (1 : Int32)), .val (.int (4 : Int32)), .val (.int (1 : Int32)), .val (.int c0)] [])) _
    refine XS.aloadN X3.here hx rfl (hb hby d5_10) rfl rfl ?_
    show Steps p.tables e below (T3.setTop (mkF m 11 #[.val (.ref p0), .val (.int (1 : Int32)), .val (.ref p2), .val (.int (1 : Int32)), .val (.int (4 : Int32)), .val (.int (1 : Int32)), .val (.int c0)] [(.ref p0)])) _
    refine XS.iloadN X3.here hx rfl (hb hby d5_11) rfl  ?_
    show Steps p.tables e below (T3.setTop (mkF m 12 #[.val (.ref p0), .val (.int (1 : Int32)), .val (.ref p2), .val (.int (1 : Int32)), .val (.int (4 : Int32)), .val (.int (1 : Int32)), .val (.int c0)] [(.int (1 : Int32)), (.ref p0)])) _
    refine X3.caload hx (j := (1 : Int32)) (v := (.int c1)) (by rw [e3]; exact Ar5.1) (State.isArrayOf_alike hZ.alike Ar5.2.1) Ar5.2.2 hin5 hat5 (g := (mkF m 12 #[.val (.ref p0), .val (.int (1 : Int32)), .val (.ref p2), .val (.int (1 : Int32)), .val (.int (4 : Int32)), .val (.int (1 : Int32)), .val (.int c0)] [(.int (1 : Int32)), (.ref p0)])) rfl rfl (hb hby d5_12) _ ?_
    show Steps p.tables e below (T3.setTop (mkF m 13 #[.val (.ref p0), .val (.int (1 : Int32)), .val (.ref p2), .val (.int (1 : Int32)), .val (.int (4 : Int32)), .val (.int (1 : Int32)), .val (.int c0)] [(.int c1)])) _
    refine XS.istore X3.here hx rfl (hb hby d5_13) rfl (l' := #[.val (.ref p0), .val (.int (1 : Int32)), .val (.ref p2), .val (.int (1 : Int32)), .val (.int (4 : Int32)), .val (.int (1 : Int32)), .val (.int c1)]) rfl ?_
    show Steps p.tables e below (T3.setTop (mkF m 15 #[.val (.ref p0), .val (.int (1 : Int32)), .val (.ref p2), .val (.int (1 : Int32)), .val (.int (4 : Int32)), .val (.int (1 : Int32)), .val (.int c1)] [])) _
    refine XS.iload X3.here hx rfl (hb hby d5_15) rfl  ?_
    show Steps p.tables e below (T3.setTop (mkF m 17 #[.val (.ref p0), .val (.int (1 : Int32)), .val (.ref p2), .val (.int (1 : Int32)), .val (.int (4 : Int32)), .val (.int (1 : Int32)), .val (.int c1)] [(.int c1)])) _
    refine XS.sipush X3.here hx rfl (hb hby d5_17) ?_
    show Steps p.tables e below (T3.setTop (mkF m 20 #[.val (.ref p0), .val (.int (1 : Int32)), .val (.ref p2), .val (.int (1 : Int32)), .val (.int (4 : Int32)), .val (.int (1 : Int32)), .val (.int c1)] [(.int (255 : Int32)), (.int c1)])) _
    refine XS.icmpYes X3.here hx rfl (pc0 := 20) (pc' := 26) rfl (hb hby d5_20) rfl (flt hl_c1).2.2.2 (by decide) (by decide) ?_
    show Steps p.tables e below (T3.setTop (mkF m 26 #[.val (.ref p0), .val (.int (1 : Int32)), .val (.ref p2), .val (.int (1 : Int32)), .val (.int (4 : Int32)), .val (.int (1 : Int32)), .val (.int c1)] [])) _
    refine XS.aloadN X3.here hx rfl (hb hby d5_26) rfl rfl ?_
    show Steps p.tables e below (T3.setTop (mkF m 27 #[.val (.ref p0), .val (.int (1 : Int32)), .val (.ref p2), .val (.int (1 : Int32)), .val (.int (4 : Int32)), .val (.int (1 : Int32)), .val (.int c1)] [(.ref p2)])) _
    refine XS.iloadN X3.here hx rfl (hb hby d5_27) rfl  ?_
    show Steps p.tables e below (T3.setTop (mkF m 28 #[.val (.ref p0), .val (.int (1 : Int32)), .val (.ref p2), .val (.int (1 : Int32)), .val (.int (4 : Int32)), .val (.int (1 : Int32)), .val (.int c1)] [(.int (1 : Int32)), (.ref p2)])) _
    refine XS.iload X3.here hx rfl (hb hby d5_28) rfl  ?_
    show Steps p.tables e below (T3.setTop (mkF m 30 #[.val (.ref p0), .val (.int (1 : Int32)), .val (.ref p2), .val (.int (1 : Int32)), .val (.int (4 : Int32)), .val (.int (1 : Int32)), .val (.int c1)] [(.int c1), (.int (1 : Int32)), (.ref p2)])) _
    refine XS.i2b X3.here hx rfl (hb hby d5_30) rfl ?_
    show Steps p.tables e below (T3.setTop (mkF m 31 #[.val (.ref p0), .val (.int (1 : Int32)), .val (.ref p2), .val (.int (1 : Int32)), .val (.int (4 : Int32)), .val (.int (1 : Int32)), .val (.int c1)] [(.int (c1.toInt8.toInt32)), (.int (1 : Int32)), (.ref p2)])) _
    refine st7 _ ?_
    show Steps p.tables e below (T7.setTop (mkF m 32 #[.val (.ref p0), .val (.int (1 : Int32)), .val (.ref p2), .val (.int (1 : Int32)), .val (.int (4 : Int32)), .val (.int (1 : Int32)), .val (.int c1)] [])) _
    refine XS.iinc X7.here hx rfl (hb hby d5_32) rfl (l' := #[.val (.ref p0), .val (.int (2 : Int32)), .val (.ref p2), .val (.int (1 : Int32)), .val (.int (4 : Int32)), .val (.int (1 : Int32)), .val (.int c1)]) rfl ?_
    show Steps p.tables e below (T7.setTop (mkF m 35 #[.val (.ref p0), .val (.int (2 : Int32)), .val (.ref p2), .val (.int (1 : Int32)), .val (.int (4 : Int32)), .val (.int (1 : Int32)), .val (.int c1)] [])) _
    refine XS.iinc X7.here hx rfl (hb hby d5_35) rfl (l' := #[.val (.ref p0), .val (.int (2 : Int32)), .val (.ref p2), .val (.int (2 : Int32)), .val (.int (4 : Int32)), .val (.int (1 : Int32)), .val (.int c1)]) rfl ?_
    show Steps p.tables e below (T7.setTop (mkF m 38 #[.val (.ref p0), .val (.int (2 : Int32)), .val (.ref p2), .val (.int (2 : Int32)), .val (.int (4 : Int32)), .val (.int (1 : Int32)), .val (.int c1)] [])) _
    refine XS.iinc X7.here hx rfl (hb hby d5_38) rfl (l' := #[.val (.ref p0), .val (.int (2 : Int32)), .val (.ref p2), .val (.int (2 : Int32)), .val (.int (4 : Int32)), .val (.int (2 : Int32)), .val (.int c1)]) rfl ?_
    show Steps p.tables e below (T7.setTop (mkF m 41 #[.val (.ref p0), .val (.int (2 : Int32)), .val (.ref p2), .val (.int (2 : Int32)), .val (.int (4 : Int32)), .val (.int (2 : Int32)), .val (.int c1)] [])) _
    refine XS.goto X7.here hx rfl (pc0 := 41) (pc' := 3) rfl (hb hby d5_41) (by decide) (by decide) ?_
    show Steps p.tables e below (T7.setTop (mkF m 3 #[.val (.ref p0), .val (.int (2 : Int32)), .val (.ref p2), .val (.int (2 : Int32)), .val (.int (4 : Int32)), .val (.int (2 : Int32)), .val (.int c1)] [])) _
    refine XS.iload X7.here hx rfl (hb hby d5_3) rfl  ?_
    show Steps p.tables e below (T7.setTop (mkF m 5 #[.val (.ref p0), .val (.int (2 : Int32)), .val (.ref p2), .val (.int (2 : Int32)), .val (.int (4 : Int32)), .val (.int (2 : Int32)), .val (.int c1)] [(.int (2 : Int32))])) _
    refine XS.iload X7.here hx rfl (hb hby d5_5) rfl  ?_
    show Steps p.tables e below (T7.setTop (mkF m 7 #[.val (.ref p0), .val (.int (2 : Int32)), .val (.ref p2), .val (.int (2 : Int32)), .val (.int (4 : Int32)), .val (.int (2 : Int32)), .val (.int c1)] [(.int (4 : Int32)), (.int (2 : Int32))])) _
    refine XS.icmpNo X7.here hx rfl (hb hby d5_7) rfl (tlt (by decide : (2 : Int32) < (4 : Int32))).2.1 ?_
    show Steps p.tables e below (T7.setTop (mkF m 10 #[.val (.ref p0), .val (.int (2 : Int32)), .val (.ref p2), .val (.int (2 : Int32)), .val (.int (4 : Int32)), .val (.int (2 : Int32)), .val (.int c1)] [])) _
    refine XS.aloadN X7.here hx rfl (hb hby d5_10) rfl rfl ?_
    show Steps p.tables e below (T7.setTop (mkF m 11 #[.val (.ref p0), .val (.int (2 : Int32)), .val (.ref p2), .val (.int (2 : Int32)), .val (.int (4 : Int32)), .val (.int (2 : Int32)), .val (.int c1)] [(.ref p0)])) _
    refine XS.iloadN X7.here hx rfl (hb hby d5_11) rfl  ?_
    show Steps p.tables e below (T7.setTop (mkF m 12 #[.val (.ref p0), .val (.int (2 : Int32)), .val (.ref p2), .val (.int (2 : Int32)), .val (.int (4 : Int32)), .val (.int (2 : Int32)), .val (.int c1)] [(.int (2 : Int32)), (.ref p0)])) _
    refine X7.caload hx (j := (2 : Int32)) (v := (.int c2)) (by rw [e7]; exact Ar9.1) (State.isArrayOf_alike hZ.alike Ar9.2.1) Ar9.2.2 hin9 hat9 (g := (mkF m 12 #[.val (.ref p0), .val (.int (2 : Int32)), .val (.ref p2), .val (.int (2 : Int32)), .val (.int (4 : Int32)), .val (.int (2 : Int32)), .val (.int c1)] [(.int (2 : Int32)), (.ref p0)])) rfl rfl (hb hby d5_12) _ ?_
    show Steps p.tables e below (T7.setTop (mkF m 13 #[.val (.ref p0), .val (.int (2 : Int32)), .val (.ref p2), .val (.int (2 : Int32)), .val (.int (4 : Int32)), .val (.int (2 : Int32)), .val (.int c1)] [(.int c2)])) _
    refine XS.istore X7.here hx rfl (hb hby d5_13) rfl (l' := #[.val (.ref p0), .val (.int (2 : Int32)), .val (.ref p2), .val (.int (2 : Int32)), .val (.int (4 : Int32)), .val (.int (2 : Int32)), .val (.int c2)]) rfl ?_
    show Steps p.tables e below (T7.setTop (mkF m 15 #[.val (.ref p0), .val (.int (2 : Int32)), .val (.ref p2), .val (.int (2 : Int32)), .val (.int (4 : Int32)), .val (.int (2 : Int32)), .val (.int c2)] [])) _
    refine XS.iload X7.here hx rfl (hb hby d5_15) rfl  ?_
    show Steps p.tables e below (T7.setTop (mkF m 17 #[.val (.ref p0), .val (.int (2 : Int32)), .val (.ref p2), .val (.int (2 : Int32)), .val (.int (4 : Int32)), .val (.int (2 : Int32)), .val (.int c2)] [(.int c2)])) _
    refine XS.sipush X7.here hx rfl (hb hby d5_17) ?_
    show Steps p.tables e below (T7.setTop (mkF m 20 #[.val (.ref p0), .val (.int (2 : Int32)), .val (.ref p2), .val (.int (2 : Int32)), .val (.int (4 : Int32)), .val (.int (2 : Int32)), .val (.int c2)] [(.int (255 : Int32)), (.int c2)])) _
    refine XS.icmpYes X7.here hx rfl (pc0 := 20) (pc' := 26) rfl (hb hby d5_20) rfl (flt hl_c2).2.2.2 (by decide) (by decide) ?_
    show Steps p.tables e below (T7.setTop (mkF m 26 #[.val (.ref p0), .val (.int (2 : Int32)), .val (.ref p2), .val (.int (2 : Int32)), .val (.int (4 : Int32)), .val (.int (2 : Int32)), .val (.int c2)] [])) _
    refine XS.aloadN X7.here hx rfl (hb hby d5_26) rfl rfl ?_
    show Steps p.tables e below (T7.setTop (mkF m 27 #[.val (.ref p0), .val (.int (2 : Int32)), .val (.ref p2), .val (.int (2 : Int32)), .val (.int (4 : Int32)), .val (.int (2 : Int32)), .val (.int c2)] [(.ref p2)])) _
    refine XS.iloadN X7.here hx rfl (hb hby d5_27) rfl  ?_
    show Steps p.tables e below (T7.setTop (mkF m 28 #[.val (.ref p0), .val (.int (2 : Int32)), .val (.ref p2), .val (.int (2 : Int32)), .val (.int (4 : Int32)), .val (.int (2 : Int32)), .val (.int c2)] [(.int (2 : Int32)), (.ref p2)])) _
    refine XS.iload X7.here hx rfl (hb hby d5_28) rfl  ?_
    show Steps p.tables e below (T7.setTop (mkF m 30 #[.val (.ref p0), .val (.int (2 : Int32)), .val (.ref p2), .val (.int (2 : Int32)), .val (.int (4 : Int32)), .val (.int (2 : Int32)), .val (.int c2)] [(.int c2), (.int (2 : Int32)), (.ref p2)])) _
    refine XS.i2b X7.here hx rfl (hb hby d5_30) rfl ?_
    show Steps p.tables e below (T7.setTop (mkF m 31 #[.val (.ref p0), .val (.int (2 : Int32)), .val (.ref p2), .val (.int (2 : Int32)), .val (.int (4 : Int32)), .val (.int (2 : Int32)), .val (.int c2)] [(.int (c2.toInt8.toInt32)), (.int (2 : Int32)), (.ref p2)])) _
    refine st11 _ ?_
    show Steps p.tables e below (T11.setTop (mkF m 32 #[.val (.ref p0), .val (.int (2 : Int32)), .val (.ref p2), .val (.int (2 : Int32)), .val (.int (4 : Int32)), .val (.int (2 : Int32)), .val (.int c2)] [])) _
    refine XS.iinc X11.here hx rfl (hb hby d5_32) rfl (l' := #[.val (.ref p0), .val (.int (3 : Int32)), .val (.ref p2), .val (.int (2 : Int32)), .val (.int (4 : Int32)), .val (.int (2 : Int32)), .val (.int c2)]) rfl ?_
    show Steps p.tables e below (T11.setTop (mkF m 35 #[.val (.ref p0), .val (.int (3 : Int32)), .val (.ref p2), .val (.int (2 : Int32)), .val (.int (4 : Int32)), .val (.int (2 : Int32)), .val (.int c2)] [])) _
    refine XS.iinc X11.here hx rfl (hb hby d5_35) rfl (l' := #[.val (.ref p0), .val (.int (3 : Int32)), .val (.ref p2), .val (.int (3 : Int32)), .val (.int (4 : Int32)), .val (.int (2 : Int32)), .val (.int c2)]) rfl ?_
    show Steps p.tables e below (T11.setTop (mkF m 38 #[.val (.ref p0), .val (.int (3 : Int32)), .val (.ref p2), .val (.int (3 : Int32)), .val (.int (4 : Int32)), .val (.int (2 : Int32)), .val (.int c2)] [])) _
    refine XS.iinc X11.here hx rfl (hb hby d5_38) rfl (l' := #[.val (.ref p0), .val (.int (3 : Int32)), .val (.ref p2), .val (.int (3 : Int32)), .val (.int (4 : Int32)), .val (.int (3 : Int32)), .val (.int c2)]) rfl ?_
    show Steps p.tables e below (T11.setTop (mkF m 41 #[.val (.ref p0), .val (.int (3 : Int32)), .val (.ref p2), .val (.int (3 : Int32)), .val (.int (4 : Int32)), .val (.int (3 : Int32)), .val (.int c2)] [])) _
    refine XS.goto X11.here hx rfl (pc0 := 41) (pc' := 3) rfl (hb hby d5_41) (by decide) (by decide) ?_
    show Steps p.tables e below (T11.setTop (mkF m 3 #[.val (.ref p0), .val (.int (3 : Int32)), .val (.ref p2), .val (.int (3 : Int32)), .val (.int (4 : Int32)), .val (.int (3 : Int32)), .val (.int c2)] [])) _
    refine XS.iload X11.here hx rfl (hb hby d5_3) rfl  ?_
    show Steps p.tables e below (T11.setTop (mkF m 5 #[.val (.ref p0), .val (.int (3 : Int32)), .val (.ref p2), .val (.int (3 : Int32)), .val (.int (4 : Int32)), .val (.int (3 : Int32)), .val (.int c2)] [(.int (3 : Int32))])) _
    refine XS.iload X11.here hx rfl (hb hby d5_5) rfl  ?_
    show Steps p.tables e below (T11.setTop (mkF m 7 #[.val (.ref p0), .val (.int (3 : Int32)), .val (.ref p2), .val (.int (3 : Int32)), .val (.int (4 : Int32)), .val (.int (3 : Int32)), .val (.int c2)] [(.int (4 : Int32)), (.int (3 : Int32))])) _
    refine XS.icmpNo X11.here hx rfl (hb hby d5_7) rfl (tlt (by decide : (3 : Int32) < (4 : Int32))).2.1 ?_
    show Steps p.tables e below (T11.setTop (mkF m 10 #[.val (.ref p0), .val (.int (3 : Int32)), .val (.ref p2), .val (.int (3 : Int32)), .val (.int (4 : Int32)), .val (.int (3 : Int32)), .val (.int c2)] [])) _
    refine XS.aloadN X11.here hx rfl (hb hby d5_10) rfl rfl ?_
    show Steps p.tables e below (T11.setTop (mkF m 11 #[.val (.ref p0), .val (.int (3 : Int32)), .val (.ref p2), .val (.int (3 : Int32)), .val (.int (4 : Int32)), .val (.int (3 : Int32)), .val (.int c2)] [(.ref p0)])) _
    refine XS.iloadN X11.here hx rfl (hb hby d5_11) rfl  ?_
    show Steps p.tables e below (T11.setTop (mkF m 12 #[.val (.ref p0), .val (.int (3 : Int32)), .val (.ref p2), .val (.int (3 : Int32)), .val (.int (4 : Int32)), .val (.int (3 : Int32)), .val (.int c2)] [(.int (3 : Int32)), (.ref p0)])) _
    refine X11.caload hx (j := (3 : Int32)) (v := (.int c3)) (by rw [e11]; exact Ar13.1) (State.isArrayOf_alike hZ.alike Ar13.2.1) Ar13.2.2 hin13 hat13 (g := (mkF m 12 #[.val (.ref p0), .val (.int (3 : Int32)), .val (.ref p2), .val (.int (3 : Int32)), .val (.int (4 : Int32)), .val (.int (3 : Int32)), .val (.int c2)] [(.int (3 : Int32)), (.ref p0)])) rfl rfl (hb hby d5_12) _ ?_
    show Steps p.tables e below (T11.setTop (mkF m 13 #[.val (.ref p0), .val (.int (3 : Int32)), .val (.ref p2), .val (.int (3 : Int32)), .val (.int (4 : Int32)), .val (.int (3 : Int32)), .val (.int c2)] [(.int c3)])) _
    refine XS.istore X11.here hx rfl (hb hby d5_13) rfl (l' := #[.val (.ref p0), .val (.int (3 : Int32)), .val (.ref p2), .val (.int (3 : Int32)), .val (.int (4 : Int32)), .val (.int (3 : Int32)), .val (.int c3)]) rfl ?_
    show Steps p.tables e below (T11.setTop (mkF m 15 #[.val (.ref p0), .val (.int (3 : Int32)), .val (.ref p2), .val (.int (3 : Int32)), .val (.int (4 : Int32)), .val (.int (3 : Int32)), .val (.int c3)] [])) _
    refine XS.iload X11.here hx rfl (hb hby d5_15) rfl  ?_
    show Steps p.tables e below (T11.setTop (mkF m 17 #[.val (.ref p0), .val (.int (3 : Int32)), .val (.ref p2), .val (.int (3 : Int32)), .val (.int (4 : Int32)), .val (.int (3 : Int32)), .val (.int c3)] [(.int c3)])) _
    refine XS.sipush X11.here hx rfl (hb hby d5_17) ?_
    show Steps p.tables e below (T11.setTop (mkF m 20 #[.val (.ref p0), .val (.int (3 : Int32)), .val (.ref p2), .val (.int (3 : Int32)), .val (.int (4 : Int32)), .val (.int (3 : Int32)), .val (.int c3)] [(.int (255 : Int32)), (.int c3)])) _
    refine XS.icmpYes X11.here hx rfl (pc0 := 20) (pc' := 26) rfl (hb hby d5_20) rfl (flt hl_c3).2.2.2 (by decide) (by decide) ?_
    show Steps p.tables e below (T11.setTop (mkF m 26 #[.val (.ref p0), .val (.int (3 : Int32)), .val (.ref p2), .val (.int (3 : Int32)), .val (.int (4 : Int32)), .val (.int (3 : Int32)), .val (.int c3)] [])) _
    refine XS.aloadN X11.here hx rfl (hb hby d5_26) rfl rfl ?_
    show Steps p.tables e below (T11.setTop (mkF m 27 #[.val (.ref p0), .val (.int (3 : Int32)), .val (.ref p2), .val (.int (3 : Int32)), .val (.int (4 : Int32)), .val (.int (3 : Int32)), .val (.int c3)] [(.ref p2)])) _
    refine XS.iloadN X11.here hx rfl (hb hby d5_27) rfl  ?_
    show Steps p.tables e below (T11.setTop (mkF m 28 #[.val (.ref p0), .val (.int (3 : Int32)), .val (.ref p2), .val (.int (3 : Int32)), .val (.int (4 : Int32)), .val (.int (3 : Int32)), .val (.int c3)] [(.int (3 : Int32)), (.ref p2)])) _
    refine XS.iload X11.here hx rfl (hb hby d5_28) rfl  ?_
    show Steps p.tables e below (T11.setTop (mkF m 30 #[.val (.ref p0), .val (.int (3 : Int32)), .val (.ref p2), .val (.int (3 : Int32)), .val (.int (4 : Int32)), .val (.int (3 : Int32)), .val (.int c3)] [(.int c3), (.int (3 : Int32)), (.ref p2)])) _
    refine XS.i2b X11.here hx rfl (hb hby d5_30) rfl ?_
    show Steps p.tables e below (T11.setTop (mkF m 31 #[.val (.ref p0), .val (.int (3 : Int32)), .val (.ref p2), .val (.int (3 : Int32)), .val (.int (4 : Int32)), .val (.int (3 : Int32)), .val (.int c3)] [(.int (c3.toInt8.toInt32)), (.int (3 : Int32)), (.ref p2)])) _
    refine st15 _ ?_
    show Steps p.tables e below (T15.setTop (mkF m 32 #[.val (.ref p0), .val (.int (3 : Int32)), .val (.ref p2), .val (.int (3 : Int32)), .val (.int (4 : Int32)), .val (.int (3 : Int32)), .val (.int c3)] [])) _
    refine XS.iinc X15.here hx rfl (hb hby d5_32) rfl (l' := #[.val (.ref p0), .val (.int (4 : Int32)), .val (.ref p2), .val (.int (3 : Int32)), .val (.int (4 : Int32)), .val (.int (3 : Int32)), .val (.int c3)]) rfl ?_
    show Steps p.tables e below (T15.setTop (mkF m 35 #[.val (.ref p0), .val (.int (4 : Int32)), .val (.ref p2), .val (.int (3 : Int32)), .val (.int (4 : Int32)), .val (.int (3 : Int32)), .val (.int c3)] [])) _
    refine XS.iinc X15.here hx rfl (hb hby d5_35) rfl (l' := #[.val (.ref p0), .val (.int (4 : Int32)), .val (.ref p2), .val (.int (4 : Int32)), .val (.int (4 : Int32)), .val (.int (3 : Int32)), .val (.int c3)]) rfl ?_
    show Steps p.tables e below (T15.setTop (mkF m 38 #[.val (.ref p0), .val (.int (4 : Int32)), .val (.ref p2), .val (.int (4 : Int32)), .val (.int (4 : Int32)), .val (.int (3 : Int32)), .val (.int c3)] [])) _
    refine XS.iinc X15.here hx rfl (hb hby d5_38) rfl (l' := #[.val (.ref p0), .val (.int (4 : Int32)), .val (.ref p2), .val (.int (4 : Int32)), .val (.int (4 : Int32)), .val (.int (4 : Int32)), .val (.int c3)]) rfl ?_
    show Steps p.tables e below (T15.setTop (mkF m 41 #[.val (.ref p0), .val (.int (4 : Int32)), .val (.ref p2), .val (.int (4 : Int32)), .val (.int (4 : Int32)), .val (.int (4 : Int32)), .val (.int c3)] [])) _
    refine XS.goto X15.here hx rfl (pc0 := 41) (pc' := 3) rfl (hb hby d5_41) (by decide) (by decide) ?_
    show Steps p.tables e below (T15.setTop (mkF m 3 #[.val (.ref p0), .val (.int (4 : Int32)), .val (.ref p2), .val (.int (4 : Int32)), .val (.int (4 : Int32)), .val (.int (4 : Int32)), .val (.int c3)] [])) _
    refine XS.iload X15.here hx rfl (hb hby d5_3) rfl  ?_
    show Steps p.tables e below (T15.setTop (mkF m 5 #[.val (.ref p0), .val (.int (4 : Int32)), .val (.ref p2), .val (.int (4 : Int32)), .val (.int (4 : Int32)), .val (.int (4 : Int32)), .val (.int c3)] [(.int (4 : Int32))])) _
    refine XS.iload X15.here hx rfl (hb hby d5_5) rfl  ?_
    show Steps p.tables e below (T15.setTop (mkF m 7 #[.val (.ref p0), .val (.int (4 : Int32)), .val (.ref p2), .val (.int (4 : Int32)), .val (.int (4 : Int32)), .val (.int (4 : Int32)), .val (.int c3)] [(.int (4 : Int32)), (.int (4 : Int32))])) _
    refine XS.icmpYes X15.here hx rfl (pc0 := 7) (pc' := 44) rfl (hb hby d5_7) rfl (flt (by decide : ¬ ((4 : Int32) < (4 : Int32)))).2.1 (by decide) (by decide) ?_
    show Steps p.tables e below (T15.setTop (mkF m 44 #[.val (.ref p0), .val (.int (4 : Int32)), .val (.ref p2), .val (.int (4 : Int32)), .val (.int (4 : Int32)), .val (.int (4 : Int32)), .val (.int c3)] [])) _
    refine XS.iload X15.here hx rfl (hb hby d5_44) rfl  ?_
    show Steps p.tables e below (T15.setTop (mkF m 46 #[.val (.ref p0), .val (.int (4 : Int32)), .val (.ref p2), .val (.int (4 : Int32)), .val (.int (4 : Int32)), .val (.int (4 : Int32)), .val (.int c3)] [(.int (4 : Int32))])) _
    exact retI X15 hx Bd.returns (hb hby d5_46) hr
  · show Q_rmCmp4 Z p0 p2 zc fm ks kd c0 c1 c2 c3 h0 n0 _ T15.heap _
    rw [e15]
    exact ⟨⟨_, rfl, ⟨rfl, ⟨hl_c0, hl_c1, hl_c2, hl_c3⟩, V15⟩⟩, N15, K15⟩
theorem ef_rmComp4 (m : MethodId) (p0 : Addr) : entryFrame m #[(.ref p0), (.int (0 : Int32)), (.int (4 : Int32))] 6 = mkF m 0 #[.val (.ref p0), .val (.int (0 : Int32)), .val (.int (4 : Int32)), .unset, .unset, .unset] [] := by first | (simp [entryFrame, mkF, argsToLocals, Value.category]; done) | rfl
theorem d4_0 : decode jdk_52_method_16_code 0 = .ok (.iload_n 2, 1) := by decide +kernel
theorem d4_1 : decode jdk_52_method_16_code 1 = .ok (.newarray .byte, 2) := by decide +kernel
theorem d4_3 : decode jdk_52_method_16_code 3 = .ok (.astore_n 3, 1) := by decide +kernel
theorem d4_4 : decode jdk_52_method_16_code 4 = .ok (.aload_n 0, 1) := by decide +kernel
theorem d4_5 : decode jdk_52_method_16_code 5 = .ok (.iload_n 1, 1) := by decide +kernel
theorem d4_6 : decode jdk_52_method_16_code 6 = .ok (.aload_n 3, 1) := by decide +kernel
theorem d4_7 : decode jdk_52_method_16_code 7 = .ok (.iconst 0, 1) := by decide +kernel
theorem d4_8 : decode jdk_52_method_16_code 8 = .ok (.iload_n 2, 1) := by decide +kernel
theorem pd___CI_BII_I : parseMethodDescriptor "([CI[BII)I" = some ⟨[(.array .char), .int, (.array .byte), .int, .int], some .int⟩ := by decide +kernel
theorem d4_9 : decode jdk_52_method_16_code 9 = .ok (.invokestatic 115, 3) := by decide +kernel
theorem d4_12 : decode jdk_52_method_16_code 12 = .ok (.istore 4, 2) := by decide +kernel
theorem d4_14 : decode jdk_52_method_16_code 14 = .ok (.iload 4, 2) := by decide +kernel
theorem d4_16 : decode jdk_52_method_16_code 16 = .ok (.iload_n 2, 1) := by decide +kernel
theorem d4_17 : decode jdk_52_method_16_code 17 = .ok (.if_icmp .eq 40, 3) := by decide +kernel
theorem d4_57 : decode jdk_52_method_16_code 57 = .ok (.aload_n 3, 1) := by decide +kernel
theorem d4_58 : decode jdk_52_method_16_code 58 = .ok (.areturn, 1) := by decide +kernel
def Q_rmComp4 (Z : State) (p0 : Addr) (zc : Int32) (fm : Value) (ks : ClassId) (c0 : Int32) (c1 : Int32) (c2 : Int32) (c3 : Int32) (h0 : Heap) (n0 : Nat) (v : Option Value) (h : Heap) (L : List Loc) : Prop := (∃ (b : Addr) (k : ClassId), v = some (.ref b) ∧ n0 ≤ b ∧ h0.size ≤ b ∧ (((¬ (255 : Int32) < c0 ∧ ¬ (255 : Int32) < c1 ∧ ¬ (255 : Int32) < c2 ∧ ¬ (255 : Int32) < c3) ∧ Arv Z h b k .byte (4 : Int32) [(.int (own_b c0)), (.int (own_b c1)), (.int (own_b c2)), (.int (own_b c3))] (.int (0 : Int32))))) ∧ Fr n0 L ∧ Keep h0 h []
set_option maxRecDepth 65536 in
set_option maxHeartbeats 40000000 in
theorem rmComp4 (l : Launch) (Z : State) (a0 : Array Value) (hw : ∀ d ∈ tables_1, d.before a0 Z = true) (ws : List Jvm.Cond) (p0 : Addr) (zc : Int32) (fm : Value) (ks : ClassId) (c0 : Int32) (c1 : Int32) (c2 : Int32) (c3 : Int32) (h0 : Heap) (n0 : Nat) (Z0 : n0 ≤ h0.size) (hSt : own_St Z zc fm) (Ol : Old Z n0 h0) (As : Arv Z h0 p0 ks .char (4 : Int32) [(.int c0), (.int c1), (.int c2), (.int c3)] (.int (0 : Int32))) (hch : ∀ c ∈ [c0, c1, c2, c3], ¬ c < (0 : Int32) ∧ ¬ (65535 : Int32) < c) (hl_c0 : ¬ (255 : Int32) < c0) (hl_c1 : ¬ (255 : Int32) < c1) (hl_c2 : ¬ (255 : Int32) < c2) (hl_c3 : ¬ (255 : Int32) < c3) :
    MetFree l (⟨"java/lang/StringUTF16", "compress", "([CII)[B"⟩ : MethodName) (head1 (Jvm.Cond.code (⟨"java/lang/StringUTF16", "compress", "([CII)[B"⟩ : MethodName) jdk_52_method_16_code 6 (some (.array .byte)) :: ws) ({ frames := 1, cells := 1, slots := 4, locals := 18 } : Room)) (fun a U => a = #[(.ref p0), (.int (0 : Int32)), (.int (4 : Int32))] ∧ Z.Warmed39 U.vm ∧ U.heap = h0) (fun _ _ _ _ _ => True) (fun _ U o U' => ∃ v L, o = .returned v ∧ Q_rmComp4 Z p0 zc fm ks c0 c1 c2 c3 h0 n0 v U'.heap L ∧ FrameEnd U o U' L ({ frames := 1, cells := 1, slots := 4, locals := 18 } : Room).cells ({ frames := 1, cells := 1, slots := 4, locals := 18 } : Room).slots) := by
  refine MetFree.of_bodySF (plainFor_of_name pn_java_lang_StringUTF16) hisR ?_
  intro p e s m args below meth c s₁ Bd hml0 hP hK
  obtain ⟨rfl, hZ, hh⟩ := hP
  have hx := Bd.exec
  have hby := Bd.bytes
  have hml : c.maxLocals = 6 := hml0
  have hown : s.vm.findClass "java/lang/StringUTF16" = some m.cls := findClass_of_methodNamed Bd.named
  have hnm := (name_of_methodNamed Bd.named Bd.method).1
  have X0 : Stand p l e ({ frames := 1, cells := 1, slots := 4, locals := 18 } : Room) s m #[(.ref p0), (.int (0 : Int32)), (.int (4 : Int32))] below meth c s₁ [] 0 0 := Stand.of_body Bd
  have e0 : s₁.heap = h0 := by rw [← hh, Bd.state]; rfl
  have N0 := Fr.nil n0
  have pre0 : ∀ t, Steps p.tables e below (s₁.setTop (mkF m 0 #[.val (.ref p0), .val (.int (0 : Int32)), .val (.int (4 : Int32)), .unset, .unset, .unset] [])) t → Steps p.tables e below (s₁.setTop (entryFrame m #[(.ref p0), (.int (0 : Int32)), (.int (4 : Int32))] 6)) t := fun t k => castTop (ef_rmComp4 m p0 ) k
  obtain ⟨T1, h1, k1, X1, e1, E1, A1, st1⟩ := newP X0 hx hZ (hw _ (List.mem_of_getElem? (i := 20) rfl)) e0 (g := (mkF m 1 #[.val (.ref p0), .val (.int (0 : Int32)), .val (.int (4 : Int32)), .unset, .unset, .unset] [(.int (4 : Int32))])) rfl (hb hby d4_1) rfl (by decide) (cap := 4) (by decide) (by decide) (by decide) (by decide)
  obtain ⟨b1, g1⟩ : ∃ z, z = h0.size := ⟨_, rfl⟩
  rw [← g1] at A1 st1
  have ne1_p0 : p0 ≠ b1 := Nat.ne_of_lt (Nat.lt_of_lt_of_le As.lt (Nat.le_of_eq g1.symm))
  have ge1 : n0 ≤ b1 := Nat.le_trans Z0 (Nat.le_of_eq g1.symm)
  have sz1 : h0.size ≤ b1 := Nat.le_trans (Keep.refl h0 []).1 (Nat.le_of_eq g1.symm)
  have K1 := (Keep.refl h0 []).ext E1
  have V1 : Arv Z h1 b1 k1 .byte (4 : Int32) [(.int (0 : Int32)), (.int (0 : Int32)), (.int (0 : Int32)), (.int (0 : Int32))] (.int (0 : Int32)) := (Arv.new A1 (by decide)).pad (pad_rep [] (.int (0 : Int32)) 4)
  have f2 := (As.ext E1)
  have f3 := (Nat.le_trans Z0 E1.1)
  have f4 := (Ol.ext E1)
  obtain ⟨_, _, ⟨T5, L5, k5, n5⟩, -, X5, ⟨Lc5, hQ5, l5, y5, z5⟩, st5⟩ := Jvm.LawKit.callS X1 hx (y := (⟨"java/lang/StringUTF16", "compress", "([CI[BII)I"⟩ : MethodName)) hown (mvT hZ (hw _ (List.mem_of_getElem? (i := 21) rfl))) (mvT hZ (hw _ (List.mem_of_getElem? (i := 22) rfl))) (mvT hZ (hw _ (List.mem_of_getElem? (i := 18) rfl))) (mvT hZ (hw _ (List.mem_of_getElem? (i := 23) rfl))) (by decide) (backOf (W := 0) (rmCmp4 l Z a0 hw [] p0 b1 zc fm ks k1 c0 c1 c2 c3 h1 n0 f3 hSt f4 f2 V1 ne1_p0 ge1 hl_c0 hl_c1 hl_c2 hl_c3) hZ (hw _ (List.mem_of_getElem? (i := 23) rfl)) (hw _ (List.mem_of_getElem? (i := 18) rfl)) (by decide) (by decide)) (g := (mkF m 9 #[.val (.ref p0), .val (.int (0 : Int32)), .val (.int (4 : Int32)), .val (.ref b1), .unset, .unset] [(.int (4 : Int32)), (.int (0 : Int32)), (.ref b1), (.int (0 : Int32)), (.ref p0)])) rfl (by rw [hml]; rfl) (argsL := [(.ref p0), (.int (0 : Int32)), (.ref b1), (.int (0 : Int32)), (.int (4 : Int32))]) (rest := []) (lenOf pd___CI_BII_I rfl) rfl (by show 2 * 0 + _ ≤ _; exact Nat.le_of_eq rfl) (hb hby d4_9) (fun _ _ => ⟨rfl, e1, (by decide : 1 + 0 ≤ _), (by decide : 4 + 0 ≤ _)⟩)
  dsimp only [Pt.U, Pt.locs, Pt.cells, Pt.slots] at X5 l5 y5 z5 st5 hQ5
  subst l5 y5 z5
  obtain ⟨⟨rc, rfl, hD⟩, Nq5, K5⟩ := hQ5
  have N5 := Fr.app N0 Nq5
  have KK5 := K1.trans K5 (allS (Or.inr sz1) all0)
  have pre6 : ∀ t, Steps p.tables e below (T5.setTop (mkF m 12 #[.val (.ref p0), .val (.int (0 : Int32)), .val (.int (4 : Int32)), .val (.ref b1), .unset, .unset] [(.int rc)])) t → Steps p.tables e below (s₁.setTop (entryFrame m #[(.ref p0), (.int (0 : Int32)), (.int (4 : Int32))] 6)) t := fun t kt => pre0 t (by
    show Steps p.tables e below (s₁.setTop (mkF m 0 #[.val (.ref p0), .val (.int (0 : Int32)), .val (.int (4 : Int32)), .unset, .unset, .unset] [])) _
    refine XS.iloadN X0.here hx rfl (hb hby d4_0) rfl  ?_
    show Steps p.tables e below (s₁.setTop (mkF m 1 #[.val (.ref p0), .val (.int (0 : Int32)), .val (.int (4 : Int32)), .unset, .unset, .unset] [(.int (4 : Int32))])) _
    refine st1 _ ?_
    show Steps p.tables e below (T1.setTop (mkF m 3 #[.val (.ref p0), .val (.int (0 : Int32)), .val (.int (4 : Int32)), .unset, .unset, .unset] [(.ref b1)])) _
    refine XS.astoreN X1.here hx rfl (hb hby d4_3) rfl rfl (l' := #[.val (.ref p0), .val (.int (0 : Int32)), .val (.int (4 : Int32)), .val (.ref b1), .unset, .unset]) rfl ?_
    show Steps p.tables e below (T1.setTop (mkF m 4 #[.val (.ref p0), .val (.int (0 : Int32)), .val (.int (4 : Int32)), .val (.ref b1), .unset, .unset] [])) _
    refine XS.aloadN X1.here hx rfl (hb hby d4_4) rfl rfl ?_
    show Steps p.tables e below (T1.setTop (mkF m 5 #[.val (.ref p0), .val (.int (0 : Int32)), .val (.int (4 : Int32)), .val (.ref b1), .unset, .unset] [(.ref p0)])) _
    refine XS.iloadN X1.here hx rfl (hb hby d4_5) rfl  ?_
    show Steps p.tables e below (T1.setTop (mkF m 6 #[.val (.ref p0), .val (.int (0 : Int32)), .val (.int (4 : Int32)), .val (.ref b1), .unset, .unset] [(.int (0 : Int32)), (.ref p0)])) _
    refine XS.aloadN X1.here hx rfl (hb hby d4_6) rfl rfl ?_
    show Steps p.tables e below (T1.setTop (mkF m 7 #[.val (.ref p0), .val (.int (0 : Int32)), .val (.int (4 : Int32)), .val (.ref b1), .unset, .unset] [(.ref b1), (.int (0 : Int32)), (.ref p0)])) _
    refine XS.iconst X1.here hx rfl (hb hby d4_7) ?_
    show Steps p.tables e below (T1.setTop (mkF m 8 #[.val (.ref p0), .val (.int (0 : Int32)), .val (.int (4 : Int32)), .val (.ref b1), .unset, .unset] [(.int (0 : Int32)), (.ref b1), (.int (0 : Int32)), (.ref p0)])) _
    refine XS.iloadN X1.here hx rfl (hb hby d4_8) rfl  ?_
    show Steps p.tables e below (T1.setTop (mkF m 9 #[.val (.ref p0), .val (.int (0 : Int32)), .val (.int (4 : Int32)), .val (.ref b1), .unset, .unset] [(.int (4 : Int32)), (.int (0 : Int32)), (.ref b1), (.int (0 : Int32)), (.ref p0)])) _
    refine st5 _ ?_
    exact kt)
  obtain ⟨rfl, hle, Ad⟩ := hD
  obtain ⟨fs, hr, hrun, hended, hW, hsame⟩ := X5.leave (v := some (.ref b1)) (fun h => by rw [Bd.returns] at h; cases h)
  refine ⟨_, _, pre6 _ ?_, hrun, hended, _, _, rfl, ?_, ⟨_, rfl⟩, hW, hsame.mono (by decide) (by decide)⟩
  · show Steps p.tables e below (T5.setTop (mkF m 12 #[.val (.ref p0), .val (.int (0 : Int32)), .val (.int (4 : Int32)), .val (.ref b1), .unset, .unset] [(.int (4 : Int32))])) _
    refine XS.istore X5.here hx rfl (hb hby d4_12) rfl (l' := #[.val (.ref p0), .val (.int (0 : Int32)), .val (.int (4 : Int32)), .val (.ref b1), .val (.int (4 : Int32)), .unset]) rfl ?_
    show Steps p.tables e below (T5.setTop (mkF m 14 #[.val (.ref p0), .val (.int (0 : Int32)), .val (.int (4 : Int32)), .val (.ref b1), .val (.int (4 : Int32)), .unset] [])) _
    refine XS.iload X5.here hx rfl (hb hby d4_14) rfl  ?_
    show Steps p.tables e below (T5.setTop (mkF m 16 #[.val (.ref p0), .val (.int (0 : Int32)), .val (.int (4 : Int32)), .val (.ref b1), .val (.int (4 : Int32)), .unset] [(.int (4 : Int32))])) _
    refine XS.iloadN X5.here hx rfl (hb hby d4_16) rfl  ?_
    show Steps p.tables e below (T5.setTop (mkF m 17 #[.val (.ref p0), .val (.int (0 : Int32)), .val (.int (4 : Int32)), .val (.ref b1), .val (.int (4 : Int32)), .unset] [(.int (4 : Int32)), (.int (4 : Int32))])) _
    refine XS.icmpYes X5.here hx rfl (pc0 := 17) (pc' := 57) rfl (hb hby d4_17) rfl (teq (by decide : (4 : Int32) = (4 : Int32))).1 (by decide) (by decide) ?_
    show Steps p.tables e below (T5.setTop (mkF m 57 #[.val (.ref p0), .val (.int (0 : Int32)), .val (.int (4 : Int32)), .val (.ref b1), .val (.int (4 : Int32)), .unset] [])) _
    refine XS.aloadN X5.here hx rfl (hb hby d4_57) rfl rfl ?_
    show Steps p.tables e below (T5.setTop (mkF m 58 #[.val (.ref p0), .val (.int (0 : Int32)), .val (.int (4 : Int32)), .val (.ref b1), .val (.int (4 : Int32)), .unset] [(.ref b1)])) _
    jvm_step X5.here [X5.here.top, hx, (hb hby d4_58), X5.method', Bd.returns, Value.isRef, FieldType.isReference]
    first | (intro acts; rw [hr _ acts rfl rfl rfl]) | rw [hr _ _ rfl rfl rfl]
    exact Steps.refl _
  · show Q_rmComp4 Z p0 zc fm ks c0 c1 c2 c3 h0 n0 _ T5.heap _
    exact ⟨⟨_, _, rfl, ge1, sz1, ⟨hle, Ad⟩⟩, N5, KK5⟩
theorem ef_rmCFA (m : MethodId) (p0 : Addr) (p1 : Int32) : entryFrame m #[(.ref p0), (.int p1)] 2 = mkF m 0 #[.val (.ref p0), .val (.int p1)] [] := by first | (simp [entryFrame, mkF, argsToLocals, Value.category]; done) | rfl
theorem d6_0 : decode jdk_52_method_15_code 0 = .ok (.iload_n 1, 1) := by decide +kernel
theorem d6_1 : decode jdk_52_method_15_code 1 = .ok (.aload_n 0, 1) := by decide +kernel
theorem d6_2 : decode jdk_52_method_15_code 2 = .ok (.arraylength, 1) := by decide +kernel
theorem d6_3 : decode jdk_52_method_15_code 3 = .ok (.isub, 1) := by decide +kernel
theorem d6_4 : decode jdk_52_method_15_code 4 = .ok (.bipush 31, 2) := by decide +kernel
theorem d6_6 : decode jdk_52_method_15_code 6 = .ok (.iushr, 1) := by decide +kernel
theorem d6_7 : decode jdk_52_method_15_code 7 = .ok (.i2b, 1) := by decide +kernel
theorem d6_8 : decode jdk_52_method_15_code 8 = .ok (.ireturn, 1) := by decide +kernel
def Q_rmCFA (Z : State) (p0 : Addr) (p1 : Int32) (zc : Int32) (fm : Value) (k : ClassId) (z : Int32) (vs : List Value) (r : Int32) (h0 : Heap) (n0 : Nat) (v : Option Value) (h : Heap) (L : List Loc) : Prop := v = some (.int r) ∧ Fr n0 L ∧ h = h0
set_option maxRecDepth 65536 in
set_option maxHeartbeats 40000000 in
theorem rmCFA (l : Launch) (Z : State) (a0 : Array Value) (hw : ∀ d ∈ tables_1, d.before a0 Z = true) (ws : List Jvm.Cond) (p0 : Addr) (p1 : Int32) (zc : Int32) (fm : Value) (k : ClassId) (z : Int32) (vs : List Value) (r : Int32) (h0 : Heap) (n0 : Nat) (Z0 : n0 ≤ h0.size) (hSt : own_St Z zc fm) (Ol : Old Z n0 h0) (A0 : Arv Z h0 p0 k .byte z vs (.int (0 : Int32))) (hres : r = nar .byte ((p1 - z).toUInt32 >>> ((31 : Int32) &&& 31).toUInt32).toInt32.toInt8.toInt32) :
    MetFree l (⟨"java/lang/StringUTF16", "coderFromArrayLen", "([BI)B"⟩ : MethodName) (head1 (Jvm.Cond.code (⟨"java/lang/StringUTF16", "coderFromArrayLen", "([BI)B"⟩ : MethodName) jdk_52_method_15_code 2 (some .byte) :: ws) ({ frames := 0, cells := 0, slots := 0, locals := 0 } : Room)) (fun a U => a = #[(.ref p0), (.int p1)] ∧ Z.Warmed39 U.vm ∧ U.heap = h0) (fun _ _ _ _ _ => True) (fun _ U o U' => ∃ v L, o = .returned v ∧ Q_rmCFA Z p0 p1 zc fm k z vs r h0 n0 v U'.heap L ∧ FrameEnd U o U' L ({ frames := 0, cells := 0, slots := 0, locals := 0 } : Room).cells ({ frames := 0, cells := 0, slots := 0, locals := 0 } : Room).slots) := by
  refine MetFree.of_bodySF (plainFor_of_name pn_java_lang_StringUTF16) hisR ?_
  intro p e s m args below meth c s₁ Bd hml0 hP hK
  obtain ⟨rfl, hZ, hh⟩ := hP
  have hx := Bd.exec
  have hby := Bd.bytes
  have hml : c.maxLocals = 2 := hml0
  have hown : s.vm.findClass "java/lang/StringUTF16" = some m.cls := findClass_of_methodNamed Bd.named
  have hnm := (name_of_methodNamed Bd.named Bd.method).1
  have X0 : Stand p l e ({ frames := 0, cells := 0, slots := 0, locals := 0 } : Room) s m #[(.ref p0), (.int p1)] below meth c s₁ [] 0 0 := Stand.of_body Bd
  have e0 : s₁.heap = h0 := by rw [← hh, Bd.state]; rfl
  have N0 := Fr.nil n0
  have pre0 : ∀ t, Steps p.tables e below (s₁.setTop (mkF m 0 #[.val (.ref p0), .val (.int p1)] [])) t → Steps p.tables e below (s₁.setTop (entryFrame m #[(.ref p0), (.int p1)] 2)) t := fun t k => castTop (ef_rmCFA m p0 p1 ) k
  obtain ⟨cl1, Ar1, -, S1, N1, -, -⟩ := id A0
  obtain ⟨fs, hr, hrun, hended, hW, hsame⟩ := X0.leave (v := some (.int (nar .byte ((((p1 - z).toUInt32 >>> ((31 : Int32) &&& 31).toUInt32).toInt32).toInt8.toInt32)))) (fun h => by rw [Bd.returns] at h; cases h)
  refine ⟨_, _, pre0 _ ?_, hrun, hended, _, _, rfl, ?_, ⟨_, rfl⟩, hW, hsame.mono (by decide) (by decide)⟩
  · show Steps p.tables e below (s₁.setTop (mkF m 0 #[.val (.ref p0), .val (.int p1)] [])) _
    refine XS.iloadN X0.here hx rfl (hb hby d6_0) rfl  ?_
    show Steps p.tables e below (s₁.setTop (mkF m 1 #[.val (.ref p0), .val (.int p1)] [(.int p1)])) _
    refine XS.aloadN X0.here hx rfl (hb hby d6_1) rfl rfl ?_
    show Steps p.tables e below (s₁.setTop (mkF m 2 #[.val (.ref p0), .val (.int p1)] [(.ref p0), (.int p1)])) _
    refine X0.arraylength hx (by rw [e0]; exact Ar1.1) (State.isArrayOf_alike hZ.alike Ar1.2.1) (g := (mkF m 2 #[.val (.ref p0), .val (.int p1)] [(.ref p0), (.int p1)])) rfl rfl (hb hby d6_2) _ ?_
    rw [len_of S1 N1]
    show Steps p.tables e below (s₁.setTop (mkF m 3 #[.val (.ref p0), .val (.int p1)] [(.int z), (.int p1)])) _
    refine XS.isub X0.here hx rfl (hb hby d6_3) rfl ?_
    show Steps p.tables e below (s₁.setTop (mkF m 4 #[.val (.ref p0), .val (.int p1)] [(.int (p1 - z))])) _
    refine XS.bipush X0.here hx rfl (hb hby d6_4) ?_
    show Steps p.tables e below (s₁.setTop (mkF m 6 #[.val (.ref p0), .val (.int p1)] [(.int (31 : Int32)), (.int (p1 - z))])) _
    refine XS.iushr X0.here hx rfl (hb hby d6_6) rfl ?_
    show Steps p.tables e below (s₁.setTop (mkF m 7 #[.val (.ref p0), .val (.int p1)] [(.int (((p1 - z).toUInt32 >>> ((31 : Int32) &&& 31).toUInt32).toInt32))])) _
    refine XS.i2b X0.here hx rfl (hb hby d6_7) rfl ?_
    show Steps p.tables e below (s₁.setTop (mkF m 8 #[.val (.ref p0), .val (.int p1)] [(.int ((((p1 - z).toUInt32 >>> ((31 : Int32) &&& 31).toUInt32).toInt32).toInt8.toInt32))])) _
    exact retN X0 hx (t := .byte) Bd.returns (by simp) (hb hby d6_8) hr
  · show Q_rmCFA Z p0 p1 zc fm k z vs r h0 n0 _ s₁.heap _
    rw [e0]
    exact ⟨by rw [hres], N0, rfl⟩
theorem ef_rmNew4_4 (m : MethodId) (p0 : Addr) (p1 : Addr) : entryFrame m #[(.ref p0), (.ref p1), (.int (0 : Int32)), (.int (4 : Int32)), .null] 6 = mkF m 0 #[.val (.ref p0), .val (.ref p1), .val (.int (0 : Int32)), .val (.int (4 : Int32)), .val .null, .unset] [] := by first | (simp [entryFrame, mkF, argsToLocals, Value.category]; done) | rfl
theorem d2_0 : decode jdk_42_method_149_code 0 = .ok (.aload_n 0, 1) := by decide +kernel
theorem d2_1 : decode jdk_42_method_149_code 1 = .ok (.invokespecial 1, 3) := by decide +kernel
theorem d2_4 : decode jdk_42_method_149_code 4 = .ok (.iload_n 3, 1) := by decide +kernel
theorem d2_5 : decode jdk_42_method_149_code 5 = .ok (.ifCond .ne 22, 3) := by decide +kernel
theorem d2_27 : decode jdk_42_method_149_code 27 = .ok (.getstatic 38, 3) := by decide +kernel
theorem d2_30 : decode jdk_42_method_149_code 30 = .ok (.ifCond .eq 28, 3) := by decide +kernel
theorem d2_33 : decode jdk_42_method_149_code 33 = .ok (.aload_n 1, 1) := by decide +kernel
theorem d2_34 : decode jdk_42_method_149_code 34 = .ok (.iload_n 2, 1) := by decide +kernel
theorem d2_35 : decode jdk_42_method_149_code 35 = .ok (.iload_n 3, 1) := by decide +kernel
theorem pd___CII__B : parseMethodDescriptor "([CII)[B" = some ⟨[(.array .char), .int, .int], some (.array .byte)⟩ := by decide +kernel
theorem d2_36 : decode jdk_42_method_149_code 36 = .ok (.invokestatic 177, 3) := by decide +kernel
theorem d2_39 : decode jdk_42_method_149_code 39 = .ok (.astore 5, 2) := by decide +kernel
theorem d2_41 : decode jdk_42_method_149_code 41 = .ok (.aload_n 0, 1) := by decide +kernel
theorem d2_42 : decode jdk_42_method_149_code 42 = .ok (.aload 5, 2) := by decide +kernel
theorem d2_44 : decode jdk_42_method_149_code 44 = .ok (.iload_n 3, 1) := by decide +kernel
theorem pd___BI_B : parseMethodDescriptor "([BI)B" = some ⟨[(.array .byte), .int], some .byte⟩ := by decide +kernel
theorem d2_45 : decode jdk_42_method_149_code 45 = .ok (.invokestatic 47, 3) := by decide +kernel
theorem d2_48 : decode jdk_42_method_149_code 48 = .ok (.putfield 15, 3) := by decide +kernel
theorem d2_51 : decode jdk_42_method_149_code 51 = .ok (.aload_n 0, 1) := by decide +kernel
theorem d2_52 : decode jdk_42_method_149_code 52 = .ok (.aload 5, 2) := by decide +kernel
theorem d2_54 : decode jdk_42_method_149_code 54 = .ok (.putfield 9, 3) := by decide +kernel
theorem d2_57 : decode jdk_42_method_149_code 57 = .ok (.return_, 1) := by decide +kernel
def Q_rmNew4_4 (Z : State) (p0 : Addr) (p1 : Addr) (zc : Int32) (fm : Value) (ks : ClassId) (c0 : Int32) (c1 : Int32) (c2 : Int32) (c3 : Int32) (h0 : Heap) (n0 : Nat) (v : Option Value) (h : Heap) (L : List Loc) : Prop := v = none ∧ Fr n0 L ∧ Keep h0 h [p0] ∧ own_Str Z h p0 [c0, c1, c2, c3] ∧ own_Nrw Z h p0
set_option maxRecDepth 65536 in
set_option maxHeartbeats 40000000 in
theorem rmNew4_4 (l : Launch) (Z : State) (a0 : Array Value) (hw : ∀ d ∈ tables_1, d.before a0 Z = true) (ws : List Jvm.Cond) (p0 : Addr) (p1 : Addr) (zc : Int32) (fm : Value) (ks : ClassId) (c0 : Int32) (c1 : Int32) (c2 : Int32) (c3 : Int32) (h0 : Heap) (n0 : Nat) (Z0 : n0 ≤ h0.size) (hSt : own_St Z zc fm) (Ol : Old Z n0 h0) (E0 : Exa Z h0 p0 "java/lang/String") (Fv : Fld Z h0 p0 "java/lang/String" "value" "[B" .null) (Fc : Fld Z h0 p0 "java/lang/String" "coder" "B" (.int (0 : Int32))) (g0_ : n0 ≤ p0) (As : Arv Z h0 p1 ks .char (4 : Int32) [(.int c0), (.int c1), (.int c2), (.int c3)] (.int (0 : Int32))) (hch : ∀ c ∈ [c0, c1, c2, c3], ¬ c < (0 : Int32) ∧ ¬ (65535 : Int32) < c) (hl_c0 : ¬ (255 : Int32) < c0) (hl_c1 : ¬ (255 : Int32) < c1) (hl_c2 : ¬ (255 : Int32) < c2) (hl_c3 : ¬ (255 : Int32) < c3) :
    MetFree l (⟨"java/lang/String", "<init>", "([CIILjava/lang/Void;)V"⟩ : MethodName) (head1 (Jvm.Cond.code (⟨"java/lang/String", "<init>", "([CIILjava/lang/Void;)V"⟩ : MethodName) jdk_42_method_149_code 6 none :: ws) ({ frames := 2, cells := 1, slots := 4, locals := 35 } : Room)) (fun a U => a = #[(.ref p0), (.ref p1), (.int (0 : Int32)), (.int (4 : Int32)), .null] ∧ Z.Warmed39 U.vm ∧ U.heap = h0) (fun _ _ _ _ _ => True) (fun _ U o U' => ∃ v L, o = .returned v ∧ Q_rmNew4_4 Z p0 p1 zc fm ks c0 c1 c2 c3 h0 n0 v U'.heap L ∧ FrameEnd U o U' L ({ frames := 2, cells := 1, slots := 4, locals := 35 } : Room).cells ({ frames := 2, cells := 1, slots := 4, locals := 35 } : Room).slots) := by
  refine MetFree.of_bodySF (plainFor_of_name pn_java_lang_String) hisR ?_
  intro p e s m args below meth c s₁ Bd hml0 hP hK
  obtain ⟨rfl, hZ, hh⟩ := hP
  have hx := Bd.exec
  have hby := Bd.bytes
  have hml : c.maxLocals = 6 := hml0
  have hown : s.vm.findClass "java/lang/String" = some m.cls := findClass_of_methodNamed Bd.named
  have hnm := (name_of_methodNamed Bd.named Bd.method).1
  have X0 : Stand p l e ({ frames := 2, cells := 1, slots := 4, locals := 35 } : Room) s m #[(.ref p0), (.ref p1), (.int (0 : Int32)), (.int (4 : Int32)), .null] below meth c s₁ [] 0 0 := Stand.of_body Bd
  have e0 : s₁.heap = h0 := by rw [← hh, Bd.state]; rfl
  have N0 := Fr.nil n0
  have pre0 : ∀ t, Steps p.tables e below (s₁.setTop (mkF m 0 #[.val (.ref p0), .val (.ref p1), .val (.int (0 : Int32)), .val (.int (4 : Int32)), .val .null, .unset] [])) t → Steps p.tables e below (s₁.setTop (entryFrame m #[(.ref p0), (.ref p1), (.int (0 : Int32)), (.int (4 : Int32)), .null] 6)) t := fun t k => castTop (ef_rmNew4_4 m p0 p1 ) k
  obtain ⟨T1, X1, e1, st1⟩ := initO X0 hx hZ hown (hw _ (List.mem_of_getElem? (i := 12) rfl)) (hw _ (List.mem_of_getElem? (i := 13) rfl)) (hw _ (List.mem_of_getElem? (i := 14) rfl)) e0 (g := (mkF m 1 #[.val (.ref p0), .val (.ref p1), .val (.int (0 : Int32)), .val (.int (4 : Int32)), .val .null, .unset] [(.ref p0)])) rfl (by rw [hml]; rfl) rfl (hb hby d2_1) (by decide) (W := 0) (by show 2 * 0 + _ ≤ _; exact Nat.le_of_eq rfl) (by decide)
  obtain ⟨T2, X2, e2, st2⟩ := getS2 X1 hx hZ hown (host := "") (Or.inl (hw _ (List.mem_of_getElem? (i := 15) rfl))) Via.refl e1 (hSt.1.ext Ol.2) (g := (mkF m 27 #[.val (.ref p0), .val (.ref p1), .val (.int (0 : Int32)), .val (.int (4 : Int32)), .val .null, .unset] [])) rfl (hb hby d2_27)
  obtain ⟨_, _, ⟨T3, L3, k3, n3⟩, -, X3, ⟨Lc3, hQ3, l3, y3, z3⟩, st3⟩ := Jvm.LawKit.callS X2 hx (y := (⟨"java/lang/StringUTF16", "compress", "([CII)[B"⟩ : MethodName)) hown (mvT hZ (hw _ (List.mem_of_getElem? (i := 16) rfl))) (mvT hZ (hw _ (List.mem_of_getElem? (i := 17) rfl))) (mvT hZ (hw _ (List.mem_of_getElem? (i := 18) rfl))) (mvT hZ (hw _ (List.mem_of_getElem? (i := 19) rfl))) (by decide) (backOf (W := 0) (rmComp4 l Z a0 hw [] p1 zc fm ks c0 c1 c2 c3 h0 n0 Z0 hSt Ol As hch hl_c0 hl_c1 hl_c2 hl_c3) hZ (hw _ (List.mem_of_getElem? (i := 19) rfl)) (hw _ (List.mem_of_getElem? (i := 18) rfl)) (by decide) (by decide)) (g := (mkF m 36 #[.val (.ref p0), .val (.ref p1), .val (.int (0 : Int32)), .val (.int (4 : Int32)), .val .null, .unset] [(.int (4 : Int32)), (.int (0 : Int32)), (.ref p1)])) rfl (by rw [hml]; rfl) (argsL := [(.ref p1), (.int (0 : Int32)), (.int (4 : Int32))]) (rest := []) (lenOf pd___CII__B rfl) rfl (by show 2 * 0 + _ ≤ _; exact Nat.le_of_eq rfl) (hb hby d2_36) (fun _ _ => ⟨rfl, e2, (by decide : 0 + 1 ≤ _), (by decide : 0 + 4 ≤ _)⟩)
  dsimp only [Pt.U, Pt.locs, Pt.cells, Pt.slots] at X3 l3 y3 z3 st3 hQ3
  subst l3 y3 z3
  obtain ⟨⟨vb3, kb3, rfl, gb3, sb3, hD⟩, Nq3, K3⟩ := hQ3
  have N3 := Fr.app N0 Nq3
  have KK3 := (Keep.refl h0 [p0]).trans K3 all0
  have ne_vb3 : p0 ≠ vb3 := Nat.ne_of_lt (Nat.lt_of_lt_of_le E0.lt sb3)
  have pre4 : ∀ t, Steps p.tables e below (T3.setTop (mkF m 39 #[.val (.ref p0), .val (.ref p1), .val (.int (0 : Int32)), .val (.int (4 : Int32)), .val .null, .unset] [(.ref vb3)])) t → Steps p.tables e below (s₁.setTop (entryFrame m #[(.ref p0), (.ref p1), (.int (0 : Int32)), (.int (4 : Int32)), .null] 6)) t := fun t kt => pre0 t (by
    show Steps p.tables e below (s₁.setTop (mkF m 0 #[.val (.ref p0), .val (.ref p1), .val (.int (0 : Int32)), .val (.int (4 : Int32)), .val .null, .unset] [])) _
    refine XS.aloadN X0.here hx rfl (hb hby d2_0) rfl rfl ?_
    show Steps p.tables e below (s₁.setTop (mkF m 1 #[.val (.ref p0), .val (.ref p1), .val (.int (0 : Int32)), .val (.int (4 : Int32)), .val .null, .unset] [(.ref p0)])) _
    refine st1 _ ?_
    show Steps p.tables e below (T1.setTop (mkF m 4 #[.val (.ref p0), .val (.ref p1), .val (.int (0 : Int32)), .val (.int (4 : Int32)), .val .null, .unset] [])) _
    refine XS.iloadN X1.here hx rfl (hb hby d2_4) rfl  ?_
    show Steps p.tables e below (T1.setTop (mkF m 5 #[.val (.ref p0), .val (.ref p1), .val (.int (0 : Int32)), .val (.int (4 : Int32)), .val .null, .unset] [(.int (4 : Int32))])) _
    refine XS.ifYes X1.here hx rfl (pc0 := 5) (pc' := 27) rfl (hb hby d2_5) rfl ((if0 _ _).trans (feq (by decide : ¬ ((4 : Int32) = (0 : Int32)))).2) (by decide) (by decide) ?_
    show Steps p.tables e below (T1.setTop (mkF m 27 #[.val (.ref p0), .val (.ref p1), .val (.int (0 : Int32)), .val (.int (4 : Int32)), .val .null, .unset] [])) _
    refine st2 _ ?_
    show Steps p.tables e below (T2.setTop (mkF m 30 #[.val (.ref p0), .val (.ref p1), .val (.int (0 : Int32)), .val (.int (4 : Int32)), .val .null, .unset] [(.int zc)])) _
    refine XS.ifNo X2.here hx rfl (hb hby d2_30) rfl ((if0 _ _).trans (feq hSt.2.1).1) ?_
    show Steps p.tables e below (T2.setTop (mkF m 33 #[.val (.ref p0), .val (.ref p1), .val (.int (0 : Int32)), .val (.int (4 : Int32)), .val .null, .unset] [])) _
    refine XS.aloadN X2.here hx rfl (hb hby d2_33) rfl rfl ?_
    show Steps p.tables e below (T2.setTop (mkF m 34 #[.val (.ref p0), .val (.ref p1), .val (.int (0 : Int32)), .val (.int (4 : Int32)), .val .null, .unset] [(.ref p1)])) _
    refine XS.iloadN X2.here hx rfl (hb hby d2_34) rfl  ?_
    show Steps p.tables e below (T2.setTop (mkF m 35 #[.val (.ref p0), .val (.ref p1), .val (.int (0 : Int32)), .val (.int (4 : Int32)), .val .null, .unset] [(.int (0 : Int32)), (.ref p1)])) _
    refine XS.iloadN X2.here hx rfl (hb hby d2_35) rfl  ?_
    show Steps p.tables e below (T2.setTop (mkF m 36 #[.val (.ref p0), .val (.ref p1), .val (.int (0 : Int32)), .val (.int (4 : Int32)), .val .null, .unset] [(.int (4 : Int32)), (.int (0 : Int32)), (.ref p1)])) _
    refine st3 _ ?_
    exact kt)
  obtain ⟨hle, Ad⟩ := hD
  have f5 := (Nat.le_trans Z0 K3.1)
  have f6 := (Ol.keep K3 all0)
  obtain ⟨_, _, ⟨T7, L7, k7, n7⟩, -, X7, ⟨Lc7, hQ7, l7, y7, z7⟩, st7⟩ := Jvm.LawKit.callS X3 hx (y := (⟨"java/lang/StringUTF16", "coderFromArrayLen", "([BI)B"⟩ : MethodName)) hown (mvT hZ (hw _ (List.mem_of_getElem? (i := 24) rfl))) (mvT hZ (hw _ (List.mem_of_getElem? (i := 25) rfl))) (mvT hZ (hw _ (List.mem_of_getElem? (i := 18) rfl))) (mvT hZ (hw _ (List.mem_of_getElem? (i := 26) rfl))) (by decide) (backOf (W := 1) (rmCFA l Z a0 hw [] vb3 (4 : Int32) zc fm kb3 (4 : Int32) [(.int (own_b c0)), (.int (own_b c1)), (.int (own_b c2)), (.int (own_b c3))] (0 : Int32) T3.heap n0 f5 hSt f6 Ad (by decide)) hZ (hw _ (List.mem_of_getElem? (i := 26) rfl)) (hw _ (List.mem_of_getElem? (i := 18) rfl)) (by decide) (by decide)) (g := (mkF m 45 #[.val (.ref p0), .val (.ref p1), .val (.int (0 : Int32)), .val (.int (4 : Int32)), .val .null, .val (.ref vb3)] [(.int (4 : Int32)), (.ref vb3), (.ref p0)])) rfl (by rw [hml]; rfl) (argsL := [(.ref vb3), (.int (4 : Int32))]) (rest := [(.ref p0)]) (lenOf pd___BI_B rfl) rfl (by show 2 * 0 + _ ≤ _; exact Nat.le_of_eq rfl) (hb hby d2_45) (fun _ _ => ⟨rfl, rfl, (by decide : 1 + 0 ≤ _), (by decide : 4 + 0 ≤ _)⟩)
  dsimp only [Pt.U, Pt.locs, Pt.cells, Pt.slots] at X7 l7 y7 z7 st7 hQ7
  subst l7 y7 z7
  obtain ⟨rfl, Nq7, e7⟩ := hQ7
  have N7 := Fr.app N3 Nq7
  have f8 := (E0.keep K3)
  have f9 := (Fc.keep K3 nin0)
  obtain ⟨T10, h10, X10, e10, W10, st10⟩ := putFN X7 hx hZ hown (hw _ (List.mem_of_getElem? (i := 27) rfl)) Via.refl e7 f9 f8 (Or.inr ⟨(hw _ (List.mem_of_getElem? (i := 28) rfl)), rfl, hnm⟩) (hw _ (List.mem_of_getElem? (i := 3) rfl)) (ty := .byte) (v' := (.int (0 : Int32))) (by decide) rfl (by decide) (g := (mkF m 48 #[.val (.ref p0), .val (.ref p1), .val (.int (0 : Int32)), .val (.int (4 : Int32)), .val .null, .val (.ref vb3)] [(.int (0 : Int32)), (.ref p0)])) rfl rfl (hb hby d2_48)
  have Fw10 := f9.same W10
  have N10 := Fr.snoc X10 N7 g0_
  have K10 := KK3.wr W10 (Or.inl (List.mem_of_getElem? (i := 0) rfl))
  have f11 := (f8.wr W10)
  have f12 := ((Fv.keep K3 nin0).other W10 (Or.inr (slot_ne (Or.inr (hw _ (List.mem_of_getElem? (i := 30) rfl))) (Or.inr (hw _ (List.mem_of_getElem? (i := 28) rfl))) (by decide) (t := (.array .byte)) (t' := .byte) (by decide) (by decide))))
  obtain ⟨T13, h13, X13, e13, W13, st13⟩ := putF X10 hx hZ hown (host := "") (Or.inl (hw _ (List.mem_of_getElem? (i := 29) rfl))) Via.refl e10 f12 f11 (Or.inr ⟨(hw _ (List.mem_of_getElem? (i := 30) rfl)), rfl, hnm⟩) (hw _ (List.mem_of_getElem? (i := 3) rfl)) (ty := (.array .byte)) (by decide) rfl rfl (g := (mkF m 54 #[.val (.ref p0), .val (.ref p1), .val (.int (0 : Int32)), .val (.int (4 : Int32)), .val .null, .val (.ref vb3)] [(.ref vb3), (.ref p0)])) rfl rfl (hb hby d2_54)
  have Fw13 := f12.same W13
  have N13 := Fr.snoc X13 N10 g0_
  have K13 := K10.wr W13 (Or.inl (List.mem_of_getElem? (i := 0) rfl))
  have f14 := (f11.wr W13)
  have f15 := (Fw10.other W13 (Or.inr (slot_ne (Or.inr (hw _ (List.mem_of_getElem? (i := 28) rfl))) (Or.inr (hw _ (List.mem_of_getElem? (i := 30) rfl))) (by decide) (t := .byte) (t' := (.array .byte)) (by decide) (by decide))))
  have f16 := ((Ad.other W10 (Ne.symm ne_vb3)).other W13 (Ne.symm ne_vb3))
  obtain ⟨fs, hr, hrun, hended, hW, hsame⟩ := X13.leave (v := none) (fun _ => rfl)
  refine ⟨_, _, pre4 _ ?_, hrun, hended, _, _, rfl, ?_, ⟨_, rfl⟩, hW, hsame.mono (by decide) (by decide)⟩
  · show Steps p.tables e below (T3.setTop (mkF m 39 #[.val (.ref p0), .val (.ref p1), .val (.int (0 : Int32)), .val (.int (4 : Int32)), .val .null, .unset] [(.ref vb3)])) _
    refine XS.astore X3.here hx rfl (hb hby d2_39) rfl rfl (l' := #[.val (.ref p0), .val (.ref p1), .val (.int (0 : Int32)), .val (.int (4 : Int32)), .val .null, .val (.ref vb3)]) rfl ?_
    show Steps p.tables e below (T3.setTop (mkF m 41 #[.val (.ref p0), .val (.ref p1), .val (.int (0 : Int32)), .val (.int (4 : Int32)), .val .null, .val (.ref vb3)] [])) _
    refine XS.aloadN X3.here hx rfl (hb hby d2_41) rfl rfl ?_
    show Steps p.tables e below (T3.setTop (mkF m 42 #[.val (.ref p0), .val (.ref p1), .val (.int (0 : Int32)), .val (.int (4 : Int32)), .val .null, .val (.ref vb3)] [(.ref p0)])) _
    refine XS.aload X3.here hx rfl (hb hby d2_42) rfl rfl ?_
    show Steps p.tables e below (T3.setTop (mkF m 44 #[.val (.ref p0), .val (.ref p1), .val (.int (0 : Int32)), .val (.int (4 : Int32)), .val .null, .val (.ref vb3)] [(.ref vb3), (.ref p0)])) _
    refine XS.iloadN X3.here hx rfl (hb hby d2_44) rfl  ?_
    show Steps p.tables e below (T3.setTop (mkF m 45 #[.val (.ref p0), .val (.ref p1), .val (.int (0 : Int32)), .val (.int (4 : Int32)), .val .null, .val (.ref vb3)] [(.int (4 : Int32)), (.ref vb3), (.ref p0)])) _
    refine st7 _ ?_
    show Steps p.tables e below (T7.setTop (mkF m 48 #[.val (.ref p0), .val (.ref p1), .val (.int (0 : Int32)), .val (.int (4 : Int32)), .val .null, .val (.ref vb3)] [(.int (0 : Int32)), (.ref p0)])) _
    refine st10 _ ?_
    show Steps p.tables e below (T10.setTop (mkF m 51 #[.val (.ref p0), .val (.ref p1), .val (.int (0 : Int32)), .val (.int (4 : Int32)), .val .null, .val (.ref vb3)] [])) _
    refine XS.aloadN X10.here hx rfl (hb hby d2_51) rfl rfl ?_
    show Steps p.tables e below (T10.setTop (mkF m 52 #[.val (.ref p0), .val (.ref p1), .val (.int (0 : Int32)), .val (.int (4 : Int32)), .val .null, .val (.ref vb3)] [(.ref p0)])) _
    refine XS.aload X10.here hx rfl (hb hby d2_52) rfl rfl ?_
    show Steps p.tables e below (T10.setTop (mkF m 54 #[.val (.ref p0), .val (.ref p1), .val (.int (0 : Int32)), .val (.int (4 : Int32)), .val .null, .val (.ref vb3)] [(.ref vb3), (.ref p0)])) _
    refine st13 _ ?_
    show Steps p.tables e below (T13.setTop (mkF m 57 #[.val (.ref p0), .val (.ref p1), .val (.int (0 : Int32)), .val (.int (4 : Int32)), .val .null, .val (.ref vb3)] [])) _
    exact X13.returnOut hx Bd.returns (hb hby d2_57) hr
  · show Q_rmNew4_4 Z p0 p1 zc fm ks c0 c1 c2 c3 h0 n0 _ T13.heap _
    rw [e13]
    exact ⟨rfl, N13, K13, ⟨vb3, kb3, (0 : Int32), (4 : Int32), _, f14, Fw13, f15, f16, Or.inl ⟨rfl, rfl, rfl, (own_allc hle.1 (own_allc hle.2.1 (own_allc hle.2.2.1 (own_allc hle.2.2.2 (fun _ q => nomatch q)))))⟩, hch, Nat.le_of_ble_eq_true rfl⟩, own_nrwOf f15⟩
theorem ef_rmNew4 (m : MethodId) (p0 : Addr) (p1 : Addr) : entryFrame m #[(.ref p0), (.ref p1)] 2 = mkF m 0 #[.val (.ref p0), .val (.ref p1)] [] := by first | (simp [entryFrame, mkF, argsToLocals, Value.category]; done) | rfl
theorem d1_0 : decode jdk_42_method_3_code 0 = .ok (.aload_n 0, 1) := by decide +kernel
theorem d1_1 : decode jdk_42_method_3_code 1 = .ok (.aload_n 1, 1) := by decide +kernel
theorem d1_2 : decode jdk_42_method_3_code 2 = .ok (.iconst 0, 1) := by decide +kernel
theorem d1_3 : decode jdk_42_method_3_code 3 = .ok (.aload_n 1, 1) := by decide +kernel
theorem d1_4 : decode jdk_42_method_3_code 4 = .ok (.arraylength, 1) := by decide +kernel
theorem d1_5 : decode jdk_42_method_3_code 5 = .ok (.aconst_null, 1) := by decide +kernel
theorem pd___CIILjava_lang_Void__V : parseMethodDescriptor "([CIILjava/lang/Void;)V" = some ⟨[(.array .char), .int, .int, (.object "java/lang/Void")], none⟩ := by decide +kernel
theorem d1_6 : decode jdk_42_method_3_code 6 = .ok (.invokespecial 27, 3) := by decide +kernel
theorem d1_9 : decode jdk_42_method_3_code 9 = .ok (.return_, 1) := by decide +kernel
def Q_rmNew4 (Z : State) (p0 : Addr) (p1 : Addr) (zc : Int32) (fm : Value) (ks : ClassId) (c0 : Int32) (c1 : Int32) (c2 : Int32) (c3 : Int32) (h0 : Heap) (n0 : Nat) (v : Option Value) (h : Heap) (L : List Loc) : Prop := v = none ∧ Fr n0 L ∧ Keep h0 h [p0] ∧ own_Str Z h p0 [c0, c1, c2, c3] ∧ own_Nrw Z h p0
set_option maxRecDepth 65536 in
set_option maxHeartbeats 40000000 in
theorem rmNew4 (l : Launch) (Z : State) (a0 : Array Value) (hw : ∀ d ∈ tables_1, d.before a0 Z = true) (ws : List Jvm.Cond) (p0 : Addr) (p1 : Addr) (zc : Int32) (fm : Value) (ks : ClassId) (c0 : Int32) (c1 : Int32) (c2 : Int32) (c3 : Int32) (h0 : Heap) (n0 : Nat) (Z0 : n0 ≤ h0.size) (hSt : own_St Z zc fm) (Ol : Old Z n0 h0) (E0 : Exa Z h0 p0 "java/lang/String") (Fv : Fld Z h0 p0 "java/lang/String" "value" "[B" .null) (Fc : Fld Z h0 p0 "java/lang/String" "coder" "B" (.int (0 : Int32))) (g0_ : n0 ≤ p0) (As : Arv Z h0 p1 ks .char (4 : Int32) [(.int c0), (.int c1), (.int c2), (.int c3)] (.int (0 : Int32))) (hch : ∀ c ∈ [c0, c1, c2, c3], ¬ c < (0 : Int32) ∧ ¬ (65535 : Int32) < c) (hl_c0 : ¬ (255 : Int32) < c0) (hl_c1 : ¬ (255 : Int32) < c1) (hl_c2 : ¬ (255 : Int32) < c2) (hl_c3 : ¬ (255 : Int32) < c3) :
    MetFree l (⟨"java/lang/String", "<init>", "([C)V"⟩ : MethodName) (head1 (Jvm.Cond.code (⟨"java/lang/String", "<init>", "([C)V"⟩ : MethodName) jdk_42_method_3_code 2 none :: ws) ({ frames := 3, cells := 1, slots := 4, locals := 52 } : Room)) (fun a U => a = #[(.ref p0), (.ref p1)] ∧ Z.Warmed39 U.vm ∧ U.heap = h0) (fun _ _ _ _ _ => True) (fun _ U o U' => ∃ v L, o = .returned v ∧ Q_rmNew4 Z p0 p1 zc fm ks c0 c1 c2 c3 h0 n0 v U'.heap L ∧ FrameEnd U o U' L ({ frames := 3, cells := 1, slots := 4, locals := 52 } : Room).cells ({ frames := 3, cells := 1, slots := 4, locals := 52 } : Room).slots) := by
  refine MetFree.of_bodySF (plainFor_of_name pn_java_lang_String) hisR ?_
  intro p e s m args below meth c s₁ Bd hml0 hP hK
  obtain ⟨rfl, hZ, hh⟩ := hP
  have hx := Bd.exec
  have hby := Bd.bytes
  have hml : c.maxLocals = 2 := hml0
  have hown : s.vm.findClass "java/lang/String" = some m.cls := findClass_of_methodNamed Bd.named
  have hnm := (name_of_methodNamed Bd.named Bd.method).1
  have X0 : Stand p l e ({ frames := 3, cells := 1, slots := 4, locals := 52 } : Room) s m #[(.ref p0), (.ref p1)] below meth c s₁ [] 0 0 := Stand.of_body Bd
  have e0 : s₁.heap = h0 := by rw [← hh, Bd.state]; rfl
  have N0 := Fr.nil n0
  have pre0 : ∀ t, Steps p.tables e below (s₁.setTop (mkF m 0 #[.val (.ref p0), .val (.ref p1)] [])) t → Steps p.tables e below (s₁.setTop (entryFrame m #[(.ref p0), (.ref p1)] 2)) t := fun t k => castTop (ef_rmNew4 m p0 p1 ) k
  obtain ⟨cl1, Ar1, -, S1, N1, -, -⟩ := id As
  obtain ⟨_, _, ⟨T2, L2, k2, n2⟩, -, X2, ⟨Lc2, hQ2, l2, y2, z2⟩, st2⟩ := X0.specialBack hx (y := (⟨"java/lang/String", "<init>", "([CIILjava/lang/Void;)V"⟩ : MethodName)) rfl hown (mvT hZ (hw _ (List.mem_of_getElem? (i := 8) rfl))) (mvT hZ (hw _ (List.mem_of_getElem? (i := 9) rfl))) (mvT hZ (hw _ (List.mem_of_getElem? (i := 11) rfl))) (by decide) (backOf (W := 0) (rmNew4_4 l Z a0 hw [] p0 p1 zc fm ks c0 c1 c2 c3 h0 n0 Z0 hSt Ol E0 Fv Fc g0_ As hch hl_c0 hl_c1 hl_c2 hl_c3) hZ (hw _ (List.mem_of_getElem? (i := 11) rfl)) (hw _ (List.mem_of_getElem? (i := 4) rfl)) (by decide) (by decide)) (g := (mkF m 6 #[.val (.ref p0), .val (.ref p1)] [.null, (.int (4 : Int32)), (.int (0 : Int32)), (.ref p1), (.ref p0)])) rfl (by rw [hml]; rfl) (Steps.refl _) (a := p0) (argsL := [(.ref p1), (.int (0 : Int32)), (.int (4 : Int32)), .null]) (rest := []) (lenOf pd___CIILjava_lang_Void__V rfl) rfl (by show 2 * 0 + _ ≤ _; exact Nat.le_of_eq rfl) (hb hby d1_6) (fun _ _ => ⟨rfl, e0, (by decide : 0 + 1 ≤ _), (by decide : 0 + 4 ≤ _)⟩)
  dsimp only [Pt.U, Pt.locs, Pt.cells, Pt.slots] at X2 l2 y2 z2 st2 hQ2
  subst l2 y2 z2
  obtain ⟨rfl, Nq2, K2, hS, hNw⟩ := hQ2
  have N2 := Fr.app N0 Nq2
  have KK2 := (Keep.refl h0 [p0]).trans K2 (allS (Or.inl (List.mem_of_getElem? (i := 0) rfl)) all0)
  obtain ⟨fs, hr, hrun, hended, hW, hsame⟩ := X2.leave (v := none) (fun _ => rfl)
  refine ⟨_, _, pre0 _ ?_, hrun, hended, _, _, rfl, ?_, ⟨_, rfl⟩, hW, hsame.mono (by decide) (by decide)⟩
  · show Steps p.tables e below (s₁.setTop (mkF m 0 #[.val (.ref p0), .val (.ref p1)] [])) _
    refine XS.aloadN X0.here hx rfl (hb hby d1_0) rfl rfl ?_
    show Steps p.tables e below (s₁.setTop (mkF m 1 #[.val (.ref p0), .val (.ref p1)] [(.ref p0)])) _
    refine XS.aloadN X0.here hx rfl (hb hby d1_1) rfl rfl ?_
    show Steps p.tables e below (s₁.setTop (mkF m 2 #[.val (.ref p0), .val (.ref p1)] [(.ref p1), (.ref p0)])) _
    refine XS.iconst X0.here hx rfl (hb hby d1_2) ?_
    show Steps p.tables e below (s₁.setTop (mkF m 3 #[.val (.ref p0), .val (.ref p1)] [(.int (0 : Int32)), (.ref p1), (.ref p0)])) _
    refine XS.aloadN X0.here hx rfl (hb hby d1_3) rfl rfl ?_
    show Steps p.tables e below (s₁.setTop (mkF m 4 #[.val (.ref p0), .val (.ref p1)] [(.ref p1), (.int (0 : Int32)), (.ref p1), (.ref p0)])) _
    refine X0.arraylength hx (by rw [e0]; exact Ar1.1) (State.isArrayOf_alike hZ.alike Ar1.2.1) (g := (mkF m 4 #[.val (.ref p0), .val (.ref p1)] [(.ref p1), (.int (0 : Int32)), (.ref p1), (.ref p0)])) rfl rfl (hb hby d1_4) _ ?_
    rw [len_of S1 N1]
    show Steps p.tables e below (s₁.setTop (mkF m 5 #[.val (.ref p0), .val (.ref p1)] [(.int (4 : Int32)), (.int (0 : Int32)), (.ref p1), (.ref p0)])) _
    refine XS.aconstNull X0.here hx rfl (hb hby d1_5) ?_
    show Steps p.tables e below (s₁.setTop (mkF m 6 #[.val (.ref p0), .val (.ref p1)] [.null, (.int (4 : Int32)), (.int (0 : Int32)), (.ref p1), (.ref p0)])) _
    refine st2.trans ?_
    show Steps p.tables e below (T2.setTop (mkF m 9 #[.val (.ref p0), .val (.ref p1)] [])) _
    exact X2.returnOut hx Bd.returns (hb hby d1_9) hr
  · show Q_rmNew4 Z p0 p1 zc fm ks c0 c1 c2 c3 h0 n0 _ T2.heap _
    exact ⟨rfl, N2, KK2, hS, hNw⟩
theorem ef_rmParse (m : MethodId) (p0 : Addr) : entryFrame m #[(.ref p0)] 4 = mkF m 0 #[.val (.ref p0), .unset, .unset, .unset] [] := by first | (simp [entryFrame, mkF, argsToLocals, Value.category]; done) | rfl
theorem d7_0 : decode prog_7_method_4_code 0 = .ok (.aload_n 0, 1) := by decide +kernel
theorem pd___I : parseMethodDescriptor "()I" = some ⟨[], some .int⟩ := by decide +kernel
theorem d7_1 : decode prog_7_method_4_code 1 = .ok (.invokeinterface 56 1, 5) := by decide +kernel
theorem d7_6 : decode prog_7_method_4_code 6 = .ok (.iconst 4, 1) := by decide +kernel
theorem d7_7 : decode prog_7_method_4_code 7 = .ok (.if_icmp .eq 8, 3) := by decide +kernel
theorem d7_15 : decode prog_7_method_4_code 15 = .ok (.iconst 0, 1) := by decide +kernel
theorem d7_16 : decode prog_7_method_4_code 16 = .ok (.istore_n 1, 1) := by decide +kernel
theorem d7_17 : decode prog_7_method_4_code 17 = .ok (.iconst 0, 1) := by decide +kernel
theorem d7_18 : decode prog_7_method_4_code 18 = .ok (.istore_n 2, 1) := by decide +kernel
theorem d7_19 : decode prog_7_method_4_code 19 = .ok (.iload_n 2, 1) := by decide +kernel
theorem d7_20 : decode prog_7_method_4_code 20 = .ok (.aload_n 0, 1) := by decide +kernel
theorem d7_21 : decode prog_7_method_4_code 21 = .ok (.invokeinterface 56 1, 5) := by decide +kernel
theorem d7_26 : decode prog_7_method_4_code 26 = .ok (.if_icmp .ge 44, 3) := by decide +kernel
theorem d7_29 : decode prog_7_method_4_code 29 = .ok (.aload_n 0, 1) := by decide +kernel
theorem d7_30 : decode prog_7_method_4_code 30 = .ok (.iload_n 2, 1) := by decide +kernel
theorem pd__I_C : parseMethodDescriptor "(I)C" = some ⟨[.int], some .char⟩ := by decide +kernel
theorem d7_31 : decode prog_7_method_4_code 31 = .ok (.invokeinterface 66 2, 5) := by decide +kernel
theorem d7_36 : decode prog_7_method_4_code 36 = .ok (.istore_n 3, 1) := by decide +kernel
theorem d7_37 : decode prog_7_method_4_code 37 = .ok (.iload_n 3, 1) := by decide +kernel
theorem d7_38 : decode prog_7_method_4_code 38 = .ok (.bipush 48, 2) := by decide +kernel
theorem d7_40 : decode prog_7_method_4_code 40 = .ok (.if_icmp .lt 9, 3) := by decide +kernel
theorem d7_43 : decode prog_7_method_4_code 43 = .ok (.iload_n 3, 1) := by decide +kernel
theorem d7_44 : decode prog_7_method_4_code 44 = .ok (.bipush 57, 2) := by decide +kernel
theorem d7_46 : decode prog_7_method_4_code 46 = .ok (.if_icmp .le 8, 3) := by decide +kernel
theorem d7_54 : decode prog_7_method_4_code 54 = .ok (.iload_n 1, 1) := by decide +kernel
theorem d7_55 : decode prog_7_method_4_code 55 = .ok (.bipush 10, 2) := by decide +kernel
theorem d7_57 : decode prog_7_method_4_code 57 = .ok (.imul, 1) := by decide +kernel
theorem d7_58 : decode prog_7_method_4_code 58 = .ok (.iload_n 3, 1) := by decide +kernel
theorem d7_59 : decode prog_7_method_4_code 59 = .ok (.bipush 48, 2) := by decide +kernel
theorem d7_61 : decode prog_7_method_4_code 61 = .ok (.isub, 1) := by decide +kernel
theorem d7_62 : decode prog_7_method_4_code 62 = .ok (.iadd, 1) := by decide +kernel
theorem d7_63 : decode prog_7_method_4_code 63 = .ok (.istore_n 1, 1) := by decide +kernel
theorem d7_64 : decode prog_7_method_4_code 64 = .ok (.iinc 2 1, 3) := by decide +kernel
theorem d7_67 : decode prog_7_method_4_code 67 = .ok (.goto (-48), 3) := by decide +kernel
theorem d7_70 : decode prog_7_method_4_code 70 = .ok (.iload_n 1, 1) := by decide +kernel
theorem d7_71 : decode prog_7_method_4_code 71 = .ok (.ireturn, 1) := by decide +kernel
def Q_rmParse (Z : State) (p0 : Addr) (zc : Int32) (fm : Value) (c0 : Int32) (c1 : Int32) (c2 : Int32) (c3 : Int32) (r : Int32) (h0 : Heap) (n0 : Nat) (v : Option Value) (h : Heap) (L : List Loc) : Prop := v = some (.int r) ∧ Fr n0 L ∧ h = h0
set_option maxRecDepth 65536 in
set_option maxHeartbeats 40000000 in
theorem rmParse (l : Launch) (Z : State) (a0 : Array Value) (hw : ∀ d ∈ tables_1, d.before a0 Z = true) (ws : List Jvm.Cond) (p0 : Addr) (zc : Int32) (fm : Value) (c0 : Int32) (c1 : Int32) (c2 : Int32) (c3 : Int32) (r : Int32) (h0 : Heap) (n0 : Nat) (Z0 : n0 ≤ h0.size) (hSt : own_St Z zc fm) (Ol : Old Z n0 h0) (hS : own_Str Z h0 p0 [c0, c1, c2, c3]) (hnw : own_Nrw Z h0 p0) (hg_c0 : ¬ c0 < (48 : Int32) ∧ ¬ (57 : Int32) < c0) (hg_c1 : ¬ c1 < (48 : Int32) ∧ ¬ (57 : Int32) < c1) (hg_c2 : ¬ c2 < (48 : Int32) ∧ ¬ (57 : Int32) < c2) (hg_c3 : ¬ c3 < (48 : Int32) ∧ ¬ (57 : Int32) < c3) (hres : r = ((((((((0 : Int32) + (c0 - (48 : Int32))) * (10 : Int32)) + (c1 - (48 : Int32))) * (10 : Int32)) + (c2 - (48 : Int32))) * (10 : Int32)) + (c3 - (48 : Int32)))) :
    MetFree l (⟨"com/example/abeyance/abeyance/model/Dates", "parseYear", "(Ljava/lang/CharSequence;)I"⟩ : MethodName) (head1 (Jvm.Cond.code (⟨"com/example/abeyance/abeyance/model/Dates", "parseYear", "(Ljava/lang/CharSequence;)I"⟩ : MethodName) prog_7_method_4_code 4 (some .int) :: ws) ({ frames := 4, cells := 0, slots := 0, locals := 53 } : Room)) (fun a U => a = #[(.ref p0)] ∧ Z.Warmed39 U.vm ∧ U.heap = h0) (fun _ _ _ _ _ => True) (fun _ U o U' => ∃ v L, o = .returned v ∧ Q_rmParse Z p0 zc fm c0 c1 c2 c3 r h0 n0 v U'.heap L ∧ FrameEnd U o U' L ({ frames := 4, cells := 0, slots := 0, locals := 53 } : Room).cells ({ frames := 4, cells := 0, slots := 0, locals := 53 } : Room).slots) := by
  refine MetFree.of_bodySF (plainFor_of_name pn_com_example_abeyance_abeyance_model_Dates) hisR ?_
  intro p e s m args below meth c s₁ Bd hml0 hP hK
  obtain ⟨rfl, hZ, hh⟩ := hP
  have hx := Bd.exec
  have hby := Bd.bytes
  have hml : c.maxLocals = 4 := hml0
  have hown : s.vm.findClass "com/example/abeyance/abeyance/model/Dates" = some m.cls := findClass_of_methodNamed Bd.named
  have hnm := (name_of_methodNamed Bd.named Bd.method).1
  have X0 : Stand p l e ({ frames := 4, cells := 0, slots := 0, locals := 53 } : Room) s m #[(.ref p0)] below meth c s₁ [] 0 0 := Stand.of_body Bd
  have e0 : s₁.heap = h0 := by rw [← hh, Bd.state]; rfl
  have N0 := Fr.nil n0
  have pre0 : ∀ t, Steps p.tables e below (s₁.setTop (mkF m 0 #[.val (.ref p0), .unset, .unset, .unset] [])) t → Steps p.tables e below (s₁.setTop (entryFrame m #[(.ref p0)] 4)) t := fun t k => castTop (ef_rmParse m p0 ) k
  obtain ⟨cq1, kq1, q1a, q1b, q1c⟩ := isOf hZ e0 hS.exa
  obtain ⟨_, _, ⟨T1, L1, k1, n1⟩, -, X1, ⟨Lc1, hQ1, l1, y1, z1⟩, st1⟩ := X0.interfaceBack hx (xi := (⟨"java/lang/CharSequence", "length", "()I"⟩ : MethodName)) (y := (⟨"java/lang/String", "length", "()I"⟩ : MethodName)) hown (mvT hZ (hw _ (List.mem_of_getElem? (i := 35) rfl))) (mvT hZ (hw _ (List.mem_of_getElem? (i := 36) rfl))) (mvT hZ (hw _ (List.mem_of_getElem? (i := 37) rfl))) (mvT hZ (hw _ (List.mem_of_getElem? (i := 38) rfl))) (mvT hZ (hw _ (List.mem_of_getElem? (i := 39) rfl))) (mvT hZ (hw _ (List.mem_of_getElem? (i := 40) rfl))) (mvT hZ (hw _ (List.mem_of_getElem? (i := 41) rfl))) (mvT hZ (hw _ (List.mem_of_getElem? (i := 42) rfl))) (by decide) (backOf (W := 0) (rmLen l Z a0 hw [] p0 zc fm [c0, c1, c2, c3] (4 : Int32) h0 n0 Z0 hSt Ol hS hnw rfl) hZ (hw _ (List.mem_of_getElem? (i := 43) rfl)) (hw _ (List.mem_of_getElem? (i := 4) rfl)) (by decide) (by decide)) q1a q1b q1c (g := (mkF m 1 #[.val (.ref p0), .unset, .unset, .unset] [(.ref p0)])) rfl (by rw [hml]; rfl) (Steps.refl _) (argsL := []) (rest := []) (lenOf pd___I rfl) rfl (by show 2 * 0 + _ ≤ _; exact Nat.le_of_eq rfl) (hb hby d7_1) (fun _ _ => ⟨rfl, e0, (by decide : 0 + 0 ≤ _), (by decide : 0 + 0 ≤ _)⟩)
  dsimp only [Pt.U, Pt.locs, Pt.cells, Pt.slots] at X1 l1 y1 z1 st1 hQ1
  subst l1 y1 z1
  obtain ⟨rfl, Nq1, e1⟩ := hQ1
  have N1 := Fr.app N0 Nq1
  obtain ⟨cq2, kq2, q2a, q2b, q2c⟩ := isOf hZ e1 hS.exa
  obtain ⟨_, _, ⟨T2, L2, k2, n2⟩, -, X2, ⟨Lc2, hQ2, l2, y2, z2⟩, st2⟩ := X1.interfaceBack hx (xi := (⟨"java/lang/CharSequence", "length", "()I"⟩ : MethodName)) (y := (⟨"java/lang/String", "length", "()I"⟩ : MethodName)) hown (mvT hZ (hw _ (List.mem_of_getElem? (i := 35) rfl))) (mvT hZ (hw _ (List.mem_of_getElem? (i := 36) rfl))) (mvT hZ (hw _ (List.mem_of_getElem? (i := 37) rfl))) (mvT hZ (hw _ (List.mem_of_getElem? (i := 38) rfl))) (mvT hZ (hw _ (List.mem_of_getElem? (i := 39) rfl))) (mvT hZ (hw _ (List.mem_of_getElem? (i := 40) rfl))) (mvT hZ (hw _ (List.mem_of_getElem? (i := 41) rfl))) (mvT hZ (hw _ (List.mem_of_getElem? (i := 42) rfl))) (by decide) (backOf (W := 1) (rmLen l Z a0 hw [] p0 zc fm [c0, c1, c2, c3] (4 : Int32) h0 n0 Z0 hSt Ol hS hnw rfl) hZ (hw _ (List.mem_of_getElem? (i := 43) rfl)) (hw _ (List.mem_of_getElem? (i := 4) rfl)) (by decide) (by decide)) q2a q2b q2c (g := (mkF m 21 #[.val (.ref p0), .val (.int (0 : Int32)), .val (.int (0 : Int32)), .unset] [(.ref p0), (.int (0 : Int32))])) rfl (by rw [hml]; rfl) (Steps.refl _) (argsL := []) (rest := [(.int (0 : Int32))]) (lenOf pd___I rfl) rfl (by show 2 * 0 + _ ≤ _; exact Nat.le_of_eq rfl) (hb hby d7_21) (fun _ _ => ⟨rfl, e1, (by decide : 0 + 0 ≤ _), (by decide : 0 + 0 ≤ _)⟩)
  dsimp only [Pt.U, Pt.locs, Pt.cells, Pt.slots] at X2 l2 y2 z2 st2 hQ2
  subst l2 y2 z2
  obtain ⟨rfl, Nq2, e2⟩ := hQ2
  have N2 := Fr.app N1 Nq2
  obtain ⟨cq3, kq3, q3a, q3b, q3c⟩ := isOf hZ e2 hS.exa
  obtain ⟨_, _, ⟨T3, L3, k3, n3⟩, -, X3, ⟨Lc3, hQ3, l3, y3, z3⟩, st3⟩ := X2.interfaceBack hx (xi := (⟨"java/lang/CharSequence", "charAt", "(I)C"⟩ : MethodName)) (y := (⟨"java/lang/String", "charAt", "(I)C"⟩ : MethodName)) hown (mvT hZ (hw _ (List.mem_of_getElem? (i := 49) rfl))) (mvT hZ (hw _ (List.mem_of_getElem? (i := 50) rfl))) (mvT hZ (hw _ (List.mem_of_getElem? (i := 51) rfl))) (mvT hZ (hw _ (List.mem_of_getElem? (i := 52) rfl))) (mvT hZ (hw _ (List.mem_of_getElem? (i := 53) rfl))) (mvT hZ (hw _ (List.mem_of_getElem? (i := 54) rfl))) (mvT hZ (hw _ (List.mem_of_getElem? (i := 55) rfl))) (mvT hZ (hw _ (List.mem_of_getElem? (i := 42) rfl))) (by decide) (backOf (W := 0) (rmCharAt l Z a0 hw [] p0 (0 : Int32) zc fm [c0, c1, c2, c3] c0 h0 n0 Z0 hSt Ol hS hnw ⟨by decide, Nat.le_of_ble_eq_true rfl⟩ rfl) hZ (hw _ (List.mem_of_getElem? (i := 56) rfl)) (hw _ (List.mem_of_getElem? (i := 4) rfl)) (by decide) (by decide)) q3a q3b q3c (g := (mkF m 31 #[.val (.ref p0), .val (.int (0 : Int32)), .val (.int (0 : Int32)), .unset] [(.int (0 : Int32)), (.ref p0)])) rfl (by rw [hml]; rfl) (Steps.refl _) (argsL := [(.int (0 : Int32))]) (rest := []) (lenOf pd__I_C rfl) rfl (by show 2 * 0 + _ ≤ _; exact Nat.le_of_eq rfl) (hb hby d7_31) (fun _ _ => ⟨rfl, e2, (by decide : 0 + 0 ≤ _), (by decide : 0 + 0 ≤ _)⟩)
  dsimp only [Pt.U, Pt.locs, Pt.cells, Pt.slots] at X3 l3 y3 z3 st3 hQ3
  subst l3 y3 z3
  obtain ⟨rfl, Nq3, e3⟩ := hQ3
  have N3 := Fr.app N2 Nq3
  obtain ⟨cq4, kq4, q4a, q4b, q4c⟩ := isOf hZ e3 hS.exa
  obtain ⟨_, _, ⟨T4, L4, k4, n4⟩, -, X4, ⟨Lc4, hQ4, l4, y4, z4⟩, st4⟩ := X3.interfaceBack hx (xi := (⟨"java/lang/CharSequence", "length", "()I"⟩ : MethodName)) (y := (⟨"java/lang/String", "length", "()I"⟩ : MethodName)) hown (mvT hZ (hw _ (List.mem_of_getElem? (i := 35) rfl))) (mvT hZ (hw _ (List.mem_of_getElem? (i := 36) rfl))) (mvT hZ (hw _ (List.mem_of_getElem? (i := 37) rfl))) (mvT hZ (hw _ (List.mem_of_getElem? (i := 38) rfl))) (mvT hZ (hw _ (List.mem_of_getElem? (i := 39) rfl))) (mvT hZ (hw _ (List.mem_of_getElem? (i := 40) rfl))) (mvT hZ (hw _ (List.mem_of_getElem? (i := 41) rfl))) (mvT hZ (hw _ (List.mem_of_getElem? (i := 42) rfl))) (by decide) (backOf (W := 1) (rmLen l Z a0 hw [] p0 zc fm [c0, c1, c2, c3] (4 : Int32) h0 n0 Z0 hSt Ol hS hnw rfl) hZ (hw _ (List.mem_of_getElem? (i := 43) rfl)) (hw _ (List.mem_of_getElem? (i := 4) rfl)) (by decide) (by decide)) q4a q4b q4c (g := (mkF m 21 #[.val (.ref p0), .val (.int ((0 : Int32) + (c0 - (48 : Int32)))), .val (.int (1 : Int32)), .val (.int c0)] [(.ref p0), (.int (1 : Int32))])) rfl (by rw [hml]; rfl) (Steps.refl _) (argsL := []) (rest := [(.int (1 : Int32))]) (lenOf pd___I rfl) rfl (by show 2 * 0 + _ ≤ _; exact Nat.le_of_eq rfl) (hb hby d7_21) (fun _ _ => ⟨rfl, e3, (by decide : 0 + 0 ≤ _), (by decide : 0 + 0 ≤ _)⟩)
  dsimp only [Pt.U, Pt.locs, Pt.cells, Pt.slots] at X4 l4 y4 z4 st4 hQ4
  subst l4 y4 z4
  obtain ⟨rfl, Nq4, e4⟩ := hQ4
  have N4 := Fr.app N3 Nq4
  obtain ⟨cq5, kq5, q5a, q5b, q5c⟩ := isOf hZ e4 hS.exa
  obtain ⟨_, _, ⟨T5, L5, k5, n5⟩, -, X5, ⟨Lc5, hQ5, l5, y5, z5⟩, st5⟩ := X4.interfaceBack hx (xi := (⟨"java/lang/CharSequence", "charAt", "(I)C"⟩ : MethodName)) (y := (⟨"java/lang/String", "charAt", "(I)C"⟩ : MethodName)) hown (mvT hZ (hw _ (List.mem_of_getElem? (i := 49) rfl))) (mvT hZ (hw _ (List.mem_of_getElem? (i := 50) rfl))) (mvT hZ (hw _ (List.mem_of_getElem? (i := 51) rfl))) (mvT hZ (hw _ (List.mem_of_getElem? (i := 52) rfl))) (mvT hZ (hw _ (List.mem_of_getElem? (i := 53) rfl))) (mvT hZ (hw _ (List.mem_of_getElem? (i := 54) rfl))) (mvT hZ (hw _ (List.mem_of_getElem? (i := 55) rfl))) (mvT hZ (hw _ (List.mem_of_getElem? (i := 42) rfl))) (by decide) (backOf (W := 0) (rmCharAt l Z a0 hw [] p0 (1 : Int32) zc fm [c0, c1, c2, c3] c1 h0 n0 Z0 hSt Ol hS hnw ⟨by decide, Nat.le_of_ble_eq_true rfl⟩ rfl) hZ (hw _ (List.mem_of_getElem? (i := 56) rfl)) (hw _ (List.mem_of_getElem? (i := 4) rfl)) (by decide) (by decide)) q5a q5b q5c (g := (mkF m 31 #[.val (.ref p0), .val (.int ((0 : Int32) + (c0 - (48 : Int32)))), .val (.int (1 : Int32)), .val (.int c0)] [(.int (1 : Int32)), (.ref p0)])) rfl (by rw [hml]; rfl) (Steps.refl _) (argsL := [(.int (1 : Int32))]) (rest := []) (lenOf pd__I_C rfl) rfl (by show 2 * 0 + _ ≤ _; exact Nat.le_of_eq rfl) (hb hby d7_31) (fun _ _ => ⟨rfl, e4, (by decide : 0 + 0 ≤ _), (by decide : 0 + 0 ≤ _)⟩)
  dsimp only [Pt.U, Pt.locs, Pt.cells, Pt.slots] at X5 l5 y5 z5 st5 hQ5
  subst l5 y5 z5
  obtain ⟨rfl, Nq5, e5⟩ := hQ5
  have N5 := Fr.app N4 Nq5
  obtain ⟨cq6, kq6, q6a, q6b, q6c⟩ := isOf hZ e5 hS.exa
  obtain ⟨_, _, ⟨T6, L6, k6, n6⟩, -, X6, ⟨Lc6, hQ6, l6, y6, z6⟩, st6⟩ := X5.interfaceBack hx (xi := (⟨"java/lang/CharSequence", "length", "()I"⟩ : MethodName)) (y := (⟨"java/lang/String", "length", "()I"⟩ : MethodName)) hown (mvT hZ (hw _ (List.mem_of_getElem? (i := 35) rfl))) (mvT hZ (hw _ (List.mem_of_getElem? (i := 36) rfl))) (mvT hZ (hw _ (List.mem_of_getElem? (i := 37) rfl))) (mvT hZ (hw _ (List.mem_of_getElem? (i := 38) rfl))) (mvT hZ (hw _ (List.mem_of_getElem? (i := 39) rfl))) (mvT hZ (hw _ (List.mem_of_getElem? (i := 40) rfl))) (mvT hZ (hw _ (List.mem_of_getElem? (i := 41) rfl))) (mvT hZ (hw _ (List.mem_of_getElem? (i := 42) rfl))) (by decide) (backOf (W := 1) (rmLen l Z a0 hw [] p0 zc fm [c0, c1, c2, c3] (4 : Int32) h0 n0 Z0 hSt Ol hS hnw rfl) hZ (hw _ (List.mem_of_getElem? (i := 43) rfl)) (hw _ (List.mem_of_getElem? (i := 4) rfl)) (by decide) (by decide)) q6a q6b q6c (g := (mkF m 21 #[.val (.ref p0), .val (.int ((((0 : Int32) + (c0 - (48 : Int32))) * (10 : Int32)) + (c1 - (48 : Int32)))), .val (.int (2 : Int32)), .val (.int c1)] [(.ref p0), (.int (2 : Int32))])) rfl (by rw [hml]; rfl) (Steps.refl _) (argsL := []) (rest := [(.int (2 : Int32))]) (lenOf pd___I rfl) rfl (by show 2 * 0 + _ ≤ _; exact Nat.le_of_eq rfl) (hb hby d7_21) (fun _ _ => ⟨rfl, e5, (by decide : 0 + 0 ≤ _), (by decide : 0 + 0 ≤ _)⟩)
  dsimp only [Pt.U, Pt.locs, Pt.cells, Pt.slots] at X6 l6 y6 z6 st6 hQ6
  subst l6 y6 z6
  obtain ⟨rfl, Nq6, e6⟩ := hQ6
  have N6 := Fr.app N5 Nq6
  obtain ⟨cq7, kq7, q7a, q7b, q7c⟩ := isOf hZ e6 hS.exa
  obtain ⟨_, _, ⟨T7, L7, k7, n7⟩, -, X7, ⟨Lc7, hQ7, l7, y7, z7⟩, st7⟩ := X6.interfaceBack hx (xi := (⟨"java/lang/CharSequence", "charAt", "(I)C"⟩ : MethodName)) (y := (⟨"java/lang/String", "charAt", "(I)C"⟩ : MethodName)) hown (mvT hZ (hw _ (List.mem_of_getElem? (i := 49) rfl))) (mvT hZ (hw _ (List.mem_of_getElem? (i := 50) rfl))) (mvT hZ (hw _ (List.mem_of_getElem? (i := 51) rfl))) (mvT hZ (hw _ (List.mem_of_getElem? (i := 52) rfl))) (mvT hZ (hw _ (List.mem_of_getElem? (i := 53) rfl))) (mvT hZ (hw _ (List.mem_of_getElem? (i := 54) rfl))) (mvT hZ (hw _ (List.mem_of_getElem? (i := 55) rfl))) (mvT hZ (hw _ (List.mem_of_getElem? (i := 42) rfl))) (by decide) (backOf (W := 0) (rmCharAt l Z a0 hw [] p0 (2 : Int32) zc fm [c0, c1, c2, c3] c2 h0 n0 Z0 hSt Ol hS hnw ⟨by decide, Nat.le_of_ble_eq_true rfl⟩ rfl) hZ (hw _ (List.mem_of_getElem? (i := 56) rfl)) (hw _ (List.mem_of_getElem? (i := 4) rfl)) (by decide) (by decide)) q7a q7b q7c (g := (mkF m 31 #[.val (.ref p0), .val (.int ((((0 : Int32) + (c0 - (48 : Int32))) * (10 : Int32)) + (c1 - (48 : Int32)))), .val (.int (2 : Int32)), .val (.int c1)] [(.int (2 : Int32)), (.ref p0)])) rfl (by rw [hml]; rfl) (Steps.refl _) (argsL := [(.int (2 : Int32))]) (rest := []) (lenOf pd__I_C rfl) rfl (by show 2 * 0 + _ ≤ _; exact Nat.le_of_eq rfl) (hb hby d7_31) (fun _ _ => ⟨rfl, e6, (by decide : 0 + 0 ≤ _), (by decide : 0 + 0 ≤ _)⟩)
  dsimp only [Pt.U, Pt.locs, Pt.cells, Pt.slots] at X7 l7 y7 z7 st7 hQ7
  subst l7 y7 z7
  obtain ⟨rfl, Nq7, e7⟩ := hQ7
  have N7 := Fr.app N6 Nq7
  obtain ⟨cq8, kq8, q8a, q8b, q8c⟩ := isOf hZ e7 hS.exa
  obtain ⟨_, _, ⟨T8, L8, k8, n8⟩, -, X8, ⟨Lc8, hQ8, l8, y8, z8⟩, st8⟩ := X7.interfaceBack hx (xi := (⟨"java/lang/CharSequence", "length", "()I"⟩ : MethodName)) (y := (⟨"java/lang/String", "length", "()I"⟩ : MethodName)) hown (mvT hZ (hw _ (List.mem_of_getElem? (i := 35) rfl))) (mvT hZ (hw _ (List.mem_of_getElem? (i := 36) rfl))) (mvT hZ (hw _ (List.mem_of_getElem? (i := 37) rfl))) (mvT hZ (hw _ (List.mem_of_getElem? (i := 38) rfl))) (mvT hZ (hw _ (List.mem_of_getElem? (i := 39) rfl))) (mvT hZ (hw _ (List.mem_of_getElem? (i := 40) rfl))) (mvT hZ (hw _ (List.mem_of_getElem? (i := 41) rfl))) (mvT hZ (hw _ (List.mem_of_getElem? (i := 42) rfl))) (by decide) (backOf (W := 1) (rmLen l Z a0 hw [] p0 zc fm [c0, c1, c2, c3] (4 : Int32) h0 n0 Z0 hSt Ol hS hnw rfl) hZ (hw _ (List.mem_of_getElem? (i := 43) rfl)) (hw _ (List.mem_of_getElem? (i := 4) rfl)) (by decide) (by decide)) q8a q8b q8c (g := (mkF m 21 #[.val (.ref p0), .val (.int ((((((0 : Int32) + (c0 - (48 : Int32))) * (10 : Int32)) + (c1 - (48 : Int32))) * (10 : Int32)) + (c2 - (48 : Int32)))), .val (.int (3 : Int32)), .val (.int c2)] [(.ref p0), (.int (3 : Int32))])) rfl (by rw [hml]; rfl) (Steps.refl _) (argsL := []) (rest := [(.int (3 : Int32))]) (lenOf pd___I rfl) rfl (by show 2 * 0 + _ ≤ _; exact Nat.le_of_eq rfl) (hb hby d7_21) (fun _ _ => ⟨rfl, e7, (by decide : 0 + 0 ≤ _), (by decide : 0 + 0 ≤ _)⟩)
  dsimp only [Pt.U, Pt.locs, Pt.cells, Pt.slots] at X8 l8 y8 z8 st8 hQ8
  subst l8 y8 z8
  obtain ⟨rfl, Nq8, e8⟩ := hQ8
  have N8 := Fr.app N7 Nq8
  obtain ⟨cq9, kq9, q9a, q9b, q9c⟩ := isOf hZ e8 hS.exa
  obtain ⟨_, _, ⟨T9, L9, k9, n9⟩, -, X9, ⟨Lc9, hQ9, l9, y9, z9⟩, st9⟩ := X8.interfaceBack hx (xi := (⟨"java/lang/CharSequence", "charAt", "(I)C"⟩ : MethodName)) (y := (⟨"java/lang/String", "charAt", "(I)C"⟩ : MethodName)) hown (mvT hZ (hw _ (List.mem_of_getElem? (i := 49) rfl))) (mvT hZ (hw _ (List.mem_of_getElem? (i := 50) rfl))) (mvT hZ (hw _ (List.mem_of_getElem? (i := 51) rfl))) (mvT hZ (hw _ (List.mem_of_getElem? (i := 52) rfl))) (mvT hZ (hw _ (List.mem_of_getElem? (i := 53) rfl))) (mvT hZ (hw _ (List.mem_of_getElem? (i := 54) rfl))) (mvT hZ (hw _ (List.mem_of_getElem? (i := 55) rfl))) (mvT hZ (hw _ (List.mem_of_getElem? (i := 42) rfl))) (by decide) (backOf (W := 0) (rmCharAt l Z a0 hw [] p0 (3 : Int32) zc fm [c0, c1, c2, c3] c3 h0 n0 Z0 hSt Ol hS hnw ⟨by decide, Nat.le_of_ble_eq_true rfl⟩ rfl) hZ (hw _ (List.mem_of_getElem? (i := 56) rfl)) (hw _ (List.mem_of_getElem? (i := 4) rfl)) (by decide) (by decide)) q9a q9b q9c (g := (mkF m 31 #[.val (.ref p0), .val (.int ((((((0 : Int32) + (c0 - (48 : Int32))) * (10 : Int32)) + (c1 - (48 : Int32))) * (10 : Int32)) + (c2 - (48 : Int32)))), .val (.int (3 : Int32)), .val (.int c2)] [(.int (3 : Int32)), (.ref p0)])) rfl (by rw [hml]; rfl) (Steps.refl _) (argsL := [(.int (3 : Int32))]) (rest := []) (lenOf pd__I_C rfl) rfl (by show 2 * 0 + _ ≤ _; exact Nat.le_of_eq rfl) (hb hby d7_31) (fun _ _ => ⟨rfl, e8, (by decide : 0 + 0 ≤ _), (by decide : 0 + 0 ≤ _)⟩)
  dsimp only [Pt.U, Pt.locs, Pt.cells, Pt.slots] at X9 l9 y9 z9 st9 hQ9
  subst l9 y9 z9
  obtain ⟨rfl, Nq9, e9⟩ := hQ9
  have N9 := Fr.app N8 Nq9
  obtain ⟨cq10, kq10, q10a, q10b, q10c⟩ := isOf hZ e9 hS.exa
  obtain ⟨_, _, ⟨T10, L10, k10, n10⟩, -, X10, ⟨Lc10, hQ10, l10, y10, z10⟩, st10⟩ := X9.interfaceBack hx (xi := (⟨"java/lang/CharSequence", "length", "()I"⟩ : MethodName)) (y := (⟨"java/lang/String", "length", "()I"⟩ : MethodName)) hown (mvT hZ (hw _ (List.mem_of_getElem? (i := 35) rfl))) (mvT hZ (hw _ (List.mem_of_getElem? (i := 36) rfl))) (mvT hZ (hw _ (List.mem_of_getElem? (i := 37) rfl))) (mvT hZ (hw _ (List.mem_of_getElem? (i := 38) rfl))) (mvT hZ (hw _ (List.mem_of_getElem? (i := 39) rfl))) (mvT hZ (hw _ (List.mem_of_getElem? (i := 40) rfl))) (mvT hZ (hw _ (List.mem_of_getElem? (i := 41) rfl))) (mvT hZ (hw _ (List.mem_of_getElem? (i := 42) rfl))) (by decide) (backOf (W := 1) (rmLen l Z a0 hw [] p0 zc fm [c0, c1, c2, c3] (4 : Int32) h0 n0 Z0 hSt Ol hS hnw rfl) hZ (hw _ (List.mem_of_getElem? (i := 43) rfl)) (hw _ (List.mem_of_getElem? (i := 4) rfl)) (by decide) (by decide)) q10a q10b q10c (g := (mkF m 21 #[.val (.ref p0), .val (.int ((((((((0 : Int32) + (c0 - (48 : Int32))) * (10 : Int32)) + (c1 - (48 : Int32))) * (10 : Int32)) + (c2 - (48 : Int32))) * (10 : Int32)) + (c3 - (48 : Int32)))), .val (.int (4 : Int32)), .val (.int c3)] [(.ref p0), (.int (4 : Int32))])) rfl (by rw [hml]; rfl) (Steps.refl _) (argsL := []) (rest := [(.int (4 : Int32))]) (lenOf pd___I rfl) rfl (by show 2 * 0 + _ ≤ _; exact Nat.le_of_eq rfl) (hb hby d7_21) (fun _ _ => ⟨rfl, e9, (by decide : 0 + 0 ≤ _), (by decide : 0 + 0 ≤ _)⟩)
  dsimp only [Pt.U, Pt.locs, Pt.cells, Pt.slots] at X10 l10 y10 z10 st10 hQ10
  subst l10 y10 z10
  obtain ⟨rfl, Nq10, e10⟩ := hQ10
  have N10 := Fr.app N9 Nq10
  obtain ⟨fs, hr, hrun, hended, hW, hsame⟩ := X10.leave (v := some (.int ((((((((0 : Int32) + (c0 - (48 : Int32))) * (10 : Int32)) + (c1 - (48 : Int32))) * (10 : Int32)) + (c2 - (48 : Int32))) * (10 : Int32)) + (c3 - (48 : Int32))))) (fun h => by rw [Bd.returns] at h; cases h)
  refine ⟨_, _, pre0 _ ?_, hrun, hended, _, _, rfl, ?_, ⟨_, rfl⟩, hW, hsame.mono (by decide) (by decide)⟩
  · show Steps p.tables e below (s₁.setTop (mkF m 0 #[.val (.ref p0), .unset, .unset, .unset] [])) _
    refine XS.aloadN X0.here hx rfl (hb hby d7_0) rfl rfl ?_
    show Steps p.tables e below (s₁.setTop (mkF m 1 #[.val (.ref p0), .unset, .unset, .unset] [(.ref p0)])) _
    refine st1.trans ?_
    show Steps p.tables e below (T1.setTop (mkF m 6 #[.val (.ref p0), .unset, .unset, .unset] [(.int (4 : Int32))])) _
    refine XS.iconst X1.here hx rfl (hb hby d7_6) ?_
    show Steps p.tables e below (T1.setTop (mkF m 7 #[.val (.ref p0), .unset, .unset, .unset] [(.int (4 : Int32)), (.int (4 : Int32))])) _
    refine XS.icmpYes X1.here hx rfl (pc0 := 7) (pc' := 15) rfl (hb hby d7_7) rfl (teq (by decide : (4 : Int32) = (4 : Int32))).1 (by decide) (by decide) ?_
    show Steps p.tables e below (T1.setTop (mkF m 15 #[.val (.ref p0), .unset, .unset, .unset] [])) _
    refine XS.iconst X1.here hx rfl (hb hby d7_15) ?_
    show Steps p.tables e below (T1.setTop (mkF m 16 #[.val (.ref p0), .unset, .unset, .unset] [(.int (0 : Int32))])) _
    refine XS.istoreN X1.here hx rfl (hb hby d7_16) rfl (l' := #[.val (.ref p0), .val (.int (0 : Int32)), .unset, .unset]) rfl ?_
    show Steps p.tables e below (T1.setTop (mkF m 17 #[.val (.ref p0), .val (.int (0 : Int32)), .unset, .unset] [])) _
    refine XS.iconst X1.here hx rfl (hb hby d7_17) ?_
    show Steps p.tables e below (T1.setTop (mkF m 18 #[.val (.ref p0), .val (.int (0 : Int32)), .unset, .unset] [(.int (0 : Int32))])) _
    refine XS.istoreN X1.here hx rfl (hb hby d7_18) rfl (l' := #[.val (.ref p0), .val (.int (0 : Int32)), .val (.int (0 : Int32)), .unset]) rfl ?_
    show Steps p.tables e below (T1.setTop (mkF m 19 #[.val (.ref p0), .val (.int (0 : Int32)), .val (.int (0 : Int32)), .unset] [])) _
    refine XS.iloadN X1.here hx rfl (hb hby d7_19) rfl  ?_
    show Steps p.tables e below (T1.setTop (mkF m 20 #[.val (.ref p0), .val (.int (0 : Int32)), .val (.int (0 : Int32)), .unset] [(.int (0 : Int32))])) _
    refine XS.aloadN X1.here hx rfl (hb hby d7_20) rfl rfl ?_
    show Steps p.tables e below (T1.setTop (mkF m 21 #[.val (.ref p0), .val (.int (0 : Int32)), .val (.int (0 : Int32)), .unset] [(.ref p0), (.int (0 : Int32))])) _
    refine st2.trans ?_
    show Steps p.tables e below (T2.setTop (mkF m 26 #[.val (.ref p0), .val (.int (0 : Int32)), .val (.int (0 : Int32)), .unset] [(.int (4 : Int32)), (.int (0 : Int32))])) _
    refine XS.icmpNo X2.here hx rfl (hb hby d7_26) rfl (tlt (by decide : (0 : Int32) < (4 : Int32))).2.1 ?_
    show Steps p.tables e below (T2.setTop (mkF m 29 #[.val (.ref p0), .val (.int (0 : Int32)), .val (.int (0 : Int32)), .unset] [])) _
    refine XS.aloadN X2.here hx rfl (hb hby d7_29) rfl rfl ?_
    show Steps p.tables e below (T2.setTop (mkF m 30 #[.val (.ref p0), .val (.int (0 : Int32)), .val (.int (0 : Int32)), .unset] [(.ref p0)])) _
    refine XS.iloadN X2.here hx rfl (hb hby d7_30) rfl  ?_
    show Steps p.tables e below (T2.setTop (mkF m 31 #[.val (.ref p0), .val (.int (0 : Int32)), .val (.int (0 : Int32)), .unset] [(.int (0 : Int32)), (.ref p0)])) _
    refine st3.trans ?_
    show Steps p.tables e below (T3.setTop (mkF m 36 #[.val (.ref p0), .val (.int (0 : Int32)), .val (.int (0 : Int32)), .unset] [(.int c0)])) _
    refine XS.istoreN X3.here hx rfl (hb hby d7_36) rfl (l' := #[.val (.ref p0), .val (.int (0 : Int32)), .val (.int (0 : Int32)), .val (.int c0)]) rfl ?_
    show Steps p.tables e below (T3.setTop (mkF m 37 #[.val (.ref p0), .val (.int (0 : Int32)), .val (.int (0 : Int32)), .val (.int c0)] [])) _
    refine XS.iloadN X3.here hx rfl (hb hby d7_37) rfl  ?_
    show Steps p.tables e below (T3.setTop (mkF m 38 #[.val (.ref p0), .val (.int (0 : Int32)), .val (.int (0 : Int32)), .val (.int c0)] [(.int c0)])) _
    refine XS.bipush X3.here hx rfl (hb hby d7_38) ?_
    show Steps p.tables e below (T3.setTop (mkF m 40 #[.val (.ref p0), .val (.int (0 : Int32)), .val (.int (0 : Int32)), .val (.int c0)] [(.int (48 : Int32)), (.int c0)])) _
    refine XS.icmpNo X3.here hx rfl (hb hby d7_40) rfl (flt hg_c0.1).1 ?_
    show Steps p.tables e below (T3.setTop (mkF m 43 #[.val (.ref p0), .val (.int (0 : Int32)), .val (.int (0 : Int32)), .val (.int c0)] [])) _
    refine XS.iloadN X3.here hx rfl (hb hby d7_43) rfl  ?_
    show Steps p.tables e below (T3.setTop (mkF m 44 #[.val (.ref p0), .val (.int (0 : Int32)), .val (.int (0 : Int32)), .val (.int c0)] [(.int c0)])) _
    refine XS.bipush X3.here hx rfl (hb hby d7_44) ?_
    show Steps p.tables e below (T3.setTop (mkF m 46 #[.val (.ref p0), .val (.int (0 : Int32)), .val (.int (0 : Int32)), .val (.int c0)] [(.int (57 : Int32)), (.int c0)])) _
    refine XS.icmpYes X3.here hx rfl (pc0 := 46) (pc' := 54) rfl (hb hby d7_46) rfl (flt hg_c0.2).2.2.2 (by decide) (by decide) ?_
    show Steps p.tables e below (T3.setTop (mkF m 54 #[.val (.ref p0), .val (.int (0 : Int32)), .val (.int (0 : Int32)), .val (.int c0)] [])) _
    refine XS.iloadN X3.here hx rfl (hb hby d7_54) rfl  ?_
    show Steps p.tables e below (T3.setTop (mkF m 55 #[.val (.ref p0), .val (.int (0 : Int32)), .val (.int (0 : Int32)), .val (.int c0)] [(.int (0 : Int32))])) _
    refine XS.bipush X3.here hx rfl (hb hby d7_55) ?_
    show Steps p.tables e below (T3.setTop (mkF m 57 #[.val (.ref p0), .val (.int (0 : Int32)), .val (.int (0 : Int32)), .val (.int c0)] [(.int (10 : Int32)), (.int (0 : Int32))])) _
    refine XS.imul X3.here hx rfl (hb hby d7_57) rfl ?_
    show Steps p.tables e below (T3.setTop (mkF m 58 #[.val (.ref p0), .val (.int (0 : Int32)), .val (.int (0 : Int32)), .val (.int c0)] [(.int (0 : Int32))])) _
    refine XS.iloadN X3.here hx rfl (hb hby d7_58) rfl  ?_
    show Steps p.tables e below (T3.setTop (mkF m 59 #[.val (.ref p0), .val (.int (0 : Int32)), .val (.int (0 : Int32)), .val (.int c0)] [(.int c0), (.int (0 : Int32))])) _
    refine XS.bipush X3.here hx rfl (hb hby d7_59) ?_
    show Steps p.tables e below (T3.setTop (mkF m 61 #[.val (.ref p0), .val (.int (0 : Int32)), .val (.int (0 : Int32)), .val (.int c0)] [(.int (48 : Int32)), (.int c0), (.int (0 : Int32))])) _
    refine XS.isub X3.here hx rfl (hb hby d7_61) rfl ?_
    show Steps p.tables e below (T3.setTop (mkF m 62 #[.val (.ref p0), .val (.int (0 : Int32)), .val (.int (0 : Int32)), .val (.int c0)] [(.int (c0 - (48 : Int32))), (.int (0 : Int32))])) _
    refine XS.iadd X3.here hx rfl (hb hby d7_62) rfl ?_
    show Steps p.tables e below (T3.setTop (mkF m 63 #[.val (.ref p0), .val (.int (0 : Int32)), .val (.int (0 : Int32)), .val (.int c0)] [(.int ((0 : Int32) + (c0 - (48 : Int32))))])) _
    refine XS.istoreN X3.here hx rfl (hb hby d7_63) rfl (l' := #[.val (.ref p0), .val (.int ((0 : Int32) + (c0 - (48 : Int32)))), .val (.int (0 : Int32)), .val (.int c0)]) rfl ?_
    show Steps p.tables e below (T3.setTop (mkF m 64 #[.val (.ref p0), .val (.int ((0 : Int32) + (c0 - (48 : Int32)))), .val (.int (0 : Int32)), .val (.int c0)] [])) _
    refine XS.iinc X3.here hx rfl (hb hby d7_64) rfl (l' := #[.val (.ref p0), .val (.int ((0 : Int32) + (c0 - (48 : Int32)))), .val (.int (1 : Int32)), .val (.int c0)]) rfl ?_
    show Steps p.tables e below (T3.setTop (mkF m 67 #[.val (.ref p0), .val (.int ((0 : Int32) + (c0 - (48 : Int32)))), .val (.int (1 : Int32)), .val (.int c0)] [])) _
    refine XS.goto X3.here hx rfl (pc0 := 67) (pc' := 19) rfl (hb hby d7_67) (by decide) (by decide) ?_
    show Steps p.tables e below (T3.setTop (mkF m 19 #[.val (.ref p0), .val (.int ((0 : Int32) + (c0 - (48 : Int32)))), .val (.int (1 : Int32)), .val (.int c0)] [])) _
    refine XS.iloadN X3.here hx rfl (hb hby d7_19) rfl  ?_
    show Steps p.tables e below (T3.setTop (mkF m 20 #[.val (.ref p0), .val (.int ((0 : Int32) + (c0 - (48 : Int32)))), .val (.int (1 : Int32)), .val (.int c0)] [(.int (1 : Int32))])) _
    refine XS.aloadN X3.here hx rfl (hb hby d7_20) rfl rfl ?_
    show Steps p.tables e below (T3.setTop (mkF m 21 #[.val (.ref p0), .val (.int ((0 : Int32) + (c0 - (48 : Int32)))), .val (.int (1 : Int32)), .val (.int c0)] [(.ref p0), (.int (1 : Int32))])) _
    refine st4.trans ?_
    show Steps p.tables e below (T4.setTop (mkF m 26 #[.val (.ref p0), .val (.int ((0 : Int32) + (c0 - (48 : Int32)))), .val (.int (1 : Int32)), .val (.int c0)] [(.int (4 : Int32)), (.int (1 : Int32))])) _
    refine XS.icmpNo X4.here hx rfl (hb hby d7_26) rfl (tlt (by decide : (1 : Int32) < (4 : Int32))).2.1 ?_
    show Steps p.tables e below (T4.setTop (mkF m 29 #[.val (.ref p0), .val (.int ((0 : Int32) + (c0 - (48 : Int32)))), .val (.int (1 : Int32)), .val (.int c0)] [])) _
    refine XS.aloadN X4.here hx rfl (hb hby d7_29) rfl rfl ?_
    show Steps p.tables e below (T4.setTop (mkF m 30 #[.val (.ref p0), .val (.int ((0 : Int32) + (c0 - (48 : Int32)))), .val (.int (1 : Int32)), .val (.int c0)] [(.ref p0)])) _
    refine XS.iloadN X4.here hx rfl (hb hby d7_30) rfl  ?_
    show Steps p.tables e below (T4.setTop (mkF m 31 #[.val (.ref p0), .val (.int ((0 : Int32) + (c0 - (48 : Int32)))), .val (.int (1 : Int32)), .val (.int c0)] [(.int (1 : Int32)), (.ref p0)])) _
    refine st5.trans ?_
    show Steps p.tables e below (T5.setTop (mkF m 36 #[.val (.ref p0), .val (.int ((0 : Int32) + (c0 - (48 : Int32)))), .val (.int (1 : Int32)), .val (.int c0)] [(.int c1)])) _
    refine XS.istoreN X5.here hx rfl (hb hby d7_36) rfl (l' := #[.val (.ref p0), .val (.int ((0 : Int32) + (c0 - (48 : Int32)))), .val (.int (1 : Int32)), .val (.int c1)]) rfl ?_
    show Steps p.tables e below (T5.setTop (mkF m 37 #[.val (.ref p0), .val (.int ((0 : Int32) + (c0 - (48 : Int32)))), .val (.int (1 : Int32)), .val (.int c1)] [])) _
    refine XS.iloadN X5.here hx rfl (hb hby d7_37) rfl  ?_
    show Steps p.tables e below (T5.setTop (mkF m 38 #[.val (.ref p0), .val (.int ((0 : Int32) + (c0 - (48 : Int32)))), .val (.int (1 : Int32)), .val (.int c1)] [(.int c1)])) _
    refine XS.bipush X5.here hx rfl (hb hby d7_38) ?_
    show Steps p.tables e below (T5.setTop (mkF m 40 #[.val (.ref p0), .val (.int ((0 : Int32) + (c0 - (48 : Int32)))), .val (.int (1 : Int32)), .val (.int c1)] [(.int (48 : Int32)), (.int c1)])) _
    refine XS.icmpNo X5.here hx rfl (hb hby d7_40) rfl (flt hg_c1.1).1 ?_
    show Steps p.tables e below (T5.setTop (mkF m 43 #[.val (.ref p0), .val (.int ((0 : Int32) + (c0 - (48 : Int32)))), .val (.int (1 : Int32)), .val (.int c1)] [])) _
    refine XS.iloadN X5.here hx rfl (hb hby d7_43) rfl  ?_
    show Steps p.tables e below (T5.setTop (mkF m 44 #[.val (.ref p0), .val (.int ((0 : Int32) + (c0 - (48 : Int32)))), .val (.int (1 : Int32)), .val (.int c1)] [(.int c1)])) _
    refine XS.bipush X5.here hx rfl (hb hby d7_44) ?_
    show Steps p.tables e below (T5.setTop (mkF m 46 #[.val (.ref p0), .val (.int ((0 : Int32) + (c0 - (48 : Int32)))), .val (.int (1 : Int32)), .val (.int c1)] [(.int (57 : Int32)), (.int c1)])) _
    refine XS.icmpYes X5.here hx rfl (pc0 := 46) (pc' := 54) rfl (hb hby d7_46) rfl (flt hg_c1.2).2.2.2 (by decide) (by decide) ?_
    show Steps p.tables e below (T5.setTop (mkF m 54 #[.val (.ref p0), .val (.int ((0 : Int32) + (c0 - (48 : Int32)))), .val (.int (1 : Int32)), .val (.int c1)] [])) _
    refine XS.iloadN X5.here hx rfl (hb hby d7_54) rfl  ?_
    show Steps p.tables e below (T5.setTop (mkF m 55 #[.val (.ref p0), .val (.int ((0 : Int32) + (c0 - (48 : Int32)))), .val (.int (1 : Int32)), .val (.int c1)] [(.int ((0 : Int32) + (c0 - (48 : Int32))))])) _
    refine XS.bipush X5.here hx rfl (hb hby d7_55) ?_
    show Steps p.tables e below (T5.setTop (mkF m 57 #[.val (.ref p0), .val (.int ((0 : Int32) + (c0 - (48 : Int32)))), .val (.int (1 : Int32)), .val (.int c1)] [(.int (10 : Int32)), (.int ((0 : Int32) + (c0 - (48 : Int32))))])) _
    refine XS.imul X5.here hx rfl (hb hby d7_57) rfl ?_
    show Steps p.tables e below (T5.setTop (mkF m 58 #[.val (.ref p0), .val (.int ((0 : Int32) + (c0 - (48 : Int32)))), .val (.int (1 : Int32)), .val (.int c1)] [(.int (((0 : Int32) + (c0 - (48 : Int32))) * (10 : Int32)))])) _
    refine XS.iloadN X5.here hx rfl (hb hby d7_58) rfl  ?_
    show Steps p.tables e below (T5.setTop (mkF m 59 #[.val (.ref p0), .val (.int ((0 : Int32) + (c0 - (48 : Int32)))), .val (.int (1 : Int32)), .val (.int c1)] [(.int c1), (.int (((0 : Int32) + (c0 - (48 : Int32))) * (10 : Int32)))])) _
    refine XS.bipush X5.here hx rfl (hb hby d7_59) ?_
    show Steps p.tables e below (T5.setTop (mkF m 61 #[.val (.ref p0), .val (.int ((0 : Int32) + (c0 - (48 : Int32)))), .val (.int (1 : Int32)), .val (.int c1)] [(.int (48 : Int32)), (.int c1), (.int (((0 : Int32) + (c0 - (48 : Int32))) * (10 : Int32)))])) _
    refine XS.isub X5.here hx rfl (hb hby d7_61) rfl ?_
    show Steps p.tables e below (T5.setTop (mkF m 62 #[.val (.ref p0), .val (.int ((0 : Int32) + (c0 - (48 : Int32)))), .val (.int (1 : Int32)), .val (.int c1)] [(.int (c1 - (48 : Int32))), (.int (((0 : Int32) + (c0 - (48 : Int32))) * (10 : Int32)))])) _
    refine XS.iadd X5.here hx rfl (hb hby d7_62) rfl ?_
    show Steps p.tables e below (T5.setTop (mkF m 63 #[.val (.ref p0), .val (.int ((0 : Int32) + (c0 - (48 : Int32)))), .val (.int (1 : Int32)), .val (.int c1)] [(.int ((((0 : Int32) + (c0 - (48 : Int32))) * (10 : Int32)) + (c1 - (48 : Int32))))])) _
    refine XS.istoreN X5.here hx rfl (hb hby d7_63) rfl (l' := #[.val (.ref p0), .val (.int ((((0 : Int32) + (c0 - (48 : Int32))) * (10 : Int32)) + (c1 - (48 : Int32)))), .val (.int (1 : Int32)), .val (.int c1)]) rfl ?_
    show Steps p.tables e below (T5.setTop (mkF m 64 #[.val (.ref p0), .val (.int ((((0 : Int32) + (c0 - (48 : Int32))) * (10 : Int32)) + (c1 - (48 : Int32)))), .val (.int (1 : Int32)), .val (.int c1)] [])) _
    refine XS.iinc X5.here hx rfl (hb hby d7_64) rfl (l' := #[.val (.ref p0), .val (.int ((((0 : Int32) + (c0 - (48 : Int32))) * (10 : Int32)) + (c1 - (48 : Int32)))), .val (.int (2 : Int32)), .val (.int c1)]) rfl ?_
    show Steps p.tables e below (T5.setTop (mkF m 67 #[.val (.ref p0), .val (.int ((((0 : Int32) + (c0 - (48 : Int32))) * (10 : Int32)) + (c1 - (48 : Int32)))), .val (.int (2 : Int32)), .val (.int c1)] [])) _
    refine XS.goto X5.here hx rfl (pc0 := 67) (pc' := 19) rfl (hb hby d7_67) (by decide) (by decide) ?_
    show Steps p.tables e below (T5.setTop (mkF m 19 #[.val (.ref p0), .val (.int ((((0 : Int32) + (c0 - (48 : Int32))) * (10 : Int32)) + (c1 - (48 : Int32)))), .val (.int (2 : Int32)), .val (.int c1)] [])) _
    refine XS.iloadN X5.here hx rfl (hb hby d7_19) rfl  ?_
    show Steps p.tables e below (T5.setTop (mkF m 20 #[.val (.ref p0), .val (.int ((((0 : Int32) + (c0 - (48 : Int32))) * (10 : Int32)) + (c1 - (48 : Int32)))), .val (.int (2 : Int32)), .val (.int c1)] [(.int (2 : Int32))])) _
    refine XS.aloadN X5.here hx rfl (hb hby d7_20) rfl rfl ?_
    show Steps p.tables e below (T5.setTop (mkF m 21 #[.val (.ref p0), .val (.int ((((0 : Int32) + (c0 - (48 : Int32))) * (10 : Int32)) + (c1 - (48 : Int32)))), .val (.int (2 : Int32)), .val (.int c1)] [(.ref p0), (.int (2 : Int32))])) _
    refine st6.trans ?_
    show Steps p.tables e below (T6.setTop (mkF m 26 #[.val (.ref p0), .val (.int ((((0 : Int32) + (c0 - (48 : Int32))) * (10 : Int32)) + (c1 - (48 : Int32)))), .val (.int (2 : Int32)), .val (.int c1)] [(.int (4 : Int32)), (.int (2 : Int32))])) _
    refine XS.icmpNo X6.here hx rfl (hb hby d7_26) rfl (tlt (by decide : (2 : Int32) < (4 : Int32))).2.1 ?_
    show Steps p.tables e below (T6.setTop (mkF m 29 #[.val (.ref p0), .val (.int ((((0 : Int32) + (c0 - (48 : Int32))) * (10 : Int32)) + (c1 - (48 : Int32)))), .val (.int (2 : Int32)), .val (.int c1)] [])) _
    refine XS.aloadN X6.here hx rfl (hb hby d7_29) rfl rfl ?_
    show Steps p.tables e below (T6.setTop (mkF m 30 #[.val (.ref p0), .val (.int ((((0 : Int32) + (c0 - (48 : Int32))) * (10 : Int32)) + (c1 - (48 : Int32)))), .val (.int (2 : Int32)), .val (.int c1)] [(.ref p0)])) _
    refine XS.iloadN X6.here hx rfl (hb hby d7_30) rfl  ?_
    show Steps p.tables e below (T6.setTop (mkF m 31 #[.val (.ref p0), .val (.int ((((0 : Int32) + (c0 - (48 : Int32))) * (10 : Int32)) + (c1 - (48 : Int32)))), .val (.int (2 : Int32)), .val (.int c1)] [(.int (2 : Int32)), (.ref p0)])) _
    refine st7.trans ?_
    show Steps p.tables e below (T7.setTop (mkF m 36 #[.val (.ref p0), .val (.int ((((0 : Int32) + (c0 - (48 : Int32))) * (10 : Int32)) + (c1 - (48 : Int32)))), .val (.int (2 : Int32)), .val (.int c1)] [(.int c2)])) _
    refine XS.istoreN X7.here hx rfl (hb hby d7_36) rfl (l' := #[.val (.ref p0), .val (.int ((((0 : Int32) + (c0 - (48 : Int32))) * (10 : Int32)) + (c1 - (48 : Int32)))), .val (.int (2 : Int32)), .val (.int c2)]) rfl ?_
    show Steps p.tables e below (T7.setTop (mkF m 37 #[.val (.ref p0), .val (.int ((((0 : Int32) + (c0 - (48 : Int32))) * (10 : Int32)) + (c1 - (48 : Int32)))), .val (.int (2 : Int32)), .val (.int c2)] [])) _
    refine XS.iloadN X7.here hx rfl (hb hby d7_37) rfl  ?_
    show Steps p.tables e below (T7.setTop (mkF m 38 #[.val (.ref p0), .val (.int ((((0 : Int32) + (c0 - (48 : Int32))) * (10 : Int32)) + (c1 - (48 : Int32)))), .val (.int (2 : Int32)), .val (.int c2)] [(.int c2)])) _
    refine XS.bipush X7.here hx rfl (hb hby d7_38) ?_
    show Steps p.tables e below (T7.setTop (mkF m 40 #[.val (.ref p0), .val (.int ((((0 : Int32) + (c0 - (48 : Int32))) * (10 : Int32)) + (c1 - (48 : Int32)))), .val (.int (2 : Int32)), .val (.int c2)] [(.int (48 : Int32)), (.int c2)])) _
    refine XS.icmpNo X7.here hx rfl (hb hby d7_40) rfl (flt hg_c2.1).1 ?_
    show Steps p.tables e below (T7.setTop (mkF m 43 #[.val (.ref p0), .val (.int ((((0 : Int32) + (c0 - (48 : Int32))) * (10 : Int32)) + (c1 - (48 : Int32)))), .val (.int (2 : Int32)), .val (.int c2)] [])) _
    refine XS.iloadN X7.here hx rfl (hb hby d7_43) rfl  ?_
    show Steps p.tables e below (T7.setTop (mkF m 44 #[.val (.ref p0), .val (.int ((((0 : Int32) + (c0 - (48 : Int32))) * (10 : Int32)) + (c1 - (48 : Int32)))), .val (.int (2 : Int32)), .val (.int c2)] [(.int c2)])) _
    refine XS.bipush X7.here hx rfl (hb hby d7_44) ?_
    show Steps p.tables e below (T7.setTop (mkF m 46 #[.val (.ref p0), .val (.int ((((0 : Int32) + (c0 - (48 : Int32))) * (10 : Int32)) + (c1 - (48 : Int32)))), .val (.int (2 : Int32)), .val (.int c2)] [(.int (57 : Int32)), (.int c2)])) _
    refine XS.icmpYes X7.here hx rfl (pc0 := 46) (pc' := 54) rfl (hb hby d7_46) rfl (flt hg_c2.2).2.2.2 (by decide) (by decide) ?_
    show Steps p.tables e below (T7.setTop (mkF m 54 #[.val (.ref p0), .val (.int ((((0 : Int32) + (c0 - (48 : Int32))) * (10 : Int32)) + (c1 - (48 : Int32)))), .val (.int (2 : Int32)), .val (.int c2)] [])) _
    refine XS.iloadN X7.here hx rfl (hb hby d7_54) rfl  ?_
    show Steps p.tables e below (T7.setTop (mkF m 55 #[.val (.ref p0), .val (.int ((((0 : Int32) + (c0 - (48 : Int32))) * (10 : Int32)) + (c1 - (48 : Int32)))), .val (.int (2 : Int32)), .val (.int c2)] [(.int ((((0 : Int32) + (c0 - (48 : Int32))) * (10 : Int32)) + (c1 - (48 : Int32))))])) _
    refine XS.bipush X7.here hx rfl (hb hby d7_55) ?_
    show Steps p.tables e below (T7.setTop (mkF m 57 #[.val (.ref p0), .val (.int ((((0 : Int32) + (c0 - (48 : Int32))) * (10 : Int32)) + (c1 - (48 : Int32)))), .val (.int (2 : Int32)), .val (.int c2)] [(.int (10 : Int32)), (.int ((((0 : Int32) + (c0 - (48 : Int32))) * (10 : Int32)) + (c1 - (48 : Int32))))])) _
    refine XS.imul X7.here hx rfl (hb hby d7_57) rfl ?_
    show Steps p.tables e below (T7.setTop (mkF m 58 #[.val (.ref p0), .val (.int ((((0 : Int32) + (c0 - (48 : Int32))) * (10 : Int32)) + (c1 - (48 : Int32)))), .val (.int (2 : Int32)), .val (.int c2)] [(.int (((((0 : Int32) + (c0 - (48 : Int32))) * (10 : Int32)) + (c1 - (48 : Int32))) * (10 : Int32)))])) _
    refine XS.iloadN X7.here hx rfl (hb hby d7_58) rfl  ?_
    show Steps p.tables e below (T7.setTop (mkF m 59 #[.val (.ref p0), .val (.int ((((0 : Int32) + (c0 - (48 : Int32))) * (10 : Int32)) + (c1 - (48 : Int32)))), .val (.int (2 : Int32)), .val (.int c2)] [(.int c2), (.int (((((0 : Int32) + (c0 - (48 : Int32))) * (10 : Int32)) + (c1 - (48 : Int32))) * (10 : Int32)))])) _
    refine XS.bipush X7.here hx rfl (hb hby d7_59) ?_
    show Steps p.tables e below (T7.setTop (mkF m 61 #[.val (.ref p0), .val (.int ((((0 : Int32) + (c0 - (48 : Int32))) * (10 : Int32)) + (c1 - (48 : Int32)))), .val (.int (2 : Int32)), .val (.int c2)] [(.int (48 : Int32)), (.int c2), (.int (((((0 : Int32) + (c0 - (48 : Int32))) * (10 : Int32)) + (c1 - (48 : Int32))) * (10 : Int32)))])) _
    refine XS.isub X7.here hx rfl (hb hby d7_61) rfl ?_
    show Steps p.tables e below (T7.setTop (mkF m 62 #[.val (.ref p0), .val (.int ((((0 : Int32) + (c0 - (48 : Int32))) * (10 : Int32)) + (c1 - (48 : Int32)))), .val (.int (2 : Int32)), .val (.int c2)] [(.int (c2 - (48 : Int32))), (.int (((((0 : Int32) + (c0 - (48 : Int32))) * (10 : Int32)) + (c1 - (48 : Int32))) * (10 : Int32)))])) _
    refine XS.iadd X7.here hx rfl (hb hby d7_62) rfl ?_
    show Steps p.tables e below (T7.setTop (mkF m 63 #[.val (.ref p0), .val (.int ((((0 : Int32) + (c0 - (48 : Int32))) * (10 : Int32)) + (c1 - (48 : Int32)))), .val (.int (2 : Int32)), .val (.int c2)] [(.int ((((((0 : Int32) + (c0 - (48 : Int32))) * (10 : Int32)) + (c1 - (48 : Int32))) * (10 : Int32)) + (c2 - (48 : Int32))))])) _
    refine XS.istoreN X7.here hx rfl (hb hby d7_63) rfl (l' := #[.val (.ref p0), .val (.int ((((((0 : Int32) + (c0 - (48 : Int32))) * (10 : Int32)) + (c1 - (48 : Int32))) * (10 : Int32)) + (c2 - (48 : Int32)))), .val (.int (2 : Int32)), .val (.int c2)]) rfl ?_
    show Steps p.tables e below (T7.setTop (mkF m 64 #[.val (.ref p0), .val (.int ((((((0 : Int32) + (c0 - (48 : Int32))) * (10 : Int32)) + (c1 - (48 : Int32))) * (10 : Int32)) + (c2 - (48 : Int32)))), .val (.int (2 : Int32)), .val (.int c2)] [])) _
    refine XS.iinc X7.here hx rfl (hb hby d7_64) rfl (l' := #[.val (.ref p0), .val (.int ((((((0 : Int32) + (c0 - (48 : Int32))) * (10 : Int32)) + (c1 - (48 : Int32))) * (10 : Int32)) + (c2 - (48 : Int32)))), .val (.int (3 : Int32)), .val (.int c2)]) rfl ?_
    show Steps p.tables e below (T7.setTop (mkF m 67 #[.val (.ref p0), .val (.int ((((((0 : Int32) + (c0 - (48 : Int32))) * (10 : Int32)) + (c1 - (48 : Int32))) * (10 : Int32)) + (c2 - (48 : Int32)))), .val (.int (3 : Int32)), .val (.int c2)] [])) _
    refine XS.goto X7.here hx rfl (pc0 := 67) (pc' := 19) rfl (hb hby d7_67) (by decide) (by decide) ?_
    show Steps p.tables e below (T7.setTop (mkF m 19 #[.val (.ref p0), .val (.int ((((((0 : Int32) + (c0 - (48 : Int32))) * (10 : Int32)) + (c1 - (48 : Int32))) * (10 : Int32)) + (c2 - (48 : Int32)))), .val (.int (3 : Int32)), .val (.int c2)] [])) _
    refine XS.iloadN X7.here hx rfl (hb hby d7_19) rfl  ?_
    show Steps p.tables e below (T7.setTop (mkF m 20 #[.val (.ref p0), .val (.int ((((((0 : Int32) + (c0 - (48 : Int32))) * (10 : Int32)) + (c1 - (48 : Int32))) * (10 : Int32)) + (c2 - (48 : Int32)))), .val (.int (3 : Int32)), .val (.int c2)] [(.int (3 : Int32))])) _
    refine XS.aloadN X7.here hx rfl (hb hby d7_20) rfl rfl ?_
    show Steps p.tables e below (T7.setTop (mkF m 21 #[.val (.ref p0), .val (.int ((((((0 : Int32) + (c0 - (48 : Int32))) * (10 : Int32)) + (c1 - (48 : Int32))) * (10 : Int32)) + (c2 - (48 : Int32)))), .val (.int (3 : Int32)), .val (.int c2)] [(.ref p0), (.int (3 : Int32))])) _
    refine st8.trans ?_
    show Steps p.tables e below (T8.setTop (mkF m 26 #[.val (.ref p0), .val (.int ((((((0 : Int32) + (c0 - (48 : Int32))) * (10 : Int32)) + (c1 - (48 : Int32))) * (10 : Int32)) + (c2 - (48 : Int32)))), .val (.int (3 : Int32)), .val (.int c2)] [(.int (4 : Int32)), (.int (3 : Int32))])) _
    refine XS.icmpNo X8.here hx rfl (hb hby d7_26) rfl (tlt (by decide : (3 : Int32) < (4 : Int32))).2.1 ?_
    show Steps p.tables e below (T8.setTop (mkF m 29 #[.val (.ref p0), .val (.int ((((((0 : Int32) + (c0 - (48 : Int32))) * (10 : Int32)) + (c1 - (48 : Int32))) * (10 : Int32)) + (c2 - (48 : Int32)))), .val (.int (3 : Int32)), .val (.int c2)] [])) _
    refine XS.aloadN X8.here hx rfl (hb hby d7_29) rfl rfl ?_
    show Steps p.tables e below (T8.setTop (mkF m 30 #[.val (.ref p0), .val (.int ((((((0 : Int32) + (c0 - (48 : Int32))) * (10 : Int32)) + (c1 - (48 : Int32))) * (10 : Int32)) + (c2 - (48 : Int32)))), .val (.int (3 : Int32)), .val (.int c2)] [(.ref p0)])) _
    refine XS.iloadN X8.here hx rfl (hb hby d7_30) rfl  ?_
    show Steps p.tables e below (T8.setTop (mkF m 31 #[.val (.ref p0), .val (.int ((((((0 : Int32) + (c0 - (48 : Int32))) * (10 : Int32)) + (c1 - (48 : Int32))) * (10 : Int32)) + (c2 - (48 : Int32)))), .val (.int (3 : Int32)), .val (.int c2)] [(.int (3 : Int32)), (.ref p0)])) _
    refine st9.trans ?_
    show Steps p.tables e below (T9.setTop (mkF m 36 #[.val (.ref p0), .val (.int ((((((0 : Int32) + (c0 - (48 : Int32))) * (10 : Int32)) + (c1 - (48 : Int32))) * (10 : Int32)) + (c2 - (48 : Int32)))), .val (.int (3 : Int32)), .val (.int c2)] [(.int c3)])) _
    refine XS.istoreN X9.here hx rfl (hb hby d7_36) rfl (l' := #[.val (.ref p0), .val (.int ((((((0 : Int32) + (c0 - (48 : Int32))) * (10 : Int32)) + (c1 - (48 : Int32))) * (10 : Int32)) + (c2 - (48 : Int32)))), .val (.int (3 : Int32)), .val (.int c3)]) rfl ?_
    show Steps p.tables e below (T9.setTop (mkF m 37 #[.val (.ref p0), .val (.int ((((((0 : Int32) + (c0 - (48 : Int32))) * (10 : Int32)) + (c1 - (48 : Int32))) * (10 : Int32)) + (c2 - (48 : Int32)))), .val (.int (3 : Int32)), .val (.int c3)] [])) _
    refine XS.iloadN X9.here hx rfl (hb hby d7_37) rfl  ?_
    show Steps p.tables e below (T9.setTop (mkF m 38 #[.val (.ref p0), .val (.int ((((((0 : Int32) + (c0 - (48 : Int32))) * (10 : Int32)) + (c1 - (48 : Int32))) * (10 : Int32)) + (c2 - (48 : Int32)))), .val (.int (3 : Int32)), .val (.int c3)] [(.int c3)])) _
    refine XS.bipush X9.here hx rfl (hb hby d7_38) ?_
    show Steps p.tables e below (T9.setTop (mkF m 40 #[.val (.ref p0), .val (.int ((((((0 : Int32) + (c0 - (48 : Int32))) * (10 : Int32)) + (c1 - (48 : Int32))) * (10 : Int32)) + (c2 - (48 : Int32)))), .val (.int (3 : Int32)), .val (.int c3)] [(.int (48 : Int32)), (.int c3)])) _
    refine XS.icmpNo X9.here hx rfl (hb hby d7_40) rfl (flt hg_c3.1).1 ?_
    show Steps p.tables e below (T9.setTop (mkF m 43 #[.val (.ref p0), .val (.int ((((((0 : Int32) + (c0 - (48 : Int32))) * (10 : Int32)) + (c1 - (48 : Int32))) * (10 : Int32)) + (c2 - (48 : Int32)))), .val (.int (3 : Int32)), .val (.int c3)] [])) _
    refine XS.iloadN X9.here hx rfl (hb hby d7_43) rfl  ?_
    show Steps p.tables e below (T9.setTop (mkF m 44 #[.val (.ref p0), .val (.int ((((((0 : Int32) + (c0 - (48 : Int32))) * (10 : Int32)) + (c1 - (48 : Int32))) * (10 : Int32)) + (c2 - (48 : Int32)))), .val (.int (3 : Int32)), .val (.int c3)] [(.int c3)])) _
    refine XS.bipush X9.here hx rfl (hb hby d7_44) ?_
    show Steps p.tables e below (T9.setTop (mkF m 46 #[.val (.ref p0), .val (.int ((((((0 : Int32) + (c0 - (48 : Int32))) * (10 : Int32)) + (c1 - (48 : Int32))) * (10 : Int32)) + (c2 - (48 : Int32)))), .val (.int (3 : Int32)), .val (.int c3)] [(.int (57 : Int32)), (.int c3)])) _
    refine XS.icmpYes X9.here hx rfl (pc0 := 46) (pc' := 54) rfl (hb hby d7_46) rfl (flt hg_c3.2).2.2.2 (by decide) (by decide) ?_
    show Steps p.tables e below (T9.setTop (mkF m 54 #[.val (.ref p0), .val (.int ((((((0 : Int32) + (c0 - (48 : Int32))) * (10 : Int32)) + (c1 - (48 : Int32))) * (10 : Int32)) + (c2 - (48 : Int32)))), .val (.int (3 : Int32)), .val (.int c3)] [])) _
    refine XS.iloadN X9.here hx rfl (hb hby d7_54) rfl  ?_
    show Steps p.tables e below (T9.setTop (mkF m 55 #[.val (.ref p0), .val (.int ((((((0 : Int32) + (c0 - (48 : Int32))) * (10 : Int32)) + (c1 - (48 : Int32))) * (10 : Int32)) + (c2 - (48 : Int32)))), .val (.int (3 : Int32)), .val (.int c3)] [(.int ((((((0 : Int32) + (c0 - (48 : Int32))) * (10 : Int32)) + (c1 - (48 : Int32))) * (10 : Int32)) + (c2 - (48 : Int32))))])) _
    refine XS.bipush X9.here hx rfl (hb hby d7_55) ?_
    show Steps p.tables e below (T9.setTop (mkF m 57 #[.val (.ref p0), .val (.int ((((((0 : Int32) + (c0 - (48 : Int32))) * (10 : Int32)) + (c1 - (48 : Int32))) * (10 : Int32)) + (c2 - (48 : Int32)))), .val (.int (3 : Int32)), .val (.int c3)] [(.int (10 : Int32)), (.int ((((((0 : Int32) + (c0 - (48 : Int32))) * (10 : Int32)) + (c1 - (48 : Int32))) * (10 : Int32)) + (c2 - (48 : Int32))))])) _
    refine XS.imul X9.here hx rfl (hb hby d7_57) rfl ?_
    show Steps p.tables e below (T9.setTop (mkF m 58 #[.val (.ref p0), .val (.int ((((((0 : Int32) + (c0 - (48 : Int32))) * (10 : Int32)) + (c1 - (48 : Int32))) * (10 : Int32)) + (c2 - (48 : Int32)))), .val (.int (3 : Int32)), .val (.int c3)] [(.int (((((((0 : Int32) + (c0 - (48 : Int32))) * (10 : Int32)) + (c1 - (48 : Int32))) * (10 : Int32)) + (c2 - (48 : Int32))) * (10 : Int32)))])) _
    refine XS.iloadN X9.here hx rfl (hb hby d7_58) rfl  ?_
    show Steps p.tables e below (T9.setTop (mkF m 59 #[.val (.ref p0), .val (.int ((((((0 : Int32) + (c0 - (48 : Int32))) * (10 : Int32)) + (c1 - (48 : Int32))) * (10 : Int32)) + (c2 - (48 : Int32)))), .val (.int (3 : Int32)), .val (.int c3)] [(.int c3), (.int (((((((0 : Int32) + (c0 - (48 : Int32))) * (10 : Int32)) + (c1 - (48 : Int32))) * (10 : Int32)) + (c2 - (48 : Int32))) * (10 : Int32)))])) _
    refine XS.bipush X9.here hx rfl (hb hby d7_59) ?_
    show Steps p.tables e below (T9.setTop (mkF m 61 #[.val (.ref p0), .val (.int ((((((0 : Int32) + (c0 - (48 : Int32))) * (10 : Int32)) + (c1 - (48 : Int32))) * (10 : Int32)) + (c2 - (48 : Int32)))), .val (.int (3 : Int32)), .val (.int c3)] [(.int (48 : Int32)), (.int c3), (.int (((((((0 : Int32) + (c0 - (48 : Int32))) * (10 : Int32)) + (c1 - (48 : Int32))) * (10 : Int32)) + (c2 - (48 : Int32))) * (10 : Int32)))])) _
    refine XS.isub X9.here hx rfl (hb hby d7_61) rfl ?_
    show Steps p.tables e below (T9.setTop (mkF m 62 #[.val (.ref p0), .val (.int ((((((0 : Int32) + (c0 - (48 : Int32))) * (10 : Int32)) + (c1 - (48 : Int32))) * (10 : Int32)) + (c2 - (48 : Int32)))), .val (.int (3 : Int32)), .val (.int c3)] [(.int (c3 - (48 : Int32))), (.int (((((((0 : Int32) + (c0 - (48 : Int32))) * (10 : Int32)) + (c1 - (48 : Int32))) * (10 : Int32)) + (c2 - (48 : Int32))) * (10 : Int32)))])) _
    refine XS.iadd X9.here hx rfl (hb hby d7_62) rfl ?_
    show Steps p.tables e below (T9.setTop (mkF m 63 #[.val (.ref p0), .val (.int ((((((0 : Int32) + (c0 - (48 : Int32))) * (10 : Int32)) + (c1 - (48 : Int32))) * (10 : Int32)) + (c2 - (48 : Int32)))), .val (.int (3 : Int32)), .val (.int c3)] [(.int ((((((((0 : Int32) + (c0 - (48 : Int32))) * (10 : Int32)) + (c1 - (48 : Int32))) * (10 : Int32)) + (c2 - (48 : Int32))) * (10 : Int32)) + (c3 - (48 : Int32))))])) _
    refine XS.istoreN X9.here hx rfl (hb hby d7_63) rfl (l' := #[.val (.ref p0), .val (.int ((((((((0 : Int32) + (c0 - (48 : Int32))) * (10 : Int32)) + (c1 - (48 : Int32))) * (10 : Int32)) + (c2 - (48 : Int32))) * (10 : Int32)) + (c3 - (48 : Int32)))), .val (.int (3 : Int32)), .val (.int c3)]) rfl ?_
    show Steps p.tables e below (T9.setTop (mkF m 64 #[.val (.ref p0), .val (.int ((((((((0 : Int32) + (c0 - (48 : Int32))) * (10 : Int32)) + (c1 - (48 : Int32))) * (10 : Int32)) + (c2 - (48 : Int32))) * (10 : Int32)) + (c3 - (48 : Int32)))), .val (.int (3 : Int32)), .val (.int c3)] [])) _
    refine XS.iinc X9.here hx rfl (hb hby d7_64) rfl (l' := #[.val (.ref p0), .val (.int ((((((((0 : Int32) + (c0 - (48 : Int32))) * (10 : Int32)) + (c1 - (48 : Int32))) * (10 : Int32)) + (c2 - (48 : Int32))) * (10 : Int32)) + (c3 - (48 : Int32)))), .val (.int (4 : Int32)), .val (.int c3)]) rfl ?_
    show Steps p.tables e below (T9.setTop (mkF m 67 #[.val (.ref p0), .val (.int ((((((((0 : Int32) + (c0 - (48 : Int32))) * (10 : Int32)) + (c1 - (48 : Int32))) * (10 : Int32)) + (c2 - (48 : Int32))) * (10 : Int32)) + (c3 - (48 : Int32)))), .val (.int (4 : Int32)), .val (.int c3)] [])) _
    refine XS.goto X9.here hx rfl (pc0 := 67) (pc' := 19) rfl (hb hby d7_67) (by decide) (by decide) ?_
    show Steps p.tables e below (T9.setTop (mkF m 19 #[.val (.ref p0), .val (.int ((((((((0 : Int32) + (c0 - (48 : Int32))) * (10 : Int32)) + (c1 - (48 : Int32))) * (10 : Int32)) + (c2 - (48 : Int32))) * (10 : Int32)) + (c3 - (48 : Int32)))), .val (.int (4 : Int32)), .val (.int c3)] [])) _
    refine XS.iloadN X9.here hx rfl (hb hby d7_19) rfl  ?_
    show Steps p.tables e below (T9.setTop (mkF m 20 #[.val (.ref p0), .val (.int ((((((((0 : Int32) + (c0 - (48 : Int32))) * (10 : Int32)) + (c1 - (48 : Int32))) * (10 : Int32)) + (c2 - (48 : Int32))) * (10 : Int32)) + (c3 - (48 : Int32)))), .val (.int (4 : Int32)), .val (.int c3)] [(.int (4 : Int32))])) _
    refine XS.aloadN X9.here hx rfl (hb hby d7_20) rfl rfl ?_
    show Steps p.tables e below (T9.setTop (mkF m 21 #[.val (.ref p0), .val (.int ((((((((0 : Int32) + (c0 - (48 : Int32))) * (10 : Int32)) + (c1 - (48 : Int32))) * (10 : Int32)) + (c2 - (48 : Int32))) * (10 : Int32)) + (c3 - (48 : Int32)))), .val (.int (4 : Int32)), .val (.int c3)] [(.ref p0), (.int (4 : Int32))])) _
    refine st10.trans ?_
    show Steps p.tables e below (T10.setTop (mkF m 26 #[.val (.ref p0), .val (.int ((((((((0 : Int32) + (c0 - (48 : Int32))) * (10 : Int32)) + (c1 - (48 : Int32))) * (10 : Int32)) + (c2 - (48 : Int32))) * (10 : Int32)) + (c3 - (48 : Int32)))), .val (.int (4 : Int32)), .val (.int c3)] [(.int (4 : Int32)), (.int (4 : Int32))])) _
    refine XS.icmpYes X10.here hx rfl (pc0 := 26) (pc' := 70) rfl (hb hby d7_26) rfl (flt (by decide : ¬ ((4 : Int32) < (4 : Int32)))).2.1 (by decide) (by decide) ?_
    show Steps p.tables e below (T10.setTop (mkF m 70 #[.val (.ref p0), .val (.int ((((((((0 : Int32) + (c0 - (48 : Int32))) * (10 : Int32)) + (c1 - (48 : Int32))) * (10 : Int32)) + (c2 - (48 : Int32))) * (10 : Int32)) + (c3 - (48 : Int32)))), .val (.int (4 : Int32)), .val (.int c3)] [])) _
    refine XS.iloadN X10.here hx rfl (hb hby d7_70) rfl  ?_
    show Steps p.tables e below (T10.setTop (mkF m 71 #[.val (.ref p0), .val (.int ((((((((0 : Int32) + (c0 - (48 : Int32))) * (10 : Int32)) + (c1 - (48 : Int32))) * (10 : Int32)) + (c2 - (48 : Int32))) * (10 : Int32)) + (c3 - (48 : Int32)))), .val (.int (4 : Int32)), .val (.int c3)] [(.int ((((((((0 : Int32) + (c0 - (48 : Int32))) * (10 : Int32)) + (c1 - (48 : Int32))) * (10 : Int32)) + (c2 - (48 : Int32))) * (10 : Int32)) + (c3 - (48 : Int32))))])) _
    exact retI X10 hx Bd.returns (hb hby d7_71) hr
  · show Q_rmParse Z p0 zc fm c0 c1 c2 c3 r h0 n0 _ T10.heap _
    rw [e10]
    exact ⟨by rw [hres], N10, rfl⟩
theorem ef_rm0 (m : MethodId) (p0 : Int32) : entryFrame m #[(.int p0)] maxLocals = mkF m 0 #[.val (.int p0), .unset, .unset] [] := by first | (simp [entryFrame, mkF, argsToLocals, Value.category, maxLocals]; done) | rfl
theorem pd___C_V : parseMethodDescriptor "([C)V" = some ⟨[(.array .char)], none⟩ := by decide +kernel
theorem pd__Ljava_lang_CharSequence__I : parseMethodDescriptor "(Ljava/lang/CharSequence;)I" = some ⟨[(.object "java/lang/CharSequence")], some .int⟩ := by decide +kernel
def Q_rm0 (Z : State) (p0 : Int32) (zc : Int32) (fm : Value) (h0 : Heap) (n0 : Nat) (v : Option Value) (h : Heap) (L : List Loc) : Prop := v = some (.int (1 : Int32)) ∧ Fr n0 L
set_option maxRecDepth 65536 in
set_option maxHeartbeats 40000000 in
theorem rm0 (l : Launch) (Z : State) (a0 : Array Value) (hw : ∀ d ∈ tables_1, d.before a0 Z = true) (ws : List Jvm.Cond) (p0 : Int32) (zc : Int32) (fm : Value) (h0 : Heap) (n0 : Nat) (Z0 : n0 ≤ h0.size) (hSt : own_St Z zc fm) (Ol : Old Z n0 h0) :
    MetFree l x (head1 (Jvm.Cond.code x code maxLocals ret :: ws) room_1) (fun a U => a = #[(.int p0)] ∧ Z.Warmed39 U.vm ∧ U.heap = h0) (fun _ _ _ _ _ => True) (fun _ U o U' => ∃ v L, o = .returned v ∧ Q_rm0 Z p0 zc fm h0 n0 v U'.heap L ∧ FrameEnd U o U' L room_1.cells room_1.slots) := by
  refine MetFree.of_bodySF (plainFor_of_name pn_com_example_abeyance_abeyance_model_DatesParseYearPinLaw) hisR ?_
  intro p e s m args below meth c s₁ Bd hml0 hP hK
  obtain ⟨rfl, hZ, hh⟩ := hP
  have hx := Bd.exec
  have hby := Bd.bytes
  have hml : c.maxLocals = 3 := hml0
  have hown : s.vm.findClass "com/example/abeyance/abeyance/model/DatesParseYearPinLaw" = some m.cls := findClass_of_methodNamed Bd.named
  have hnm := (name_of_methodNamed Bd.named Bd.method).1
  have X0 : Stand p l e room_1 s m #[(.int p0)] below meth c s₁ [] 0 0 := Stand.of_body Bd
  have e0 : s₁.heap = h0 := by rw [← hh, Bd.state]; rfl
  have N0 := Fr.nil n0
  have pre0 : ∀ t, Steps p.tables e below (s₁.setTop (mkF m 0 #[.val (.int p0), .unset, .unset] [])) t → Steps p.tables e below (s₁.setTop (entryFrame m #[(.int p0)] maxLocals)) t := fun t k => castTop (ef_rm0 m p0 ) k
  have pre1 : ∀ t, Steps p.tables e below (s₁.setTop (mkF m 9 #[.val (.int p0), .val (.int ((p0 &&& (2147483647 : Int32)) % (10000 : Int32))), .unset] [])) t → Steps p.tables e below (s₁.setTop (entryFrame m #[(.int p0)] maxLocals)) t := fun t kt => pre0 t (by
    show Steps p.tables e below (s₁.setTop (mkF m 0 #[.val (.int p0), .unset, .unset] [])) _
    refine XS.iloadN X0.here hx rfl (hb hby at_0) rfl  ?_
    show Steps p.tables e below (s₁.setTop (mkF m 1 #[.val (.int p0), .unset, .unset] [(.int p0)])) _
    refine X0.ldcInt hx hown (mvT hZ (hw _ (List.mem_of_getElem? (i := 0) rfl))) (g := (mkF m 1 #[.val (.int p0), .unset, .unset] [(.int p0)])) rfl (hb hby at_1) _ ?_
    show Steps p.tables e below (s₁.setTop (mkF m 3 #[.val (.int p0), .unset, .unset] [(.int (2147483647 : Int32)), (.int p0)])) _
    refine XS.iand X0.here hx rfl (hb hby at_3) rfl ?_
    show Steps p.tables e below (s₁.setTop (mkF m 4 #[.val (.int p0), .unset, .unset] [(.int (p0 &&& (2147483647 : Int32)))])) _
    refine XS.sipush X0.here hx rfl (hb hby at_4) ?_
    show Steps p.tables e below (s₁.setTop (mkF m 7 #[.val (.int p0), .unset, .unset] [(.int (10000 : Int32)), (.int (p0 &&& (2147483647 : Int32)))])) _
    refine Jvm.RoadKit.iremM X0 hx rfl (hb hby at_7) rfl (by decide) ?_
    show Steps p.tables e below (s₁.setTop (mkF m 8 #[.val (.int p0), .unset, .unset] [(.int ((p0 &&& (2147483647 : Int32)) % (10000 : Int32)))])) _
    refine XS.istoreN X0.here hx rfl (hb hby at_8) rfl (l' := #[.val (.int p0), .val (.int ((p0 &&& (2147483647 : Int32)) % (10000 : Int32))), .unset]) rfl ?_
    exact kt)
  obtain ⟨Y, hY⟩ : ∃ z, z = ((p0 &&& (2147483647 : Int32)) % (10000 : Int32)) := ⟨_, rfl⟩
  rw [← hY] at pre1
  have hY1 := own_Y p0
  rw [← hY] at hY1
  have ya0 := (c_idiv Y 1000 1000 (by decide) (by decide)).1 hY1.1
  have ya1 := (c_idiv Y 100 100 (by decide) (by decide)).1 hY1.1
  have ya2 := (c_idiv Y 10 10 (by decide) (by decide)).1 hY1.1
  have b1 := (c_irem (Y / 100) 10 10 (by decide)).1 (by omega)
  have b2 := (c_irem (Y / 10) 10 10 (by decide)).1 (by omega)
  have b3 := (c_irem Y 10 10 (by decide)).1 hY1.1
  obtain ⟨T2, h2, k2, X2, e2, E2, A2, st2⟩ := newP X0 hx hZ (hw _ (List.mem_of_getElem? (i := 1) rfl)) e0 (g := (mkF m 10 #[.val (.int p0), .val (.int Y), .unset] [(.int (4 : Int32))])) rfl (hb hby at_10) rfl (by decide) (cap := 4) (by decide) (by decide) (by decide) (by decide)
  obtain ⟨b2, g2⟩ : ∃ z, z = h0.size := ⟨_, rfl⟩
  rw [← g2] at A2 st2
  have ge2 : n0 ≤ b2 := Nat.le_trans Z0 (Nat.le_of_eq g2.symm)
  have V2 : Arv Z h2 b2 k2 .char (4 : Int32) [(.int (0 : Int32)), (.int (0 : Int32)), (.int (0 : Int32)), (.int (0 : Int32))] (.int (0 : Int32)) := (Arv.new A2 (by decide)).pad (pad_rep [] (.int (0 : Int32)) 4)
  obtain ⟨cl3, Ar3, q3, S3, N3, H3, G3⟩ := id V2
  have hin3 : ¬ ((0 : Int32) < 0 ∨ cl3.slots.size ≤ ((0 : Int32)).toNatClampNeg) := inb_of S3 ⟨by decide, by decide⟩
  obtain ⟨T4, h4, X4, e4, W4, st4⟩ := stC X2 hx hZ e2 Ar3 (j := (0 : Int32)) hin3 (g := (mkF m 24 #[.val (.int p0), .val (.int Y), .val (.ref b2)] [(.int (((48 : Int32) + (Y / (1000 : Int32))).toUInt32.toUInt16.toUInt32.toInt32)), (.int (0 : Int32)), (.ref b2)])) rfl rfl (hb hby at_24)
  have N4 := Fr.snoc X4 N0 ge2
  have V4 : Arv Z h4 b2 k2 .char (4 : Int32) [(.int (((48 : Int32) + (Y / (1000 : Int32))).toUInt32.toUInt16.toUInt32.toInt32).toUInt32.toUInt16.toUInt32.toInt32), (.int (0 : Int32)), (.int (0 : Int32)), (.int (0 : Int32))] (.int (0 : Int32)) := Arv.set Ar3 q3 S3 N3 H3 G3 (fits_nar_char _) W4 0 rfl (Nat.le_of_ble_eq_true rfl)
  obtain ⟨c0, hc0⟩ : ∃ z, z = (((48 : Int32) + (Y / (1000 : Int32))).toUInt32.toUInt16.toUInt32.toInt32).toUInt32.toUInt16.toUInt32.toInt32 := ⟨_, rfl⟩
  rw [← hc0] at V4
  have hv0 := own_dig (x := (Y / (1000 : Int32))) (by omega) hc0
  have hr0_ := own_rd hv0 (by omega) (by omega)
  obtain ⟨cl5, Ar5, q5, S5, N5, H5, G5⟩ := id V4
  have hin5 : ¬ ((1 : Int32) < 0 ∨ cl5.slots.size ≤ ((1 : Int32)).toNatClampNeg) := inb_of S5 ⟨by decide, by decide⟩
  obtain ⟨T6, h6, X6, e6, W6, st6⟩ := stC X4 hx hZ e4 Ar5 (j := (1 : Int32)) hin5 (g := (mkF m 38 #[.val (.int p0), .val (.int Y), .val (.ref b2)] [(.int (((48 : Int32) + ((Y / (100 : Int32)) % (10 : Int32))).toUInt32.toUInt16.toUInt32.toInt32)), (.int (1 : Int32)), (.ref b2)])) rfl rfl (hb hby at_38)
  have N6 := Fr.snoc X6 N4 ge2
  have V6 : Arv Z h6 b2 k2 .char (4 : Int32) [(.int c0), (.int (((48 : Int32) + ((Y / (100 : Int32)) % (10 : Int32))).toUInt32.toUInt16.toUInt32.toInt32).toUInt32.toUInt16.toUInt32.toInt32), (.int (0 : Int32)), (.int (0 : Int32))] (.int (0 : Int32)) := Arv.set Ar5 q5 S5 N5 H5 G5 (fits_nar_char _) W6 1 rfl (Nat.le_of_ble_eq_true rfl)
  obtain ⟨c1, hc1⟩ : ∃ z, z = (((48 : Int32) + ((Y / (100 : Int32)) % (10 : Int32))).toUInt32.toUInt16.toUInt32.toInt32).toUInt32.toUInt16.toUInt32.toInt32 := ⟨_, rfl⟩
  rw [← hc1] at V6
  have hv1 := own_dig (x := ((Y / (100 : Int32)) % (10 : Int32))) (by omega) hc1
  have hr1_ := own_rd hv1 (by omega) (by omega)
  obtain ⟨cl7, Ar7, q7, S7, N7, H7, G7⟩ := id V6
  have hin7 : ¬ ((2 : Int32) < 0 ∨ cl7.slots.size ≤ ((2 : Int32)).toNatClampNeg) := inb_of S7 ⟨by decide, by decide⟩
  obtain ⟨T8, h8, X8, e8, W8, st8⟩ := stC X6 hx hZ e6 Ar7 (j := (2 : Int32)) hin7 (g := (mkF m 52 #[.val (.int p0), .val (.int Y), .val (.ref b2)] [(.int (((48 : Int32) + ((Y / (10 : Int32)) % (10 : Int32))).toUInt32.toUInt16.toUInt32.toInt32)), (.int (2 : Int32)), (.ref b2)])) rfl rfl (hb hby at_52)
  have N8 := Fr.snoc X8 N6 ge2
  have V8 : Arv Z h8 b2 k2 .char (4 : Int32) [(.int c0), (.int c1), (.int (((48 : Int32) + ((Y / (10 : Int32)) % (10 : Int32))).toUInt32.toUInt16.toUInt32.toInt32).toUInt32.toUInt16.toUInt32.toInt32), (.int (0 : Int32))] (.int (0 : Int32)) := Arv.set Ar7 q7 S7 N7 H7 G7 (fits_nar_char _) W8 2 rfl (Nat.le_of_ble_eq_true rfl)
  obtain ⟨c2, hc2⟩ : ∃ z, z = (((48 : Int32) + ((Y / (10 : Int32)) % (10 : Int32))).toUInt32.toUInt16.toUInt32.toInt32).toUInt32.toUInt16.toUInt32.toInt32 := ⟨_, rfl⟩
  rw [← hc2] at V8
  have hv2 := own_dig (x := ((Y / (10 : Int32)) % (10 : Int32))) (by omega) hc2
  have hr2_ := own_rd hv2 (by omega) (by omega)
  obtain ⟨cl9, Ar9, q9, S9, N9, H9, G9⟩ := id V8
  have hin9 : ¬ ((3 : Int32) < 0 ∨ cl9.slots.size ≤ ((3 : Int32)).toNatClampNeg) := inb_of S9 ⟨by decide, by decide⟩
  obtain ⟨T10, h10, X10, e10, W10, st10⟩ := stC X8 hx hZ e8 Ar9 (j := (3 : Int32)) hin9 (g := (mkF m 63 #[.val (.int p0), .val (.int Y), .val (.ref b2)] [(.int (((48 : Int32) + (Y % (10 : Int32))).toUInt32.toUInt16.toUInt32.toInt32)), (.int (3 : Int32)), (.ref b2)])) rfl rfl (hb hby at_63)
  have N10 := Fr.snoc X10 N8 ge2
  have V10 : Arv Z h10 b2 k2 .char (4 : Int32) [(.int c0), (.int c1), (.int c2), (.int (((48 : Int32) + (Y % (10 : Int32))).toUInt32.toUInt16.toUInt32.toInt32).toUInt32.toUInt16.toUInt32.toInt32)] (.int (0 : Int32)) := Arv.set Ar9 q9 S9 N9 H9 G9 (fits_nar_char _) W10 3 rfl (Nat.le_of_ble_eq_true rfl)
  obtain ⟨c3, hc3⟩ : ∃ z, z = (((48 : Int32) + (Y % (10 : Int32))).toUInt32.toUInt16.toUInt32.toInt32).toUInt32.toUInt16.toUInt32.toInt32 := ⟨_, rfl⟩
  rw [← hc3] at V10
  have hv3 := own_dig (x := (Y % (10 : Int32))) (by omega) hc3
  have hr3_ := own_rd hv3 (by omega) (by omega)
  obtain ⟨T11, h11, X11, e11, E11, A11, D11, -, st11⟩ := newO X10 hx hZ hown (hw _ (List.mem_of_getElem? (i := 2) rfl)) (hw _ (List.mem_of_getElem? (i := 3) rfl)) (hw _ (List.mem_of_getElem? (i := 4) rfl)) e10 (g := (mkF m 64 #[.val (.int p0), .val (.int Y), .val (.ref b2)] [])) rfl (hb hby at_64) (by decide) (by decide)
  obtain ⟨b11, g11⟩ : ∃ z, z = h10.size := ⟨_, rfl⟩
  rw [← g11] at A11 D11 st11
  have ne11_b2 : b2 ≠ b11 := Nat.ne_of_lt (Nat.lt_of_lt_of_le V10.lt (Nat.le_of_eq g11.symm))
  have f12 := (Nat.le_trans (Nat.le_trans (Nat.le_trans (Nat.le_trans (Nat.le_trans Z0 E2.1) (Keep.of_wr W4).1) (Keep.of_wr W6).1) (Keep.of_wr W8).1) (Keep.of_wr W10).1)
  have ge11 : n0 ≤ b11 := Nat.le_trans f12 (Nat.le_of_eq g11.symm)
  have F11_coder : Fld Z h11 b11 "java/lang/String" "coder" "B" (.int (0 : Int32)) := D11 (Or.inr (hw _ (List.mem_of_getElem? (i := 28) rfl))) (ty := .byte) (by decide)
  have F11_value : Fld Z h11 b11 "java/lang/String" "value" "[B" .null := D11 (Or.inr (hw _ (List.mem_of_getElem? (i := 30) rfl))) (ty := (.array .byte)) (by decide)
  have f13 := (V10.ext E11)
  have f14 := (Nat.le_trans f12 E11.1)
  have f15 := ((((((Ol.ext E2).wr W4 ge2).wr W6 ge2).wr W8 ge2).wr W10 ge2).ext E11)
  obtain ⟨_, _, ⟨T16, L16, k16, n16⟩, -, X16, ⟨Lc16, hQ16, l16, y16, z16⟩, st16⟩ := X11.specialBack hx (y := (⟨"java/lang/String", "<init>", "([C)V"⟩ : MethodName)) rfl hown (mvT hZ (hw _ (List.mem_of_getElem? (i := 5) rfl))) (mvT hZ (hw _ (List.mem_of_getElem? (i := 6) rfl))) (mvT hZ (hw _ (List.mem_of_getElem? (i := 7) rfl))) (by decide) (backOf (W := 1) (rmNew4 l Z a0 hw [] b11 b2 zc fm k2 c0 c1 c2 c3 h11 n0 f14 hSt f15 A11 F11_value F11_coder ge11 f13 (own_allc hr0_.1 (own_allc hr1_.1 (own_allc hr2_.1 (own_allc hr3_.1 (fun _ q => nomatch q))))) hr0_.2.1 hr1_.2.1 hr2_.2.1 hr3_.2.1) hZ (hw _ (List.mem_of_getElem? (i := 7) rfl)) (hw _ (List.mem_of_getElem? (i := 4) rfl)) (by decide) (by decide)) (g := (mkF m 69 #[.val (.int p0), .val (.int Y), .val (.ref b2)] [(.ref b2), (.ref b11), (.ref b11)])) rfl (by rw [hml]; rfl) (Steps.refl _) (a := b11) (argsL := [(.ref b2)]) (rest := [(.ref b11)]) (lenOf pd___C_V rfl) rfl (by show 2 * 0 + _ ≤ _; exact Nat.le_of_eq rfl) (hb hby at_69) (fun _ _ => ⟨rfl, e11, (by decide : 2 + 1 ≤ _), (by decide : 8 + 4 ≤ _)⟩)
  dsimp only [Pt.U, Pt.locs, Pt.cells, Pt.slots] at X16 l16 y16 z16 st16 hQ16
  subst l16 y16 z16
  obtain ⟨rfl, Nq16, K16, hS, hNw⟩ := hQ16
  have N16 := Fr.app N10 Nq16
  have q1 := own_step (v := (0 : Int32)) (a := 0) (by decide) hv0 (by omega) (by omega) (by omega) (by omega)
  rw [show ((0 : Int32) * (10 : Int32)) = (0 : Int32) from by decide] at q1
  have q2 := own_step q1 hv1 (by omega) (by omega) (by omega) (by omega)
  have q3 := own_step q2 hv2 (by omega) (by omega) (by omega) (by omega)
  have q4 := own_step q3 hv3 (by omega) (by omega) (by omega) (by omega)
  have f17 := (Nat.le_trans f14 K16.1)
  have f18 := (f15.keep K16 (allS ge11 all0))
  obtain ⟨_, _, ⟨T19, L19, k19, n19⟩, -, X19, ⟨Lc19, hQ19, l19, y19, z19⟩, st19⟩ := Jvm.LawKit.callS X16 hx (y := (⟨"com/example/abeyance/abeyance/model/Dates", "parseYear", "(Ljava/lang/CharSequence;)I"⟩ : MethodName)) hown (mvT hZ (hw _ (List.mem_of_getElem? (i := 31) rfl))) (mvT hZ (hw _ (List.mem_of_getElem? (i := 32) rfl))) (mvT hZ (hw _ (List.mem_of_getElem? (i := 33) rfl))) (mvT hZ (hw _ (List.mem_of_getElem? (i := 34) rfl))) (by decide) (backOf (W := 0) (rmParse l Z a0 hw [] b11 zc fm c0 c1 c2 c3 Y T16.heap n0 f17 hSt f18 hS hNw hr0_.2.2 hr1_.2.2 hr2_.2.2 hr3_.2.2 (Int32.toInt_inj.mp (by rw [q4]; omega))) hZ (hw _ (List.mem_of_getElem? (i := 34) rfl)) (hw _ (List.mem_of_getElem? (i := 33) rfl)) (by decide) (by decide)) (g := (mkF m 72 #[.val (.int p0), .val (.int Y), .val (.ref b2)] [(.ref b11)])) rfl (by rw [hml]; rfl) (argsL := [(.ref b11)]) (rest := []) (lenOf pd__Ljava_lang_CharSequence__I rfl) rfl (by show 2 * 0 + _ ≤ _; exact Nat.le_of_eq rfl) (hb hby at_72) (fun _ _ => ⟨rfl, rfl, (by decide : 3 + 0 ≤ _), (by decide : 12 + 0 ≤ _)⟩)
  dsimp only [Pt.U, Pt.locs, Pt.cells, Pt.slots] at X19 l19 y19 z19 st19 hQ19
  subst l19 y19 z19
  obtain ⟨rfl, Nq19, e19⟩ := hQ19
  have N19 := Fr.app N16 Nq19
  obtain ⟨fs, hr, hrun, hended, hW, hsame⟩ := X19.leave (v := some (.int (1 : Int32))) (fun h => by rw [Bd.returns] at h; cases h)
  refine ⟨_, _, pre1 _ ?_, hrun, hended, _, _, rfl, ?_, ⟨_, rfl⟩, hW, hsame.mono (by decide) (by decide)⟩
  · show Steps p.tables e below (s₁.setTop (mkF m 9 #[.val (.int p0), .val (.int Y), .unset] [])) _
    refine XS.iconst X0.here hx rfl (hb hby at_9) ?_
    show Steps p.tables e below (s₁.setTop (mkF m 10 #[.val (.int p0), .val (.int Y), .unset] [(.int (4 : Int32))])) _
    refine st2 _ ?_
    show Steps p.tables e below (T2.setTop (mkF m 12 #[.val (.int p0), .val (.int Y), .unset] [(.ref b2)])) _
    refine XS.astoreN X2.here hx rfl (hb hby at_12) rfl rfl (l' := #[.val (.int p0), .val (.int Y), .val (.ref b2)]) rfl ?_
    show Steps p.tables e below (T2.setTop (mkF m 13 #[.val (.int p0), .val (.int Y), .val (.ref b2)] [])) _
    refine XS.aloadN X2.here hx rfl (hb hby at_13) rfl rfl ?_
    show Steps p.tables e below (T2.setTop (mkF m 14 #[.val (.int p0), .val (.int Y), .val (.ref b2)] [(.ref b2)])) _
    refine XS.iconst X2.here hx rfl (hb hby at_14) ?_
    show Steps p.tables e below (T2.setTop (mkF m 15 #[.val (.int p0), .val (.int Y), .val (.ref b2)] [(.int (0 : Int32)), (.ref b2)])) _
    refine XS.bipush X2.here hx rfl (hb hby at_15) ?_
    show Steps p.tables e below (T2.setTop (mkF m 17 #[.val (.int p0), .val (.int Y), .val (.ref b2)] [(.int (48 : Int32)), (.int (0 : Int32)), (.ref b2)])) _
    refine XS.iloadN X2.here hx rfl (hb hby at_17) rfl  ?_
    show Steps p.tables e below (T2.setTop (mkF m 18 #[.val (.int p0), .val (.int Y), .val (.ref b2)] [(.int Y), (.int (48 : Int32)), (.int (0 : Int32)), (.ref b2)])) _
    refine XS.sipush X2.here hx rfl (hb hby at_18) ?_
    show Steps p.tables e below (T2.setTop (mkF m 21 #[.val (.int p0), .val (.int Y), .val (.ref b2)] [(.int (1000 : Int32)), (.int Y), (.int (48 : Int32)), (.int (0 : Int32)), (.ref b2)])) _
    refine XS.idiv X2.here hx rfl (hb hby at_21) rfl (by decide) ?_
    show Steps p.tables e below (T2.setTop (mkF m 22 #[.val (.int p0), .val (.int Y), .val (.ref b2)] [(.int (Y / (1000 : Int32))), (.int (48 : Int32)), (.int (0 : Int32)), (.ref b2)])) _
    refine XS.iadd X2.here hx rfl (hb hby at_22) rfl ?_
    show Steps p.tables e below (T2.setTop (mkF m 23 #[.val (.int p0), .val (.int Y), .val (.ref b2)] [(.int ((48 : Int32) + (Y / (1000 : Int32)))), (.int (0 : Int32)), (.ref b2)])) _
    refine XS.i2c X2.here hx rfl (hb hby at_23) rfl ?_
    show Steps p.tables e below (T2.setTop (mkF m 24 #[.val (.int p0), .val (.int Y), .val (.ref b2)] [(.int (((48 : Int32) + (Y / (1000 : Int32))).toUInt32.toUInt16.toUInt32.toInt32)), (.int (0 : Int32)), (.ref b2)])) _
    refine st4 _ ?_
    show Steps p.tables e below (T4.setTop (mkF m 25 #[.val (.int p0), .val (.int Y), .val (.ref b2)] [])) _
    refine XS.aloadN X4.here hx rfl (hb hby at_25) rfl rfl ?_
    show Steps p.tables e below (T4.setTop (mkF m 26 #[.val (.int p0), .val (.int Y), .val (.ref b2)] [(.ref b2)])) _
    refine XS.iconst X4.here hx rfl (hb hby at_26) ?_
    show Steps p.tables e below (T4.setTop (mkF m 27 #[.val (.int p0), .val (.int Y), .val (.ref b2)] [(.int (1 : Int32)), (.ref b2)])) _
    refine XS.bipush X4.here hx rfl (hb hby at_27) ?_
    show Steps p.tables e below (T4.setTop (mkF m 29 #[.val (.int p0), .val (.int Y), .val (.ref b2)] [(.int (48 : Int32)), (.int (1 : Int32)), (.ref b2)])) _
    refine XS.iloadN X4.here hx rfl (hb hby at_29) rfl  ?_
    show Steps p.tables e below (T4.setTop (mkF m 30 #[.val (.int p0), .val (.int Y), .val (.ref b2)] [(.int Y), (.int (48 : Int32)), (.int (1 : Int32)), (.ref b2)])) _
    refine XS.bipush X4.here hx rfl (hb hby at_30) ?_
    show Steps p.tables e below (T4.setTop (mkF m 32 #[.val (.int p0), .val (.int Y), .val (.ref b2)] [(.int (100 : Int32)), (.int Y), (.int (48 : Int32)), (.int (1 : Int32)), (.ref b2)])) _
    refine XS.idiv X4.here hx rfl (hb hby at_32) rfl (by decide) ?_
    show Steps p.tables e below (T4.setTop (mkF m 33 #[.val (.int p0), .val (.int Y), .val (.ref b2)] [(.int (Y / (100 : Int32))), (.int (48 : Int32)), (.int (1 : Int32)), (.ref b2)])) _
    refine XS.bipush X4.here hx rfl (hb hby at_33) ?_
    show Steps p.tables e below (T4.setTop (mkF m 35 #[.val (.int p0), .val (.int Y), .val (.ref b2)] [(.int (10 : Int32)), (.int (Y / (100 : Int32))), (.int (48 : Int32)), (.int (1 : Int32)), (.ref b2)])) _
    refine Jvm.RoadKit.iremM X4 hx rfl (hb hby at_35) rfl (by decide) ?_
    show Steps p.tables e below (T4.setTop (mkF m 36 #[.val (.int p0), .val (.int Y), .val (.ref b2)] [(.int ((Y / (100 : Int32)) % (10 : Int32))), (.int (48 : Int32)), (.int (1 : Int32)), (.ref b2)])) _
    refine XS.iadd X4.here hx rfl (hb hby at_36) rfl ?_
    show Steps p.tables e below (T4.setTop (mkF m 37 #[.val (.int p0), .val (.int Y), .val (.ref b2)] [(.int ((48 : Int32) + ((Y / (100 : Int32)) % (10 : Int32)))), (.int (1 : Int32)), (.ref b2)])) _
    refine XS.i2c X4.here hx rfl (hb hby at_37) rfl ?_
    show Steps p.tables e below (T4.setTop (mkF m 38 #[.val (.int p0), .val (.int Y), .val (.ref b2)] [(.int (((48 : Int32) + ((Y / (100 : Int32)) % (10 : Int32))).toUInt32.toUInt16.toUInt32.toInt32)), (.int (1 : Int32)), (.ref b2)])) _
    refine st6 _ ?_
    show Steps p.tables e below (T6.setTop (mkF m 39 #[.val (.int p0), .val (.int Y), .val (.ref b2)] [])) _
    refine XS.aloadN X6.here hx rfl (hb hby at_39) rfl rfl ?_
    show Steps p.tables e below (T6.setTop (mkF m 40 #[.val (.int p0), .val (.int Y), .val (.ref b2)] [(.ref b2)])) _
    refine XS.iconst X6.here hx rfl (hb hby at_40) ?_
    show Steps p.tables e below (T6.setTop (mkF m 41 #[.val (.int p0), .val (.int Y), .val (.ref b2)] [(.int (2 : Int32)), (.ref b2)])) _
    refine XS.bipush X6.here hx rfl (hb hby at_41) ?_
    show Steps p.tables e below (T6.setTop (mkF m 43 #[.val (.int p0), .val (.int Y), .val (.ref b2)] [(.int (48 : Int32)), (.int (2 : Int32)), (.ref b2)])) _
    refine XS.iloadN X6.here hx rfl (hb hby at_43) rfl  ?_
    show Steps p.tables e below (T6.setTop (mkF m 44 #[.val (.int p0), .val (.int Y), .val (.ref b2)] [(.int Y), (.int (48 : Int32)), (.int (2 : Int32)), (.ref b2)])) _
    refine XS.bipush X6.here hx rfl (hb hby at_44) ?_
    show Steps p.tables e below (T6.setTop (mkF m 46 #[.val (.int p0), .val (.int Y), .val (.ref b2)] [(.int (10 : Int32)), (.int Y), (.int (48 : Int32)), (.int (2 : Int32)), (.ref b2)])) _
    refine XS.idiv X6.here hx rfl (hb hby at_46) rfl (by decide) ?_
    show Steps p.tables e below (T6.setTop (mkF m 47 #[.val (.int p0), .val (.int Y), .val (.ref b2)] [(.int (Y / (10 : Int32))), (.int (48 : Int32)), (.int (2 : Int32)), (.ref b2)])) _
    refine XS.bipush X6.here hx rfl (hb hby at_47) ?_
    show Steps p.tables e below (T6.setTop (mkF m 49 #[.val (.int p0), .val (.int Y), .val (.ref b2)] [(.int (10 : Int32)), (.int (Y / (10 : Int32))), (.int (48 : Int32)), (.int (2 : Int32)), (.ref b2)])) _
    refine Jvm.RoadKit.iremM X6 hx rfl (hb hby at_49) rfl (by decide) ?_
    show Steps p.tables e below (T6.setTop (mkF m 50 #[.val (.int p0), .val (.int Y), .val (.ref b2)] [(.int ((Y / (10 : Int32)) % (10 : Int32))), (.int (48 : Int32)), (.int (2 : Int32)), (.ref b2)])) _
    refine XS.iadd X6.here hx rfl (hb hby at_50) rfl ?_
    show Steps p.tables e below (T6.setTop (mkF m 51 #[.val (.int p0), .val (.int Y), .val (.ref b2)] [(.int ((48 : Int32) + ((Y / (10 : Int32)) % (10 : Int32)))), (.int (2 : Int32)), (.ref b2)])) _
    refine XS.i2c X6.here hx rfl (hb hby at_51) rfl ?_
    show Steps p.tables e below (T6.setTop (mkF m 52 #[.val (.int p0), .val (.int Y), .val (.ref b2)] [(.int (((48 : Int32) + ((Y / (10 : Int32)) % (10 : Int32))).toUInt32.toUInt16.toUInt32.toInt32)), (.int (2 : Int32)), (.ref b2)])) _
    refine st8 _ ?_
    show Steps p.tables e below (T8.setTop (mkF m 53 #[.val (.int p0), .val (.int Y), .val (.ref b2)] [])) _
    refine XS.aloadN X8.here hx rfl (hb hby at_53) rfl rfl ?_
    show Steps p.tables e below (T8.setTop (mkF m 54 #[.val (.int p0), .val (.int Y), .val (.ref b2)] [(.ref b2)])) _
    refine XS.iconst X8.here hx rfl (hb hby at_54) ?_
    show Steps p.tables e below (T8.setTop (mkF m 55 #[.val (.int p0), .val (.int Y), .val (.ref b2)] [(.int (3 : Int32)), (.ref b2)])) _
    refine XS.bipush X8.here hx rfl (hb hby at_55) ?_
    show Steps p.tables e below (T8.setTop (mkF m 57 #[.val (.int p0), .val (.int Y), .val (.ref b2)] [(.int (48 : Int32)), (.int (3 : Int32)), (.ref b2)])) _
    refine XS.iloadN X8.here hx rfl (hb hby at_57) rfl  ?_
    show Steps p.tables e below (T8.setTop (mkF m 58 #[.val (.int p0), .val (.int Y), .val (.ref b2)] [(.int Y), (.int (48 : Int32)), (.int (3 : Int32)), (.ref b2)])) _
    refine XS.bipush X8.here hx rfl (hb hby at_58) ?_
    show Steps p.tables e below (T8.setTop (mkF m 60 #[.val (.int p0), .val (.int Y), .val (.ref b2)] [(.int (10 : Int32)), (.int Y), (.int (48 : Int32)), (.int (3 : Int32)), (.ref b2)])) _
    refine Jvm.RoadKit.iremM X8 hx rfl (hb hby at_60) rfl (by decide) ?_
    show Steps p.tables e below (T8.setTop (mkF m 61 #[.val (.int p0), .val (.int Y), .val (.ref b2)] [(.int (Y % (10 : Int32))), (.int (48 : Int32)), (.int (3 : Int32)), (.ref b2)])) _
    refine XS.iadd X8.here hx rfl (hb hby at_61) rfl ?_
    show Steps p.tables e below (T8.setTop (mkF m 62 #[.val (.int p0), .val (.int Y), .val (.ref b2)] [(.int ((48 : Int32) + (Y % (10 : Int32)))), (.int (3 : Int32)), (.ref b2)])) _
    refine XS.i2c X8.here hx rfl (hb hby at_62) rfl ?_
    show Steps p.tables e below (T8.setTop (mkF m 63 #[.val (.int p0), .val (.int Y), .val (.ref b2)] [(.int (((48 : Int32) + (Y % (10 : Int32))).toUInt32.toUInt16.toUInt32.toInt32)), (.int (3 : Int32)), (.ref b2)])) _
    refine st10 _ ?_
    show Steps p.tables e below (T10.setTop (mkF m 64 #[.val (.int p0), .val (.int Y), .val (.ref b2)] [])) _
    refine st11 _ ?_
    show Steps p.tables e below (T11.setTop (mkF m 67 #[.val (.int p0), .val (.int Y), .val (.ref b2)] [(.ref b11)])) _
    refine XS.dup X11.here hx rfl (hb hby at_67) rfl rfl ?_
    show Steps p.tables e below (T11.setTop (mkF m 68 #[.val (.int p0), .val (.int Y), .val (.ref b2)] [(.ref b11), (.ref b11)])) _
    refine XS.aloadN X11.here hx rfl (hb hby at_68) rfl rfl ?_
    show Steps p.tables e below (T11.setTop (mkF m 69 #[.val (.int p0), .val (.int Y), .val (.ref b2)] [(.ref b2), (.ref b11), (.ref b11)])) _
    refine st16.trans ?_
    show Steps p.tables e below (T16.setTop (mkF m 72 #[.val (.int p0), .val (.int Y), .val (.ref b2)] [(.ref b11)])) _
    refine st19 _ ?_
    show Steps p.tables e below (T19.setTop (mkF m 75 #[.val (.int p0), .val (.int Y), .val (.ref b2)] [(.int Y)])) _
    refine XS.iloadN X19.here hx rfl (hb hby at_75) rfl  ?_
    show Steps p.tables e below (T19.setTop (mkF m 76 #[.val (.int p0), .val (.int Y), .val (.ref b2)] [(.int Y), (.int Y)])) _
    refine XS.icmpNo X19.here hx rfl (hb hby at_76) rfl (teq (rfl : Y = Y)).2 ?_
    show Steps p.tables e below (T19.setTop (mkF m 79 #[.val (.int p0), .val (.int Y), .val (.ref b2)] [])) _
    refine XS.iconst X19.here hx rfl (hb hby at_79) ?_
    show Steps p.tables e below (T19.setTop (mkF m 80 #[.val (.int p0), .val (.int Y), .val (.ref b2)] [(.int (1 : Int32))])) _
    refine XS.goto X19.here hx rfl (pc0 := 80) (pc' := 84) rfl (hb hby at_80) (by decide) (by decide) ?_
    show Steps p.tables e below (T19.setTop (mkF m 84 #[.val (.int p0), .val (.int Y), .val (.ref b2)] [(.int (1 : Int32))])) _
    exact retN X19 hx (t := .boolean) Bd.returns (by simp) (hb hby at_84) hr
  · show Q_rm0 Z p0 zc fm h0 n0 _ T19.heap _
    rw [e19]
    exact ⟨rfl, N19⟩
set_option maxRecDepth 65536 in
set_option maxHeartbeats 40000000 in
theorem comes_1 {Post : Tables → Env → Array Value → State → Outcome → State → Prop} (hpost : ∀ tb e args s v u, (limb_1_1.after args s (.returned v) u = true ∧ limb_1_2.after args s (.returned v) u = true ∧ True) → FrameEnd s (.returned v) u (Jvm.fieldLocs frame_1_writes args s ++ Jvm.arrayLocs frame_1_arrays args s ++ Jvm.staticLocs frame_1_statics s) 16 128 → Post tb e args s (.returned v) u) :
    ArmFor flags0 classFile x code maxLocals ret World_1 tables_1 room_1 Calls_1 rest_1 Pre_1 Post := by
  intro l hfl _ _ p e ha hc hk s m args below hf hA hF happ hP
  obtain ⟨hcalls, hrest, hpre⟩ := hP
  obtain ⟨-, -, -, hnamed, -, -, -, hat⟩ := (Spec.applies_iff hf).mp happ
  obtain ⟨hg, hn⟩ := and_e (Cond.before_iff.mp (show (Jvm.Cond.and given_1 narrow_1).before args s = true from hpre))
  obtain ⟨gc, gr0⟩ := and_e hg
  obtain ⟨w0, rfl⟩ : ∃ w0 : Value, args = #[w0] := by
    have hs : args.size = 1 := by simpa [Cond.value, given_1] using gc
    obtain ⟨L⟩ := args
    match L, hs with
    | [w0], _ => exact ⟨w0, rfl⟩
  have hw := fun d (hd : d ∈ tables_1) => atoms_spec (ws := Jvm.Cond.code x code maxLocals ret :: tables_1) hat d (List.mem_cons_of_mem _ hd)
  have hfit : Fit s := fun {y c} hc i hi => by
    obtain ⟨ha, rfl⟩ := Array.getElem?_eq_some_iff.mp hc
    have q := List.all_eq_true.mp ((Array.all_eq_true_iff_forall_mem.mp hF) _ (Array.getElem_mem ha)) i (List.mem_range.mpr hi)
    simpa [Array.getElem?_eq_getElem hi] using q
  obtain ⟨i0, ei0⟩ := is_v gr0
  obtain rfl : w0 = (.int i0) := Option.some.inj ei0
  obtain ⟨hsets, hown0⟩ := atoms_of _ (rest_1_c_eq ▸ (show rest_1_c.before _ s = true from hrest))
  obtain ⟨zc, evz⟩ := is_v (Cond.before_iff.mp (hsets _ (List.mem_of_getElem? (i := 1) rfl)))
  have hzc : ¬ zc = (0 : Int32) := fun q => by
    have h2 := Cond.before_iff.mp (hsets _ (List.mem_of_getElem? (i := 2) rfl))
    have h3 := not_v h2
    rw [eq_i evz (Term.int_eval (0)) (by rw [q])] at h3; cases h3
  obtain ⟨fm, evf, hfm⟩ := isR_v (Cond.before_iff.mp (hsets _ (List.mem_of_getElem? (i := 8) rfl)))
  have hSt : own_St s zc fm := ⟨Sta.start evz (Or.inl (hsets _ (List.mem_of_getElem? (i := 0) rfl))), hzc, Sta.start evf (Or.inl (hsets _ (List.mem_of_getElem? (i := 7) rfl))), hfm⟩
  obtain ⟨n, o, h1, h2, h3, _, L, rfl, ⟨rfl, N⟩, hq⟩ := rm0 l s _ hw tables_1 i0 zc fm s.heap s.heap.size (Nat.le_refl _) hSt (Old.start s) p e ha hc hk s m _ below hf ((Spec.applies_iff_loose hf).mp happ).1 ⟨rfl, State.Warmed39.refl s, rfl⟩ trivial
  refine ⟨n, _, h1, h2, h3, hpost _ _ _ _ _ _ ⟨Cond.after_iff.mpr rfl, Cond.after_iff.mpr (eq_i res_at (Term.int_eval (1)) rfl), trivial⟩ ⟨hq.1, hq.2.1, (hq.2.2.sift fun y hy => Or.inr (N y hy)).mono (by decide) (by decide)⟩⟩
theorem main_1_1 : Claimed_1_1 := comes_1 fun _ _ _ _ _ _ h hF => ⟨h.1, hF⟩
theorem main_1_2 : Claimed_1_2 := comes_1 fun _ _ _ _ _ _ h hF => ⟨h.2.1, hF⟩
end Jvm.Pilot.@@N@@
namespace Jvm.Pilot.@@N@@
open Jvm Jvm.ClassFile Sem Op Lib Jvm.Free Jvm.Stand Jvm.Pilot.@@N@@.Jvm.D
/-! MADE BY PROGRAM (witnessworld.py) out of the Statement's table words and the real class files: 20 classes; the members and pool entries that the words name. The judged class is class 1, her method 1. -/
namespace start1
open Jvm.ClassFile
def u (s : String) : CpInfo := .utf8 (stringToUtf16 s)
/-- a pool by its gaps: so many unusable entries, then the entry; so many at the end -/
def gap : Nat → List CpInfo → List CpInfo
  | 0, r => r
  | n + 1, r => .unusable :: gap n r
def poolList (es : List (Nat × CpInfo)) (last : Nat) : List CpInfo := es.foldr (fun e r => gap e.1 (e.2 :: r)) (gap last [])
def pool (es : List (Nat × CpInfo)) (last : Nat) : Array CpInfo := ⟨poolList es last⟩
def fileOf (pool : Array CpInfo) (this : Nat) (attrs : Array Attribute := #[]) (ms : Array MethodInfo := #[]) (fl : Nat := 33) (sup : Nat := 0) (ifs : Array Nat := #[]) (fds : Array FieldInfo := #[]) : ClassFile where
  minorVersion := 0
  majorVersion := 65
  constantPool := pool
  accessFlags := fl
  thisClass := this
  superClass := sup
  interfaces := ifs
  fields := fds
  methods := ms
  attributes := attrs
def plain (name : String) (sup : Option ClassId) : Class where
  name := name
  kind := .ordinary
  loader := none
  accessFlags := 33
  super := sup
  interfaces := #[]
  cf := none
  fields := #[]
  methods := #[]
  instanceTypes := #[]
  staticTypes := #[]
  resolved := #[]
  callSites := []
  init := .initialized
  statics := none
  mirror := none

def pool0 : Array CpInfo := pool [(5, u "<init>"), (0, u "()V"), (1, .class_ 10), (1, u "java/lang/Object")] 113

def k0c0 : Code := { maxStack := 0, maxLocals := 1, code := object_method_1_code, exceptionTable := #[], attributes := #[] }
def k0m0 : Method := { name := "<init>", desc := "()V", sig := { parameters := [], returnType := none }, accessFlags := 1, code := some k0c0 }
/-- java/lang/Object -/
def k0 : Class := { plain "java/lang/Object" none with
  accessFlags := 33
  interfaces := #[]
  cf := some (fileOf pool0 8 #[] #[{ accessFlags := 1, nameIndex := 5, descriptorIndex := 6, attributes := #[] }] 33 0 #[] #[])
  fields := #[]
  methods := #[k0m0]
  instanceTypes := #[]
  staticTypes := #[]
  resolved := Array.replicate 124 none
  statics := none }

def pool1 : Array CpInfo := pool [(2, .class_ 4), (1, u "java/lang/Object"), (0, u "<init>"), (0, u "()V"), (0, .integer 2147483647), (0, .class_ 9), (0, u "java/lang/String"), (0, .methodref 8 11), (0, .nameAndType 5 12), (0, u "([C)V"), (0, .methodref 14 15), (0, .class_ 16), (0, .nameAndType 17 18), (0, u "com/example/abeyance/abeyance/model/Dates"), (0, u "parseYear"), (0, u "(Ljava/lang/CharSequence;)I"), (0, .class_ 20), (0, u "com/example/abeyance/abeyance/model/DatesParseYearPinLaw"), (2, u "law"), (0, u "(I)Z")] 5

def k1m0 : Method := { name := "<init>", desc := "()V", sig := { parameters := [], returnType := none }, accessFlags := 1, code := none }
def k1c1 : Code := { maxStack := 5, maxLocals := 3, code := code, exceptionTable := #[], attributes := #[] }
def k1m1 : Method := { name := "law", desc := "(I)Z", sig := { parameters := [.int], returnType := some .boolean }, accessFlags := 9, code := some k1c1 }
/-- com/example/abeyance/abeyance/model/DatesParseYearPinLaw -/
def k1 : Class := { plain "com/example/abeyance/abeyance/model/DatesParseYearPinLaw" (some 0) with
  accessFlags := 49
  interfaces := #[]
  cf := some (fileOf pool1 19 #[] #[{ accessFlags := 1, nameIndex := 5, descriptorIndex := 6, attributes := #[] }, { accessFlags := 9, nameIndex := 23, descriptorIndex := 24, attributes := #[] }] 49 2 #[] #[])
  fields := #[]
  methods := #[k1m0, k1m1]
  instanceTypes := #[]
  staticTypes := #[]
  resolved := Array.replicate 30 none
  statics := none }

def pool2 : Array CpInfo := pool [(1, .class_ 2), (0, u "java/io/Serializable"), (0, .class_ 4), (0, u "java/lang/Object")] 2

/-- java/io/Serializable -/
def k2 : Class := { plain "java/io/Serializable" (some 0) with
  accessFlags := 1537
  interfaces := #[]
  cf := some (fileOf pool2 1 #[] #[] 1537 3 #[] #[])
  fields := #[]
  methods := #[]
  instanceTypes := #[]
  staticTypes := #[]
  resolved := Array.replicate 7 none
  statics := none }

def pool3 : Array CpInfo := pool [(1, .class_ 2), (0, u "java/lang/Comparable"), (0, .class_ 4), (0, u "java/lang/Object")] 7

/-- java/lang/Comparable -/
def k3 : Class := { plain "java/lang/Comparable" (some 0) with
  accessFlags := 1537
  interfaces := #[]
  cf := some (fileOf pool3 1 #[] #[] 1537 3 #[] #[])
  fields := #[]
  methods := #[]
  instanceTypes := #[]
  staticTypes := #[]
  resolved := Array.replicate 12 none
  statics := none }

def pool4 : Array CpInfo := pool [(2, .class_ 4), (1, u "java/lang/CharSequence"), (0, u "length"), (0, u "()I"), (38, u "charAt"), (0, u "(I)C"), (0, .class_ 48), (0, u "java/lang/CharSequence$1CodePointIterator"), (10, .class_ 60), (0, u "java/lang/CharSequence$1CharIterator"), (5, .class_ 67), (0, u "java/lang/Object")] 63

def k4m0 : Method := { name := "length", desc := "()I", sig := { parameters := [], returnType := some .int }, accessFlags := 1025, code := none }
def k4m1 : Method := { name := "charAt", desc := "(I)C", sig := { parameters := [.int], returnType := some .char }, accessFlags := 1025, code := none }
/-- java/lang/CharSequence -/
def k4 : Class := { plain "java/lang/CharSequence" (some 0) with
  accessFlags := 1537
  interfaces := #[]
  cf := some (fileOf pool4 2 #[.nestMembers #[47, 59]] #[{ accessFlags := 1025, nameIndex := 5, descriptorIndex := 6, attributes := #[] }, { accessFlags := 1025, nameIndex := 45, descriptorIndex := 46, attributes := #[] }] 1537 66 #[] #[])
  fields := #[]
  methods := #[k4m0, k4m1]
  instanceTypes := #[]
  staticTypes := #[]
  resolved := Array.replicate 131 none
  statics := none }

def pool5 : Array CpInfo := pool [(1, .class_ 2), (0, u "java/lang/constant/Constable"), (0, .class_ 4), (0, u "java/lang/Object")] 6

/-- java/lang/constant/Constable -/
def k5 : Class := { plain "java/lang/constant/Constable" (some 0) with
  accessFlags := 1537
  interfaces := #[]
  cf := some (fileOf pool5 1 #[] #[] 1537 3 #[] #[])
  fields := #[]
  methods := #[]
  instanceTypes := #[]
  staticTypes := #[]
  resolved := Array.replicate 11 none
  statics := none }

def pool6 : Array CpInfo := pool [(1, .class_ 2), (0, u "java/lang/constant/ConstantDesc"), (0, .class_ 4), (0, u "java/lang/Object")] 32

/-- java/lang/constant/ConstantDesc -/
def k6 : Class := { plain "java/lang/constant/ConstantDesc" (some 0) with
  accessFlags := 1537
  interfaces := #[]
  cf := some (fileOf pool6 1 #[] #[] 1537 3 #[] #[])
  fields := #[]
  methods := #[]
  instanceTypes := #[]
  staticTypes := #[]
  resolved := Array.replicate 37 none
  statics := none }

def pool7 : Array CpInfo := pool [(1, .methodref 2 3), (0, .class_ 4), (0, .nameAndType 5 6), (0, u "java/lang/Object"), (0, u "<init>"), (0, u "()V"), (2, .fieldref 10 11), (0, .class_ 12), (0, .nameAndType 13 14), (0, u "java/lang/String"), (0, u "value"), (0, u "[B"), (0, .fieldref 10 16), (0, .nameAndType 17 18), (0, u "coder"), (0, u "B"), (2, u "hash"), (0, u "I"), (2, u "hashIsZero"), (0, u "Z"), (0, .methodref 10 28), (0, .nameAndType 5 29), (0, u "([CIILjava/lang/Void;)V"), (8, .fieldref 10 39), (0, .nameAndType 40 26), (0, u "COMPACT_STRINGS"), (1, .class_ 44), (1, u "java/lang/StringUTF16"), (0, u "compress"), (1, .methodref 42 48), (0, .nameAndType 49 50), (0, u "coderFromArrayLen"), (0, u "([BI)B"), (56, .class_ 109), (1, u "java/lang/StringLatin1"), (32, u "()Z"), (34, .methodref 42 178), (0, .nameAndType 45 179), (0, u "([CII)[B"), (154, u "()I"), (0, .methodref 10 336), (0, .nameAndType 17 337), (0, u "()B"), (25, u "([BI)C"), (27, u "(II)V"), (35, u "(I)C"), (64, .methodref 10 493), (0, .nameAndType 494 142), (0, u "isLatin1"), (0, .methodref 107 496), (0, .nameAndType 497 363), (0, u "charAt"), (3, u "checkIndex"), (5, u "length"), (67, .class_ 576), (0, u "java/lang/CharSequence"), (22, u "CASE_INSENSITIVE_ORDER"), (0, u "Ljava/util/Comparator;"), (409, u "([C)V"), (42, .fieldref 1054 1055), (0, .class_ 1056), (0, .nameAndType 1057 1058), (0, u "jdk/internal/util/Preconditions"), (0, u "SIOOBE_FORMATTER"), (0, u "Ljava/util/function/BiFunction;"), (0, .methodref 1054 1060), (0, .nameAndType 501 1061), (0, u "(IILjava/util/function/BiFunction;)I"), (39, u "serialPersistentFields"), (0, u "[Ljava/io/ObjectStreamField;"), (0, .class_ 1104), (0, u "java/lang/String$CaseInsensitiveComparator"), (1, .class_ 1107), (0, u "java/io/Serializable"), (0, .class_ 1109), (0, u "java/lang/Comparable"), (0, .class_ 1111), (0, u "java/lang/constant/Constable"), (0, .class_ 1113), (0, u "java/lang/constant/ConstantDesc"), (2, u "serialVersionUID"), (0, u "J"), (3, u "REPL"), (0, u "C"), (2, u "LATIN1"), (1, u "UTF16")] 323

def k7m0 : Method := { name := "<init>", desc := "()V", sig := { parameters := [], returnType := none }, accessFlags := 1, code := none }
def k7c1 : Code := { maxStack := 5, maxLocals := 2, code := jdk_42_method_3_code, exceptionTable := #[], attributes := #[] }
def k7m1 : Method := { name := "<init>", desc := "([C)V", sig := { parameters := [(.array .char)], returnType := none }, accessFlags := 1, code := some k7c1 }
def k7c2 : Code := { maxStack := 2, maxLocals := 1, code := jdk_42_method_54_code, exceptionTable := #[], attributes := #[] }
def k7m2 : Method := { name := "length", desc := "()I", sig := { parameters := [], returnType := some .int }, accessFlags := 1, code := some k7c2 }
def k7c3 : Code := { maxStack := 2, maxLocals := 2, code := jdk_42_method_56_code, exceptionTable := #[], attributes := #[] }
def k7m3 : Method := { name := "charAt", desc := "(I)C", sig := { parameters := [.int], returnType := some .char }, accessFlags := 1, code := some k7c3 }
def k7c4 : Code := { maxStack := 4, maxLocals := 6, code := jdk_42_method_149_code, exceptionTable := #[], attributes := #[] }
def k7m4 : Method := { name := "<init>", desc := "([CIILjava/lang/Void;)V", sig := { parameters := [(.array .char), .int, .int, (.object "java/lang/Void")], returnType := none }, accessFlags := 2, code := some k7c4 }
def k7c5 : Code := { maxStack := 1, maxLocals := 1, code := jdk_42_method_152_code, exceptionTable := #[], attributes := #[] }
def k7m5 : Method := { name := "coder", desc := "()B", sig := { parameters := [], returnType := some .byte }, accessFlags := 0, code := some k7c5 }
def k7c6 : Code := { maxStack := 1, maxLocals := 1, code := jdk_42_method_154_code, exceptionTable := #[], attributes := #[] }
def k7m6 : Method := { name := "isLatin1", desc := "()Z", sig := { parameters := [], returnType := some .boolean }, accessFlags := 0, code := some k7c6 }
def k7c7 : Code := { maxStack := 3, maxLocals := 2, code := jdk_42_method_155_code, exceptionTable := #[], attributes := #[] }
def k7m7 : Method := { name := "checkIndex", desc := "(II)V", sig := { parameters := [.int, .int], returnType := none }, accessFlags := 8, code := some k7c7 }
/-- java/lang/String -/
def k7 : Class := { plain "java/lang/String" (some 0) with
  accessFlags := 49
  interfaces := #[2, 3, 4, 5, 6]
  cf := some (fileOf pool7 10 #[.nestMembers #[1103]] #[{ accessFlags := 1, nameIndex := 5, descriptorIndex := 6, attributes := #[] }, { accessFlags := 1, nameIndex := 5, descriptorIndex := 1010, attributes := #[] }, { accessFlags := 1, nameIndex := 507, descriptorIndex := 334, attributes := #[] }, { accessFlags := 1, nameIndex := 497, descriptorIndex := 427, attributes := #[] }, { accessFlags := 2, nameIndex := 5, descriptorIndex := 29, attributes := #[] }, { accessFlags := 0, nameIndex := 17, descriptorIndex := 337, attributes := #[] }, { accessFlags := 0, nameIndex := 494, descriptorIndex := 142, attributes := #[] }, { accessFlags := 8, nameIndex := 501, descriptorIndex := 391, attributes := #[] }] 49 2 #[1106, 1108, 575, 1110, 1112] #[{ accessFlags := 18, nameIndex := 13, descriptorIndex := 14, attributes := #[] }, { accessFlags := 18, nameIndex := 17, descriptorIndex := 18, attributes := #[] }, { accessFlags := 2, nameIndex := 21, descriptorIndex := 22, attributes := #[] }, { accessFlags := 2, nameIndex := 25, descriptorIndex := 26, attributes := #[] }, { accessFlags := 26, nameIndex := 1116, descriptorIndex := 1117, attributes := #[] }, { accessFlags := 24, nameIndex := 40, descriptorIndex := 26, attributes := #[] }, { accessFlags := 26, nameIndex := 1101, descriptorIndex := 1102, attributes := #[] }, { accessFlags := 26, nameIndex := 1121, descriptorIndex := 1122, attributes := #[] }, { accessFlags := 25, nameIndex := 599, descriptorIndex := 600, attributes := #[] }, { accessFlags := 24, nameIndex := 1125, descriptorIndex := 18, attributes := #[] }, { accessFlags := 24, nameIndex := 1127, descriptorIndex := 18, attributes := #[] }])
  fields := #[{ name := "value", type := (.array .byte), accessFlags := 18, slot := 0, constantValue := 0 }, { name := "coder", type := .byte, accessFlags := 18, slot := 1, constantValue := 0 }, { name := "hash", type := .int, accessFlags := 2, slot := 2, constantValue := 0 }, { name := "hashIsZero", type := .boolean, accessFlags := 2, slot := 3, constantValue := 0 }, { name := "serialVersionUID", type := .long, accessFlags := 26, slot := 0, constantValue := 0 }, { name := "COMPACT_STRINGS", type := .boolean, accessFlags := 24, slot := 1, constantValue := 0 }, { name := "serialPersistentFields", type := (.array (.object "java/io/ObjectStreamField")), accessFlags := 26, slot := 2, constantValue := 0 }, { name := "REPL", type := .char, accessFlags := 26, slot := 3, constantValue := 0 }, { name := "CASE_INSENSITIVE_ORDER", type := (.object "java/util/Comparator"), accessFlags := 25, slot := 4, constantValue := 0 }, { name := "LATIN1", type := .byte, accessFlags := 24, slot := 5, constantValue := 0 }, { name := "UTF16", type := .byte, accessFlags := 24, slot := 6, constantValue := 0 }]
  methods := #[k7m0, k7m1, k7m2, k7m3, k7m4, k7m5, k7m6, k7m7]
  instanceTypes := #[(.array .byte), .byte, .int, .boolean]
  staticTypes := #[.long, .boolean, (.array (.object "java/io/ObjectStreamField")), .char, (.object "java/util/Comparator"), .byte, .byte]
  resolved := Array.replicate 1451 none
  statics := some 0 }

def pool8 : Array CpInfo := pool [(6, .class_ 8), (1, u "java/lang/Object"), (0, u "<init>"), (0, u "()V"), (1, .class_ 14), (1, u "java/lang/StringUTF16"), (31, u "$assertionsDisabled"), (0, u "Z"), (13, u "HI_BYTE_SHIFT"), (0, u "I"), (2, u "LO_BYTE_SHIFT"), (49, .methodref 12 116), (0, .nameAndType 117 118), (0, u "compress"), (0, u "([CI[BII)I"), (3, u "([CII)[B"), (138, u "coderFromArrayLen"), (0, u "([BI)B"), (106, .class_ 371), (1, u "java/lang/StringUTF16$LinesSpliterator"), (58, u "MAX_LENGTH"), (196, .class_ 628), (0, u "java/lang/StringUTF16$CodePointsSpliterator"), (0, .class_ 630), (0, u "java/lang/StringUTF16$CharsSpliterator")] 4

def k8m0 : Method := { name := "<init>", desc := "()V", sig := { parameters := [], returnType := none }, accessFlags := 0, code := none }
def k8c1 : Code := { maxStack := 2, maxLocals := 2, code := jdk_52_method_15_code, exceptionTable := #[], attributes := #[] }
def k8m1 : Method := { name := "coderFromArrayLen", desc := "([BI)B", sig := { parameters := [(.array .byte), .int], returnType := some .byte }, accessFlags := 8, code := some k8c1 }
def k8c2 : Code := { maxStack := 5, maxLocals := 6, code := jdk_52_method_16_code, exceptionTable := #[], attributes := #[] }
def k8m2 : Method := { name := "compress", desc := "([CII)[B", sig := { parameters := [(.array .char), .int, .int], returnType := some (.array .byte) }, accessFlags := 9, code := some k8c2 }
def k8c3 : Code := { maxStack := 3, maxLocals := 7, code := jdk_52_method_21_code, exceptionTable := #[], attributes := #[] }
def k8m3 : Method := { name := "compress", desc := "([CI[BII)I", sig := { parameters := [(.array .char), .int, (.array .byte), .int, .int], returnType := some .int }, accessFlags := 9, code := some k8c3 }
/-- java/lang/StringUTF16 -/
def k8 : Class := { plain "java/lang/StringUTF16" (some 0) with
  accessFlags := 48
  interfaces := #[]
  cf := some (fileOf pool8 12 #[.nestMembers #[627, 629, 369]] #[{ accessFlags := 0, nameIndex := 9, descriptorIndex := 10, attributes := #[] }, { accessFlags := 8, nameIndex := 261, descriptorIndex := 262, attributes := #[] }, { accessFlags := 9, nameIndex := 117, descriptorIndex := 122, attributes := #[] }, { accessFlags := 9, nameIndex := 117, descriptorIndex := 118, attributes := #[] }] 48 6 #[] #[{ accessFlags := 26, nameIndex := 61, descriptorIndex := 62, attributes := #[] }, { accessFlags := 26, nameIndex := 65, descriptorIndex := 62, attributes := #[] }, { accessFlags := 24, nameIndex := 430, descriptorIndex := 62, attributes := #[] }, { accessFlags := 4120, nameIndex := 46, descriptorIndex := 47, attributes := #[] }])
  fields := #[{ name := "HI_BYTE_SHIFT", type := .int, accessFlags := 26, slot := 0, constantValue := 0 }, { name := "LO_BYTE_SHIFT", type := .int, accessFlags := 26, slot := 1, constantValue := 0 }, { name := "MAX_LENGTH", type := .int, accessFlags := 24, slot := 2, constantValue := 0 }, { name := "$assertionsDisabled", type := .boolean, accessFlags := 4120, slot := 3, constantValue := 0 }]
  methods := #[k8m0, k8m1, k8m2, k8m3]
  instanceTypes := #[]
  staticTypes := #[.int, .int, .int, .boolean]
  resolved := Array.replicate 635 none
  statics := none }

def pool9 : Array CpInfo := pool [(2, .class_ 4), (1, u "java/lang/Object"), (0, u "<init>"), (0, u "()V"), (1, .class_ 10), (1, u "com/example/abeyance/abeyance/model/Dates"), (0, u "WRITTEN"), (0, u "Ljava/util/regex/Pattern;"), (35, u "MONTH"), (7, .interfaceMethodref 57 58), (0, .class_ 59), (0, .nameAndType 60 61), (0, u "java/lang/CharSequence"), (0, u "length"), (0, u "()I"), (4, .interfaceMethodref 57 67), (0, .nameAndType 68 69), (0, u "charAt"), (0, u "(I)C"), (2, u "LAST"), (0, u "Ljava/time/LocalDate;"), (28, u "parseYear"), (0, u "(Ljava/lang/CharSequence;)I")] 29

def k9m0 : Method := { name := "<init>", desc := "()V", sig := { parameters := [], returnType := none }, accessFlags := 2, code := none }
def k9c1 : Code := { maxStack := 3, maxLocals := 4, code := prog_7_method_4_code, exceptionTable := #[], attributes := #[] }
def k9m1 : Method := { name := "parseYear", desc := "(Ljava/lang/CharSequence;)I", sig := { parameters := [(.object "java/lang/CharSequence")], returnType := some .int }, accessFlags := 9, code := some k9c1 }
/-- com/example/abeyance/abeyance/model/Dates -/
def k9 : Class := { plain "com/example/abeyance/abeyance/model/Dates" (some 0) with
  accessFlags := 49
  interfaces := #[]
  cf := some (fileOf pool9 8 #[] #[{ accessFlags := 2, nameIndex := 5, descriptorIndex := 6, attributes := #[] }, { accessFlags := 9, nameIndex := 102, descriptorIndex := 103, attributes := #[] }] 49 2 #[] #[{ accessFlags := 25, nameIndex := 72, descriptorIndex := 73, attributes := #[] }, { accessFlags := 26, nameIndex := 11, descriptorIndex := 12, attributes := #[] }, { accessFlags := 26, nameIndex := 48, descriptorIndex := 12, attributes := #[] }])
  fields := #[{ name := "LAST", type := (.object "java/time/LocalDate"), accessFlags := 25, slot := 0, constantValue := 0 }, { name := "WRITTEN", type := (.object "java/util/regex/Pattern"), accessFlags := 26, slot := 1, constantValue := 0 }, { name := "MONTH", type := (.object "java/util/regex/Pattern"), accessFlags := 26, slot := 2, constantValue := 0 }]
  methods := #[k9m0, k9m1]
  instanceTypes := #[]
  staticTypes := #[(.object "java/time/LocalDate"), (.object "java/util/regex/Pattern"), (.object "java/util/regex/Pattern")]
  resolved := Array.replicate 133 none
  statics := none }

def pool10 : Array CpInfo := pool [(1, .class_ 2), (0, u "java/lang/String"), (1, .class_ 6), (1, u "java/lang/Object"), (0, u "<init>"), (0, u "()V"), (0, .methodref 1 10), (0, .nameAndType 11 12), (0, u "checkIndex"), (0, u "(II)V"), (1, .class_ 16), (1, u "java/lang/StringLatin1"), (36, u "([BI)C"), (67, u "$assertionsDisabled"), (0, u "Z"), (98, .class_ 223), (1, u "java/lang/StringLatin1$LinesSpliterator"), (28, u "charAt"), (137, .class_ 391), (0, u "java/lang/StringLatin1$CharsSpliterator")] 3

def k10m0 : Method := { name := "<init>", desc := "()V", sig := { parameters := [], returnType := none }, accessFlags := 0, code := none }
def k10c1 : Code := { maxStack := 2, maxLocals := 2, code := jdk_43_method_2_code, exceptionTable := #[], attributes := #[] }
def k10m1 : Method := { name := "charAt", desc := "([BI)C", sig := { parameters := [(.array .byte), .int], returnType := some .char }, accessFlags := 9, code := some k10c1 }
/-- java/lang/StringLatin1 -/
def k10 : Class := { plain "java/lang/StringLatin1" (some 0) with
  accessFlags := 48
  interfaces := #[]
  cf := some (fileOf pool10 14 #[.nestMembers #[390, 221]] #[{ accessFlags := 0, nameIndex := 7, descriptorIndex := 8, attributes := #[] }, { accessFlags := 9, nameIndex := 252, descriptorIndex := 53, attributes := #[] }] 48 4 #[] #[{ accessFlags := 4120, nameIndex := 121, descriptorIndex := 122, attributes := #[] }])
  fields := #[{ name := "$assertionsDisabled", type := .boolean, accessFlags := 4120, slot := 0, constantValue := 0 }]
  methods := #[k10m0, k10m1]
  instanceTypes := #[]
  staticTypes := #[.boolean]
  resolved := Array.replicate 395 none
  statics := none }

def pool11 : Array CpInfo := pool [(2, .class_ 4), (1, u "java/lang/Object"), (0, u "<init>"), (0, u "()V"), (17, .class_ 26), (1, u "jdk/internal/util/Preconditions"), (6, u "checkIndex"), (21, .class_ 56), (0, u "jdk/internal/util/Preconditions$4"), (57, .class_ 115), (0, u "jdk/internal/util/Preconditions$1"), (7, u "SIOOBE_FORMATTER"), (0, u "Ljava/util/function/BiFunction;"), (0, .class_ 126), (0, u "jdk/internal/util/Preconditions$2"), (3, u "AIOOBE_FORMATTER"), (0, .class_ 132), (0, u "jdk/internal/util/Preconditions$3"), (3, u "IOOBE_FORMATTER"), (41, u "(IILjava/util/function/BiFunction;)I")] 15

def k11m0 : Method := { name := "<init>", desc := "()V", sig := { parameters := [], returnType := none }, accessFlags := 1, code := none }
def k11c1 : Code := { maxStack := 3, maxLocals := 3, code := jdk_41_method_11_code, exceptionTable := #[], attributes := #[] }
def k11m1 : Method := { name := "checkIndex", desc := "(IILjava/util/function/BiFunction;)I", sig := { parameters := [.int, .int, (.object "java/util/function/BiFunction")], returnType := some .int }, accessFlags := 9, code := some k11c1 }
/-- jdk/internal/util/Preconditions -/
def k11 : Class := { plain "jdk/internal/util/Preconditions" (some 0) with
  accessFlags := 33
  interfaces := #[]
  cf := some (fileOf pool11 24 #[.nestMembers #[55, 131, 125, 114]] #[{ accessFlags := 1, nameIndex := 5, descriptorIndex := 6, attributes := #[] }, { accessFlags := 9, nameIndex := 33, descriptorIndex := 178, attributes := #[] }] 33 2 #[] #[{ accessFlags := 25, nameIndex := 123, descriptorIndex := 124, attributes := #[] }, { accessFlags := 25, nameIndex := 130, descriptorIndex := 124, attributes := #[] }, { accessFlags := 25, nameIndex := 136, descriptorIndex := 124, attributes := #[] }])
  fields := #[{ name := "SIOOBE_FORMATTER", type := (.object "java/util/function/BiFunction"), accessFlags := 25, slot := 0, constantValue := 0 }, { name := "AIOOBE_FORMATTER", type := (.object "java/util/function/BiFunction"), accessFlags := 25, slot := 1, constantValue := 0 }, { name := "IOOBE_FORMATTER", type := (.object "java/util/function/BiFunction"), accessFlags := 25, slot := 2, constantValue := 0 }]
  methods := #[k11m0, k11m1]
  instanceTypes := #[]
  staticTypes := #[(.object "java/util/function/BiFunction"), (.object "java/util/function/BiFunction"), (.object "java/util/function/BiFunction")]
  resolved := Array.replicate 194 none
  statics := some 1 }

def pool12 : Array CpInfo := pool [(9, u "<init>"), (6, .class_ 18), (1, u "java/lang/Object"), (0, u "()V"), (1, .class_ 23), (1, u "jdk/internal/util/ArraysSupport"), (0, u "LOG2_ARRAY_LONG_INDEX_SCALE"), (0, u "I"), (2, u "U"), (0, u "Ljdk/internal/misc/Unsafe;"), (8, u "BIG_ENDIAN"), (0, u "Z"), (8, u "LOG2_BYTE_BIT_SIZE"), (4, u "LOG2_ARRAY_INT_INDEX_SCALE"), (54, u "JLA"), (0, u "Ljdk/internal/access/JavaLangAccess;"), (11, u "LOG2_ARRAY_BOOLEAN_INDEX_SCALE"), (9, u "LOG2_ARRAY_BYTE_INDEX_SCALE"), (5, u "LOG2_ARRAY_CHAR_INDEX_SCALE"), (5, u "LOG2_ARRAY_SHORT_INDEX_SCALE"), (18, u "LOG2_ARRAY_FLOAT_INDEX_SCALE"), (24, u "LOG2_ARRAY_DOUBLE_INDEX_SCALE"), (89, u "T_BOOLEAN"), (2, u "T_CHAR"), (1, u "T_FLOAT"), (1, u "T_DOUBLE"), (1, u "T_BYTE"), (1, u "T_SHORT"), (1, u "T_INT"), (1, u "T_LONG"), (1, u "SOFT_MAX_ARRAY_LENGTH")] 83

def k12m0 : Method := { name := "<init>", desc := "()V", sig := { parameters := [], returnType := none }, accessFlags := 2, code := none }
/-- jdk/internal/util/ArraysSupport -/
def k12 : Class := { plain "jdk/internal/util/ArraysSupport" (some 0) with
  accessFlags := 33
  interfaces := #[]
  cf := some (fileOf pool12 21 #[] #[{ accessFlags := 2, nameIndex := 9, descriptorIndex := 19, attributes := #[] }] 33 16 #[] #[{ accessFlags := 24, nameIndex := 28, descriptorIndex := 29, attributes := #[] }, { accessFlags := 26, nameIndex := 38, descriptorIndex := 39, attributes := #[] }, { accessFlags := 25, nameIndex := 121, descriptorIndex := 25, attributes := #[] }, { accessFlags := 25, nameIndex := 131, descriptorIndex := 25, attributes := #[] }, { accessFlags := 25, nameIndex := 137, descriptorIndex := 25, attributes := #[] }, { accessFlags := 25, nameIndex := 143, descriptorIndex := 25, attributes := #[] }, { accessFlags := 25, nameIndex := 53, descriptorIndex := 25, attributes := #[] }, { accessFlags := 25, nameIndex := 24, descriptorIndex := 25, attributes := #[] }, { accessFlags := 25, nameIndex := 162, descriptorIndex := 25, attributes := #[] }, { accessFlags := 25, nameIndex := 187, descriptorIndex := 25, attributes := #[] }, { accessFlags := 26, nameIndex := 48, descriptorIndex := 25, attributes := #[] }, { accessFlags := 25, nameIndex := 277, descriptorIndex := 25, attributes := #[] }, { accessFlags := 25, nameIndex := 280, descriptorIndex := 25, attributes := #[] }, { accessFlags := 25, nameIndex := 282, descriptorIndex := 25, attributes := #[] }, { accessFlags := 25, nameIndex := 284, descriptorIndex := 25, attributes := #[] }, { accessFlags := 25, nameIndex := 286, descriptorIndex := 25, attributes := #[] }, { accessFlags := 25, nameIndex := 288, descriptorIndex := 25, attributes := #[] }, { accessFlags := 25, nameIndex := 290, descriptorIndex := 25, attributes := #[] }, { accessFlags := 25, nameIndex := 292, descriptorIndex := 25, attributes := #[] }, { accessFlags := 26, nameIndex := 108, descriptorIndex := 109, attributes := #[] }, { accessFlags := 25, nameIndex := 294, descriptorIndex := 25, attributes := #[] }])
  fields := #[{ name := "U", type := (.object "jdk/internal/misc/Unsafe"), accessFlags := 24, slot := 0, constantValue := 0 }, { name := "BIG_ENDIAN", type := .boolean, accessFlags := 26, slot := 1, constantValue := 0 }, { name := "LOG2_ARRAY_BOOLEAN_INDEX_SCALE", type := .int, accessFlags := 25, slot := 2, constantValue := 0 }, { name := "LOG2_ARRAY_BYTE_INDEX_SCALE", type := .int, accessFlags := 25, slot := 3, constantValue := 0 }, { name := "LOG2_ARRAY_CHAR_INDEX_SCALE", type := .int, accessFlags := 25, slot := 4, constantValue := 0 }, { name := "LOG2_ARRAY_SHORT_INDEX_SCALE", type := .int, accessFlags := 25, slot := 5, constantValue := 0 }, { name := "LOG2_ARRAY_INT_INDEX_SCALE", type := .int, accessFlags := 25, slot := 6, constantValue := 0 }, { name := "LOG2_ARRAY_LONG_INDEX_SCALE", type := .int, accessFlags := 25, slot := 7, constantValue := 0 }, { name := "LOG2_ARRAY_FLOAT_INDEX_SCALE", type := .int, accessFlags := 25, slot := 8, constantValue := 0 }, { name := "LOG2_ARRAY_DOUBLE_INDEX_SCALE", type := .int, accessFlags := 25, slot := 9, constantValue := 0 }, { name := "LOG2_BYTE_BIT_SIZE", type := .int, accessFlags := 26, slot := 10, constantValue := 0 }, { name := "T_BOOLEAN", type := .int, accessFlags := 25, slot := 11, constantValue := 0 }, { name := "T_CHAR", type := .int, accessFlags := 25, slot := 12, constantValue := 0 }, { name := "T_FLOAT", type := .int, accessFlags := 25, slot := 13, constantValue := 0 }, { name := "T_DOUBLE", type := .int, accessFlags := 25, slot := 14, constantValue := 0 }, { name := "T_BYTE", type := .int, accessFlags := 25, slot := 15, constantValue := 0 }, { name := "T_SHORT", type := .int, accessFlags := 25, slot := 16, constantValue := 0 }, { name := "T_INT", type := .int, accessFlags := 25, slot := 17, constantValue := 0 }, { name := "T_LONG", type := .int, accessFlags := 25, slot := 18, constantValue := 0 }, { name := "JLA", type := (.object "jdk/internal/access/JavaLangAccess"), accessFlags := 26, slot := 19, constantValue := 0 }, { name := "SOFT_MAX_ARRAY_LENGTH", type := .int, accessFlags := 25, slot := 20, constantValue := 0 }]
  methods := #[k12m0]
  instanceTypes := #[]
  staticTypes := #[(.object "jdk/internal/misc/Unsafe"), .boolean, .int, .int, .int, .int, .int, .int, .int, .int, .int, .int, .int, .int, .int, .int, .int, .int, .int, (.object "jdk/internal/access/JavaLangAccess"), .int]
  resolved := Array.replicate 378 none
  statics := none }

def pool13 : Array CpInfo := pool [(1, u "java/lang/Cloneable"), (0, .class_ 1), (0, u "java/lang/Object"), (0, .class_ 3)] 3

/-- java/lang/Cloneable -/
def k13 : Class := { plain "java/lang/Cloneable" (some 0) with
  accessFlags := 1537
  interfaces := #[]
  cf := some (fileOf pool13 2 #[] #[] 1537 4 #[] #[])
  fields := #[]
  methods := #[]
  instanceTypes := #[]
  staticTypes := #[]
  resolved := Array.replicate 8 none
  statics := none }

/-- the primitive byte -/
def k14 : Class := { plain "byte" none with kind := .primitive 'B', accessFlags := 0x411 }
/-- [B -/
def k15 : Class := { plain "[B" (some 0) with kind := .array 14 .byte, interfaces := #[13, 2], accessFlags := 1041 }

/-- the primitive char -/
def k16 : Class := { plain "char" none with kind := .primitive 'C', accessFlags := 0x411 }
/-- [C -/
def k17 : Class := { plain "[C" (some 0) with kind := .array 16 .char, interfaces := #[13, 2], accessFlags := 1041 }

/-- the primitive int -/
def k18 : Class := { plain "int" none with kind := .primitive 'I', accessFlags := 0x411 }
/-- [I -/
def k19 : Class := { plain "[I" (some 0) with kind := .array 18 .int, interfaces := #[13, 2], accessFlags := 1041 }

def heap : Heap := #[{ cls := 7, slots := #[.long 0, .int 1, .null, .int 0, .null, .int 0, .int 0], vm := .statics 7 },
  { cls := 11, slots := #[.null, .null, .null], vm := .statics 11 }]
def classes : Array Class := #[k0, k1, k2, k3, k4, k5, k6, k7, k8, k9, k10, k11, k12, k13, k14, k15, k16, k17, k18, k19]
def interned : List (Array UInt16 × Addr) := []
def slotsUsed : Nat := 10
def theMethod : MethodId := ⟨1, 1⟩
def args0 : Array Value := #[.int 5]
def aboutOver (below : List Frame) : State where
  vm := { classes := classes, interned := interned.toArray }
  heap := heap
  slotsUsed := slotsUsed
  threads := #[{ frames := .invoking theMethod args0 :: below }]
def below0 : List Frame := [.native { method := ⟨0, 0⟩, args := #[] }]
def about1 : State := aboutOver below0
def p0 : Program := .bare "" "" ""
def e0 : Env := launch0.env 0 0 0
theorem w_frames : about1.frames = Frame.invoking theMethod args0 :: below0 := rfl
set_option maxRecDepth 65536 in
theorem w_args : argsFit about1.vm theMethod args0 = true := by decide +kernel
set_option maxRecDepth 65536 in
theorem w_heap : heapFits about1 = true := by decide +kernel
set_option maxRecDepth 65536 in
theorem w_runnable : about1.curStatus? = some .runnable := by decide +kernel
set_option maxRecDepth 65536 in
theorem w_alone : about1.alone = true := by decide +kernel
set_option maxRecDepth 65536 in
theorem w_named : about1.methodNamed? x = some theMethod := by decide +kernel
set_option maxRecDepth 65536 in
theorem w_hears : about1.hears theMethod below0 = true := by decide +kernel
set_option maxRecDepth 65536 in
theorem w_ripe : about1.ripe theMethod args0 below0 = true := by decide +kernel
theorem w_running : about1.status = .running := rfl
set_option maxRecDepth 65536 in
theorem w_room : about1.hasRoom e0.platform room_1 = true :=
  launch0.hasRoom_least _ room_1 (by decide +kernel) (by decide +kernel) (by decide +kernel) (by decide +kernel) (by decide +kernel) (by decide +kernel)
theorem allAtoms_all (ts : List Jvm.Cond) (a : Array Jvm.Value) (st : Jvm.State) : (allAtoms ts).before a st = ts.all (fun c => c.before a st) := by
  induction ts with
  | nil => rfl
  | cons c t ih =>
    show (Jvm.Cond.and c (allAtoms t)).before a st = _
    rw [Jvm.Cond.before_and, ih, List.all_cons]
def words1 : List Jvm.Cond := Jvm.Cond.code x code maxLocals ret :: tables_1
/-- a 'code' word, met by the world's own term for the bytes: nothing is compared byte by byte -/
theorem code_word {y : MethodName} {bytes : ByteArray} {mx : Nat} {rt : Option FieldType} {a : Array Value} {s : State} {m : MethodId} {meth : Method} {c : Code} (h1 : s.methodNamed? y = some m) (h2 : s.vm.method? m = some meth) (h3 : meth.code = some c) (h4 : c.code = bytes)
    (h5 : (c.maxLocals == mx && c.exceptionTable.isEmpty && decide (c.maxStack ≤ mostOperands) && decide (meth.sig.returnType = rt) && !meth.locks && decide (parseMethodDescriptor y.desc = some meth.sig)) = true) : (Jvm.Cond.code y bytes mx rt).before a s = true := by
  simp only [Bool.and_eq_true, beq_iff_eq, Bool.not_eq_true', decide_eq_true_eq] at h5
  obtain ⟨⟨⟨⟨⟨g1, g2⟩, g3⟩, g4⟩, g5⟩, g6⟩ := h5
  simp [Cond.before, Cond.holds, Cond.value, h1, h2, h3, h4, g1, g2, g3, g4, g5, g6]
def isCode : Jvm.Cond → Bool
  | .code _ _ _ _ => true
  | _ => false
theorem all_split {L : List Jvm.Cond} {P : Jvm.Cond → Bool} (h1 : L.all (fun c => isCode c || P c) = true) (h2 : ∀ c ∈ L.filter isCode, P c = true) : L.all P = true := by
  refine List.all_eq_true.mpr fun c hc => ?_
  have h := List.all_eq_true.mp h1 c hc
  rcases Bool.eq_false_or_eq_true (isCode c) with hi | hi
  · exact h2 c (List.mem_filter.mpr ⟨hc, hi⟩)
  · simpa [hi] using h
set_option maxRecDepth 65536 in
theorem w_c0 : (Jvm.Cond.code x code maxLocals ret).before args0 about1 = true := code_word (m := ⟨1, 1⟩) (meth := k1m1) (c := k1c1) (by decide +kernel) rfl rfl rfl (by decide +kernel)
set_option maxRecDepth 65536 in
theorem w_c1 : (Jvm.Cond.code ({ cls := "java/lang/String", name := "<init>", desc := "([C)V" } : Jvm.MethodName) jdk_42_method_3_code (2 : Nat) (Option.none : Option Jvm.ClassFile.FieldType)).before args0 about1 = true := code_word (m := ⟨7, 1⟩) (meth := k7m1) (c := k7c1) (by decide +kernel) rfl rfl rfl (by decide +kernel)
set_option maxRecDepth 65536 in
theorem w_c2 : (Jvm.Cond.code ({ cls := "java/lang/String", name := "<init>", desc := "([CIILjava/lang/Void;)V" } : Jvm.MethodName) jdk_42_method_149_code (6 : Nat) (Option.none : Option Jvm.ClassFile.FieldType)).before args0 about1 = true := code_word (m := ⟨7, 4⟩) (meth := k7m4) (c := k7c4) (by decide +kernel) rfl rfl rfl (by decide +kernel)
set_option maxRecDepth 65536 in
theorem w_c3 : (Jvm.Cond.code ({ cls := "java/lang/Object", name := "<init>", desc := "()V" } : Jvm.MethodName) object_method_1_code (1 : Nat) (Option.none : Option Jvm.ClassFile.FieldType)).before args0 about1 = true := code_word (m := ⟨0, 0⟩) (meth := k0m0) (c := k0c0) (by decide +kernel) rfl rfl rfl (by decide +kernel)
set_option maxRecDepth 65536 in
theorem w_c4 : (Jvm.Cond.code ({ cls := "java/lang/StringUTF16", name := "compress", desc := "([CII)[B" } : Jvm.MethodName) jdk_52_method_16_code (6 : Nat) (Option.some (Jvm.ClassFile.FieldType.array Jvm.ClassFile.FieldType.byte))).before args0 about1 = true := code_word (m := ⟨8, 2⟩) (meth := k8m2) (c := k8c2) (by decide +kernel) rfl rfl rfl (by decide +kernel)
set_option maxRecDepth 65536 in
theorem w_c5 : (Jvm.Cond.code ({ cls := "java/lang/StringUTF16", name := "compress", desc := "([CI[BII)I" } : Jvm.MethodName) jdk_52_method_21_code (7 : Nat) (Option.some Jvm.ClassFile.FieldType.int)).before args0 about1 = true := code_word (m := ⟨8, 3⟩) (meth := k8m3) (c := k8c3) (by decide +kernel) rfl rfl rfl (by decide +kernel)
set_option maxRecDepth 65536 in
theorem w_c6 : (Jvm.Cond.code ({ cls := "java/lang/StringUTF16", name := "coderFromArrayLen", desc := "([BI)B" } : Jvm.MethodName) jdk_52_method_15_code (2 : Nat) (Option.some Jvm.ClassFile.FieldType.byte)).before args0 about1 = true := code_word (m := ⟨8, 1⟩) (meth := k8m1) (c := k8c1) (by decide +kernel) rfl rfl rfl (by decide +kernel)
set_option maxRecDepth 65536 in
theorem w_c7 : (Jvm.Cond.code ({ cls := "com/example/abeyance/abeyance/model/Dates", name := "parseYear", desc := "(Ljava/lang/CharSequence;)I" } : Jvm.MethodName) prog_7_method_4_code (4 : Nat) (Option.some Jvm.ClassFile.FieldType.int)).before args0 about1 = true := code_word (m := ⟨9, 1⟩) (meth := k9m1) (c := k9c1) (by decide +kernel) rfl rfl rfl (by decide +kernel)
set_option maxRecDepth 65536 in
theorem w_c8 : (Jvm.Cond.code ({ cls := "java/lang/String", name := "length", desc := "()I" } : Jvm.MethodName) jdk_42_method_54_code (1 : Nat) (Option.some Jvm.ClassFile.FieldType.int)).before args0 about1 = true := code_word (m := ⟨7, 2⟩) (meth := k7m2) (c := k7c2) (by decide +kernel) rfl rfl rfl (by decide +kernel)
set_option maxRecDepth 65536 in
theorem w_c9 : (Jvm.Cond.code ({ cls := "java/lang/String", name := "coder", desc := "()B" } : Jvm.MethodName) jdk_42_method_152_code (1 : Nat) (Option.some Jvm.ClassFile.FieldType.byte)).before args0 about1 = true := code_word (m := ⟨7, 5⟩) (meth := k7m5) (c := k7c5) (by decide +kernel) rfl rfl rfl (by decide +kernel)
set_option maxRecDepth 65536 in
theorem w_c10 : (Jvm.Cond.code ({ cls := "java/lang/String", name := "charAt", desc := "(I)C" } : Jvm.MethodName) jdk_42_method_56_code (2 : Nat) (Option.some Jvm.ClassFile.FieldType.char)).before args0 about1 = true := code_word (m := ⟨7, 3⟩) (meth := k7m3) (c := k7c3) (by decide +kernel) rfl rfl rfl (by decide +kernel)
set_option maxRecDepth 65536 in
theorem w_c11 : (Jvm.Cond.code ({ cls := "java/lang/String", name := "isLatin1", desc := "()Z" } : Jvm.MethodName) jdk_42_method_154_code (1 : Nat) (Option.some Jvm.ClassFile.FieldType.boolean)).before args0 about1 = true := code_word (m := ⟨7, 6⟩) (meth := k7m6) (c := k7c6) (by decide +kernel) rfl rfl rfl (by decide +kernel)
set_option maxRecDepth 65536 in
theorem w_c12 : (Jvm.Cond.code ({ cls := "java/lang/StringLatin1", name := "charAt", desc := "([BI)C" } : Jvm.MethodName) jdk_43_method_2_code (2 : Nat) (Option.some Jvm.ClassFile.FieldType.char)).before args0 about1 = true := code_word (m := ⟨10, 1⟩) (meth := k10m1) (c := k10c1) (by decide +kernel) rfl rfl rfl (by decide +kernel)
set_option maxRecDepth 65536 in
theorem w_c13 : (Jvm.Cond.code ({ cls := "java/lang/String", name := "checkIndex", desc := "(II)V" } : Jvm.MethodName) jdk_42_method_155_code (2 : Nat) (Option.none : Option Jvm.ClassFile.FieldType)).before args0 about1 = true := code_word (m := ⟨7, 7⟩) (meth := k7m7) (c := k7c7) (by decide +kernel) rfl rfl rfl (by decide +kernel)
set_option maxRecDepth 65536 in
theorem w_c14 : (Jvm.Cond.code ({ cls := "jdk/internal/util/Preconditions", name := "checkIndex", desc := "(IILjava/util/function/BiFunction;)I" } : Jvm.MethodName) jdk_41_method_11_code (3 : Nat) (Option.some Jvm.ClassFile.FieldType.int)).before args0 about1 = true := code_word (m := ⟨11, 1⟩) (meth := k11m1) (c := k11c1) (by decide +kernel) rfl rfl rfl (by decide +kernel)
def codes1 : List Jvm.Cond := [Jvm.Cond.code x code maxLocals ret, Jvm.Cond.code ({ cls := "java/lang/String", name := "<init>", desc := "([C)V" } : Jvm.MethodName) jdk_42_method_3_code (2 : Nat) (Option.none : Option Jvm.ClassFile.FieldType), Jvm.Cond.code ({ cls := "java/lang/String", name := "<init>", desc := "([CIILjava/lang/Void;)V" } : Jvm.MethodName) jdk_42_method_149_code (6 : Nat) (Option.none : Option Jvm.ClassFile.FieldType), Jvm.Cond.code ({ cls := "java/lang/Object", name := "<init>", desc := "()V" } : Jvm.MethodName) object_method_1_code (1 : Nat) (Option.none : Option Jvm.ClassFile.FieldType), Jvm.Cond.code ({ cls := "java/lang/StringUTF16", name := "compress", desc := "([CII)[B" } : Jvm.MethodName) jdk_52_method_16_code (6 : Nat) (Option.some (Jvm.ClassFile.FieldType.array Jvm.ClassFile.FieldType.byte)), Jvm.Cond.code ({ cls := "java/lang/StringUTF16", name := "compress", desc := "([CI[BII)I" } : Jvm.MethodName) jdk_52_method_21_code (7 : Nat) (Option.some Jvm.ClassFile.FieldType.int), Jvm.Cond.code ({ cls := "java/lang/StringUTF16", name := "coderFromArrayLen", desc := "([BI)B" } : Jvm.MethodName) jdk_52_method_15_code (2 : Nat) (Option.some Jvm.ClassFile.FieldType.byte), Jvm.Cond.code ({ cls := "com/example/abeyance/abeyance/model/Dates", name := "parseYear", desc := "(Ljava/lang/CharSequence;)I" } : Jvm.MethodName) prog_7_method_4_code (4 : Nat) (Option.some Jvm.ClassFile.FieldType.int), Jvm.Cond.code ({ cls := "java/lang/String", name := "length", desc := "()I" } : Jvm.MethodName) jdk_42_method_54_code (1 : Nat) (Option.some Jvm.ClassFile.FieldType.int), Jvm.Cond.code ({ cls := "java/lang/String", name := "coder", desc := "()B" } : Jvm.MethodName) jdk_42_method_152_code (1 : Nat) (Option.some Jvm.ClassFile.FieldType.byte), Jvm.Cond.code ({ cls := "java/lang/String", name := "charAt", desc := "(I)C" } : Jvm.MethodName) jdk_42_method_56_code (2 : Nat) (Option.some Jvm.ClassFile.FieldType.char), Jvm.Cond.code ({ cls := "java/lang/String", name := "isLatin1", desc := "()Z" } : Jvm.MethodName) jdk_42_method_154_code (1 : Nat) (Option.some Jvm.ClassFile.FieldType.boolean), Jvm.Cond.code ({ cls := "java/lang/StringLatin1", name := "charAt", desc := "([BI)C" } : Jvm.MethodName) jdk_43_method_2_code (2 : Nat) (Option.some Jvm.ClassFile.FieldType.char), Jvm.Cond.code ({ cls := "java/lang/String", name := "checkIndex", desc := "(II)V" } : Jvm.MethodName) jdk_42_method_155_code (2 : Nat) (Option.none : Option Jvm.ClassFile.FieldType), Jvm.Cond.code ({ cls := "jdk/internal/util/Preconditions", name := "checkIndex", desc := "(IILjava/util/function/BiFunction;)I" } : Jvm.MethodName) jdk_41_method_11_code (3 : Nat) (Option.some Jvm.ClassFile.FieldType.int)]
set_option maxRecDepth 65536 in
theorem codes_eq : words1.filter isCode = codes1 := rfl
theorem w_codes : ∀ c ∈ words1.filter isCode, c.before args0 about1 = true := by
  rw [codes_eq]
  intro c hc
  simp only [codes1, List.mem_cons, List.not_mem_nil, or_false] at hc
  rcases hc with rfl | rfl | rfl | rfl | rfl | rfl | rfl | rfl | rfl | rfl | rfl | rfl | rfl | rfl | rfl
  · exact w_c0
  · exact w_c1
  · exact w_c2
  · exact w_c3
  · exact w_c4
  · exact w_c5
  · exact w_c6
  · exact w_c7
  · exact w_c8
  · exact w_c9
  · exact w_c10
  · exact w_c11
  · exact w_c12
  · exact w_c13
  · exact w_c14
set_option maxRecDepth 65536 in
theorem w_t1 : (words1.take 24).all (fun c => isCode c || c.before args0 about1) = true := by decide +kernel
set_option maxRecDepth 65536 in
theorem w_t2 : ((words1.drop 24).take 24).all (fun c => isCode c || c.before args0 about1) = true := by decide +kernel
set_option maxRecDepth 65536 in
theorem w_t3 : (((words1.drop 24).drop 24).take 24).all (fun c => isCode c || c.before args0 about1) = true := by decide +kernel
set_option maxRecDepth 65536 in
theorem w_t4 : (((words1.drop 24).drop 24).drop 24).all (fun c => isCode c || c.before args0 about1) = true := by decide +kernel
theorem w_tables : (allAtoms (Jvm.Cond.code x code maxLocals ret :: tables_1)).before args0 about1 = true := by
  rw [allAtoms_all]
  show words1.all (fun c => c.before args0 about1) = true
  refine all_split ?_ w_codes
  rw [← List.take_append_drop 24 words1, List.all_append, w_t1, ← List.take_append_drop 24 (words1.drop 24), List.all_append, w_t2, ← List.take_append_drop 24 ((words1.drop 24).drop 24), List.all_append, w_t3, w_t4]
  rfl
set_option maxRecDepth 65536 in
theorem w_rest : rest_1_c.before args0 about1 = true := by decide +kernel
set_option maxRecDepth 65536 in
theorem w_case : (Jvm.Cond.and given_1 narrow_1).before args0 about1 = true := by decide +kernel
theorem w_applies : (headSpec (Jvm.Cond.code x code maxLocals ret :: tables_1) room_1).applies x e0.platform about1 = true :=
  (Spec.applies_iff w_frames).mpr ⟨w_running, w_runnable, w_alone, w_named, w_hears, w_ripe, w_room, w_tables⟩
theorem atStart : AtStart classFile x code maxLocals ret World_1 tables_1 room_1 Calls_1 rest_1 Pre_1 launch0 p0 e0 about1 theMethod args0 below0 :=
  ⟨lists_1, trivial, launch0.admits_env _ _ _, launch0.least_env, fairChoices_fair.cas, fairChoices_fair.clock, w_frames, w_args, w_heap, w_applies, trivial, w_rest, w_case⟩
end start1
theorem witness_1 : WitnessClaimed_1 := ⟨start1.p0, start1.e0, start1.about1, start1.theMethod, start1.args0, start1.below0, start1.atStart⟩
end Jvm.Pilot.@@N@@
