import JvmDerived
import JvmDerived.Pilot.@@N@@Statement
import JvmDerived.Pilot.@@N@@Code
set_option linter.unusedVariables false
set_option linter.unusedSimpArgs false
namespace Jvm.RoadKit
open Sem ClassFile Op Lib Jvm.Stand Jvm.Free Jvm.LawKit
section New
variable {p : Program} {l : Launch} {e : Env} {R : Room} {s : State} {m : MethodId} {args : Array Value} {below : List Frame} {meth : Method} {c : Code} {T : State} {locs : List Loc} {cells slots : Nat}
theorem retI (X : Stand p l e R s m args below meth c T locs cells slots) (hx : p.tables.exec = Jvm.exec) {pc : Nat} {Ls : Array Slot} {z : Int32} {rest : List Value} (hret : meth.sig.returnType = some .int) (hd : decode c.code pc = .ok (.ireturn, 1)) {fs : List Frame}
    (hl : ∀ (f : JFrame) (acts : List Action), f.method = m → f.locked = none → f.entered = [] → (doReturn e (T.setTop f) acts (some (.int z))).1 = T.setFrames fs) : Steps p.tables e below (T.setTop (mkF m pc Ls (.int z :: rest))) (T.setFrames fs) := by
  have hm' : T.vm.method? m = some meth := X.method'
  have hn : narrow .int (.int z) = .int z := rfl
  show Steps p.tables e below (T.setTop { method := m, pc := pc, locals := Ls, stack := _ :: rest, locked := none }) _
  jvm_step X.here [X.here.top, hx, hd, hm', hret, hn]
  first | (intro acts; rw [hl _ acts rfl rfl rfl]) | rw [hl _ _ rfl rfl rfl]
  exact Steps.refl _
end New
end Jvm.RoadKit
namespace Jvm.Pilot.@@N@@
open Jvm Jvm.ClassFile Sem Op Lib Jvm.Free Jvm.Stand Jvm.LawKit Jvm.RoadKit Bundle Jvm.Pilot.@@N@@.Jvm.D
def own_lc (x y : Int64) : Int32 := if lcmpW x y < 0 then (-1 : Int32) else if lcmpW x y = 0 then 0 else 1
def own_cmp (a o b q : Int64) : Int32 := if own_lc a b = 0 then own_lc o q else own_lc a b
theorem own_lt {a b : Int64} (h : a < b) : own_lc a b = -1 ∧ own_lc b a = 1 := by
  have h1 := (lw_lt a b).mpr h
  have h2 : ¬ lcmpW b a < 0 := fun q => by have := (lw_lt b a).mp q; rw [Int64.lt_iff_toInt_lt] at *; omega
  have h3 : ¬ lcmpW b a = 0 := fun q => by have := (lw_eq b a).mp q; subst this; rw [Int64.lt_iff_toInt_lt] at *; omega
  exact ⟨if_pos h1, (if_neg h2).trans (if_neg h3)⟩
theorem own_eq (a : Int64) : own_lc a a = 0 := by
  have h2 : ¬ lcmpW a a < 0 := fun q => by have := (lw_lt a a).mp q; rw [Int64.lt_iff_toInt_lt] at *; omega
  exact (if_neg h2).trans (if_pos ((lw_eq a a).mpr rfl))
theorem own_same {a b : Int64} (h1 : ¬ lcmpW a b < 0) (h2 : ¬ 0 < lcmpW a b) : a = b := by
  rw [lw_lt] at h1; rw [lw_gt] at h2; rw [Int64.lt_iff_toInt_lt] at h1 h2; exact Int64.toInt_inj.mp (by omega)
theorem own_c1 {a b : Int64} (o q : Int64) (h : lcmpW a b < 0) : (-1 : Int32) = own_cmp a o b q ∧ (1 : Int32) = own_cmp b q a o := by
  obtain ⟨e1, e2⟩ := own_lt ((lw_lt a b).mp h); unfold own_cmp; rw [e1, e2]; exact ⟨rfl, rfl⟩
theorem own_c2 {a b : Int64} (o q : Int64) (h : 0 < lcmpW a b) : (1 : Int32) = own_cmp a o b q ∧ (-1 : Int32) = own_cmp b q a o := by
  obtain ⟨e1, e2⟩ := own_lt ((lw_gt a b).mp h); unfold own_cmp; rw [e1, e2]; exact ⟨rfl, rfl⟩
theorem own_c3 {a b o q : Int64} (h1 : ¬ lcmpW a b < 0) (h2 : ¬ 0 < lcmpW a b) (h : lcmpW o q < 0) : (-1 : Int32) = own_cmp a o b q ∧ (1 : Int32) = own_cmp b q a o := by
  obtain rfl := own_same h1 h2; obtain ⟨e1, e2⟩ := own_lt ((lw_lt o q).mp h); unfold own_cmp; rw [own_eq, e1, e2]; exact ⟨rfl, rfl⟩
theorem own_c4 {a b o q : Int64} (h1 : ¬ lcmpW a b < 0) (h2 : ¬ 0 < lcmpW a b) (h : 0 < lcmpW o q) : (1 : Int32) = own_cmp a o b q ∧ (-1 : Int32) = own_cmp b q a o := by
  obtain rfl := own_same h1 h2; obtain ⟨e1, e2⟩ := own_lt ((lw_gt o q).mp h); unfold own_cmp; rw [own_eq, e1, e2]; exact ⟨rfl, rfl⟩
theorem own_c5 {a b o q : Int64} (h1 : ¬ lcmpW a b < 0) (h2 : ¬ 0 < lcmpW a b) (h3 : ¬ lcmpW o q < 0) (h4 : ¬ 0 < lcmpW o q) : (0 : Int32) = own_cmp a o b q ∧ (0 : Int32) = own_cmp b q a o := by
  obtain rfl := own_same h1 h2; obtain rfl := own_same h3 h4; unfold own_cmp; rw [own_eq, own_eq]; exact ⟨rfl, rfl⟩
theorem own_sg (x : Int32) (r : Int32) (h : x = r) (h2 : r = -1 ∨ r = 0 ∨ r = 1) : r = if x < 0 then (-1 : Int32) else if 0 < x then 1 else 0 := by
  subst h; rcases h2 with rfl | rfl | rfl <;> decide
theorem own_idx {x : Int32} {n : Nat} (h1 : ¬ x < (-128 : Int32)) (h2 : ¬ (127 : Int32) < x) (hn : n = 256) : ¬ ((x + 128) < 0 ∨ n ≤ (x + 128).toNatClampNeg) := by
  rw [Int32.lt_iff_toInt_lt] at h1 h2
  have e1 : (-128 : Int32).toInt = -128 := by decide
  have e2 : (127 : Int32).toInt = 127 := by decide
  have e3 : (128 : Int32).toInt = 128 := by decide
  have e0 : (0 : Int32).toInt = 0 := by decide
  have a := c_iadd x 128
  have r := rng32 (x + 128)
  simp only [Int32.lt_iff_toInt_lt, Int32.toNatClampNeg]; omega
theorem own_len {args : Array Value} {Z : State} {t : Term} {a : Addr} {c : Cell} {n : Int32} (ev : t.eval args Z none [] Z = some (.ref a)) (ha : Z.arrayAt? a = some c) (h : (Cond.eq (.length t) (.int n)).value args Z none Z [] = some true) : c.slots.size = n.toInt.toNat := by
  have e : (Term.length t).eval args Z none [] Z = if c.slots.size < 2 ^ 31 then some (.int c.slots.size.toInt32) else none := by simp [Term.eval, ev, ha]
  by_cases hb : c.slots.size < 2 ^ 31
  · rw [if_pos hb] at e
    have h' : c.slots.size.toInt32 = n := by simpa [Cond.value, e, Term.int_eval] using h
    have h1 : (Int32.ofNat c.slots.size).toInt = c.slots.size := Int32.toInt_ofNat_of_lt hb
    have h2 : Int32.ofNat c.slots.size = n := h'
    rw [h2] at h1; omega
  · rw [if_neg hb] at e; simp [Cond.value, e] at h
theorem own_hel {args : Array Value} {Z : State} {C n d K : String} {Y : Cond} {a : Addr} {c : Cell} (ev : (Term.static C n d).eval args Z none [] Z = some (.ref a)) (ha : Z.arrayAt? a = some c) (hsz : c.slots.size = 256)
    (h : (Cond.all (.static C n d) (.and (.exactly (.elem (.static C n d) (.index 0)) K) Y)).value args Z none Z [] = some true) (j : Int32) (hj : ¬ (j < 0 ∨ c.slots.size ≤ j.toNatClampNeg)) : ∃ x, c.slots[j.toNatClampNeg]? = some (.ref x) := by
  have hi : j.toNatClampNeg < c.slots.size := Nat.lt_of_not_le fun q => hj (Or.inr q)
  have h1 := Cond.all_elim ev ha h _ hi
  generalize j.toNatClampNeg = i at h1 hi ⊢
  have h2 : (Cond.exactly (.elem (.static C n d) (.index 0)) K).value args Z none Z [i] = some true := by
    have e : (Cond.and (.exactly (.elem (.static C n d) (.index 0)) K) Y).value args Z none Z [i] = (match (Cond.exactly (.elem (.static C n d) (.index 0)) K).value args Z none Z [i] with | some true => Y.value args Z none Z [i] | x => x) := rfl
    rw [e] at h1; split at h1
    · assumption
    · exact h1
  obtain ⟨x, hx⟩ := exa_v h2
  have ev' : (Term.static C n d).eval args Z none [i] Z = some (.ref a) := ev
  have e2 : (Int32.ofNat i).toNatClampNeg = i := by
    have : (Int32.ofNat i).toInt = i := Int32.toInt_ofNat_of_lt (by omega)
    simp only [Int32.toNatClampNeg, this]; omega
  have e3 : ¬ Int32.ofNat i < 0 := by
    have : (Int32.ofNat i).toInt = i := Int32.toInt_ofNat_of_lt (by omega)
    rw [Int32.lt_iff_toInt_lt, this]; have : (0 : Int32).toInt = 0 := by decide
    omega
  have e : (Term.elem (.static C n d) (.index 0)).eval args Z none [i] Z = c.slots[i]? := by
    rw [Term.eval, ev']
    show (if Int32.ofNat i < 0 then none else (Z.arrayAt? a).bind fun q => q.slots[(Int32.ofNat i).toNatClampNeg]?) = _
    rw [if_neg e3, ha, e2]; rfl
  exact ⟨x, e.symm.trans hx⟩
theorem pn_shardwell_container_TimerCompareToPinLaw : plainName "shardwell/container/TimerCompareToPinLaw" = true := by first | (simp [plainName, overriddenIn]; done) | decide +kernel
theorem pn_java_lang_Long : plainName "java/lang/Long" = true := by first | (simp [plainName, overriddenIn]; done) | decide +kernel
theorem pn_shardwell_container_ExpiryQueue_Timer : plainName "shardwell/container/ExpiryQueue$Timer" = true := by first | (simp [plainName, overriddenIn]; done) | decide +kernel
theorem pn_java_lang_Integer : plainName "java/lang/Integer" = true := by first | (simp [plainName, overriddenIn]; done) | decide +kernel
theorem pn_java_lang_Number : plainName "java/lang/Number" = true := by first | (simp [plainName, overriddenIn]; done) | decide +kernel
theorem pn_java_lang_Record : plainName "java/lang/Record" = true := by first | (simp [plainName, overriddenIn]; done) | decide +kernel
theorem ef_rmRecord (m : MethodId) (p0 : Addr) : entryFrame m #[(.ref p0)] 1 = mkF m 0 #[.val (.ref p0)] [] := by first | (simp [entryFrame, mkF, argsToLocals, Value.category]; done) | rfl
theorem d3_0 : decode jdk_30_method_1_code 0 = .ok (.aload_n 0, 1) := by decide +kernel
theorem d3_1 : decode jdk_30_method_1_code 1 = .ok (.invokespecial 1, 3) := by decide +kernel
theorem d3_4 : decode jdk_30_method_1_code 4 = .ok (.return_, 1) := by decide +kernel
def Q_rmRecord (Z : State) (p0 : Addr) (h0 : Heap) (n0 : Nat) (v : Option Value) (h : Heap) (L : List Loc) : Prop := v = none ∧ Fr n0 L ∧ h = h0
set_option maxRecDepth 65536 in
set_option maxHeartbeats 40000000 in
theorem rmRecord (l : Launch) (Z : State) (a0 : Array Value) (hw : ∀ d ∈ tables_1, d.before a0 Z = true) (ws : List Jvm.Cond) (p0 : Addr) (h0 : Heap) (n0 : Nat) (Z0 : n0 ≤ h0.size) :
    MetFree l (⟨"java/lang/Record", "<init>", "()V"⟩ : MethodName) (head1 (Jvm.Cond.code (⟨"java/lang/Record", "<init>", "()V"⟩ : MethodName) jdk_30_method_1_code 1 none :: ws) ({ frames := 1, cells := 0, slots := 0, locals := 12 } : Room)) (fun a U => a = #[(.ref p0)] ∧ Z.Warmed39 U.vm ∧ U.heap = h0) (fun _ _ _ _ _ => True) (fun _ U o U' => ∃ v L, o = .returned v ∧ Q_rmRecord Z p0 h0 n0 v U'.heap L ∧ FrameEnd U o U' L ({ frames := 1, cells := 0, slots := 0, locals := 12 } : Room).cells ({ frames := 1, cells := 0, slots := 0, locals := 12 } : Room).slots) := by
  refine MetFree.of_bodySF (plainFor_of_name pn_java_lang_Record) hisR ?_
  intro p e s m args below meth c s₁ Bd hml0 hP hK
  obtain ⟨rfl, hZ, hh⟩ := hP
  have hx := Bd.exec
  have hby := Bd.bytes
  have hml : c.maxLocals = 1 := hml0
  have hown : s.vm.findClass "java/lang/Record" = some m.cls := findClass_of_methodNamed Bd.named
  have hnm := (name_of_methodNamed Bd.named Bd.method).1
  have X0 : Stand p l e ({ frames := 1, cells := 0, slots := 0, locals := 12 } : Room) s m #[(.ref p0)] below meth c s₁ [] 0 0 := Stand.of_body Bd
  have e0 : s₁.heap = h0 := by rw [← hh, Bd.state]; rfl
  have N0 := Fr.nil n0
  have pre0 : ∀ t, Steps p.tables e below (s₁.setTop (mkF m 0 #[.val (.ref p0)] [])) t → Steps p.tables e below (s₁.setTop (entryFrame m #[(.ref p0)] 1)) t := fun t k => castTop (ef_rmRecord m p0 ) k
  obtain ⟨T1, X1, e1, st1⟩ := initO X0 hx hZ hown (hw _ (List.mem_of_getElem? (i := 18) rfl)) (hw _ (List.mem_of_getElem? (i := 19) rfl)) (hw _ (List.mem_of_getElem? (i := 20) rfl)) e0 (g := (mkF m 1 #[.val (.ref p0)] [(.ref p0)])) rfl (by rw [hml]; rfl) rfl (hb hby d3_1) (by decide) (W := 0) (by show 2 * 0 + _ ≤ _; exact Nat.le_of_eq rfl) (by decide)
  obtain ⟨fs, hr, hrun, hended, hW, hsame⟩ := X1.leave (v := none) (fun _ => rfl)
  refine ⟨_, _, pre0 _ ?_, hrun, hended, _, _, rfl, ?_, ⟨_, rfl⟩, hW, hsame.mono (by decide) (by decide)⟩
  · show Steps p.tables e below (s₁.setTop (mkF m 0 #[.val (.ref p0)] [])) _
    refine XS.aloadN X0.here hx rfl (hb hby d3_0) rfl rfl ?_
    show Steps p.tables e below (s₁.setTop (mkF m 1 #[.val (.ref p0)] [(.ref p0)])) _
    refine st1 _ ?_
    show Steps p.tables e below (T1.setTop (mkF m 4 #[.val (.ref p0)] [])) _
    exact X1.returnOut hx Bd.returns (hb hby d3_4) hr
  · show Q_rmRecord Z p0 h0 n0 _ T1.heap _
    rw [e1]
    exact ⟨rfl, N0, rfl⟩
theorem ef_rmNumber (m : MethodId) (p0 : Addr) : entryFrame m #[(.ref p0)] 1 = mkF m 0 #[.val (.ref p0)] [] := by first | (simp [entryFrame, mkF, argsToLocals, Value.category]; done) | rfl
theorem d9_0 : decode jdk_18_method_1_code 0 = .ok (.aload_n 0, 1) := by decide +kernel
theorem d9_1 : decode jdk_18_method_1_code 1 = .ok (.invokespecial 1, 3) := by decide +kernel
theorem d9_4 : decode jdk_18_method_1_code 4 = .ok (.return_, 1) := by decide +kernel
def Q_rmNumber (Z : State) (p0 : Addr) (h0 : Heap) (n0 : Nat) (v : Option Value) (h : Heap) (L : List Loc) : Prop := v = none ∧ Fr n0 L ∧ h = h0
set_option maxRecDepth 65536 in
set_option maxHeartbeats 40000000 in
theorem rmNumber (l : Launch) (Z : State) (a0 : Array Value) (hw : ∀ d ∈ tables_1, d.before a0 Z = true) (ws : List Jvm.Cond) (p0 : Addr) (h0 : Heap) (n0 : Nat) (Z0 : n0 ≤ h0.size) :
    MetFree l (⟨"java/lang/Number", "<init>", "()V"⟩ : MethodName) (head1 (Jvm.Cond.code (⟨"java/lang/Number", "<init>", "()V"⟩ : MethodName) jdk_18_method_1_code 1 none :: ws) ({ frames := 1, cells := 0, slots := 0, locals := 12 } : Room)) (fun a U => a = #[(.ref p0)] ∧ Z.Warmed39 U.vm ∧ U.heap = h0) (fun _ _ _ _ _ => True) (fun _ U o U' => ∃ v L, o = .returned v ∧ Q_rmNumber Z p0 h0 n0 v U'.heap L ∧ FrameEnd U o U' L ({ frames := 1, cells := 0, slots := 0, locals := 12 } : Room).cells ({ frames := 1, cells := 0, slots := 0, locals := 12 } : Room).slots) := by
  refine MetFree.of_bodySF (plainFor_of_name pn_java_lang_Number) hisR ?_
  intro p e s m args below meth c s₁ Bd hml0 hP hK
  obtain ⟨rfl, hZ, hh⟩ := hP
  have hx := Bd.exec
  have hby := Bd.bytes
  have hml : c.maxLocals = 1 := hml0
  have hown : s.vm.findClass "java/lang/Number" = some m.cls := findClass_of_methodNamed Bd.named
  have hnm := (name_of_methodNamed Bd.named Bd.method).1
  have X0 : Stand p l e ({ frames := 1, cells := 0, slots := 0, locals := 12 } : Room) s m #[(.ref p0)] below meth c s₁ [] 0 0 := Stand.of_body Bd
  have e0 : s₁.heap = h0 := by rw [← hh, Bd.state]; rfl
  have N0 := Fr.nil n0
  have pre0 : ∀ t, Steps p.tables e below (s₁.setTop (mkF m 0 #[.val (.ref p0)] [])) t → Steps p.tables e below (s₁.setTop (entryFrame m #[(.ref p0)] 1)) t := fun t k => castTop (ef_rmNumber m p0 ) k
  obtain ⟨T1, X1, e1, st1⟩ := initO X0 hx hZ hown (hw _ (List.mem_of_getElem? (i := 52) rfl)) (hw _ (List.mem_of_getElem? (i := 19) rfl)) (hw _ (List.mem_of_getElem? (i := 20) rfl)) e0 (g := (mkF m 1 #[.val (.ref p0)] [(.ref p0)])) rfl (by rw [hml]; rfl) rfl (hb hby d9_1) (by decide) (W := 0) (by show 2 * 0 + _ ≤ _; exact Nat.le_of_eq rfl) (by decide)
  obtain ⟨fs, hr, hrun, hended, hW, hsame⟩ := X1.leave (v := none) (fun _ => rfl)
  refine ⟨_, _, pre0 _ ?_, hrun, hended, _, _, rfl, ?_, ⟨_, rfl⟩, hW, hsame.mono (by decide) (by decide)⟩
  · show Steps p.tables e below (s₁.setTop (mkF m 0 #[.val (.ref p0)] [])) _
    refine XS.aloadN X0.here hx rfl (hb hby d9_0) rfl rfl ?_
    show Steps p.tables e below (s₁.setTop (mkF m 1 #[.val (.ref p0)] [(.ref p0)])) _
    refine st1 _ ?_
    show Steps p.tables e below (T1.setTop (mkF m 4 #[.val (.ref p0)] [])) _
    exact X1.returnOut hx Bd.returns (hb hby d9_4) hr
  · show Q_rmNumber Z p0 h0 n0 _ T1.heap _
    rw [e1]
    exact ⟨rfl, N0, rfl⟩
theorem ef_rmIntInit (m : MethodId) (p0 : Addr) (p1 : Int32) : entryFrame m #[(.ref p0), (.int p1)] 2 = mkF m 0 #[.val (.ref p0), .val (.int p1)] [] := by first | (simp [entryFrame, mkF, argsToLocals, Value.category]; done) | rfl
theorem d8_0 : decode jdk_33_method_23_code 0 = .ok (.aload_n 0, 1) := by decide +kernel
theorem pd___V : parseMethodDescriptor "()V" = some ⟨[], none⟩ := by decide +kernel
theorem d8_1 : decode jdk_33_method_23_code 1 = .ok (.invokespecial 202, 3) := by decide +kernel
theorem d8_4 : decode jdk_33_method_23_code 4 = .ok (.aload_n 0, 1) := by decide +kernel
theorem d8_5 : decode jdk_33_method_23_code 5 = .ok (.iload_n 1, 1) := by decide +kernel
theorem d8_6 : decode jdk_33_method_23_code 6 = .ok (.putfield 205, 3) := by decide +kernel
theorem d8_9 : decode jdk_33_method_23_code 9 = .ok (.return_, 1) := by decide +kernel
def Q_rmIntInit (Z : State) (p0 : Addr) (p1 : Int32) (h0 : Heap) (n0 : Nat) (v : Option Value) (h : Heap) (L : List Loc) : Prop := v = none ∧ Fr n0 L ∧ Keep h0 h [p0]
set_option maxRecDepth 65536 in
set_option maxHeartbeats 40000000 in
theorem rmIntInit (l : Launch) (Z : State) (a0 : Array Value) (hw : ∀ d ∈ tables_1, d.before a0 Z = true) (ws : List Jvm.Cond) (p0 : Addr) (p1 : Int32) (h0 : Heap) (n0 : Nat) (Z0 : n0 ≤ h0.size) (E0 : Exa Z h0 p0 "java/lang/Integer") (F0 : Fld Z h0 p0 "java/lang/Integer" "value" "I" (.int (0 : Int32))) (g0 : n0 ≤ p0) :
    MetFree l (⟨"java/lang/Integer", "<init>", "(I)V"⟩ : MethodName) (head1 (Jvm.Cond.code (⟨"java/lang/Integer", "<init>", "(I)V"⟩ : MethodName) jdk_33_method_23_code 2 none :: ws) ({ frames := 2, cells := 0, slots := 0, locals := 24 } : Room)) (fun a U => a = #[(.ref p0), (.int p1)] ∧ Z.Warmed39 U.vm ∧ U.heap = h0) (fun _ _ _ _ _ => True) (fun _ U o U' => ∃ v L, o = .returned v ∧ Q_rmIntInit Z p0 p1 h0 n0 v U'.heap L ∧ FrameEnd U o U' L ({ frames := 2, cells := 0, slots := 0, locals := 24 } : Room).cells ({ frames := 2, cells := 0, slots := 0, locals := 24 } : Room).slots) := by
  refine MetFree.of_bodySF (plainFor_of_name pn_java_lang_Integer) hisR ?_
  intro p e s m args below meth c s₁ Bd hml0 hP hK
  obtain ⟨rfl, hZ, hh⟩ := hP
  have hx := Bd.exec
  have hby := Bd.bytes
  have hml : c.maxLocals = 2 := hml0
  have hown : s.vm.findClass "java/lang/Integer" = some m.cls := findClass_of_methodNamed Bd.named
  have hnm := (name_of_methodNamed Bd.named Bd.method).1
  have X0 : Stand p l e ({ frames := 2, cells := 0, slots := 0, locals := 24 } : Room) s m #[(.ref p0), (.int p1)] below meth c s₁ [] 0 0 := Stand.of_body Bd
  have e0 : s₁.heap = h0 := by rw [← hh, Bd.state]; rfl
  have N0 := Fr.nil n0
  have pre0 : ∀ t, Steps p.tables e below (s₁.setTop (mkF m 0 #[.val (.ref p0), .val (.int p1)] [])) t → Steps p.tables e below (s₁.setTop (entryFrame m #[(.ref p0), (.int p1)] 2)) t := fun t k => castTop (ef_rmIntInit m p0 p1 ) k
  obtain ⟨_, _, ⟨T1, L1, k1, n1⟩, -, X1, ⟨Lc1, hQ1, l1, y1, z1⟩, st1⟩ := X0.specialBack hx (y := (⟨"java/lang/Number", "<init>", "()V"⟩ : MethodName)) rfl hown (mvT hZ (hw _ (List.mem_of_getElem? (i := 46) rfl))) (mvT hZ (hw _ (List.mem_of_getElem? (i := 47) rfl))) (mvT hZ (hw _ (List.mem_of_getElem? (i := 51) rfl))) (by decide) (backOf (W := 0) (rmNumber l Z a0 hw [] p0 h0 n0 Z0) hZ (hw _ (List.mem_of_getElem? (i := 51) rfl)) (hw _ (List.mem_of_getElem? (i := 50) rfl)) (by decide) (by decide)) (g := (mkF m 1 #[.val (.ref p0), .val (.int p1)] [(.ref p0)])) rfl (by rw [hml]; rfl) (Steps.refl _) (a := p0) (argsL := []) (rest := []) (lenOf pd___V rfl) rfl (by show 2 * 0 + _ ≤ _; exact Nat.le_of_eq rfl) (hb hby d8_1) (fun _ _ => ⟨rfl, e0, (by decide : 0 + 0 ≤ _), (by decide : 0 + 0 ≤ _)⟩)
  dsimp only [Pt.U, Pt.locs, Pt.cells, Pt.slots] at X1 l1 y1 z1 st1 hQ1
  subst l1 y1 z1
  obtain ⟨rfl, Nq1, e1⟩ := hQ1
  have N1 := Fr.app N0 Nq1
  obtain ⟨T2, h2, X2, e2, W2, st2⟩ := putF X1 hx hZ hown (host := "") (Or.inl (hw _ (List.mem_of_getElem? (i := 53) rfl))) Via.refl e1 F0 E0 (Or.inr ⟨(hw _ (List.mem_of_getElem? (i := 54) rfl)), rfl, hnm⟩) (hw _ (List.mem_of_getElem? (i := 41) rfl)) (ty := .int) (by decide) rfl rfl (g := (mkF m 6 #[.val (.ref p0), .val (.int p1)] [(.int p1), (.ref p0)])) rfl rfl (hb hby d8_6)
  have Fw2 := F0.same W2
  have N2 := Fr.snoc X2 N1 g0
  have K2 := (Keep.refl h0 [p0]).wr W2 (Or.inl (List.mem_of_getElem? (i := 0) rfl))
  obtain ⟨fs, hr, hrun, hended, hW, hsame⟩ := X2.leave (v := none) (fun _ => rfl)
  refine ⟨_, _, pre0 _ ?_, hrun, hended, _, _, rfl, ?_, ⟨_, rfl⟩, hW, hsame.mono (by decide) (by decide)⟩
  · show Steps p.tables e below (s₁.setTop (mkF m 0 #[.val (.ref p0), .val (.int p1)] [])) _
    refine XS.aloadN X0.here hx rfl (hb hby d8_0) rfl rfl ?_
    show Steps p.tables e below (s₁.setTop (mkF m 1 #[.val (.ref p0), .val (.int p1)] [(.ref p0)])) _
    refine st1.trans ?_
    show Steps p.tables e below (T1.setTop (mkF m 4 #[.val (.ref p0), .val (.int p1)] [])) _
    refine XS.aloadN X1.here hx rfl (hb hby d8_4) rfl rfl ?_
    show Steps p.tables e below (T1.setTop (mkF m 5 #[.val (.ref p0), .val (.int p1)] [(.ref p0)])) _
    refine XS.iloadN X1.here hx rfl (hb hby d8_5) rfl  ?_
    show Steps p.tables e below (T1.setTop (mkF m 6 #[.val (.ref p0), .val (.int p1)] [(.int p1), (.ref p0)])) _
    refine st2 _ ?_
    show Steps p.tables e below (T2.setTop (mkF m 9 #[.val (.ref p0), .val (.int p1)] [])) _
    exact X2.returnOut hx Bd.returns (hb hby d8_9) hr
  · show Q_rmIntInit Z p0 p1 h0 n0 _ T2.heap _
    rw [e2]
    exact ⟨rfl, N2, K2⟩
theorem ef_rmValueOf (m : MethodId) (p0 : Int32) : entryFrame m #[(.int p0)] 1 = mkF m 0 #[.val (.int p0)] [] := by first | (simp [entryFrame, mkF, argsToLocals, Value.category]; done) | rfl
theorem d1_0 : decode jdk_33_method_22_code 0 = .ok (.iload_n 0, 1) := by decide +kernel
theorem d1_1 : decode jdk_33_method_22_code 1 = .ok (.bipush (-128), 2) := by decide +kernel
theorem d1_3 : decode jdk_33_method_22_code 3 = .ok (.if_icmp .lt 20, 3) := by decide +kernel
theorem d1_23 : decode jdk_33_method_22_code 23 = .ok (.new 1, 3) := by decide +kernel
theorem d1_26 : decode jdk_33_method_22_code 26 = .ok (.dup, 1) := by decide +kernel
theorem d1_27 : decode jdk_33_method_22_code 27 = .ok (.iload_n 0, 1) := by decide +kernel
theorem pd__I_V : parseMethodDescriptor "(I)V" = some ⟨[.int], none⟩ := by decide +kernel
theorem d1_28 : decode jdk_33_method_22_code 28 = .ok (.invokespecial 199, 3) := by decide +kernel
theorem d1_31 : decode jdk_33_method_22_code 31 = .ok (.areturn, 1) := by decide +kernel
theorem d1_6 : decode jdk_33_method_22_code 6 = .ok (.iload_n 0, 1) := by decide +kernel
theorem d1_7 : decode jdk_33_method_22_code 7 = .ok (.getstatic 191, 3) := by decide +kernel
theorem d1_10 : decode jdk_33_method_22_code 10 = .ok (.if_icmp .gt 13, 3) := by decide +kernel
theorem d1_13 : decode jdk_33_method_22_code 13 = .ok (.getstatic 195, 3) := by decide +kernel
theorem d1_16 : decode jdk_33_method_22_code 16 = .ok (.iload_n 0, 1) := by decide +kernel
theorem d1_17 : decode jdk_33_method_22_code 17 = .ok (.sipush 128, 3) := by decide +kernel
theorem d1_20 : decode jdk_33_method_22_code 20 = .ok (.iadd, 1) := by decide +kernel
theorem d1_21 : decode jdk_33_method_22_code 21 = .ok (.aaload, 1) := by decide +kernel
theorem d1_22 : decode jdk_33_method_22_code 22 = .ok (.areturn, 1) := by decide +kernel
def Q_rmValueOf (Z : State) (p0 : Int32) (wC : Addr) (cl : Cell) (h0 : Heap) (n0 : Nat) (v : Option Value) (h : Heap) (L : List Loc) : Prop := (∃ a : Addr, v = some (.ref a)) ∧ Fr n0 L ∧ Keep h0 h []
set_option maxRecDepth 65536 in
set_option maxHeartbeats 40000000 in
theorem rmValueOf (l : Launch) (Z : State) (a0 : Array Value) (hw : ∀ d ∈ tables_1, d.before a0 Z = true) (ws : List Jvm.Cond) (p0 : Int32) (wC : Addr) (cl : Cell) (h0 : Heap) (n0 : Nat) (Z0 : n0 ≤ h0.size) (Ol : Old Z n0 h0) (S_high : Sta Z Z.heap "java/lang/Integer$IntegerCache" "high" "I" (.int (127 : Int32))) (S_cache : Sta Z Z.heap "java/lang/Integer$IntegerCache" "cache" "[Ljava/lang/Integer;" (.ref wC)) (Ar : Arr Z Z.heap wC cl (.object "java/lang/Integer")) (hsz : cl.slots.size = 256) (hel : ∀ j : Int32, ¬ (j < 0 ∨ cl.slots.size ≤ j.toNatClampNeg) → ∃ x, cl.slots[j.toNatClampNeg]? = some (.ref x)) :
    MetFree l (⟨"java/lang/Integer", "valueOf", "(I)Ljava/lang/Integer;"⟩ : MethodName) (head1 (Jvm.Cond.code (⟨"java/lang/Integer", "valueOf", "(I)Ljava/lang/Integer;"⟩ : MethodName) jdk_33_method_22_code 1 (some (.object "java/lang/Integer")) :: ws) ({ frames := 3, cells := 1, slots := 1, locals := 38 } : Room)) (fun a U => a = #[(.int p0)] ∧ Z.Warmed39 U.vm ∧ U.heap = h0) (fun _ _ _ _ _ => True) (fun _ U o U' => ∃ v L, o = .returned v ∧ Q_rmValueOf Z p0 wC cl h0 n0 v U'.heap L ∧ FrameEnd U o U' L ({ frames := 3, cells := 1, slots := 1, locals := 38 } : Room).cells ({ frames := 3, cells := 1, slots := 1, locals := 38 } : Room).slots) := by
  refine MetFree.of_bodySF (plainFor_of_name pn_java_lang_Integer) hisR ?_
  intro p e s m args below meth c s₁ Bd hml0 hP hK
  obtain ⟨rfl, hZ, hh⟩ := hP
  have hx := Bd.exec
  have hby := Bd.bytes
  have hml : c.maxLocals = 1 := hml0
  have hown : s.vm.findClass "java/lang/Integer" = some m.cls := findClass_of_methodNamed Bd.named
  have hnm := (name_of_methodNamed Bd.named Bd.method).1
  have X0 : Stand p l e ({ frames := 3, cells := 1, slots := 1, locals := 38 } : Room) s m #[(.int p0)] below meth c s₁ [] 0 0 := Stand.of_body Bd
  have e0 : s₁.heap = h0 := by rw [← hh, Bd.state]; rfl
  have N0 := Fr.nil n0
  have pre0 : ∀ t, Steps p.tables e below (s₁.setTop (mkF m 0 #[.val (.int p0)] [])) t → Steps p.tables e below (s₁.setTop (entryFrame m #[(.int p0)] 1)) t := fun t k => castTop (ef_rmValueOf m p0 ) k
  have pre2 : ∀ t, Steps p.tables e below (s₁.setTop (mkF m 3 #[.val (.int p0)] [(.int (-128 : Int32)), (.int p0)])) t → Steps p.tables e below (s₁.setTop (entryFrame m #[(.int p0)] 1)) t := fun t kt => pre0 t (by
    show Steps p.tables e below (s₁.setTop (mkF m 0 #[.val (.int p0)] [])) _
    refine XS.iloadN X0.here hx rfl (hb hby d1_0) rfl  ?_
    show Steps p.tables e below (s₁.setTop (mkF m 1 #[.val (.int p0)] [(.int p0)])) _
    refine XS.bipush X0.here hx rfl (hb hby d1_1) ?_
    exact kt)
  by_cases hc3_1 : p0 < (-128 : Int32)
  · obtain ⟨T3, h3, X3, e3, E3, A3, D3, -, st3⟩ := newO X0 hx hZ hown (hw _ (List.mem_of_getElem? (i := 40) rfl)) (hw _ (List.mem_of_getElem? (i := 41) rfl)) (hw _ (List.mem_of_getElem? (i := 2) rfl)) e0 (g := (mkF m 23 #[.val (.int p0)] [])) rfl (hb hby d1_23) (by decide) (by decide)
    obtain ⟨b3, g3⟩ : ∃ z, z = h0.size := ⟨_, rfl⟩
    rw [← g3] at A3 D3 st3
    have ge3 : n0 ≤ b3 := Nat.le_trans Z0 (Nat.le_of_eq g3.symm)
    have sz3 : h0.size ≤ b3 := Nat.le_trans (Keep.refl h0 []).1 (Nat.le_of_eq g3.symm)
    have K3 := (Keep.refl h0 []).ext E3
    have F3_value : Fld Z h3 b3 "java/lang/Integer" "value" "I" (.int (0 : Int32)) := D3 (Or.inr (hw _ (List.mem_of_getElem? (i := 54) rfl))) (ty := .int) (by decide)
    have f4 := (Nat.le_trans Z0 E3.1)
    obtain ⟨_, _, ⟨T5, L5, k5, n5⟩, -, X5, ⟨Lc5, hQ5, l5, y5, z5⟩, st5⟩ := X3.specialBack hx (y := (⟨"java/lang/Integer", "<init>", "(I)V"⟩ : MethodName)) rfl hown (mvT hZ (hw _ (List.mem_of_getElem? (i := 42) rfl))) (mvT hZ (hw _ (List.mem_of_getElem? (i := 43) rfl))) (mvT hZ (hw _ (List.mem_of_getElem? (i := 45) rfl))) (by decide) (backOf (W := 1) (rmIntInit l Z a0 hw [] b3 p0 h3 n0 f4 A3 F3_value ge3) hZ (hw _ (List.mem_of_getElem? (i := 45) rfl)) (hw _ (List.mem_of_getElem? (i := 2) rfl)) (by decide) (by decide)) (g := (mkF m 28 #[.val (.int p0)] [(.int p0), (.ref b3), (.ref b3)])) rfl (by rw [hml]; rfl) (Steps.refl _) (a := b3) (argsL := [(.int p0)]) (rest := [(.ref b3)]) (lenOf pd__I_V rfl) rfl (by show 2 * 0 + _ ≤ _; exact Nat.le_of_eq rfl) (hb hby d1_28) (fun _ _ => ⟨rfl, e3, (by decide : 1 + 0 ≤ _), (by decide : 1 + 0 ≤ _)⟩)
    dsimp only [Pt.U, Pt.locs, Pt.cells, Pt.slots] at X5 l5 y5 z5 st5 hQ5
    subst l5 y5 z5
    obtain ⟨rfl, Nq5, K5⟩ := hQ5
    have N5 := Fr.app N0 Nq5
    have KK5 := K3.trans K5 (allS (Or.inr sz3) all0)
    obtain ⟨fs, hr, hrun, hended, hW, hsame⟩ := X5.leave (v := some (.ref b3)) (fun h => by rw [Bd.returns] at h; cases h)
    refine ⟨_, _, pre2 _ ?_, hrun, hended, _, _, rfl, ?_, ⟨_, rfl⟩, hW, hsame.mono (by decide) (by decide)⟩
    · show Steps p.tables e below (s₁.setTop (mkF m 3 #[.val (.int p0)] [(.int (-128 : Int32)), (.int p0)])) _
      refine XS.icmpYes X0.here hx rfl (pc0 := 3) (pc' := 23) rfl (hb hby d1_3) rfl (tlt hc3_1).1 (by decide) (by decide) ?_
      show Steps p.tables e below (s₁.setTop (mkF m 23 #[.val (.int p0)] [])) _
      refine st3 _ ?_
      show Steps p.tables e below (T3.setTop (mkF m 26 #[.val (.int p0)] [(.ref b3)])) _
      refine XS.dup X3.here hx rfl (hb hby d1_26) rfl rfl ?_
      show Steps p.tables e below (T3.setTop (mkF m 27 #[.val (.int p0)] [(.ref b3), (.ref b3)])) _
      refine XS.iloadN X3.here hx rfl (hb hby d1_27) rfl  ?_
      show Steps p.tables e below (T3.setTop (mkF m 28 #[.val (.int p0)] [(.int p0), (.ref b3), (.ref b3)])) _
      refine st5.trans ?_
      show Steps p.tables e below (T5.setTop (mkF m 31 #[.val (.int p0)] [(.ref b3)])) _
      jvm_step X5.here [X5.here.top, hx, (hb hby d1_31), X5.method', Bd.returns, Value.isRef, FieldType.isReference]
      first | (intro acts; rw [hr _ acts rfl rfl rfl]) | rw [hr _ _ rfl rfl rfl]
      exact Steps.refl _
    · show Q_rmValueOf Z p0 wC cl h0 n0 _ T5.heap _
      exact ⟨⟨_, rfl⟩, N5, KK5⟩
  · obtain ⟨T6, X6, e6, st6⟩ := getS2 X0 hx hZ hown (host := "") (Or.inl (hw _ (List.mem_of_getElem? (i := 4) rfl))) Via.refl e0 (S_high.ext Ol.2) (g := (mkF m 7 #[.val (.int p0)] [(.int p0)])) rfl (hb hby d1_7)
    have pre8 : ∀ t, Steps p.tables e below (T6.setTop (mkF m 10 #[.val (.int p0)] [(.int (127 : Int32)), (.int p0)])) t → Steps p.tables e below (s₁.setTop (entryFrame m #[(.int p0)] 1)) t := fun t kt => pre2 t (by
      show Steps p.tables e below (s₁.setTop (mkF m 3 #[.val (.int p0)] [(.int (-128 : Int32)), (.int p0)])) _
      refine XS.icmpNo X0.here hx rfl (hb hby d1_3) rfl (flt hc3_1).1 ?_
      show Steps p.tables e below (s₁.setTop (mkF m 6 #[.val (.int p0)] [])) _
      refine XS.iloadN X0.here hx rfl (hb hby d1_6) rfl  ?_
      show Steps p.tables e below (s₁.setTop (mkF m 7 #[.val (.int p0)] [(.int p0)])) _
      refine st6 _ ?_
      exact kt)
    by_cases hc10_7 : (127 : Int32) < p0
    · obtain ⟨T9, h9, X9, e9, E9, A9, D9, -, st9⟩ := newO X6 hx hZ hown (hw _ (List.mem_of_getElem? (i := 40) rfl)) (hw _ (List.mem_of_getElem? (i := 41) rfl)) (hw _ (List.mem_of_getElem? (i := 2) rfl)) e6 (g := (mkF m 23 #[.val (.int p0)] [])) rfl (hb hby d1_23) (by decide) (by decide)
      obtain ⟨b9, g9⟩ : ∃ z, z = h0.size := ⟨_, rfl⟩
      rw [← g9] at A9 D9 st9
      have ge9 : n0 ≤ b9 := Nat.le_trans Z0 (Nat.le_of_eq g9.symm)
      have sz9 : h0.size ≤ b9 := Nat.le_trans (Keep.refl h0 []).1 (Nat.le_of_eq g9.symm)
      have K9 := (Keep.refl h0 []).ext E9
      have F9_value : Fld Z h9 b9 "java/lang/Integer" "value" "I" (.int (0 : Int32)) := D9 (Or.inr (hw _ (List.mem_of_getElem? (i := 54) rfl))) (ty := .int) (by decide)
      have f10 := (Nat.le_trans Z0 E9.1)
      obtain ⟨_, _, ⟨T11, L11, k11, n11⟩, -, X11, ⟨Lc11, hQ11, l11, y11, z11⟩, st11⟩ := X9.specialBack hx (y := (⟨"java/lang/Integer", "<init>", "(I)V"⟩ : MethodName)) rfl hown (mvT hZ (hw _ (List.mem_of_getElem? (i := 42) rfl))) (mvT hZ (hw _ (List.mem_of_getElem? (i := 43) rfl))) (mvT hZ (hw _ (List.mem_of_getElem? (i := 45) rfl))) (by decide) (backOf (W := 1) (rmIntInit l Z a0 hw [] b9 p0 h9 n0 f10 A9 F9_value ge9) hZ (hw _ (List.mem_of_getElem? (i := 45) rfl)) (hw _ (List.mem_of_getElem? (i := 2) rfl)) (by decide) (by decide)) (g := (mkF m 28 #[.val (.int p0)] [(.int p0), (.ref b9), (.ref b9)])) rfl (by rw [hml]; rfl) (Steps.refl _) (a := b9) (argsL := [(.int p0)]) (rest := [(.ref b9)]) (lenOf pd__I_V rfl) rfl (by show 2 * 0 + _ ≤ _; exact Nat.le_of_eq rfl) (hb hby d1_28) (fun _ _ => ⟨rfl, e9, (by decide : 1 + 0 ≤ _), (by decide : 1 + 0 ≤ _)⟩)
      dsimp only [Pt.U, Pt.locs, Pt.cells, Pt.slots] at X11 l11 y11 z11 st11 hQ11
      subst l11 y11 z11
      obtain ⟨rfl, Nq11, K11⟩ := hQ11
      have N11 := Fr.app N0 Nq11
      have KK11 := K9.trans K11 (allS (Or.inr sz9) all0)
      obtain ⟨fs, hr, hrun, hended, hW, hsame⟩ := X11.leave (v := some (.ref b9)) (fun h => by rw [Bd.returns] at h; cases h)
      refine ⟨_, _, pre8 _ ?_, hrun, hended, _, _, rfl, ?_, ⟨_, rfl⟩, hW, hsame.mono (by decide) (by decide)⟩
      · show Steps p.tables e below (T6.setTop (mkF m 10 #[.val (.int p0)] [(.int (127 : Int32)), (.int p0)])) _
        refine XS.icmpYes X6.here hx rfl (pc0 := 10) (pc' := 23) rfl (hb hby d1_10) rfl (tlt hc10_7).2.2.1 (by decide) (by decide) ?_
        show Steps p.tables e below (T6.setTop (mkF m 23 #[.val (.int p0)] [])) _
        refine st9 _ ?_
        show Steps p.tables e below (T9.setTop (mkF m 26 #[.val (.int p0)] [(.ref b9)])) _
        refine XS.dup X9.here hx rfl (hb hby d1_26) rfl rfl ?_
        show Steps p.tables e below (T9.setTop (mkF m 27 #[.val (.int p0)] [(.ref b9), (.ref b9)])) _
        refine XS.iloadN X9.here hx rfl (hb hby d1_27) rfl  ?_
        show Steps p.tables e below (T9.setTop (mkF m 28 #[.val (.int p0)] [(.int p0), (.ref b9), (.ref b9)])) _
        refine st11.trans ?_
        show Steps p.tables e below (T11.setTop (mkF m 31 #[.val (.int p0)] [(.ref b9)])) _
        jvm_step X11.here [X11.here.top, hx, (hb hby d1_31), X11.method', Bd.returns, Value.isRef, FieldType.isReference]
        first | (intro acts; rw [hr _ acts rfl rfl rfl]) | rw [hr _ _ rfl rfl rfl]
        exact Steps.refl _
      · show Q_rmValueOf Z p0 wC cl h0 n0 _ T11.heap _
        exact ⟨⟨_, rfl⟩, N11, KK11⟩
    · obtain ⟨T12, X12, e12, st12⟩ := getS2 X6 hx hZ hown (host := "") (Or.inl (hw _ (List.mem_of_getElem? (i := 6) rfl))) Via.refl e6 (S_cache.ext Ol.2) (g := (mkF m 13 #[.val (.int p0)] [])) rfl (hb hby d1_13)
      have hin := own_idx hc3_1 hc10_7 hsz
      obtain ⟨xe, hat⟩ := hel _ hin
      have Ar' := Ar.ext Ol.2
      obtain ⟨fs, hr, hrun, hended, hW, hsame⟩ := X12.leave (v := some (.ref xe)) (fun h => by rw [Bd.returns] at h; cases h)
      refine ⟨_, _, pre8 _ ?_, hrun, hended, _, _, rfl, ?_, ⟨_, rfl⟩, hW, hsame.mono (by decide) (by decide)⟩
      · show Steps p.tables e below (T6.setTop (mkF m 10 #[.val (.int p0)] [(.int (127 : Int32)), (.int p0)])) _
        refine XS.icmpNo X6.here hx rfl (hb hby d1_10) rfl (flt hc10_7).2.2.1 ?_
        show Steps p.tables e below (T6.setTop (mkF m 13 #[.val (.int p0)] [])) _
        refine st12 _ ?_
        show Steps p.tables e below (T12.setTop (mkF m 16 #[.val (.int p0)] [(.ref wC)])) _
        refine XS.iloadN X12.here hx rfl (hb hby d1_16) rfl  ?_
        show Steps p.tables e below (T12.setTop (mkF m 17 #[.val (.int p0)] [(.int p0), (.ref wC)])) _
        refine XS.sipush X12.here hx rfl (hb hby d1_17) ?_
        show Steps p.tables e below (T12.setTop (mkF m 20 #[.val (.int p0)] [(.int (128 : Int32)), (.int p0), (.ref wC)])) _
        refine XS.iadd X12.here hx rfl (hb hby d1_20) rfl ?_
        show Steps p.tables e below (T12.setTop (mkF m 21 #[.val (.int p0)] [(.int (p0 + (128 : Int32))), (.ref wC)])) _
        refine X12.aaload hx (j := (p0 + (128 : Int32))) (v := .ref xe) (by rw [e12]; exact Ar'.1) (State.isArrayOf_alike hZ.alike Ar'.2.1) rfl Ar'.2.2 hin hat (g := (mkF m 21 #[.val (.int p0)] [(.int (p0 + (128 : Int32))), (.ref wC)])) rfl rfl (hb hby d1_21) _ ?_
        show Steps p.tables e below (T12.setTop (mkF m 22 #[.val (.int p0)] [(.ref xe)])) _
        jvm_step X12.here [X12.here.top, hx, (hb hby d1_22), X12.method', Bd.returns, Value.isRef, FieldType.isReference]
        first | (intro acts; rw [hr _ acts rfl rfl rfl]) | rw [hr _ _ rfl rfl rfl]
        exact Steps.refl _
      · show Q_rmValueOf Z p0 wC cl h0 n0 _ T12.heap _
        rw [e12]
        exact ⟨⟨_, rfl⟩, N0, (Keep.refl h0 [])⟩
theorem ef_rmTimer (m : MethodId) (p0 : Addr) (p1 : Int64) (p2 : Int64) (p3 : Addr) : entryFrame m #[(.ref p0), (.long p1), (.long p2), (.ref p3)] 6 = mkF m 0 #[.val (.ref p0), .val (.long p1), .second, .val (.long p2), .second, .val (.ref p3)] [] := by first | (simp [entryFrame, mkF, argsToLocals, Value.category]; done) | rfl
theorem d2_0 : decode prog_73_method_1_code 0 = .ok (.aload_n 0, 1) := by decide +kernel
theorem d2_1 : decode prog_73_method_1_code 1 = .ok (.invokespecial 1, 3) := by decide +kernel
theorem d2_4 : decode prog_73_method_1_code 4 = .ok (.aload_n 0, 1) := by decide +kernel
theorem d2_5 : decode prog_73_method_1_code 5 = .ok (.lload_n 1, 1) := by decide +kernel
theorem d2_6 : decode prog_73_method_1_code 6 = .ok (.putfield 7, 3) := by decide +kernel
theorem d2_9 : decode prog_73_method_1_code 9 = .ok (.aload_n 0, 1) := by decide +kernel
theorem d2_10 : decode prog_73_method_1_code 10 = .ok (.lload_n 3, 1) := by decide +kernel
theorem d2_11 : decode prog_73_method_1_code 11 = .ok (.putfield 13, 3) := by decide +kernel
theorem d2_14 : decode prog_73_method_1_code 14 = .ok (.aload_n 0, 1) := by decide +kernel
theorem d2_15 : decode prog_73_method_1_code 15 = .ok (.aload 5, 2) := by decide +kernel
theorem d2_17 : decode prog_73_method_1_code 17 = .ok (.putfield 16, 3) := by decide +kernel
theorem d2_20 : decode prog_73_method_1_code 20 = .ok (.return_, 1) := by decide +kernel
def Q_rmTimer (Z : State) (p0 : Addr) (p1 : Int64) (p2 : Int64) (p3 : Addr) (h0 : Heap) (n0 : Nat) (v : Option Value) (h : Heap) (L : List Loc) : Prop := v = none ∧ Fr n0 L ∧ Keep h0 h [p0] ∧ Fld Z h p0 "shardwell/container/ExpiryQueue$Timer" "at" "J" (.long p1) ∧ Fld Z h p0 "shardwell/container/ExpiryQueue$Timer" "order" "J" (.long p2)
set_option maxRecDepth 65536 in
set_option maxHeartbeats 40000000 in
theorem rmTimer (l : Launch) (Z : State) (a0 : Array Value) (hw : ∀ d ∈ tables_1, d.before a0 Z = true) (ws : List Jvm.Cond) (p0 : Addr) (p1 : Int64) (p2 : Int64) (p3 : Addr) (h0 : Heap) (n0 : Nat) (Z0 : n0 ≤ h0.size) (E0 : Exa Z h0 p0 "shardwell/container/ExpiryQueue$Timer") (Fa : Fld Z h0 p0 "shardwell/container/ExpiryQueue$Timer" "at" "J" (.long (0 : Int64))) (Fo : Fld Z h0 p0 "shardwell/container/ExpiryQueue$Timer" "order" "J" (.long (0 : Int64))) (Fk : Fld Z h0 p0 "shardwell/container/ExpiryQueue$Timer" "key" "Ljava/lang/Object;" .null) (g0 : n0 ≤ p0) :
    MetFree l (⟨"shardwell/container/ExpiryQueue$Timer", "<init>", "(JJLjava/lang/Object;)V"⟩ : MethodName) (head1 (Jvm.Cond.code (⟨"shardwell/container/ExpiryQueue$Timer", "<init>", "(JJLjava/lang/Object;)V"⟩ : MethodName) prog_73_method_1_code 6 none :: ws) ({ frames := 2, cells := 0, slots := 0, locals := 24 } : Room)) (fun a U => a = #[(.ref p0), (.long p1), (.long p2), (.ref p3)] ∧ Z.Warmed39 U.vm ∧ U.heap = h0) (fun _ _ _ _ _ => True) (fun _ U o U' => ∃ v L, o = .returned v ∧ Q_rmTimer Z p0 p1 p2 p3 h0 n0 v U'.heap L ∧ FrameEnd U o U' L ({ frames := 2, cells := 0, slots := 0, locals := 24 } : Room).cells ({ frames := 2, cells := 0, slots := 0, locals := 24 } : Room).slots) := by
  refine MetFree.of_bodySF (plainFor_of_name pn_shardwell_container_ExpiryQueue_Timer) hisR ?_
  intro p e s m args below meth c s₁ Bd hml0 hP hK
  obtain ⟨rfl, hZ, hh⟩ := hP
  have hx := Bd.exec
  have hby := Bd.bytes
  have hml : c.maxLocals = 6 := hml0
  have hown : s.vm.findClass "shardwell/container/ExpiryQueue$Timer" = some m.cls := findClass_of_methodNamed Bd.named
  have hnm := (name_of_methodNamed Bd.named Bd.method).1
  have X0 : Stand p l e ({ frames := 2, cells := 0, slots := 0, locals := 24 } : Room) s m #[(.ref p0), (.long p1), (.long p2), (.ref p3)] below meth c s₁ [] 0 0 := Stand.of_body Bd
  have e0 : s₁.heap = h0 := by rw [← hh, Bd.state]; rfl
  have N0 := Fr.nil n0
  have pre0 : ∀ t, Steps p.tables e below (s₁.setTop (mkF m 0 #[.val (.ref p0), .val (.long p1), .second, .val (.long p2), .second, .val (.ref p3)] [])) t → Steps p.tables e below (s₁.setTop (entryFrame m #[(.ref p0), (.long p1), (.long p2), (.ref p3)] 6)) t := fun t k => castTop (ef_rmTimer m p0 p1 p2 p3 ) k
  obtain ⟨_, _, ⟨T1, L1, k1, n1⟩, -, X1, ⟨Lc1, hQ1, l1, y1, z1⟩, st1⟩ := X0.specialBack hx (y := (⟨"java/lang/Record", "<init>", "()V"⟩ : MethodName)) rfl hown (mvT hZ (hw _ (List.mem_of_getElem? (i := 13) rfl))) (mvT hZ (hw _ (List.mem_of_getElem? (i := 14) rfl))) (mvT hZ (hw _ (List.mem_of_getElem? (i := 17) rfl))) (by decide) (backOf (W := 0) (rmRecord l Z a0 hw [] p0 h0 n0 Z0) hZ (hw _ (List.mem_of_getElem? (i := 17) rfl)) (hw _ (List.mem_of_getElem? (i := 16) rfl)) (by decide) (by decide)) (g := (mkF m 1 #[.val (.ref p0), .val (.long p1), .second, .val (.long p2), .second, .val (.ref p3)] [(.ref p0)])) rfl (by rw [hml]; rfl) (Steps.refl _) (a := p0) (argsL := []) (rest := []) (lenOf pd___V rfl) rfl (by show 2 * 0 + _ ≤ _; exact Nat.le_of_eq rfl) (hb hby d2_1) (fun _ _ => ⟨rfl, e0, (by decide : 0 + 0 ≤ _), (by decide : 0 + 0 ≤ _)⟩)
  dsimp only [Pt.U, Pt.locs, Pt.cells, Pt.slots] at X1 l1 y1 z1 st1 hQ1
  subst l1 y1 z1
  obtain ⟨rfl, Nq1, e1⟩ := hQ1
  have N1 := Fr.app N0 Nq1
  obtain ⟨T2, h2, X2, e2, W2, st2⟩ := putF X1 hx hZ hown (host := "") (Or.inl (hw _ (List.mem_of_getElem? (i := 21) rfl))) Via.refl e1 Fa E0 (Or.inr ⟨(hw _ (List.mem_of_getElem? (i := 22) rfl)), rfl, hnm⟩) (hw _ (List.mem_of_getElem? (i := 8) rfl)) (ty := .long) (by decide) rfl rfl (g := (mkF m 6 #[.val (.ref p0), .val (.long p1), .second, .val (.long p2), .second, .val (.ref p3)] [(.long p1), (.ref p0)])) rfl rfl (hb hby d2_6)
  have Fw2 := Fa.same W2
  have N2 := Fr.snoc X2 N1 g0
  have K2 := (Keep.refl h0 [p0]).wr W2 (Or.inl (List.mem_of_getElem? (i := 0) rfl))
  have f3 := (E0.wr W2)
  have f4 := (Fo.other W2 (Or.inr (slot_ne (Or.inr (hw _ (List.mem_of_getElem? (i := 24) rfl))) (Or.inr (hw _ (List.mem_of_getElem? (i := 22) rfl))) (by decide) (t := .long) (t' := .long) (by decide) (by decide))))
  obtain ⟨T5, h5, X5, e5, W5, st5⟩ := putF X2 hx hZ hown (host := "") (Or.inl (hw _ (List.mem_of_getElem? (i := 23) rfl))) Via.refl e2 f4 f3 (Or.inr ⟨(hw _ (List.mem_of_getElem? (i := 24) rfl)), rfl, hnm⟩) (hw _ (List.mem_of_getElem? (i := 8) rfl)) (ty := .long) (by decide) rfl rfl (g := (mkF m 11 #[.val (.ref p0), .val (.long p1), .second, .val (.long p2), .second, .val (.ref p3)] [(.long p2), (.ref p0)])) rfl rfl (hb hby d2_11)
  have Fw5 := f4.same W5
  have N5 := Fr.snoc X5 N2 g0
  have K5 := K2.wr W5 (Or.inl (List.mem_of_getElem? (i := 0) rfl))
  have f6 := (f3.wr W5)
  have f7 := ((Fk.other W2 (Or.inr (slot_ne (Or.inr (hw _ (List.mem_of_getElem? (i := 26) rfl))) (Or.inr (hw _ (List.mem_of_getElem? (i := 22) rfl))) (by decide) (t := (.object "java/lang/Object")) (t' := .long) (by decide) (by decide)))).other W5 (Or.inr (slot_ne (Or.inr (hw _ (List.mem_of_getElem? (i := 26) rfl))) (Or.inr (hw _ (List.mem_of_getElem? (i := 24) rfl))) (by decide) (t := (.object "java/lang/Object")) (t' := .long) (by decide) (by decide))))
  obtain ⟨T8, h8, X8, e8, W8, st8⟩ := putF X5 hx hZ hown (host := "") (Or.inl (hw _ (List.mem_of_getElem? (i := 25) rfl))) Via.refl e5 f7 f6 (Or.inr ⟨(hw _ (List.mem_of_getElem? (i := 26) rfl)), rfl, hnm⟩) (hw _ (List.mem_of_getElem? (i := 8) rfl)) (ty := (.object "java/lang/Object")) (by decide) rfl rfl (g := (mkF m 17 #[.val (.ref p0), .val (.long p1), .second, .val (.long p2), .second, .val (.ref p3)] [(.ref p3), (.ref p0)])) rfl rfl (hb hby d2_17)
  have Fw8 := f7.same W8
  have N8 := Fr.snoc X8 N5 g0
  have K8 := K5.wr W8 (Or.inl (List.mem_of_getElem? (i := 0) rfl))
  have f9 := ((Fw2.other W5 (Or.inr (slot_ne (Or.inr (hw _ (List.mem_of_getElem? (i := 22) rfl))) (Or.inr (hw _ (List.mem_of_getElem? (i := 24) rfl))) (by decide) (t := .long) (t' := .long) (by decide) (by decide)))).other W8 (Or.inr (slot_ne (Or.inr (hw _ (List.mem_of_getElem? (i := 22) rfl))) (Or.inr (hw _ (List.mem_of_getElem? (i := 26) rfl))) (by decide) (t := .long) (t' := (.object "java/lang/Object")) (by decide) (by decide))))
  have f10 := (Fw5.other W8 (Or.inr (slot_ne (Or.inr (hw _ (List.mem_of_getElem? (i := 24) rfl))) (Or.inr (hw _ (List.mem_of_getElem? (i := 26) rfl))) (by decide) (t := .long) (t' := (.object "java/lang/Object")) (by decide) (by decide))))
  obtain ⟨fs, hr, hrun, hended, hW, hsame⟩ := X8.leave (v := none) (fun _ => rfl)
  refine ⟨_, _, pre0 _ ?_, hrun, hended, _, _, rfl, ?_, ⟨_, rfl⟩, hW, hsame.mono (by decide) (by decide)⟩
  · show Steps p.tables e below (s₁.setTop (mkF m 0 #[.val (.ref p0), .val (.long p1), .second, .val (.long p2), .second, .val (.ref p3)] [])) _
    refine XS.aloadN X0.here hx rfl (hb hby d2_0) rfl rfl ?_
    show Steps p.tables e below (s₁.setTop (mkF m 1 #[.val (.ref p0), .val (.long p1), .second, .val (.long p2), .second, .val (.ref p3)] [(.ref p0)])) _
    refine st1.trans ?_
    show Steps p.tables e below (T1.setTop (mkF m 4 #[.val (.ref p0), .val (.long p1), .second, .val (.long p2), .second, .val (.ref p3)] [])) _
    refine XS.aloadN X1.here hx rfl (hb hby d2_4) rfl rfl ?_
    show Steps p.tables e below (T1.setTop (mkF m 5 #[.val (.ref p0), .val (.long p1), .second, .val (.long p2), .second, .val (.ref p3)] [(.ref p0)])) _
    refine XS.lloadN X1.here hx rfl (hb hby d2_5) rfl  ?_
    show Steps p.tables e below (T1.setTop (mkF m 6 #[.val (.ref p0), .val (.long p1), .second, .val (.long p2), .second, .val (.ref p3)] [(.long p1), (.ref p0)])) _
    refine st2 _ ?_
    show Steps p.tables e below (T2.setTop (mkF m 9 #[.val (.ref p0), .val (.long p1), .second, .val (.long p2), .second, .val (.ref p3)] [])) _
    refine XS.aloadN X2.here hx rfl (hb hby d2_9) rfl rfl ?_
    show Steps p.tables e below (T2.setTop (mkF m 10 #[.val (.ref p0), .val (.long p1), .second, .val (.long p2), .second, .val (.ref p3)] [(.ref p0)])) _
    refine XS.lloadN X2.here hx rfl (hb hby d2_10) rfl  ?_
    show Steps p.tables e below (T2.setTop (mkF m 11 #[.val (.ref p0), .val (.long p1), .second, .val (.long p2), .second, .val (.ref p3)] [(.long p2), (.ref p0)])) _
    refine st5 _ ?_
    show Steps p.tables e below (T5.setTop (mkF m 14 #[.val (.ref p0), .val (.long p1), .second, .val (.long p2), .second, .val (.ref p3)] [])) _
    refine XS.aloadN X5.here hx rfl (hb hby d2_14) rfl rfl ?_
    show Steps p.tables e below (T5.setTop (mkF m 15 #[.val (.ref p0), .val (.long p1), .second, .val (.long p2), .second, .val (.ref p3)] [(.ref p0)])) _
    refine XS.aload X5.here hx rfl (hb hby d2_15) rfl rfl ?_
    show Steps p.tables e below (T5.setTop (mkF m 17 #[.val (.ref p0), .val (.long p1), .second, .val (.long p2), .second, .val (.ref p3)] [(.ref p3), (.ref p0)])) _
    refine st8 _ ?_
    show Steps p.tables e below (T8.setTop (mkF m 20 #[.val (.ref p0), .val (.long p1), .second, .val (.long p2), .second, .val (.ref p3)] [])) _
    exact X8.returnOut hx Bd.returns (hb hby d2_20) hr
  · show Q_rmTimer Z p0 p1 p2 p3 h0 n0 _ T8.heap _
    rw [e8]
    exact ⟨rfl, N8, K8, f9, f10⟩
theorem ef_rmTimer0 (m : MethodId) (p0 : Addr) (p1 : Int64) (p2 : Int64) : entryFrame m #[(.ref p0), (.long p1), (.long p2), .null] 6 = mkF m 0 #[.val (.ref p0), .val (.long p1), .second, .val (.long p2), .second, .val .null] [] := by first | (simp [entryFrame, mkF, argsToLocals, Value.category]; done) | rfl
def Q_rmTimer0 (Z : State) (p0 : Addr) (p1 : Int64) (p2 : Int64) (h0 : Heap) (n0 : Nat) (v : Option Value) (h : Heap) (L : List Loc) : Prop := v = none ∧ Fr n0 L ∧ Keep h0 h [p0] ∧ Fld Z h p0 "shardwell/container/ExpiryQueue$Timer" "at" "J" (.long p1) ∧ Fld Z h p0 "shardwell/container/ExpiryQueue$Timer" "order" "J" (.long p2)
set_option maxRecDepth 65536 in
set_option maxHeartbeats 40000000 in
theorem rmTimer0 (l : Launch) (Z : State) (a0 : Array Value) (hw : ∀ d ∈ tables_1, d.before a0 Z = true) (ws : List Jvm.Cond) (p0 : Addr) (p1 : Int64) (p2 : Int64) (h0 : Heap) (n0 : Nat) (Z0 : n0 ≤ h0.size) (E0 : Exa Z h0 p0 "shardwell/container/ExpiryQueue$Timer") (Fa : Fld Z h0 p0 "shardwell/container/ExpiryQueue$Timer" "at" "J" (.long (0 : Int64))) (Fo : Fld Z h0 p0 "shardwell/container/ExpiryQueue$Timer" "order" "J" (.long (0 : Int64))) (Fk : Fld Z h0 p0 "shardwell/container/ExpiryQueue$Timer" "key" "Ljava/lang/Object;" .null) (g0 : n0 ≤ p0) :
    MetFree l (⟨"shardwell/container/ExpiryQueue$Timer", "<init>", "(JJLjava/lang/Object;)V"⟩ : MethodName) (head1 (Jvm.Cond.code (⟨"shardwell/container/ExpiryQueue$Timer", "<init>", "(JJLjava/lang/Object;)V"⟩ : MethodName) prog_73_method_1_code 6 none :: ws) ({ frames := 2, cells := 0, slots := 0, locals := 24 } : Room)) (fun a U => a = #[(.ref p0), (.long p1), (.long p2), .null] ∧ Z.Warmed39 U.vm ∧ U.heap = h0) (fun _ _ _ _ _ => True) (fun _ U o U' => ∃ v L, o = .returned v ∧ Q_rmTimer0 Z p0 p1 p2 h0 n0 v U'.heap L ∧ FrameEnd U o U' L ({ frames := 2, cells := 0, slots := 0, locals := 24 } : Room).cells ({ frames := 2, cells := 0, slots := 0, locals := 24 } : Room).slots) := by
  refine MetFree.of_bodySF (plainFor_of_name pn_shardwell_container_ExpiryQueue_Timer) hisR ?_
  intro p e s m args below meth c s₁ Bd hml0 hP hK
  obtain ⟨rfl, hZ, hh⟩ := hP
  have hx := Bd.exec
  have hby := Bd.bytes
  have hml : c.maxLocals = 6 := hml0
  have hown : s.vm.findClass "shardwell/container/ExpiryQueue$Timer" = some m.cls := findClass_of_methodNamed Bd.named
  have hnm := (name_of_methodNamed Bd.named Bd.method).1
  have X0 : Stand p l e ({ frames := 2, cells := 0, slots := 0, locals := 24 } : Room) s m #[(.ref p0), (.long p1), (.long p2), .null] below meth c s₁ [] 0 0 := Stand.of_body Bd
  have e0 : s₁.heap = h0 := by rw [← hh, Bd.state]; rfl
  have N0 := Fr.nil n0
  have pre0 : ∀ t, Steps p.tables e below (s₁.setTop (mkF m 0 #[.val (.ref p0), .val (.long p1), .second, .val (.long p2), .second, .val .null] [])) t → Steps p.tables e below (s₁.setTop (entryFrame m #[(.ref p0), (.long p1), (.long p2), .null] 6)) t := fun t k => castTop (ef_rmTimer0 m p0 p1 p2 ) k
  obtain ⟨_, _, ⟨T1, L1, k1, n1⟩, -, X1, ⟨Lc1, hQ1, l1, y1, z1⟩, st1⟩ := X0.specialBack hx (y := (⟨"java/lang/Record", "<init>", "()V"⟩ : MethodName)) rfl hown (mvT hZ (hw _ (List.mem_of_getElem? (i := 13) rfl))) (mvT hZ (hw _ (List.mem_of_getElem? (i := 14) rfl))) (mvT hZ (hw _ (List.mem_of_getElem? (i := 17) rfl))) (by decide) (backOf (W := 0) (rmRecord l Z a0 hw [] p0 h0 n0 Z0) hZ (hw _ (List.mem_of_getElem? (i := 17) rfl)) (hw _ (List.mem_of_getElem? (i := 16) rfl)) (by decide) (by decide)) (g := (mkF m 1 #[.val (.ref p0), .val (.long p1), .second, .val (.long p2), .second, .val .null] [(.ref p0)])) rfl (by rw [hml]; rfl) (Steps.refl _) (a := p0) (argsL := []) (rest := []) (lenOf pd___V rfl) rfl (by show 2 * 0 + _ ≤ _; exact Nat.le_of_eq rfl) (hb hby d2_1) (fun _ _ => ⟨rfl, e0, (by decide : 0 + 0 ≤ _), (by decide : 0 + 0 ≤ _)⟩)
  dsimp only [Pt.U, Pt.locs, Pt.cells, Pt.slots] at X1 l1 y1 z1 st1 hQ1
  subst l1 y1 z1
  obtain ⟨rfl, Nq1, e1⟩ := hQ1
  have N1 := Fr.app N0 Nq1
  obtain ⟨T2, h2, X2, e2, W2, st2⟩ := putF X1 hx hZ hown (host := "") (Or.inl (hw _ (List.mem_of_getElem? (i := 21) rfl))) Via.refl e1 Fa E0 (Or.inr ⟨(hw _ (List.mem_of_getElem? (i := 22) rfl)), rfl, hnm⟩) (hw _ (List.mem_of_getElem? (i := 8) rfl)) (ty := .long) (by decide) rfl rfl (g := (mkF m 6 #[.val (.ref p0), .val (.long p1), .second, .val (.long p2), .second, .val .null] [(.long p1), (.ref p0)])) rfl rfl (hb hby d2_6)
  have Fw2 := Fa.same W2
  have N2 := Fr.snoc X2 N1 g0
  have K2 := (Keep.refl h0 [p0]).wr W2 (Or.inl (List.mem_of_getElem? (i := 0) rfl))
  have f3 := (E0.wr W2)
  have f4 := (Fo.other W2 (Or.inr (slot_ne (Or.inr (hw _ (List.mem_of_getElem? (i := 24) rfl))) (Or.inr (hw _ (List.mem_of_getElem? (i := 22) rfl))) (by decide) (t := .long) (t' := .long) (by decide) (by decide))))
  obtain ⟨T5, h5, X5, e5, W5, st5⟩ := putF X2 hx hZ hown (host := "") (Or.inl (hw _ (List.mem_of_getElem? (i := 23) rfl))) Via.refl e2 f4 f3 (Or.inr ⟨(hw _ (List.mem_of_getElem? (i := 24) rfl)), rfl, hnm⟩) (hw _ (List.mem_of_getElem? (i := 8) rfl)) (ty := .long) (by decide) rfl rfl (g := (mkF m 11 #[.val (.ref p0), .val (.long p1), .second, .val (.long p2), .second, .val .null] [(.long p2), (.ref p0)])) rfl rfl (hb hby d2_11)
  have Fw5 := f4.same W5
  have N5 := Fr.snoc X5 N2 g0
  have K5 := K2.wr W5 (Or.inl (List.mem_of_getElem? (i := 0) rfl))
  have f6 := (f3.wr W5)
  have f7 := ((Fk.other W2 (Or.inr (slot_ne (Or.inr (hw _ (List.mem_of_getElem? (i := 26) rfl))) (Or.inr (hw _ (List.mem_of_getElem? (i := 22) rfl))) (by decide) (t := (.object "java/lang/Object")) (t' := .long) (by decide) (by decide)))).other W5 (Or.inr (slot_ne (Or.inr (hw _ (List.mem_of_getElem? (i := 26) rfl))) (Or.inr (hw _ (List.mem_of_getElem? (i := 24) rfl))) (by decide) (t := (.object "java/lang/Object")) (t' := .long) (by decide) (by decide))))
  obtain ⟨T8, h8, X8, e8, W8, st8⟩ := putF X5 hx hZ hown (host := "") (Or.inl (hw _ (List.mem_of_getElem? (i := 25) rfl))) Via.refl e5 f7 f6 (Or.inr ⟨(hw _ (List.mem_of_getElem? (i := 26) rfl)), rfl, hnm⟩) (hw _ (List.mem_of_getElem? (i := 8) rfl)) (ty := (.object "java/lang/Object")) (by decide) rfl rfl (g := (mkF m 17 #[.val (.ref p0), .val (.long p1), .second, .val (.long p2), .second, .val .null] [.null, (.ref p0)])) rfl rfl (hb hby d2_17)
  have Fw8 := f7.same W8
  have N8 := Fr.snoc X8 N5 g0
  have K8 := K5.wr W8 (Or.inl (List.mem_of_getElem? (i := 0) rfl))
  have f9 := ((Fw2.other W5 (Or.inr (slot_ne (Or.inr (hw _ (List.mem_of_getElem? (i := 22) rfl))) (Or.inr (hw _ (List.mem_of_getElem? (i := 24) rfl))) (by decide) (t := .long) (t' := .long) (by decide) (by decide)))).other W8 (Or.inr (slot_ne (Or.inr (hw _ (List.mem_of_getElem? (i := 22) rfl))) (Or.inr (hw _ (List.mem_of_getElem? (i := 26) rfl))) (by decide) (t := .long) (t' := (.object "java/lang/Object")) (by decide) (by decide))))
  have f10 := (Fw5.other W8 (Or.inr (slot_ne (Or.inr (hw _ (List.mem_of_getElem? (i := 24) rfl))) (Or.inr (hw _ (List.mem_of_getElem? (i := 26) rfl))) (by decide) (t := .long) (t' := (.object "java/lang/Object")) (by decide) (by decide))))
  obtain ⟨fs, hr, hrun, hended, hW, hsame⟩ := X8.leave (v := none) (fun _ => rfl)
  refine ⟨_, _, pre0 _ ?_, hrun, hended, _, _, rfl, ?_, ⟨_, rfl⟩, hW, hsame.mono (by decide) (by decide)⟩
  · show Steps p.tables e below (s₁.setTop (mkF m 0 #[.val (.ref p0), .val (.long p1), .second, .val (.long p2), .second, .val .null] [])) _
    refine XS.aloadN X0.here hx rfl (hb hby d2_0) rfl rfl ?_
    show Steps p.tables e below (s₁.setTop (mkF m 1 #[.val (.ref p0), .val (.long p1), .second, .val (.long p2), .second, .val .null] [(.ref p0)])) _
    refine st1.trans ?_
    show Steps p.tables e below (T1.setTop (mkF m 4 #[.val (.ref p0), .val (.long p1), .second, .val (.long p2), .second, .val .null] [])) _
    refine XS.aloadN X1.here hx rfl (hb hby d2_4) rfl rfl ?_
    show Steps p.tables e below (T1.setTop (mkF m 5 #[.val (.ref p0), .val (.long p1), .second, .val (.long p2), .second, .val .null] [(.ref p0)])) _
    refine XS.lloadN X1.here hx rfl (hb hby d2_5) rfl  ?_
    show Steps p.tables e below (T1.setTop (mkF m 6 #[.val (.ref p0), .val (.long p1), .second, .val (.long p2), .second, .val .null] [(.long p1), (.ref p0)])) _
    refine st2 _ ?_
    show Steps p.tables e below (T2.setTop (mkF m 9 #[.val (.ref p0), .val (.long p1), .second, .val (.long p2), .second, .val .null] [])) _
    refine XS.aloadN X2.here hx rfl (hb hby d2_9) rfl rfl ?_
    show Steps p.tables e below (T2.setTop (mkF m 10 #[.val (.ref p0), .val (.long p1), .second, .val (.long p2), .second, .val .null] [(.ref p0)])) _
    refine XS.lloadN X2.here hx rfl (hb hby d2_10) rfl  ?_
    show Steps p.tables e below (T2.setTop (mkF m 11 #[.val (.ref p0), .val (.long p1), .second, .val (.long p2), .second, .val .null] [(.long p2), (.ref p0)])) _
    refine st5 _ ?_
    show Steps p.tables e below (T5.setTop (mkF m 14 #[.val (.ref p0), .val (.long p1), .second, .val (.long p2), .second, .val .null] [])) _
    refine XS.aloadN X5.here hx rfl (hb hby d2_14) rfl rfl ?_
    show Steps p.tables e below (T5.setTop (mkF m 15 #[.val (.ref p0), .val (.long p1), .second, .val (.long p2), .second, .val .null] [(.ref p0)])) _
    refine XS.aload X5.here hx rfl (hb hby d2_15) rfl rfl ?_
    show Steps p.tables e below (T5.setTop (mkF m 17 #[.val (.ref p0), .val (.long p1), .second, .val (.long p2), .second, .val .null] [.null, (.ref p0)])) _
    refine st8 _ ?_
    show Steps p.tables e below (T8.setTop (mkF m 20 #[.val (.ref p0), .val (.long p1), .second, .val (.long p2), .second, .val .null] [])) _
    exact X8.returnOut hx Bd.returns (hb hby d2_20) hr
  · show Q_rmTimer0 Z p0 p1 p2 h0 n0 _ T8.heap _
    rw [e8]
    exact ⟨rfl, N8, K8, f9, f10⟩
theorem ef_rmLongCmp (m : MethodId) (p0 : Int64) (p1 : Int64) : entryFrame m #[(.long p0), (.long p1)] 4 = mkF m 0 #[.val (.long p0), .second, .val (.long p1), .second] [] := by first | (simp [entryFrame, mkF, argsToLocals, Value.category]; done) | rfl
theorem d6_0 : decode jdk_35_method_42_code 0 = .ok (.lload_n 0, 1) := by decide +kernel
theorem d6_1 : decode jdk_35_method_42_code 1 = .ok (.lload_n 2, 1) := by decide +kernel
theorem d6_2 : decode jdk_35_method_42_code 2 = .ok (.lcmp, 1) := by decide +kernel
theorem d6_3 : decode jdk_35_method_42_code 3 = .ok (.ifCond .ge 7, 3) := by decide +kernel
theorem d6_6 : decode jdk_35_method_42_code 6 = .ok (.iconst (-1), 1) := by decide +kernel
theorem d6_7 : decode jdk_35_method_42_code 7 = .ok (.goto 14, 3) := by decide +kernel
theorem d6_21 : decode jdk_35_method_42_code 21 = .ok (.ireturn, 1) := by decide +kernel
theorem d6_10 : decode jdk_35_method_42_code 10 = .ok (.lload_n 0, 1) := by decide +kernel
theorem d6_11 : decode jdk_35_method_42_code 11 = .ok (.lload_n 2, 1) := by decide +kernel
theorem d6_12 : decode jdk_35_method_42_code 12 = .ok (.lcmp, 1) := by decide +kernel
theorem d6_13 : decode jdk_35_method_42_code 13 = .ok (.ifCond .ne 7, 3) := by decide +kernel
theorem d6_16 : decode jdk_35_method_42_code 16 = .ok (.iconst 0, 1) := by decide +kernel
theorem d6_17 : decode jdk_35_method_42_code 17 = .ok (.goto 4, 3) := by decide +kernel
theorem d6_20 : decode jdk_35_method_42_code 20 = .ok (.iconst 1, 1) := by decide +kernel
def Q_rmLongCmp (Z : State) (p0 : Int64) (p1 : Int64) (r : Int32) (h0 : Heap) (n0 : Nat) (v : Option Value) (h : Heap) (L : List Loc) : Prop := v = some (.int r) ∧ Fr n0 L ∧ h = h0
set_option maxRecDepth 65536 in
set_option maxHeartbeats 40000000 in
theorem rmLongCmp (l : Launch) (Z : State) (a0 : Array Value) (hw : ∀ d ∈ tables_1, d.before a0 Z = true) (ws : List Jvm.Cond) (p0 : Int64) (p1 : Int64) (r : Int32) (h0 : Heap) (n0 : Nat) (Z0 : n0 ≤ h0.size) (hres : r = own_lc p0 p1) :
    MetFree l (⟨"java/lang/Long", "compare", "(JJ)I"⟩ : MethodName) (head1 (Jvm.Cond.code (⟨"java/lang/Long", "compare", "(JJ)I"⟩ : MethodName) jdk_35_method_42_code 4 (some .int) :: ws) ({ frames := 0, cells := 0, slots := 0, locals := 0 } : Room)) (fun a U => a = #[(.long p0), (.long p1)] ∧ Z.Warmed39 U.vm ∧ U.heap = h0) (fun _ _ _ _ _ => True) (fun _ U o U' => ∃ v L, o = .returned v ∧ Q_rmLongCmp Z p0 p1 r h0 n0 v U'.heap L ∧ FrameEnd U o U' L ({ frames := 0, cells := 0, slots := 0, locals := 0 } : Room).cells ({ frames := 0, cells := 0, slots := 0, locals := 0 } : Room).slots) := by
  refine MetFree.of_bodySF (plainFor_of_name pn_java_lang_Long) hisR ?_
  intro p e s m args below meth c s₁ Bd hml0 hP hK
  obtain ⟨rfl, hZ, hh⟩ := hP
  have hx := Bd.exec
  have hby := Bd.bytes
  have hml : c.maxLocals = 4 := hml0
  have hown : s.vm.findClass "java/lang/Long" = some m.cls := findClass_of_methodNamed Bd.named
  have hnm := (name_of_methodNamed Bd.named Bd.method).1
  have X0 : Stand p l e ({ frames := 0, cells := 0, slots := 0, locals := 0 } : Room) s m #[(.long p0), (.long p1)] below meth c s₁ [] 0 0 := Stand.of_body Bd
  have e0 : s₁.heap = h0 := by rw [← hh, Bd.state]; rfl
  have N0 := Fr.nil n0
  have pre0 : ∀ t, Steps p.tables e below (s₁.setTop (mkF m 0 #[.val (.long p0), .second, .val (.long p1), .second] [])) t → Steps p.tables e below (s₁.setTop (entryFrame m #[(.long p0), (.long p1)] 4)) t := fun t k => castTop (ef_rmLongCmp m p0 p1 ) k
  have pre2 : ∀ t, Steps p.tables e below (s₁.setTop (mkF m 3 #[.val (.long p0), .second, .val (.long p1), .second] [(.int (lcmpW p0 p1))])) t → Steps p.tables e below (s₁.setTop (entryFrame m #[(.long p0), (.long p1)] 4)) t := fun t kt => pre0 t (by
    show Steps p.tables e below (s₁.setTop (mkF m 0 #[.val (.long p0), .second, .val (.long p1), .second] [])) _
    refine XS.lloadN X0.here hx rfl (hb hby d6_0) rfl  ?_
    show Steps p.tables e below (s₁.setTop (mkF m 1 #[.val (.long p0), .second, .val (.long p1), .second] [(.long p0)])) _
    refine XS.lloadN X0.here hx rfl (hb hby d6_1) rfl  ?_
    show Steps p.tables e below (s₁.setTop (mkF m 2 #[.val (.long p0), .second, .val (.long p1), .second] [(.long p1), (.long p0)])) _
    refine XS.lcmp X0.here hx rfl (hb hby d6_2) rfl ?_
    exact kt)
  by_cases hc3_1 : (lcmpW p0 p1) < (0 : Int32)
  · obtain ⟨fs, hr, hrun, hended, hW, hsame⟩ := X0.leave (v := some (.int (-1 : Int32))) (fun h => by rw [Bd.returns] at h; cases h)
    refine ⟨_, _, pre2 _ ?_, hrun, hended, _, _, rfl, ?_, ⟨_, rfl⟩, hW, hsame.mono (by decide) (by decide)⟩
    · show Steps p.tables e below (s₁.setTop (mkF m 3 #[.val (.long p0), .second, .val (.long p1), .second] [(.int (lcmpW p0 p1))])) _
      refine XS.ifNo X0.here hx rfl (hb hby d6_3) rfl ((if0 _ _).trans (tlt hc3_1).2.1) ?_
      show Steps p.tables e below (s₁.setTop (mkF m 6 #[.val (.long p0), .second, .val (.long p1), .second] [])) _
      refine XS.iconst X0.here hx rfl (hb hby d6_6) ?_
      show Steps p.tables e below (s₁.setTop (mkF m 7 #[.val (.long p0), .second, .val (.long p1), .second] [(.int (-1 : Int32))])) _
      refine XS.goto X0.here hx rfl (pc0 := 7) (pc' := 21) rfl (hb hby d6_7) (by decide) (by decide) ?_
      show Steps p.tables e below (s₁.setTop (mkF m 21 #[.val (.long p0), .second, .val (.long p1), .second] [(.int (-1 : Int32))])) _
      exact retI X0 hx Bd.returns (hb hby d6_21) hr
    · show Q_rmLongCmp Z p0 p1 r h0 n0 _ s₁.heap _
      rw [e0]
      exact ⟨by rw [hres]; unfold own_lc; rw [if_pos hc3_1], N0, rfl⟩
  · have pre4 : ∀ t, Steps p.tables e below (s₁.setTop (mkF m 13 #[.val (.long p0), .second, .val (.long p1), .second] [(.int (lcmpW p0 p1))])) t → Steps p.tables e below (s₁.setTop (entryFrame m #[(.long p0), (.long p1)] 4)) t := fun t kt => pre2 t (by
      show Steps p.tables e below (s₁.setTop (mkF m 3 #[.val (.long p0), .second, .val (.long p1), .second] [(.int (lcmpW p0 p1))])) _
      refine XS.ifYes X0.here hx rfl (pc0 := 3) (pc' := 10) rfl (hb hby d6_3) rfl ((if0 _ _).trans (flt hc3_1).2.1) (by decide) (by decide) ?_
      show Steps p.tables e below (s₁.setTop (mkF m 10 #[.val (.long p0), .second, .val (.long p1), .second] [])) _
      refine XS.lloadN X0.here hx rfl (hb hby d6_10) rfl  ?_
      show Steps p.tables e below (s₁.setTop (mkF m 11 #[.val (.long p0), .second, .val (.long p1), .second] [(.long p0)])) _
      refine XS.lloadN X0.here hx rfl (hb hby d6_11) rfl  ?_
      show Steps p.tables e below (s₁.setTop (mkF m 12 #[.val (.long p0), .second, .val (.long p1), .second] [(.long p1), (.long p0)])) _
      refine XS.lcmp X0.here hx rfl (hb hby d6_12) rfl ?_
      exact kt)
    by_cases hc13_3 : (lcmpW p0 p1) = (0 : Int32)
    · obtain ⟨fs, hr, hrun, hended, hW, hsame⟩ := X0.leave (v := some (.int (0 : Int32))) (fun h => by rw [Bd.returns] at h; cases h)
      refine ⟨_, _, pre4 _ ?_, hrun, hended, _, _, rfl, ?_, ⟨_, rfl⟩, hW, hsame.mono (by decide) (by decide)⟩
      · show Steps p.tables e below (s₁.setTop (mkF m 13 #[.val (.long p0), .second, .val (.long p1), .second] [(.int (lcmpW p0 p1))])) _
        refine XS.ifNo X0.here hx rfl (hb hby d6_13) rfl ((if0 _ _).trans (teq hc13_3).2) ?_
        show Steps p.tables e below (s₁.setTop (mkF m 16 #[.val (.long p0), .second, .val (.long p1), .second] [])) _
        refine XS.iconst X0.here hx rfl (hb hby d6_16) ?_
        show Steps p.tables e below (s₁.setTop (mkF m 17 #[.val (.long p0), .second, .val (.long p1), .second] [(.int (0 : Int32))])) _
        refine XS.goto X0.here hx rfl (pc0 := 17) (pc' := 21) rfl (hb hby d6_17) (by decide) (by decide) ?_
        show Steps p.tables e below (s₁.setTop (mkF m 21 #[.val (.long p0), .second, .val (.long p1), .second] [(.int (0 : Int32))])) _
        exact retI X0 hx Bd.returns (hb hby d6_21) hr
      · show Q_rmLongCmp Z p0 p1 r h0 n0 _ s₁.heap _
        rw [e0]
        exact ⟨by rw [hres]; unfold own_lc; rw [if_neg hc3_1, if_pos hc13_3], N0, rfl⟩
    · obtain ⟨fs, hr, hrun, hended, hW, hsame⟩ := X0.leave (v := some (.int (1 : Int32))) (fun h => by rw [Bd.returns] at h; cases h)
      refine ⟨_, _, pre4 _ ?_, hrun, hended, _, _, rfl, ?_, ⟨_, rfl⟩, hW, hsame.mono (by decide) (by decide)⟩
      · show Steps p.tables e below (s₁.setTop (mkF m 13 #[.val (.long p0), .second, .val (.long p1), .second] [(.int (lcmpW p0 p1))])) _
        refine XS.ifYes X0.here hx rfl (pc0 := 13) (pc' := 20) rfl (hb hby d6_13) rfl ((if0 _ _).trans (feq hc13_3).2) (by decide) (by decide) ?_
        show Steps p.tables e below (s₁.setTop (mkF m 20 #[.val (.long p0), .second, .val (.long p1), .second] [])) _
        refine XS.iconst X0.here hx rfl (hb hby d6_20) ?_
        show Steps p.tables e below (s₁.setTop (mkF m 21 #[.val (.long p0), .second, .val (.long p1), .second] [(.int (1 : Int32))])) _
        exact retI X0 hx Bd.returns (hb hby d6_21) hr
      · show Q_rmLongCmp Z p0 p1 r h0 n0 _ s₁.heap _
        rw [e0]
        exact ⟨by rw [hres]; unfold own_lc; rw [if_neg hc3_1, if_neg hc13_3], N0, rfl⟩
theorem ef_rmSign (m : MethodId) (p0 : Int32) : entryFrame m #[(.int p0)] 1 = mkF m 0 #[.val (.int p0)] [] := by first | (simp [entryFrame, mkF, argsToLocals, Value.category]; done) | rfl
theorem d7_0 : decode method_2_code 0 = .ok (.iload_n 0, 1) := by decide +kernel
theorem d7_1 : decode method_2_code 1 = .ok (.ifCond .ge 7, 3) := by decide +kernel
theorem d7_4 : decode method_2_code 4 = .ok (.iconst (-1), 1) := by decide +kernel
theorem d7_5 : decode method_2_code 5 = .ok (.goto 12, 3) := by decide +kernel
theorem d7_17 : decode method_2_code 17 = .ok (.ireturn, 1) := by decide +kernel
theorem d7_8 : decode method_2_code 8 = .ok (.iload_n 0, 1) := by decide +kernel
theorem d7_9 : decode method_2_code 9 = .ok (.ifCond .le 7, 3) := by decide +kernel
theorem d7_12 : decode method_2_code 12 = .ok (.iconst 1, 1) := by decide +kernel
theorem d7_13 : decode method_2_code 13 = .ok (.goto 4, 3) := by decide +kernel
theorem d7_16 : decode method_2_code 16 = .ok (.iconst 0, 1) := by decide +kernel
def Q_rmSign (Z : State) (p0 : Int32) (r : Int32) (h0 : Heap) (n0 : Nat) (v : Option Value) (h : Heap) (L : List Loc) : Prop := v = some (.int r) ∧ Fr n0 L ∧ h = h0
set_option maxRecDepth 65536 in
set_option maxHeartbeats 40000000 in
theorem rmSign (l : Launch) (Z : State) (a0 : Array Value) (hw : ∀ d ∈ tables_1, d.before a0 Z = true) (ws : List Jvm.Cond) (p0 : Int32) (r : Int32) (h0 : Heap) (n0 : Nat) (Z0 : n0 ≤ h0.size) (hres : r = if p0 < 0 then (-1 : Int32) else if 0 < p0 then 1 else 0) :
    MetFree l (⟨"shardwell/container/TimerCompareToPinLaw", "sign", "(I)I"⟩ : MethodName) (head1 (Jvm.Cond.code (⟨"shardwell/container/TimerCompareToPinLaw", "sign", "(I)I"⟩ : MethodName) method_2_code 1 (some .int) :: ws) ({ frames := 0, cells := 0, slots := 0, locals := 0 } : Room)) (fun a U => a = #[(.int p0)] ∧ Z.Warmed39 U.vm ∧ U.heap = h0) (fun _ _ _ _ _ => True) (fun _ U o U' => ∃ v L, o = .returned v ∧ Q_rmSign Z p0 r h0 n0 v U'.heap L ∧ FrameEnd U o U' L ({ frames := 0, cells := 0, slots := 0, locals := 0 } : Room).cells ({ frames := 0, cells := 0, slots := 0, locals := 0 } : Room).slots) := by
  refine MetFree.of_bodySF (plainFor_of_name pn_shardwell_container_TimerCompareToPinLaw) hisR ?_
  intro p e s m args below meth c s₁ Bd hml0 hP hK
  obtain ⟨rfl, hZ, hh⟩ := hP
  have hx := Bd.exec
  have hby := Bd.bytes
  have hml : c.maxLocals = 1 := hml0
  have hown : s.vm.findClass "shardwell/container/TimerCompareToPinLaw" = some m.cls := findClass_of_methodNamed Bd.named
  have hnm := (name_of_methodNamed Bd.named Bd.method).1
  have X0 : Stand p l e ({ frames := 0, cells := 0, slots := 0, locals := 0 } : Room) s m #[(.int p0)] below meth c s₁ [] 0 0 := Stand.of_body Bd
  have e0 : s₁.heap = h0 := by rw [← hh, Bd.state]; rfl
  have N0 := Fr.nil n0
  have pre0 : ∀ t, Steps p.tables e below (s₁.setTop (mkF m 0 #[.val (.int p0)] [])) t → Steps p.tables e below (s₁.setTop (entryFrame m #[(.int p0)] 1)) t := fun t k => castTop (ef_rmSign m p0 ) k
  have pre2 : ∀ t, Steps p.tables e below (s₁.setTop (mkF m 1 #[.val (.int p0)] [(.int p0)])) t → Steps p.tables e below (s₁.setTop (entryFrame m #[(.int p0)] 1)) t := fun t kt => pre0 t (by
    show Steps p.tables e below (s₁.setTop (mkF m 0 #[.val (.int p0)] [])) _
    refine XS.iloadN X0.here hx rfl (hb hby d7_0) rfl  ?_
    exact kt)
  by_cases hc1_1 : p0 < (0 : Int32)
  · obtain ⟨fs, hr, hrun, hended, hW, hsame⟩ := X0.leave (v := some (.int (-1 : Int32))) (fun h => by rw [Bd.returns] at h; cases h)
    refine ⟨_, _, pre2 _ ?_, hrun, hended, _, _, rfl, ?_, ⟨_, rfl⟩, hW, hsame.mono (by decide) (by decide)⟩
    · show Steps p.tables e below (s₁.setTop (mkF m 1 #[.val (.int p0)] [(.int p0)])) _
      refine XS.ifNo X0.here hx rfl (hb hby d7_1) rfl ((if0 _ _).trans (tlt hc1_1).2.1) ?_
      show Steps p.tables e below (s₁.setTop (mkF m 4 #[.val (.int p0)] [])) _
      refine XS.iconst X0.here hx rfl (hb hby d7_4) ?_
      show Steps p.tables e below (s₁.setTop (mkF m 5 #[.val (.int p0)] [(.int (-1 : Int32))])) _
      refine XS.goto X0.here hx rfl (pc0 := 5) (pc' := 17) rfl (hb hby d7_5) (by decide) (by decide) ?_
      show Steps p.tables e below (s₁.setTop (mkF m 17 #[.val (.int p0)] [(.int (-1 : Int32))])) _
      exact retI X0 hx Bd.returns (hb hby d7_17) hr
    · show Q_rmSign Z p0 r h0 n0 _ s₁.heap _
      rw [e0]
      exact ⟨by rw [hres, if_pos hc1_1], N0, rfl⟩
  · have pre4 : ∀ t, Steps p.tables e below (s₁.setTop (mkF m 9 #[.val (.int p0)] [(.int p0)])) t → Steps p.tables e below (s₁.setTop (entryFrame m #[(.int p0)] 1)) t := fun t kt => pre2 t (by
      show Steps p.tables e below (s₁.setTop (mkF m 1 #[.val (.int p0)] [(.int p0)])) _
      refine XS.ifYes X0.here hx rfl (pc0 := 1) (pc' := 8) rfl (hb hby d7_1) rfl ((if0 _ _).trans (flt hc1_1).2.1) (by decide) (by decide) ?_
      show Steps p.tables e below (s₁.setTop (mkF m 8 #[.val (.int p0)] [])) _
      refine XS.iloadN X0.here hx rfl (hb hby d7_8) rfl  ?_
      exact kt)
    by_cases hc9_3 : (0 : Int32) < p0
    · obtain ⟨fs, hr, hrun, hended, hW, hsame⟩ := X0.leave (v := some (.int (1 : Int32))) (fun h => by rw [Bd.returns] at h; cases h)
      refine ⟨_, _, pre4 _ ?_, hrun, hended, _, _, rfl, ?_, ⟨_, rfl⟩, hW, hsame.mono (by decide) (by decide)⟩
      · show Steps p.tables e below (s₁.setTop (mkF m 9 #[.val (.int p0)] [(.int p0)])) _
        refine XS.ifNo X0.here hx rfl (hb hby d7_9) rfl ((if0 _ _).trans (tlt hc9_3).2.2.2) ?_
        show Steps p.tables e below (s₁.setTop (mkF m 12 #[.val (.int p0)] [])) _
        refine XS.iconst X0.here hx rfl (hb hby d7_12) ?_
        show Steps p.tables e below (s₁.setTop (mkF m 13 #[.val (.int p0)] [(.int (1 : Int32))])) _
        refine XS.goto X0.here hx rfl (pc0 := 13) (pc' := 17) rfl (hb hby d7_13) (by decide) (by decide) ?_
        show Steps p.tables e below (s₁.setTop (mkF m 17 #[.val (.int p0)] [(.int (1 : Int32))])) _
        exact retI X0 hx Bd.returns (hb hby d7_17) hr
      · show Q_rmSign Z p0 r h0 n0 _ s₁.heap _
        rw [e0]
        exact ⟨by rw [hres, if_neg hc1_1, if_pos hc9_3], N0, rfl⟩
    · obtain ⟨fs, hr, hrun, hended, hW, hsame⟩ := X0.leave (v := some (.int (0 : Int32))) (fun h => by rw [Bd.returns] at h; cases h)
      refine ⟨_, _, pre4 _ ?_, hrun, hended, _, _, rfl, ?_, ⟨_, rfl⟩, hW, hsame.mono (by decide) (by decide)⟩
      · show Steps p.tables e below (s₁.setTop (mkF m 9 #[.val (.int p0)] [(.int p0)])) _
        refine XS.ifYes X0.here hx rfl (pc0 := 9) (pc' := 16) rfl (hb hby d7_9) rfl ((if0 _ _).trans (flt hc9_3).2.2.2) (by decide) (by decide) ?_
        show Steps p.tables e below (s₁.setTop (mkF m 16 #[.val (.int p0)] [])) _
        refine XS.iconst X0.here hx rfl (hb hby d7_16) ?_
        show Steps p.tables e below (s₁.setTop (mkF m 17 #[.val (.int p0)] [(.int (0 : Int32))])) _
        exact retI X0 hx Bd.returns (hb hby d7_17) hr
      · show Q_rmSign Z p0 r h0 n0 _ s₁.heap _
        rw [e0]
        exact ⟨by rw [hres, if_neg hc1_1, if_neg hc9_3], N0, rfl⟩
theorem ef_rmCompareTo (m : MethodId) (p0 : Addr) (p1 : Addr) : entryFrame m #[(.ref p0), (.ref p1)] 3 = mkF m 0 #[.val (.ref p0), .val (.ref p1), .unset] [] := by first | (simp [entryFrame, mkF, argsToLocals, Value.category]; done) | rfl
theorem d5_0 : decode prog_73_method_2_code 0 = .ok (.aload_n 0, 1) := by decide +kernel
theorem d5_1 : decode prog_73_method_2_code 1 = .ok (.getfield 7, 3) := by decide +kernel
theorem d5_4 : decode prog_73_method_2_code 4 = .ok (.aload_n 1, 1) := by decide +kernel
theorem d5_5 : decode prog_73_method_2_code 5 = .ok (.getfield 7, 3) := by decide +kernel
theorem pd__JJ_I : parseMethodDescriptor "(JJ)I" = some ⟨[.long, .long], some .int⟩ := by decide +kernel
theorem d5_8 : decode prog_73_method_2_code 8 = .ok (.invokestatic 20, 3) := by decide +kernel
theorem d5_11 : decode prog_73_method_2_code 11 = .ok (.istore_n 2, 1) := by decide +kernel
theorem d5_12 : decode prog_73_method_2_code 12 = .ok (.iload_n 2, 1) := by decide +kernel
theorem d5_13 : decode prog_73_method_2_code 13 = .ok (.ifCond .eq 7, 3) := by decide +kernel
theorem d5_20 : decode prog_73_method_2_code 20 = .ok (.aload_n 0, 1) := by decide +kernel
theorem d5_21 : decode prog_73_method_2_code 21 = .ok (.getfield 13, 3) := by decide +kernel
theorem d5_24 : decode prog_73_method_2_code 24 = .ok (.aload_n 1, 1) := by decide +kernel
theorem d5_25 : decode prog_73_method_2_code 25 = .ok (.getfield 13, 3) := by decide +kernel
theorem d5_28 : decode prog_73_method_2_code 28 = .ok (.invokestatic 20, 3) := by decide +kernel
theorem d5_31 : decode prog_73_method_2_code 31 = .ok (.ireturn, 1) := by decide +kernel
theorem d5_16 : decode prog_73_method_2_code 16 = .ok (.iload_n 2, 1) := by decide +kernel
theorem d5_17 : decode prog_73_method_2_code 17 = .ok (.goto 14, 3) := by decide +kernel
def Q_rmCompareTo (Z : State) (p0 : Addr) (p1 : Addr) (x1 : Int64) (o1 : Int64) (x2 : Int64) (o2 : Int64) (r : Int32) (h0 : Heap) (n0 : Nat) (v : Option Value) (h : Heap) (L : List Loc) : Prop := v = some (.int r) ∧ Fr n0 L ∧ h = h0
set_option maxRecDepth 65536 in
set_option maxHeartbeats 40000000 in
theorem rmCompareTo (l : Launch) (Z : State) (a0 : Array Value) (hw : ∀ d ∈ tables_1, d.before a0 Z = true) (ws : List Jvm.Cond) (p0 : Addr) (p1 : Addr) (x1 : Int64) (o1 : Int64) (x2 : Int64) (o2 : Int64) (r : Int32) (h0 : Heap) (n0 : Nat) (Z0 : n0 ≤ h0.size) (Fa0 : Fld Z h0 p0 "shardwell/container/ExpiryQueue$Timer" "at" "J" (.long x1)) (Fo0 : Fld Z h0 p0 "shardwell/container/ExpiryQueue$Timer" "order" "J" (.long o1)) (Fa1 : Fld Z h0 p1 "shardwell/container/ExpiryQueue$Timer" "at" "J" (.long x2)) (Fo1 : Fld Z h0 p1 "shardwell/container/ExpiryQueue$Timer" "order" "J" (.long o2)) (hres : r = own_cmp x1 o1 x2 o2) :
    MetFree l (⟨"shardwell/container/ExpiryQueue$Timer", "compareTo", "(Lshardwell/container/ExpiryQueue$Timer;)I"⟩ : MethodName) (head1 (Jvm.Cond.code (⟨"shardwell/container/ExpiryQueue$Timer", "compareTo", "(Lshardwell/container/ExpiryQueue$Timer;)I"⟩ : MethodName) prog_73_method_2_code 3 (some .int) :: ws) ({ frames := 1, cells := 0, slots := 0, locals := 15 } : Room)) (fun a U => a = #[(.ref p0), (.ref p1)] ∧ Z.Warmed39 U.vm ∧ U.heap = h0) (fun _ _ _ _ _ => True) (fun _ U o U' => ∃ v L, o = .returned v ∧ Q_rmCompareTo Z p0 p1 x1 o1 x2 o2 r h0 n0 v U'.heap L ∧ FrameEnd U o U' L ({ frames := 1, cells := 0, slots := 0, locals := 15 } : Room).cells ({ frames := 1, cells := 0, slots := 0, locals := 15 } : Room).slots) := by
  refine MetFree.of_bodySF (plainFor_of_name pn_shardwell_container_ExpiryQueue_Timer) hisR ?_
  intro p e s m args below meth c s₁ Bd hml0 hP hK
  obtain ⟨rfl, hZ, hh⟩ := hP
  have hx := Bd.exec
  have hby := Bd.bytes
  have hml : c.maxLocals = 3 := hml0
  have hown : s.vm.findClass "shardwell/container/ExpiryQueue$Timer" = some m.cls := findClass_of_methodNamed Bd.named
  have hnm := (name_of_methodNamed Bd.named Bd.method).1
  have X0 : Stand p l e ({ frames := 1, cells := 0, slots := 0, locals := 15 } : Room) s m #[(.ref p0), (.ref p1)] below meth c s₁ [] 0 0 := Stand.of_body Bd
  have e0 : s₁.heap = h0 := by rw [← hh, Bd.state]; rfl
  have N0 := Fr.nil n0
  have pre0 : ∀ t, Steps p.tables e below (s₁.setTop (mkF m 0 #[.val (.ref p0), .val (.ref p1), .unset] [])) t → Steps p.tables e below (s₁.setTop (entryFrame m #[(.ref p0), (.ref p1)] 3)) t := fun t k => castTop (ef_rmCompareTo m p0 p1 ) k
  obtain ⟨T1, X1, e1, st1⟩ := getF X0 hx hZ hown (host := "") (Or.inl (hw _ (List.mem_of_getElem? (i := 21) rfl))) Via.refl e0 Fa0 (g := (mkF m 1 #[.val (.ref p0), .val (.ref p1), .unset] [(.ref p0)])) rfl rfl (hb hby d5_1)
  obtain ⟨T2, X2, e2, st2⟩ := getF X1 hx hZ hown (host := "") (Or.inl (hw _ (List.mem_of_getElem? (i := 21) rfl))) Via.refl e1 Fa1 (g := (mkF m 5 #[.val (.ref p0), .val (.ref p1), .unset] [(.ref p1), (.long x1)])) rfl rfl (hb hby d5_5)
  obtain ⟨_, _, ⟨T3, L3, k3, n3⟩, -, X3, ⟨Lc3, hQ3, l3, y3, z3⟩, st3⟩ := Jvm.LawKit.callS X2 hx (y := (⟨"java/lang/Long", "compare", "(JJ)I"⟩ : MethodName)) hown (mvT hZ (hw _ (List.mem_of_getElem? (i := 32) rfl))) (mvT hZ (hw _ (List.mem_of_getElem? (i := 33) rfl))) (mvT hZ (hw _ (List.mem_of_getElem? (i := 34) rfl))) (mvT hZ (hw _ (List.mem_of_getElem? (i := 35) rfl))) (by decide) (backOf (W := 0) (rmLongCmp l Z a0 hw [] x1 x2 (own_lc x1 x2) h0 n0 Z0 rfl) hZ (hw _ (List.mem_of_getElem? (i := 35) rfl)) (hw _ (List.mem_of_getElem? (i := 34) rfl)) (by decide) (by decide)) (g := (mkF m 8 #[.val (.ref p0), .val (.ref p1), .unset] [(.long x2), (.long x1)])) rfl (by rw [hml]; rfl) (argsL := [(.long x1), (.long x2)]) (rest := []) (lenOf pd__JJ_I rfl) rfl (by show 2 * 0 + _ ≤ _; exact Nat.le_of_eq rfl) (hb hby d5_8) (fun _ _ => ⟨rfl, e2, (by decide : 0 + 0 ≤ _), (by decide : 0 + 0 ≤ _)⟩)
  dsimp only [Pt.U, Pt.locs, Pt.cells, Pt.slots] at X3 l3 y3 z3 st3 hQ3
  subst l3 y3 z3
  obtain ⟨rfl, Nq3, e3⟩ := hQ3
  have N3 := Fr.app N0 Nq3
  have pre5 : ∀ t, Steps p.tables e below (T3.setTop (mkF m 13 #[.val (.ref p0), .val (.ref p1), .val (.int (own_lc x1 x2))] [(.int (own_lc x1 x2))])) t → Steps p.tables e below (s₁.setTop (entryFrame m #[(.ref p0), (.ref p1)] 3)) t := fun t kt => pre0 t (by
    show Steps p.tables e below (s₁.setTop (mkF m 0 #[.val (.ref p0), .val (.ref p1), .unset] [])) _
    refine XS.aloadN X0.here hx rfl (hb hby d5_0) rfl rfl ?_
    show Steps p.tables e below (s₁.setTop (mkF m 1 #[.val (.ref p0), .val (.ref p1), .unset] [(.ref p0)])) _
    refine st1 _ ?_
    show Steps p.tables e below (T1.setTop (mkF m 4 #[.val (.ref p0), .val (.ref p1), .unset] [(.long x1)])) _
    refine XS.aloadN X1.here hx rfl (hb hby d5_4) rfl rfl ?_
    show Steps p.tables e below (T1.setTop (mkF m 5 #[.val (.ref p0), .val (.ref p1), .unset] [(.ref p1), (.long x1)])) _
    refine st2 _ ?_
    show Steps p.tables e below (T2.setTop (mkF m 8 #[.val (.ref p0), .val (.ref p1), .unset] [(.long x2), (.long x1)])) _
    refine st3 _ ?_
    show Steps p.tables e below (T3.setTop (mkF m 11 #[.val (.ref p0), .val (.ref p1), .unset] [(.int (own_lc x1 x2))])) _
    refine XS.istoreN X3.here hx rfl (hb hby d5_11) rfl (l' := #[.val (.ref p0), .val (.ref p1), .val (.int (own_lc x1 x2))]) rfl ?_
    show Steps p.tables e below (T3.setTop (mkF m 12 #[.val (.ref p0), .val (.ref p1), .val (.int (own_lc x1 x2))] [])) _
    refine XS.iloadN X3.here hx rfl (hb hby d5_12) rfl  ?_
    exact kt)
  by_cases hc13_4 : (own_lc x1 x2) = (0 : Int32)
  · obtain ⟨T6, X6, e6, st6⟩ := getF X3 hx hZ hown (host := "") (Or.inl (hw _ (List.mem_of_getElem? (i := 23) rfl))) Via.refl e3 Fo0 (g := (mkF m 21 #[.val (.ref p0), .val (.ref p1), .val (.int (own_lc x1 x2))] [(.ref p0)])) rfl rfl (hb hby d5_21)
    obtain ⟨T7, X7, e7, st7⟩ := getF X6 hx hZ hown (host := "") (Or.inl (hw _ (List.mem_of_getElem? (i := 23) rfl))) Via.refl e6 Fo1 (g := (mkF m 25 #[.val (.ref p0), .val (.ref p1), .val (.int (own_lc x1 x2))] [(.ref p1), (.long o1)])) rfl rfl (hb hby d5_25)
    obtain ⟨_, _, ⟨T8, L8, k8, n8⟩, -, X8, ⟨Lc8, hQ8, l8, y8, z8⟩, st8⟩ := Jvm.LawKit.callS X7 hx (y := (⟨"java/lang/Long", "compare", "(JJ)I"⟩ : MethodName)) hown (mvT hZ (hw _ (List.mem_of_getElem? (i := 32) rfl))) (mvT hZ (hw _ (List.mem_of_getElem? (i := 33) rfl))) (mvT hZ (hw _ (List.mem_of_getElem? (i := 34) rfl))) (mvT hZ (hw _ (List.mem_of_getElem? (i := 35) rfl))) (by decide) (backOf (W := 0) (rmLongCmp l Z a0 hw [] o1 o2 (own_lc o1 o2) h0 n0 Z0 rfl) hZ (hw _ (List.mem_of_getElem? (i := 35) rfl)) (hw _ (List.mem_of_getElem? (i := 34) rfl)) (by decide) (by decide)) (g := (mkF m 28 #[.val (.ref p0), .val (.ref p1), .val (.int (own_lc x1 x2))] [(.long o2), (.long o1)])) rfl (by rw [hml]; rfl) (argsL := [(.long o1), (.long o2)]) (rest := []) (lenOf pd__JJ_I rfl) rfl (by show 2 * 0 + _ ≤ _; exact Nat.le_of_eq rfl) (hb hby d5_28) (fun _ _ => ⟨rfl, e7, (by decide : 0 + 0 ≤ _), (by decide : 0 + 0 ≤ _)⟩)
    dsimp only [Pt.U, Pt.locs, Pt.cells, Pt.slots] at X8 l8 y8 z8 st8 hQ8
    subst l8 y8 z8
    obtain ⟨rfl, Nq8, e8⟩ := hQ8
    have N8 := Fr.app N3 Nq8
    obtain ⟨fs, hr, hrun, hended, hW, hsame⟩ := X8.leave (v := some (.int (own_lc o1 o2))) (fun h => by rw [Bd.returns] at h; cases h)
    refine ⟨_, _, pre5 _ ?_, hrun, hended, _, _, rfl, ?_, ⟨_, rfl⟩, hW, hsame.mono (by decide) (by decide)⟩
    · show Steps p.tables e below (T3.setTop (mkF m 13 #[.val (.ref p0), .val (.ref p1), .val (.int (own_lc x1 x2))] [(.int (own_lc x1 x2))])) _
      refine XS.ifYes X3.here hx rfl (pc0 := 13) (pc' := 20) rfl (hb hby d5_13) rfl ((if0 _ _).trans (teq hc13_4).1) (by decide) (by decide) ?_
      show Steps p.tables e below (T3.setTop (mkF m 20 #[.val (.ref p0), .val (.ref p1), .val (.int (own_lc x1 x2))] [])) _
      refine XS.aloadN X3.here hx rfl (hb hby d5_20) rfl rfl ?_
      show Steps p.tables e below (T3.setTop (mkF m 21 #[.val (.ref p0), .val (.ref p1), .val (.int (own_lc x1 x2))] [(.ref p0)])) _
      refine st6 _ ?_
      show Steps p.tables e below (T6.setTop (mkF m 24 #[.val (.ref p0), .val (.ref p1), .val (.int (own_lc x1 x2))] [(.long o1)])) _
      refine XS.aloadN X6.here hx rfl (hb hby d5_24) rfl rfl ?_
      show Steps p.tables e below (T6.setTop (mkF m 25 #[.val (.ref p0), .val (.ref p1), .val (.int (own_lc x1 x2))] [(.ref p1), (.long o1)])) _
      refine st7 _ ?_
      show Steps p.tables e below (T7.setTop (mkF m 28 #[.val (.ref p0), .val (.ref p1), .val (.int (own_lc x1 x2))] [(.long o2), (.long o1)])) _
      refine st8 _ ?_
      show Steps p.tables e below (T8.setTop (mkF m 31 #[.val (.ref p0), .val (.ref p1), .val (.int (own_lc x1 x2))] [(.int (own_lc o1 o2))])) _
      exact retI X8 hx Bd.returns (hb hby d5_31) hr
    · show Q_rmCompareTo Z p0 p1 x1 o1 x2 o2 r h0 n0 _ T8.heap _
      rw [e8]
      exact ⟨by rw [hres]; unfold own_cmp; rw [if_pos hc13_4], N8, rfl⟩
  · obtain ⟨fs, hr, hrun, hended, hW, hsame⟩ := X3.leave (v := some (.int (own_lc x1 x2))) (fun h => by rw [Bd.returns] at h; cases h)
    refine ⟨_, _, pre5 _ ?_, hrun, hended, _, _, rfl, ?_, ⟨_, rfl⟩, hW, hsame.mono (by decide) (by decide)⟩
    · show Steps p.tables e below (T3.setTop (mkF m 13 #[.val (.ref p0), .val (.ref p1), .val (.int (own_lc x1 x2))] [(.int (own_lc x1 x2))])) _
      refine XS.ifNo X3.here hx rfl (hb hby d5_13) rfl ((if0 _ _).trans (feq hc13_4).1) ?_
      show Steps p.tables e below (T3.setTop (mkF m 16 #[.val (.ref p0), .val (.ref p1), .val (.int (own_lc x1 x2))] [])) _
      refine XS.iloadN X3.here hx rfl (hb hby d5_16) rfl  ?_
      show Steps p.tables e below (T3.setTop (mkF m 17 #[.val (.ref p0), .val (.ref p1), .val (.int (own_lc x1 x2))] [(.int (own_lc x1 x2))])) _
      refine XS.goto X3.here hx rfl (pc0 := 17) (pc' := 31) rfl (hb hby d5_17) (by decide) (by decide) ?_
      show Steps p.tables e below (T3.setTop (mkF m 31 #[.val (.ref p0), .val (.ref p1), .val (.int (own_lc x1 x2))] [(.int (own_lc x1 x2))])) _
      exact retI X3 hx Bd.returns (hb hby d5_31) hr
    · show Q_rmCompareTo Z p0 p1 x1 o1 x2 o2 r h0 n0 _ T3.heap _
      rw [e3]
      exact ⟨by rw [hres]; unfold own_cmp; rw [if_neg hc13_4], N3, rfl⟩
theorem ef_rm0 (m : MethodId) (p0 : Int64) (p1 : Int64) (p2 : Int64) (p3 : Int64) (p4 : Int32) : entryFrame m #[(.long p0), (.long p1), (.long p2), (.long p3), (.int p4)] maxLocals = mkF m 0 #[.val (.long p0), .second, .val (.long p1), .second, .val (.long p2), .second, .val (.long p3), .second, .val (.int p4), .unset, .unset, .unset, .unset, .unset, .unset, .unset, .unset, .unset, .unset, .unset] [] := by first | (simp [entryFrame, mkF, argsToLocals, Value.category, maxLocals]; done) | rfl
theorem pd__I_Ljava_lang_Integer_ : parseMethodDescriptor "(I)Ljava/lang/Integer;" = some ⟨[.int], some (.object "java/lang/Integer")⟩ := by decide +kernel
theorem pd__JJLjava_lang_Object__V : parseMethodDescriptor "(JJLjava/lang/Object;)V" = some ⟨[.long, .long, (.object "java/lang/Object")], none⟩ := by decide +kernel
theorem pd__Lshardwell_container_ExpiryQueue_Timer__I : parseMethodDescriptor "(Lshardwell/container/ExpiryQueue$Timer;)I" = some ⟨[(.object "shardwell/container/ExpiryQueue$Timer")], some .int⟩ := by decide +kernel
theorem pd__I_I : parseMethodDescriptor "(I)I" = some ⟨[.int], some .int⟩ := by decide +kernel
def Q_rm0 (Z : State) (p0 : Int64) (p1 : Int64) (p2 : Int64) (p3 : Int64) (p4 : Int32) (wC : Addr) (cl : Cell) (h0 : Heap) (n0 : Nat) (v : Option Value) (h : Heap) (L : List Loc) : Prop := v = some (.int (1 : Int32)) ∧ Fr n0 L
set_option maxRecDepth 65536 in
set_option maxHeartbeats 40000000 in
theorem rm0 (l : Launch) (Z : State) (a0 : Array Value) (hw : ∀ d ∈ tables_1, d.before a0 Z = true) (ws : List Jvm.Cond) (p0 : Int64) (p1 : Int64) (p2 : Int64) (p3 : Int64) (p4 : Int32) (wC : Addr) (cl : Cell) (h0 : Heap) (n0 : Nat) (Z0 : n0 ≤ h0.size) (Ol : Old Z n0 h0) (S_high : Sta Z Z.heap "java/lang/Integer$IntegerCache" "high" "I" (.int (127 : Int32))) (S_cache : Sta Z Z.heap "java/lang/Integer$IntegerCache" "cache" "[Ljava/lang/Integer;" (.ref wC)) (Ar : Arr Z Z.heap wC cl (.object "java/lang/Integer")) (hsz : cl.slots.size = 256) (hel : ∀ j : Int32, ¬ (j < 0 ∨ cl.slots.size ≤ j.toNatClampNeg) → ∃ x, cl.slots[j.toNatClampNeg]? = some (.ref x)) :
    MetFree l x (head1 (Jvm.Cond.code x code maxLocals ret :: ws) room_1) (fun a U => a = #[(.long p0), (.long p1), (.long p2), (.long p3), (.int p4)] ∧ Z.Warmed39 U.vm ∧ U.heap = h0) (fun _ _ _ _ _ => True) (fun _ U o U' => ∃ v L, o = .returned v ∧ Q_rm0 Z p0 p1 p2 p3 p4 wC cl h0 n0 v U'.heap L ∧ FrameEnd U o U' L room_1.cells room_1.slots) := by
  refine MetFree.of_bodySF (plainFor_of_name pn_shardwell_container_TimerCompareToPinLaw) hisR ?_
  intro p e s m args below meth c s₁ Bd hml0 hP hK
  obtain ⟨rfl, hZ, hh⟩ := hP
  have hx := Bd.exec
  have hby := Bd.bytes
  have hml : c.maxLocals = 20 := hml0
  have hown : s.vm.findClass "shardwell/container/TimerCompareToPinLaw" = some m.cls := findClass_of_methodNamed Bd.named
  have hnm := (name_of_methodNamed Bd.named Bd.method).1
  have X0 : Stand p l e room_1 s m #[(.long p0), (.long p1), (.long p2), (.long p3), (.int p4)] below meth c s₁ [] 0 0 := Stand.of_body Bd
  have e0 : s₁.heap = h0 := by rw [← hh, Bd.state]; rfl
  have N0 := Fr.nil n0
  have pre0 : ∀ t, Steps p.tables e below (s₁.setTop (mkF m 0 #[.val (.long p0), .second, .val (.long p1), .second, .val (.long p2), .second, .val (.long p3), .second, .val (.int p4), .unset, .unset, .unset, .unset, .unset, .unset, .unset, .unset, .unset, .unset, .unset] [])) t → Steps p.tables e below (s₁.setTop (entryFrame m #[(.long p0), (.long p1), (.long p2), (.long p3), (.int p4)] maxLocals)) t := fun t k => castTop (ef_rm0 m p0 p1 p2 p3 p4 ) k
  obtain ⟨at2, pre1⟩ : ∃ at2 : Int64, ∀ t, Steps p.tables e below (s₁.setTop (mkF m 13 #[.val (.long p0), .second, .val (.long p1), .second, .val (.long p2), .second, .val (.long p3), .second, .val (.int p4), .unset, .unset, .unset, .unset, .unset, .unset, .unset, .unset, .unset, .unset, .unset] [(.long at2)])) t → Steps p.tables e below (s₁.setTop (entryFrame m #[(.long p0), (.long p1), (.long p2), (.long p3), (.int p4)] maxLocals)) t := by
    have pre3 : ∀ t, Steps p.tables e below (s₁.setTop (mkF m 4 #[.val (.long p0), .second, .val (.long p1), .second, .val (.long p2), .second, .val (.long p3), .second, .val (.int p4), .unset, .unset, .unset, .unset, .unset, .unset, .unset, .unset, .unset, .unset, .unset] [(.int (p4 &&& (1 : Int32)))])) t → Steps p.tables e below (s₁.setTop (entryFrame m #[(.long p0), (.long p1), (.long p2), (.long p3), (.int p4)] maxLocals)) t := fun t kt => pre0 t (by
      show Steps p.tables e below (s₁.setTop (mkF m 0 #[.val (.long p0), .second, .val (.long p1), .second, .val (.long p2), .second, .val (.long p3), .second, .val (.int p4), .unset, .unset, .unset, .unset, .unset, .unset, .unset, .unset, .unset, .unset, .unset] [])) _
      refine XS.iload X0.here hx rfl (hb hby at_0) rfl  ?_
      show Steps p.tables e below (s₁.setTop (mkF m 2 #[.val (.long p0), .second, .val (.long p1), .second, .val (.long p2), .second, .val (.long p3), .second, .val (.int p4), .unset, .unset, .unset, .unset, .unset, .unset, .unset, .unset, .unset, .unset, .unset] [(.int p4)])) _
      refine XS.iconst X0.here hx rfl (hb hby at_2) ?_
      show Steps p.tables e below (s₁.setTop (mkF m 3 #[.val (.long p0), .second, .val (.long p1), .second, .val (.long p2), .second, .val (.long p3), .second, .val (.int p4), .unset, .unset, .unset, .unset, .unset, .unset, .unset, .unset, .unset, .unset, .unset] [(.int (1 : Int32)), (.int p4)])) _
      refine XS.iand X0.here hx rfl (hb hby at_3) rfl ?_
      exact kt)
    by_cases hc4_2 : (p4 &&& (1 : Int32)) = (0 : Int32)
    · exact ⟨p2, fun t kt => pre3 t (by
        show Steps p.tables e below (s₁.setTop (mkF m 4 #[.val (.long p0), .second, .val (.long p1), .second, .val (.long p2), .second, .val (.long p3), .second, .val (.int p4), .unset, .unset, .unset, .unset, .unset, .unset, .unset, .unset, .unset, .unset, .unset] [(.int (p4 &&& (1 : Int32)))])) _
        refine XS.ifYes X0.here hx rfl (pc0 := 4) (pc' := 11) rfl (hb hby at_4) rfl ((if0 _ _).trans (teq hc4_2).1) (by decide) (by decide) ?_
        show Steps p.tables e below (s₁.setTop (mkF m 11 #[.val (.long p0), .second, .val (.long p1), .second, .val (.long p2), .second, .val (.long p3), .second, .val (.int p4), .unset, .unset, .unset, .unset, .unset, .unset, .unset, .unset, .unset, .unset, .unset] [])) _
        refine XS.lload X0.here hx rfl (hb hby at_11) rfl  ?_
        exact kt)⟩
    · exact ⟨p0, fun t kt => pre3 t (by
        show Steps p.tables e below (s₁.setTop (mkF m 4 #[.val (.long p0), .second, .val (.long p1), .second, .val (.long p2), .second, .val (.long p3), .second, .val (.int p4), .unset, .unset, .unset, .unset, .unset, .unset, .unset, .unset, .unset, .unset, .unset] [(.int (p4 &&& (1 : Int32)))])) _
        refine XS.ifNo X0.here hx rfl (hb hby at_4) rfl ((if0 _ _).trans (feq hc4_2).1) ?_
        show Steps p.tables e below (s₁.setTop (mkF m 7 #[.val (.long p0), .second, .val (.long p1), .second, .val (.long p2), .second, .val (.long p3), .second, .val (.int p4), .unset, .unset, .unset, .unset, .unset, .unset, .unset, .unset, .unset, .unset, .unset] [])) _
        refine XS.lloadN X0.here hx rfl (hb hby at_7) rfl  ?_
        show Steps p.tables e below (s₁.setTop (mkF m 8 #[.val (.long p0), .second, .val (.long p1), .second, .val (.long p2), .second, .val (.long p3), .second, .val (.int p4), .unset, .unset, .unset, .unset, .unset, .unset, .unset, .unset, .unset, .unset, .unset] [(.long p0)])) _
        refine XS.goto X0.here hx rfl (pc0 := 8) (pc' := 13) rfl (hb hby at_8) (by decide) (by decide) ?_
        exact kt)⟩
  have pre4 : ∀ t, Steps p.tables e below (s₁.setTop (mkF m 15 #[.val (.long p0), .second, .val (.long p1), .second, .val (.long p2), .second, .val (.long p3), .second, .val (.int p4), .val (.long at2), .second, .unset, .unset, .unset, .unset, .unset, .unset, .unset, .unset, .unset] [])) t → Steps p.tables e below (s₁.setTop (entryFrame m #[(.long p0), (.long p1), (.long p2), (.long p3), (.int p4)] maxLocals)) t := fun t kt => pre1 t (by
    show Steps p.tables e below (s₁.setTop (mkF m 13 #[.val (.long p0), .second, .val (.long p1), .second, .val (.long p2), .second, .val (.long p3), .second, .val (.int p4), .unset, .unset, .unset, .unset, .unset, .unset, .unset, .unset, .unset, .unset, .unset] [(.long at2)])) _
    refine XS.lstore X0.here hx rfl (hb hby at_13) rfl (l' := #[.val (.long p0), .second, .val (.long p1), .second, .val (.long p2), .second, .val (.long p3), .second, .val (.int p4), .val (.long at2), .second, .unset, .unset, .unset, .unset, .unset, .unset, .unset, .unset, .unset]) rfl ?_
    exact kt)
  obtain ⟨od2, pre5⟩ : ∃ od2 : Int64, ∀ t, Steps p.tables e below (s₁.setTop (mkF m 28 #[.val (.long p0), .second, .val (.long p1), .second, .val (.long p2), .second, .val (.long p3), .second, .val (.int p4), .val (.long at2), .second, .unset, .unset, .unset, .unset, .unset, .unset, .unset, .unset, .unset] [(.long od2)])) t → Steps p.tables e below (s₁.setTop (entryFrame m #[(.long p0), (.long p1), (.long p2), (.long p3), (.int p4)] maxLocals)) t := by
    have pre7 : ∀ t, Steps p.tables e below (s₁.setTop (mkF m 19 #[.val (.long p0), .second, .val (.long p1), .second, .val (.long p2), .second, .val (.long p3), .second, .val (.int p4), .val (.long at2), .second, .unset, .unset, .unset, .unset, .unset, .unset, .unset, .unset, .unset] [(.int (p4 &&& (2 : Int32)))])) t → Steps p.tables e below (s₁.setTop (entryFrame m #[(.long p0), (.long p1), (.long p2), (.long p3), (.int p4)] maxLocals)) t := fun t kt => pre4 t (by
      show Steps p.tables e below (s₁.setTop (mkF m 15 #[.val (.long p0), .second, .val (.long p1), .second, .val (.long p2), .second, .val (.long p3), .second, .val (.int p4), .val (.long at2), .second, .unset, .unset, .unset, .unset, .unset, .unset, .unset, .unset, .unset] [])) _
      refine XS.iload X0.here hx rfl (hb hby at_15) rfl  ?_
      show Steps p.tables e below (s₁.setTop (mkF m 17 #[.val (.long p0), .second, .val (.long p1), .second, .val (.long p2), .second, .val (.long p3), .second, .val (.int p4), .val (.long at2), .second, .unset, .unset, .unset, .unset, .unset, .unset, .unset, .unset, .unset] [(.int p4)])) _
      refine XS.iconst X0.here hx rfl (hb hby at_17) ?_
      show Steps p.tables e below (s₁.setTop (mkF m 18 #[.val (.long p0), .second, .val (.long p1), .second, .val (.long p2), .second, .val (.long p3), .second, .val (.int p4), .val (.long at2), .second, .unset, .unset, .unset, .unset, .unset, .unset, .unset, .unset, .unset] [(.int (2 : Int32)), (.int p4)])) _
      refine XS.iand X0.here hx rfl (hb hby at_18) rfl ?_
      exact kt)
    by_cases hc19_6 : (p4 &&& (2 : Int32)) = (0 : Int32)
    · exact ⟨p3, fun t kt => pre7 t (by
        show Steps p.tables e below (s₁.setTop (mkF m 19 #[.val (.long p0), .second, .val (.long p1), .second, .val (.long p2), .second, .val (.long p3), .second, .val (.int p4), .val (.long at2), .second, .unset, .unset, .unset, .unset, .unset, .unset, .unset, .unset, .unset] [(.int (p4 &&& (2 : Int32)))])) _
        refine XS.ifYes X0.here hx rfl (pc0 := 19) (pc' := 26) rfl (hb hby at_19) rfl ((if0 _ _).trans (teq hc19_6).1) (by decide) (by decide) ?_
        show Steps p.tables e below (s₁.setTop (mkF m 26 #[.val (.long p0), .second, .val (.long p1), .second, .val (.long p2), .second, .val (.long p3), .second, .val (.int p4), .val (.long at2), .second, .unset, .unset, .unset, .unset, .unset, .unset, .unset, .unset, .unset] [])) _
        refine XS.lload X0.here hx rfl (hb hby at_26) rfl  ?_
        exact kt)⟩
    · exact ⟨p1, fun t kt => pre7 t (by
        show Steps p.tables e below (s₁.setTop (mkF m 19 #[.val (.long p0), .second, .val (.long p1), .second, .val (.long p2), .second, .val (.long p3), .second, .val (.int p4), .val (.long at2), .second, .unset, .unset, .unset, .unset, .unset, .unset, .unset, .unset, .unset] [(.int (p4 &&& (2 : Int32)))])) _
        refine XS.ifNo X0.here hx rfl (hb hby at_19) rfl ((if0 _ _).trans (feq hc19_6).1) ?_
        show Steps p.tables e below (s₁.setTop (mkF m 22 #[.val (.long p0), .second, .val (.long p1), .second, .val (.long p2), .second, .val (.long p3), .second, .val (.int p4), .val (.long at2), .second, .unset, .unset, .unset, .unset, .unset, .unset, .unset, .unset, .unset] [])) _
        refine XS.lloadN X0.here hx rfl (hb hby at_22) rfl  ?_
        show Steps p.tables e below (s₁.setTop (mkF m 23 #[.val (.long p0), .second, .val (.long p1), .second, .val (.long p2), .second, .val (.long p3), .second, .val (.int p4), .val (.long at2), .second, .unset, .unset, .unset, .unset, .unset, .unset, .unset, .unset, .unset] [(.long p1)])) _
        refine XS.goto X0.here hx rfl (pc0 := 23) (pc' := 28) rfl (hb hby at_23) (by decide) (by decide) ?_
        exact kt)⟩
  obtain ⟨_, _, ⟨T8, L8, k8, n8⟩, -, X8, ⟨Lc8, hQ8, l8, y8, z8⟩, st8⟩ := Jvm.LawKit.callS X0 hx (y := (⟨"java/lang/Integer", "valueOf", "(I)Ljava/lang/Integer;"⟩ : MethodName)) hown (mvT hZ (hw _ (List.mem_of_getElem? (i := 0) rfl))) (mvT hZ (hw _ (List.mem_of_getElem? (i := 1) rfl))) (mvT hZ (hw _ (List.mem_of_getElem? (i := 2) rfl))) (mvT hZ (hw _ (List.mem_of_getElem? (i := 3) rfl))) (by decide) (backOf (W := 0) (rmValueOf l Z a0 hw [] p4 wC cl h0 n0 Z0 Ol S_high S_cache Ar hsz hel) hZ (hw _ (List.mem_of_getElem? (i := 3) rfl)) (hw _ (List.mem_of_getElem? (i := 2) rfl)) (by decide) (by decide)) (g := (mkF m 32 #[.val (.long p0), .second, .val (.long p1), .second, .val (.long p2), .second, .val (.long p3), .second, .val (.int p4), .val (.long at2), .second, .val (.long od2), .second, .unset, .unset, .unset, .unset, .unset, .unset, .unset] [(.int p4)])) rfl (by rw [hml]; rfl) (argsL := [(.int p4)]) (rest := []) (lenOf pd__I_Ljava_lang_Integer_ rfl) rfl (by show 2 * 0 + _ ≤ _; exact Nat.le_of_eq rfl) (hb hby at_32) (fun _ _ => ⟨rfl, e0, (by decide : 0 + 1 ≤ _), (by decide : 0 + 1 ≤ _)⟩)
  dsimp only [Pt.U, Pt.locs, Pt.cells, Pt.slots] at X8 l8 y8 z8 st8 hQ8
  subst l8 y8 z8
  obtain ⟨⟨ra8, rfl⟩, Nq8, K8⟩ := hQ8
  have N8 := Fr.app N0 Nq8
  have pre10 : ∀ t, Steps p.tables e below (T8.setTop (mkF m 41 #[.val (.long p0), .second, .val (.long p1), .second, .val (.long p2), .second, .val (.long p3), .second, .val (.int p4), .val (.long at2), .second, .val (.long od2), .second, .val (.ref ra8), .unset, .unset, .unset, .unset, .unset, .unset] [(.int (p4 &&& (4 : Int32)))])) t → Steps p.tables e below (s₁.setTop (entryFrame m #[(.long p0), (.long p1), (.long p2), (.long p3), (.int p4)] maxLocals)) t := fun t kt => pre5 t (by
    show Steps p.tables e below (s₁.setTop (mkF m 28 #[.val (.long p0), .second, .val (.long p1), .second, .val (.long p2), .second, .val (.long p3), .second, .val (.int p4), .val (.long at2), .second, .unset, .unset, .unset, .unset, .unset, .unset, .unset, .unset, .unset] [(.long od2)])) _
    refine XS.lstore X0.here hx rfl (hb hby at_28) rfl (l' := #[.val (.long p0), .second, .val (.long p1), .second, .val (.long p2), .second, .val (.long p3), .second, .val (.int p4), .val (.long at2), .second, .val (.long od2), .second, .unset, .unset, .unset, .unset, .unset, .unset, .unset]) rfl ?_
    show Steps p.tables e below (s₁.setTop (mkF m 30 #[.val (.long p0), .second, .val (.long p1), .second, .val (.long p2), .second, .val (.long p3), .second, .val (.int p4), .val (.long at2), .second, .val (.long od2), .second, .unset, .unset, .unset, .unset, .unset, .unset, .unset] [])) _
    refine XS.iload X0.here hx rfl (hb hby at_30) rfl  ?_
    show Steps p.tables e below (s₁.setTop (mkF m 32 #[.val (.long p0), .second, .val (.long p1), .second, .val (.long p2), .second, .val (.long p3), .second, .val (.int p4), .val (.long at2), .second, .val (.long od2), .second, .unset, .unset, .unset, .unset, .unset, .unset, .unset] [(.int p4)])) _
    refine st8 _ ?_
    show Steps p.tables e below (T8.setTop (mkF m 35 #[.val (.long p0), .second, .val (.long p1), .second, .val (.long p2), .second, .val (.long p3), .second, .val (.int p4), .val (.long at2), .second, .val (.long od2), .second, .unset, .unset, .unset, .unset, .unset, .unset, .unset] [(.ref ra8)])) _
    refine XS.astore X8.here hx rfl (hb hby at_35) rfl rfl (l' := #[.val (.long p0), .second, .val (.long p1), .second, .val (.long p2), .second, .val (.long p3), .second, .val (.int p4), .val (.long at2), .second, .val (.long od2), .second, .val (.ref ra8), .unset, .unset, .unset, .unset, .unset, .unset]) rfl ?_
    show Steps p.tables e below (T8.setTop (mkF m 37 #[.val (.long p0), .second, .val (.long p1), .second, .val (.long p2), .second, .val (.long p3), .second, .val (.int p4), .val (.long at2), .second, .val (.long od2), .second, .val (.ref ra8), .unset, .unset, .unset, .unset, .unset, .unset] [])) _
    refine XS.iload X8.here hx rfl (hb hby at_37) rfl  ?_
    show Steps p.tables e below (T8.setTop (mkF m 39 #[.val (.long p0), .second, .val (.long p1), .second, .val (.long p2), .second, .val (.long p3), .second, .val (.int p4), .val (.long at2), .second, .val (.long od2), .second, .val (.ref ra8), .unset, .unset, .unset, .unset, .unset, .unset] [(.int p4)])) _
    refine XS.iconst X8.here hx rfl (hb hby at_39) ?_
    show Steps p.tables e below (T8.setTop (mkF m 40 #[.val (.long p0), .second, .val (.long p1), .second, .val (.long p2), .second, .val (.long p3), .second, .val (.int p4), .val (.long at2), .second, .val (.long od2), .second, .val (.ref ra8), .unset, .unset, .unset, .unset, .unset, .unset] [(.int (4 : Int32)), (.int p4)])) _
    refine XS.iand X8.here hx rfl (hb hby at_40) rfl ?_
    exact kt)
  by_cases hc41_9 : (p4 &&& (4 : Int32)) = (0 : Int32)
  · have f11 := (Nat.le_trans Z0 K8.1)
    have f12 := (Ol.keep K8 all0)
    obtain ⟨_, _, ⟨T13, L13, k13, n13⟩, -, X13, ⟨Lc13, hQ13, l13, y13, z13⟩, st13⟩ := Jvm.LawKit.callS X8 hx (y := (⟨"java/lang/Integer", "valueOf", "(I)Ljava/lang/Integer;"⟩ : MethodName)) hown (mvT hZ (hw _ (List.mem_of_getElem? (i := 0) rfl))) (mvT hZ (hw _ (List.mem_of_getElem? (i := 1) rfl))) (mvT hZ (hw _ (List.mem_of_getElem? (i := 2) rfl))) (mvT hZ (hw _ (List.mem_of_getElem? (i := 3) rfl))) (by decide) (backOf (W := 0) (rmValueOf l Z a0 hw [] ((p4.toUInt32 >>> ((3 : Int32) &&& 31).toUInt32).toInt32) wC cl T8.heap n0 f11 f12 S_high S_cache Ar hsz hel) hZ (hw _ (List.mem_of_getElem? (i := 3) rfl)) (hw _ (List.mem_of_getElem? (i := 2) rfl)) (by decide) (by decide)) (g := (mkF m 52 #[.val (.long p0), .second, .val (.long p1), .second, .val (.long p2), .second, .val (.long p3), .second, .val (.int p4), .val (.long at2), .second, .val (.long od2), .second, .val (.ref ra8), .unset, .unset, .unset, .unset, .unset, .unset] [(.int ((p4.toUInt32 >>> ((3 : Int32) &&& 31).toUInt32).toInt32))])) rfl (by rw [hml]; rfl) (argsL := [(.int ((p4.toUInt32 >>> ((3 : Int32) &&& 31).toUInt32).toInt32))]) (rest := []) (lenOf pd__I_Ljava_lang_Integer_ rfl) rfl (by show 2 * 0 + _ ≤ _; exact Nat.le_of_eq rfl) (hb hby at_52) (fun _ _ => ⟨rfl, rfl, (by decide : 1 + 1 ≤ _), (by decide : 1 + 1 ≤ _)⟩)
    dsimp only [Pt.U, Pt.locs, Pt.cells, Pt.slots] at X13 l13 y13 z13 st13 hQ13
    subst l13 y13 z13
    obtain ⟨⟨ra13, rfl⟩, Nq13, K13⟩ := hQ13
    have N13 := Fr.app N8 Nq13
    obtain ⟨T14, h14, X14, e14, E14, A14, D14, -, st14⟩ := newO X13 hx hZ hown (hw _ (List.mem_of_getElem? (i := 7) rfl)) (hw _ (List.mem_of_getElem? (i := 8) rfl)) (hw _ (List.mem_of_getElem? (i := 9) rfl)) rfl (g := (mkF m 57 #[.val (.long p0), .second, .val (.long p1), .second, .val (.long p2), .second, .val (.long p3), .second, .val (.int p4), .val (.long at2), .second, .val (.long od2), .second, .val (.ref ra8), .val (.ref ra13), .unset, .unset, .unset, .unset, .unset] [])) rfl (hb hby at_57) (by decide) (by decide)
    obtain ⟨b14, g14⟩ : ∃ z, z = T13.heap.size := ⟨_, rfl⟩
    rw [← g14] at A14 D14 st14
    have f15 := (Nat.le_trans f11 K13.1)
    have ge14 : n0 ≤ b14 := Nat.le_trans f15 (Nat.le_of_eq g14.symm)
    have F14_at : Fld Z h14 b14 "shardwell/container/ExpiryQueue$Timer" "at" "J" (.long (0 : Int64)) := D14 (Or.inr (hw _ (List.mem_of_getElem? (i := 22) rfl))) (ty := .long) (by decide)
    have F14_order : Fld Z h14 b14 "shardwell/container/ExpiryQueue$Timer" "order" "J" (.long (0 : Int64)) := D14 (Or.inr (hw _ (List.mem_of_getElem? (i := 24) rfl))) (ty := .long) (by decide)
    have F14_key : Fld Z h14 b14 "shardwell/container/ExpiryQueue$Timer" "key" "Ljava/lang/Object;" .null := D14 (Or.inr (hw _ (List.mem_of_getElem? (i := 26) rfl))) (ty := (.object "java/lang/Object")) (by decide)
    have f16 := (Nat.le_trans f15 E14.1)
    obtain ⟨_, _, ⟨T17, L17, k17, n17⟩, -, X17, ⟨Lc17, hQ17, l17, y17, z17⟩, st17⟩ := X14.specialBack hx (y := (⟨"shardwell/container/ExpiryQueue$Timer", "<init>", "(JJLjava/lang/Object;)V"⟩ : MethodName)) rfl hown (mvT hZ (hw _ (List.mem_of_getElem? (i := 10) rfl))) (mvT hZ (hw _ (List.mem_of_getElem? (i := 11) rfl))) (mvT hZ (hw _ (List.mem_of_getElem? (i := 12) rfl))) (by decide) (backOf (W := 1) (rmTimer l Z a0 hw [] b14 p0 p1 ra8 h14 n0 f16 A14 F14_at F14_order F14_key ge14) hZ (hw _ (List.mem_of_getElem? (i := 12) rfl)) (hw _ (List.mem_of_getElem? (i := 9) rfl)) (by decide) (by decide)) (g := (mkF m 65 #[.val (.long p0), .second, .val (.long p1), .second, .val (.long p2), .second, .val (.long p3), .second, .val (.int p4), .val (.long at2), .second, .val (.long od2), .second, .val (.ref ra8), .val (.ref ra13), .unset, .unset, .unset, .unset, .unset] [(.ref ra8), (.long p1), (.long p0), (.ref b14), (.ref b14)])) rfl (by rw [hml]; rfl) (Steps.refl _) (a := b14) (argsL := [(.long p0), (.long p1), (.ref ra8)]) (rest := [(.ref b14)]) (lenOf pd__JJLjava_lang_Object__V rfl) rfl (by show 2 * 0 + _ ≤ _; exact Nat.le_of_eq rfl) (hb hby at_65) (fun _ _ => ⟨rfl, e14, (by decide : 3 + 0 ≤ _), (by decide : 5 + 0 ≤ _)⟩)
    dsimp only [Pt.U, Pt.locs, Pt.cells, Pt.slots] at X17 l17 y17 z17 st17 hQ17
    subst l17 y17 z17
    obtain ⟨rfl, Nq17, K17, Fa17, Fo17⟩ := hQ17
    have N17 := Fr.app N13 Nq17
    have f18 := (A14.keep K17)
    obtain ⟨T19, h19, X19, e19, E19, A19, D19, -, st19⟩ := newO X17 hx hZ hown (hw _ (List.mem_of_getElem? (i := 7) rfl)) (hw _ (List.mem_of_getElem? (i := 8) rfl)) (hw _ (List.mem_of_getElem? (i := 9) rfl)) rfl (g := (mkF m 70 #[.val (.long p0), .second, .val (.long p1), .second, .val (.long p2), .second, .val (.long p3), .second, .val (.int p4), .val (.long at2), .second, .val (.long od2), .second, .val (.ref ra8), .val (.ref ra13), .val (.ref b14), .unset, .unset, .unset, .unset] [])) rfl (hb hby at_70) (by decide) (by decide)
    obtain ⟨b19, g19⟩ : ∃ z, z = T17.heap.size := ⟨_, rfl⟩
    rw [← g19] at A19 D19 st19
    have ne19_b14 : b14 ≠ b19 := Nat.ne_of_lt (Nat.lt_of_lt_of_le f18.lt (Nat.le_of_eq g19.symm))
    have f20 := (Nat.le_trans f16 K17.1)
    have ge19 : n0 ≤ b19 := Nat.le_trans f20 (Nat.le_of_eq g19.symm)
    have F19_at : Fld Z h19 b19 "shardwell/container/ExpiryQueue$Timer" "at" "J" (.long (0 : Int64)) := D19 (Or.inr (hw _ (List.mem_of_getElem? (i := 22) rfl))) (ty := .long) (by decide)
    have F19_order : Fld Z h19 b19 "shardwell/container/ExpiryQueue$Timer" "order" "J" (.long (0 : Int64)) := D19 (Or.inr (hw _ (List.mem_of_getElem? (i := 24) rfl))) (ty := .long) (by decide)
    have F19_key : Fld Z h19 b19 "shardwell/container/ExpiryQueue$Timer" "key" "Ljava/lang/Object;" .null := D19 (Or.inr (hw _ (List.mem_of_getElem? (i := 26) rfl))) (ty := (.object "java/lang/Object")) (by decide)
    have f21 := (Nat.le_trans f20 E19.1)
    obtain ⟨_, _, ⟨T22, L22, k22, n22⟩, -, X22, ⟨Lc22, hQ22, l22, y22, z22⟩, st22⟩ := X19.specialBack hx (y := (⟨"shardwell/container/ExpiryQueue$Timer", "<init>", "(JJLjava/lang/Object;)V"⟩ : MethodName)) rfl hown (mvT hZ (hw _ (List.mem_of_getElem? (i := 10) rfl))) (mvT hZ (hw _ (List.mem_of_getElem? (i := 11) rfl))) (mvT hZ (hw _ (List.mem_of_getElem? (i := 12) rfl))) (by decide) (backOf (W := 1) (rmTimer l Z a0 hw [] b19 at2 od2 ra13 h19 n0 f21 A19 F19_at F19_order F19_key ge19) hZ (hw _ (List.mem_of_getElem? (i := 12) rfl)) (hw _ (List.mem_of_getElem? (i := 9) rfl)) (by decide) (by decide)) (g := (mkF m 80 #[.val (.long p0), .second, .val (.long p1), .second, .val (.long p2), .second, .val (.long p3), .second, .val (.int p4), .val (.long at2), .second, .val (.long od2), .second, .val (.ref ra8), .val (.ref ra13), .val (.ref b14), .unset, .unset, .unset, .unset] [(.ref ra13), (.long od2), (.long at2), (.ref b19), (.ref b19)])) rfl (by rw [hml]; rfl) (Steps.refl _) (a := b19) (argsL := [(.long at2), (.long od2), (.ref ra13)]) (rest := [(.ref b19)]) (lenOf pd__JJLjava_lang_Object__V rfl) rfl (by show 2 * 0 + _ ≤ _; exact Nat.le_of_eq rfl) (hb hby at_80) (fun _ _ => ⟨rfl, e19, (by decide : 4 + 0 ≤ _), (by decide : 8 + 0 ≤ _)⟩)
    dsimp only [Pt.U, Pt.locs, Pt.cells, Pt.slots] at X22 l22 y22 z22 st22 hQ22
    subst l22 y22 z22
    obtain ⟨rfl, Nq22, K22, Fa22, Fo22⟩ := hQ22
    have N22 := Fr.app N17 Nq22
    have pre24 : ∀ t, Steps p.tables e below (T22.setTop (mkF m 89 #[.val (.long p0), .second, .val (.long p1), .second, .val (.long p2), .second, .val (.long p3), .second, .val (.int p4), .val (.long at2), .second, .val (.long od2), .second, .val (.ref ra8), .val (.ref ra13), .val (.ref b14), .val (.ref b19), .unset, .unset, .unset] [(.int (lcmpW p0 at2))])) t → Steps p.tables e below (s₁.setTop (entryFrame m #[(.long p0), (.long p1), (.long p2), (.long p3), (.int p4)] maxLocals)) t := fun t kt => pre10 t (by
      show Steps p.tables e below (T8.setTop (mkF m 41 #[.val (.long p0), .second, .val (.long p1), .second, .val (.long p2), .second, .val (.long p3), .second, .val (.int p4), .val (.long at2), .second, .val (.long od2), .second, .val (.ref ra8), .unset, .unset, .unset, .unset, .unset, .unset] [(.int (p4 &&& (4 : Int32)))])) _
      refine XS.ifYes X8.here hx rfl (pc0 := 41) (pc' := 48) rfl (hb hby at_41) rfl ((if0 _ _).trans (teq hc41_9).1) (by decide) (by decide) ?_
      show Steps p.tables e below (T8.setTop (mkF m 48 #[.val (.long p0), .second, .val (.long p1), .second, .val (.long p2), .second, .val (.long p3), .second, .val (.int p4), .val (.long at2), .second, .val (.long od2), .second, .val (.ref ra8), .unset, .unset, .unset, .unset, .unset, .unset] [])) _
      refine XS.iload X8.here hx rfl (hb hby at_48) rfl  ?_
      show Steps p.tables e below (T8.setTop (mkF m 50 #[.val (.long p0), .second, .val (.long p1), .second, .val (.long p2), .second, .val (.long p3), .second, .val (.int p4), .val (.long at2), .second, .val (.long od2), .second, .val (.ref ra8), .unset, .unset, .unset, .unset, .unset, .unset] [(.int p4)])) _
      refine XS.iconst X8.here hx rfl (hb hby at_50) ?_
      show Steps p.tables e below (T8.setTop (mkF m 51 #[.val (.long p0), .second, .val (.long p1), .second, .val (.long p2), .second, .val (.long p3), .second, .val (.int p4), .val (.long at2), .second, .val (.long od2), .second, .val (.ref ra8), .unset, .unset, .unset, .unset, .unset, .unset] [(.int (3 : Int32)), (.int p4)])) _
      refine XS.iushr X8.here hx rfl (hb hby at_51) rfl ?_
      show Steps p.tables e below (T8.setTop (mkF m 52 #[.val (.long p0), .second, .val (.long p1), .second, .val (.long p2), .second, .val (.long p3), .second, .val (.int p4), .val (.long at2), .second, .val (.long od2), .second, .val (.ref ra8), .unset, .unset, .unset, .unset, .unset, .unset] [(.int ((p4.toUInt32 >>> ((3 : Int32) &&& 31).toUInt32).toInt32))])) _
      refine st13 _ ?_
      show Steps p.tables e below (T13.setTop (mkF m 55 #[.val (.long p0), .second, .val (.long p1), .second, .val (.long p2), .second, .val (.long p3), .second, .val (.int p4), .val (.long at2), .second, .val (.long od2), .second, .val (.ref ra8), .unset, .unset, .unset, .unset, .unset, .unset] [(.ref ra13)])) _
      refine XS.astore X13.here hx rfl (hb hby at_55) rfl rfl (l' := #[.val (.long p0), .second, .val (.long p1), .second, .val (.long p2), .second, .val (.long p3), .second, .val (.int p4), .val (.long at2), .second, .val (.long od2), .second, .val (.ref ra8), .val (.ref ra13), .unset, .unset, .unset, .unset, .unset]) rfl ?_
      show Steps p.tables e below (T13.setTop (mkF m 57 #[.val (.long p0), .second, .val (.long p1), .second, .val (.long p2), .second, .val (.long p3), .second, .val (.int p4), .val (.long at2), .second, .val (.long od2), .second, .val (.ref ra8), .val (.ref ra13), .unset, .unset, .unset, .unset, .unset] [])) _
      refine st14 _ ?_
      show Steps p.tables e below (T14.setTop (mkF m 60 #[.val (.long p0), .second, .val (.long p1), .second, .val (.long p2), .second, .val (.long p3), .second, .val (.int p4), .val (.long at2), .second, .val (.long od2), .second, .val (.ref ra8), .val (.ref ra13), .unset, .unset, .unset, .unset, .unset] [(.ref b14)])) _
      refine XS.dup X14.here hx rfl (hb hby at_60) rfl rfl ?_
      show Steps p.tables e below (T14.setTop (mkF m 61 #[.val (.long p0), .second, .val (.long p1), .second, .val (.long p2), .second, .val (.long p3), .second, .val (.int p4), .val (.long at2), .second, .val (.long od2), .second, .val (.ref ra8), .val (.ref ra13), .unset, .unset, .unset, .unset, .unset] [(.ref b14), (.ref b14)])) _
      refine XS.lloadN X14.here hx rfl (hb hby at_61) rfl  ?_
      show Steps p.tables e below (T14.setTop (mkF m 62 #[.val (.long p0), .second, .val (.long p1), .second, .val (.long p2), .second, .val (.long p3), .second, .val (.int p4), .val (.long at2), .second, .val (.long od2), .second, .val (.ref ra8), .val (.ref ra13), .unset, .unset, .unset, .unset, .unset] [(.long p0), (.ref b14), (.ref b14)])) _
      refine XS.lloadN X14.here hx rfl (hb hby at_62) rfl  ?_
      show Steps p.tables e below (T14.setTop (mkF m 63 #[.val (.long p0), .second, .val (.long p1), .second, .val (.long p2), .second, .val (.long p3), .second, .val (.int p4), .val (.long at2), .second, .val (.long od2), .second, .val (.ref ra8), .val (.ref ra13), .unset, .unset, .unset, .unset, .unset] [(.long p1), (.long p0), (.ref b14), (.ref b14)])) _
      refine XS.aload X14.here hx rfl (hb hby at_63) rfl rfl ?_
      show Steps p.tables e below (T14.setTop (mkF m 65 #[.val (.long p0), .second, .val (.long p1), .second, .val (.long p2), .second, .val (.long p3), .second, .val (.int p4), .val (.long at2), .second, .val (.long od2), .second, .val (.ref ra8), .val (.ref ra13), .unset, .unset, .unset, .unset, .unset] [(.ref ra8), (.long p1), (.long p0), (.ref b14), (.ref b14)])) _
      refine st17.trans ?_
      show Steps p.tables e below (T17.setTop (mkF m 68 #[.val (.long p0), .second, .val (.long p1), .second, .val (.long p2), .second, .val (.long p3), .second, .val (.int p4), .val (.long at2), .second, .val (.long od2), .second, .val (.ref ra8), .val (.ref ra13), .unset, .unset, .unset, .unset, .unset] [(.ref b14)])) _
      refine XS.astore X17.here hx rfl (hb hby at_68) rfl rfl (l' := #[.val (.long p0), .second, .val (.long p1), .second, .val (.long p2), .second, .val (.long p3), .second, .val (.int p4), .val (.long at2), .second, .val (.long od2), .second, .val (.ref ra8), .val (.ref ra13), .val (.ref b14), .unset, .unset, .unset, .unset]) rfl ?_
      show Steps p.tables e below (T17.setTop (mkF m 70 #[.val (.long p0), .second, .val (.long p1), .second, .val (.long p2), .second, .val (.long p3), .second, .val (.int p4), .val (.long at2), .second, .val (.long od2), .second, .val (.ref ra8), .val (.ref ra13), .val (.ref b14), .unset, .unset, .unset, .unset] [])) _
      refine st19 _ ?_
      show Steps p.tables e below (T19.setTop (mkF m 73 #[.val (.long p0), .second, .val (.long p1), .second, .val (.long p2), .second, .val (.long p3), .second, .val (.int p4), .val (.long at2), .second, .val (.long od2), .second, .val (.ref ra8), .val (.ref ra13), .val (.ref b14), .unset, .unset, .unset, .unset] [(.ref b19)])) _
      refine XS.dup X19.here hx rfl (hb hby at_73) rfl rfl ?_
      show Steps p.tables e below (T19.setTop (mkF m 74 #[.val (.long p0), .second, .val (.long p1), .second, .val (.long p2), .second, .val (.long p3), .second, .val (.int p4), .val (.long at2), .second, .val (.long od2), .second, .val (.ref ra8), .val (.ref ra13), .val (.ref b14), .unset, .unset, .unset, .unset] [(.ref b19), (.ref b19)])) _
      refine XS.lload X19.here hx rfl (hb hby at_74) rfl  ?_
      show Steps p.tables e below (T19.setTop (mkF m 76 #[.val (.long p0), .second, .val (.long p1), .second, .val (.long p2), .second, .val (.long p3), .second, .val (.int p4), .val (.long at2), .second, .val (.long od2), .second, .val (.ref ra8), .val (.ref ra13), .val (.ref b14), .unset, .unset, .unset, .unset] [(.long at2), (.ref b19), (.ref b19)])) _
      refine XS.lload X19.here hx rfl (hb hby at_76) rfl  ?_
      show Steps p.tables e below (T19.setTop (mkF m 78 #[.val (.long p0), .second, .val (.long p1), .second, .val (.long p2), .second, .val (.long p3), .second, .val (.int p4), .val (.long at2), .second, .val (.long od2), .second, .val (.ref ra8), .val (.ref ra13), .val (.ref b14), .unset, .unset, .unset, .unset] [(.long od2), (.long at2), (.ref b19), (.ref b19)])) _
      refine XS.aload X19.here hx rfl (hb hby at_78) rfl rfl ?_
      show Steps p.tables e below (T19.setTop (mkF m 80 #[.val (.long p0), .second, .val (.long p1), .second, .val (.long p2), .second, .val (.long p3), .second, .val (.int p4), .val (.long at2), .second, .val (.long od2), .second, .val (.ref ra8), .val (.ref ra13), .val (.ref b14), .unset, .unset, .unset, .unset] [(.ref ra13), (.long od2), (.long at2), (.ref b19), (.ref b19)])) _
      refine st22.trans ?_
      show Steps p.tables e below (T22.setTop (mkF m 83 #[.val (.long p0), .second, .val (.long p1), .second, .val (.long p2), .second, .val (.long p3), .second, .val (.int p4), .val (.long at2), .second, .val (.long od2), .second, .val (.ref ra8), .val (.ref ra13), .val (.ref b14), .unset, .unset, .unset, .unset] [(.ref b19)])) _
      refine XS.astore X22.here hx rfl (hb hby at_83) rfl rfl (l' := #[.val (.long p0), .second, .val (.long p1), .second, .val (.long p2), .second, .val (.long p3), .second, .val (.int p4), .val (.long at2), .second, .val (.long od2), .second, .val (.ref ra8), .val (.ref ra13), .val (.ref b14), .val (.ref b19), .unset, .unset, .unset]) rfl ?_
      show Steps p.tables e below (T22.setTop (mkF m 85 #[.val (.long p0), .second, .val (.long p1), .second, .val (.long p2), .second, .val (.long p3), .second, .val (.int p4), .val (.long at2), .second, .val (.long od2), .second, .val (.ref ra8), .val (.ref ra13), .val (.ref b14), .val (.ref b19), .unset, .unset, .unset] [])) _
      refine XS.lloadN X22.here hx rfl (hb hby at_85) rfl  ?_
      show Steps p.tables e below (T22.setTop (mkF m 86 #[.val (.long p0), .second, .val (.long p1), .second, .val (.long p2), .second, .val (.long p3), .second, .val (.int p4), .val (.long at2), .second, .val (.long od2), .second, .val (.ref ra8), .val (.ref ra13), .val (.ref b14), .val (.ref b19), .unset, .unset, .unset] [(.long p0)])) _
      refine XS.lload X22.here hx rfl (hb hby at_86) rfl  ?_
      show Steps p.tables e below (T22.setTop (mkF m 88 #[.val (.long p0), .second, .val (.long p1), .second, .val (.long p2), .second, .val (.long p3), .second, .val (.int p4), .val (.long at2), .second, .val (.long od2), .second, .val (.ref ra8), .val (.ref ra13), .val (.ref b14), .val (.ref b19), .unset, .unset, .unset] [(.long at2), (.long p0)])) _
      refine XS.lcmp X22.here hx rfl (hb hby at_88) rfl ?_
      exact kt)
    by_cases hc89_23 : (lcmpW p0 at2) < (0 : Int32)
    · obtain ⟨hr1, hr2⟩ := own_c1 p1 od2 hc89_23
      have f25 := (Nat.le_trans f21 K22.1)
      have f26 := ((Fa17.ext E19).keep K22 (ninS ne19_b14 nin0))
      have f27 := ((Fo17.ext E19).keep K22 (ninS ne19_b14 nin0))
      have f29 := ((f18.ext E19).keep K22)
      obtain ⟨cq28, kq28, q28a, q28b, q28c⟩ := isOf hZ rfl f29
      obtain ⟨_, _, ⟨T28, L28, k28, n28⟩, -, X28, ⟨Lc28, hQ28, l28, y28, z28⟩, st28⟩ := X22.virtualBack hx (y := (⟨"shardwell/container/ExpiryQueue$Timer", "compareTo", "(Lshardwell/container/ExpiryQueue$Timer;)I"⟩ : MethodName)) (z := (⟨"shardwell/container/ExpiryQueue$Timer", "compareTo", "(Lshardwell/container/ExpiryQueue$Timer;)I"⟩ : MethodName)) hown (mvT hZ (hw _ (List.mem_of_getElem? (i := 27) rfl))) (mvT hZ (hw _ (List.mem_of_getElem? (i := 28) rfl))) (notFace_of_selects (args := #[]) (mvT hZ (hw _ (List.mem_of_getElem? (i := 30) rfl)))) (mvT hZ (hw _ (List.mem_of_getElem? (i := 30) rfl))) (mvT hZ (hw _ (List.mem_of_getElem? (i := 29) rfl))) (by decide) (backOf (W := 0) (rmCompareTo l Z a0 hw [] b14 b19 p0 p1 at2 od2 (-1 : Int32) T22.heap n0 f25 f26 f27 Fa22 Fo22 hr1) hZ (hw _ (List.mem_of_getElem? (i := 31) rfl)) (hw _ (List.mem_of_getElem? (i := 9) rfl)) (by decide) (by decide)) q28a q28c (g := (mkF m 144 #[.val (.long p0), .second, .val (.long p1), .second, .val (.long p2), .second, .val (.long p3), .second, .val (.int p4), .val (.long at2), .second, .val (.long od2), .second, .val (.ref ra8), .val (.ref ra13), .val (.ref b14), .val (.ref b19), .val (.int (-1 : Int32)), .unset, .unset] [(.ref b19), (.ref b14)])) rfl (by rw [hml]; rfl) (Steps.refl _) (argsL := [(.ref b19)]) (rest := []) (lenOf pd__Lshardwell_container_ExpiryQueue_Timer__I rfl) rfl (by show 2 * 0 + _ ≤ _; exact Nat.le_of_eq rfl) (hb hby at_144) (fun _ _ => ⟨rfl, rfl, (by decide : 4 + 0 ≤ _), (by decide : 8 + 0 ≤ _)⟩)
      dsimp only [Pt.U, Pt.locs, Pt.cells, Pt.slots] at X28 l28 y28 z28 st28 hQ28
      subst l28 y28 z28
      obtain ⟨rfl, Nq28, e28⟩ := hQ28
      have N28 := Fr.app N22 Nq28
      obtain ⟨_, _, ⟨T30, L30, k30, n30⟩, -, X30, ⟨Lc30, hQ30, l30, y30, z30⟩, st30⟩ := Jvm.LawKit.callS X28 hx (y := (⟨"shardwell/container/TimerCompareToPinLaw", "sign", "(I)I"⟩ : MethodName)) hown (mvT hZ (hw _ (List.mem_of_getElem? (i := 36) rfl))) (mvT hZ (hw _ (List.mem_of_getElem? (i := 37) rfl))) (mvT hZ (hw _ (List.mem_of_getElem? (i := 38) rfl))) (mvT hZ (hw _ (List.mem_of_getElem? (i := 39) rfl))) (by decide) (backOf (W := 0) (rmSign l Z a0 hw [] (-1 : Int32) (-1 : Int32) T22.heap n0 f25 (by decide)) hZ (hw _ (List.mem_of_getElem? (i := 39) rfl)) (hw _ (List.mem_of_getElem? (i := 38) rfl)) (by decide) (by decide)) (g := (mkF m 147 #[.val (.long p0), .second, .val (.long p1), .second, .val (.long p2), .second, .val (.long p3), .second, .val (.int p4), .val (.long at2), .second, .val (.long od2), .second, .val (.ref ra8), .val (.ref ra13), .val (.ref b14), .val (.ref b19), .val (.int (-1 : Int32)), .unset, .unset] [(.int (-1 : Int32))])) rfl (by rw [hml]; rfl) (argsL := [(.int (-1 : Int32))]) (rest := []) (lenOf pd__I_I rfl) rfl (by show 2 * 0 + _ ≤ _; exact Nat.le_of_eq rfl) (hb hby at_147) (fun _ _ => ⟨rfl, e28, (by decide : 4 + 0 ≤ _), (by decide : 8 + 0 ≤ _)⟩)
      dsimp only [Pt.U, Pt.locs, Pt.cells, Pt.slots] at X30 l30 y30 z30 st30 hQ30
      subst l30 y30 z30
      obtain ⟨rfl, Nq30, e30⟩ := hQ30
      have N30 := Fr.app N28 Nq30
      have f32 := (A19.keep K22)
      obtain ⟨cq31, kq31, q31a, q31b, q31c⟩ := isOf hZ e30 f32
      obtain ⟨_, _, ⟨T31, L31, k31, n31⟩, -, X31, ⟨Lc31, hQ31, l31, y31, z31⟩, st31⟩ := X30.virtualBack hx (y := (⟨"shardwell/container/ExpiryQueue$Timer", "compareTo", "(Lshardwell/container/ExpiryQueue$Timer;)I"⟩ : MethodName)) (z := (⟨"shardwell/container/ExpiryQueue$Timer", "compareTo", "(Lshardwell/container/ExpiryQueue$Timer;)I"⟩ : MethodName)) hown (mvT hZ (hw _ (List.mem_of_getElem? (i := 27) rfl))) (mvT hZ (hw _ (List.mem_of_getElem? (i := 28) rfl))) (notFace_of_selects (args := #[]) (mvT hZ (hw _ (List.mem_of_getElem? (i := 30) rfl)))) (mvT hZ (hw _ (List.mem_of_getElem? (i := 30) rfl))) (mvT hZ (hw _ (List.mem_of_getElem? (i := 29) rfl))) (by decide) (backOf (W := 0) (rmCompareTo l Z a0 hw [] b19 b14 at2 od2 p0 p1 (1 : Int32) T22.heap n0 f25 Fa22 Fo22 f26 f27 hr2) hZ (hw _ (List.mem_of_getElem? (i := 31) rfl)) (hw _ (List.mem_of_getElem? (i := 9) rfl)) (by decide) (by decide)) q31a q31c (g := (mkF m 156 #[.val (.long p0), .second, .val (.long p1), .second, .val (.long p2), .second, .val (.long p3), .second, .val (.int p4), .val (.long at2), .second, .val (.long od2), .second, .val (.ref ra8), .val (.ref ra13), .val (.ref b14), .val (.ref b19), .val (.int (-1 : Int32)), .val (.int (-1 : Int32)), .unset] [(.ref b14), (.ref b19)])) rfl (by rw [hml]; rfl) (Steps.refl _) (argsL := [(.ref b14)]) (rest := []) (lenOf pd__Lshardwell_container_ExpiryQueue_Timer__I rfl) rfl (by show 2 * 0 + _ ≤ _; exact Nat.le_of_eq rfl) (hb hby at_156) (fun _ _ => ⟨rfl, e30, (by decide : 4 + 0 ≤ _), (by decide : 8 + 0 ≤ _)⟩)
      dsimp only [Pt.U, Pt.locs, Pt.cells, Pt.slots] at X31 l31 y31 z31 st31 hQ31
      subst l31 y31 z31
      obtain ⟨rfl, Nq31, e31⟩ := hQ31
      have N31 := Fr.app N30 Nq31
      obtain ⟨_, _, ⟨T33, L33, k33, n33⟩, -, X33, ⟨Lc33, hQ33, l33, y33, z33⟩, st33⟩ := Jvm.LawKit.callS X31 hx (y := (⟨"shardwell/container/TimerCompareToPinLaw", "sign", "(I)I"⟩ : MethodName)) hown (mvT hZ (hw _ (List.mem_of_getElem? (i := 36) rfl))) (mvT hZ (hw _ (List.mem_of_getElem? (i := 37) rfl))) (mvT hZ (hw _ (List.mem_of_getElem? (i := 38) rfl))) (mvT hZ (hw _ (List.mem_of_getElem? (i := 39) rfl))) (by decide) (backOf (W := 0) (rmSign l Z a0 hw [] (1 : Int32) (1 : Int32) T22.heap n0 f25 (by decide)) hZ (hw _ (List.mem_of_getElem? (i := 39) rfl)) (hw _ (List.mem_of_getElem? (i := 38) rfl)) (by decide) (by decide)) (g := (mkF m 159 #[.val (.long p0), .second, .val (.long p1), .second, .val (.long p2), .second, .val (.long p3), .second, .val (.int p4), .val (.long at2), .second, .val (.long od2), .second, .val (.ref ra8), .val (.ref ra13), .val (.ref b14), .val (.ref b19), .val (.int (-1 : Int32)), .val (.int (-1 : Int32)), .unset] [(.int (1 : Int32))])) rfl (by rw [hml]; rfl) (argsL := [(.int (1 : Int32))]) (rest := []) (lenOf pd__I_I rfl) rfl (by show 2 * 0 + _ ≤ _; exact Nat.le_of_eq rfl) (hb hby at_159) (fun _ _ => ⟨rfl, e31, (by decide : 4 + 0 ≤ _), (by decide : 8 + 0 ≤ _)⟩)
      dsimp only [Pt.U, Pt.locs, Pt.cells, Pt.slots] at X33 l33 y33 z33 st33 hQ33
      subst l33 y33 z33
      obtain ⟨rfl, Nq33, e33⟩ := hQ33
      have N33 := Fr.app N31 Nq33
      obtain ⟨fs, hr, hrun, hended, hW, hsame⟩ := X33.leave (v := some (.int (1 : Int32))) (fun h => by rw [Bd.returns] at h; cases h)
      refine ⟨_, _, pre24 _ ?_, hrun, hended, _, _, rfl, ?_, ⟨_, rfl⟩, hW, hsame.mono (by decide) (by decide)⟩
      · show Steps p.tables e below (T22.setTop (mkF m 89 #[.val (.long p0), .second, .val (.long p1), .second, .val (.long p2), .second, .val (.long p3), .second, .val (.int p4), .val (.long at2), .second, .val (.long od2), .second, .val (.ref ra8), .val (.ref ra13), .val (.ref b14), .val (.ref b19), .unset, .unset, .unset] [(.int (lcmpW p0 at2))])) _
        refine XS.ifNo X22.here hx rfl (hb hby at_89) rfl ((if0 _ _).trans (tlt hc89_23).2.1) ?_
        show Steps p.tables e below (T22.setTop (mkF m 92 #[.val (.long p0), .second, .val (.long p1), .second, .val (.long p2), .second, .val (.long p3), .second, .val (.int p4), .val (.long at2), .second, .val (.long od2), .second, .val (.ref ra8), .val (.ref ra13), .val (.ref b14), .val (.ref b19), .unset, .unset, .unset] [])) _
        refine XS.iconst X22.here hx rfl (hb hby at_92) ?_
        show Steps p.tables e below (T22.setTop (mkF m 93 #[.val (.long p0), .second, .val (.long p1), .second, .val (.long p2), .second, .val (.long p3), .second, .val (.int p4), .val (.long at2), .second, .val (.long od2), .second, .val (.ref ra8), .val (.ref ra13), .val (.ref b14), .val (.ref b19), .unset, .unset, .unset] [(.int (-1 : Int32))])) _
        refine XS.istore X22.here hx rfl (hb hby at_93) rfl (l' := #[.val (.long p0), .second, .val (.long p1), .second, .val (.long p2), .second, .val (.long p3), .second, .val (.int p4), .val (.long at2), .second, .val (.long od2), .second, .val (.ref ra8), .val (.ref ra13), .val (.ref b14), .val (.ref b19), .val (.int (-1 : Int32)), .unset, .unset]) rfl ?_
        show Steps p.tables e below (T22.setTop (mkF m 95 #[.val (.long p0), .second, .val (.long p1), .second, .val (.long p2), .second, .val (.long p3), .second, .val (.int p4), .val (.long at2), .second, .val (.long od2), .second, .val (.ref ra8), .val (.ref ra13), .val (.ref b14), .val (.ref b19), .val (.int (-1 : Int32)), .unset, .unset] [])) _
        refine XS.goto X22.here hx rfl (pc0 := 95) (pc' := 140) rfl (hb hby at_95) (by decide) (by decide) ?_
        show Steps p.tables e below (T22.setTop (mkF m 140 #[.val (.long p0), .second, .val (.long p1), .second, .val (.long p2), .second, .val (.long p3), .second, .val (.int p4), .val (.long at2), .second, .val (.long od2), .second, .val (.ref ra8), .val (.ref ra13), .val (.ref b14), .val (.ref b19), .val (.int (-1 : Int32)), .unset, .unset] [])) _
        refine XS.aload X22.here hx rfl (hb hby at_140) rfl rfl ?_
        show Steps p.tables e below (T22.setTop (mkF m 142 #[.val (.long p0), .second, .val (.long p1), .second, .val (.long p2), .second, .val (.long p3), .second, .val (.int p4), .val (.long at2), .second, .val (.long od2), .second, .val (.ref ra8), .val (.ref ra13), .val (.ref b14), .val (.ref b19), .val (.int (-1 : Int32)), .unset, .unset] [(.ref b14)])) _
        refine XS.aload X22.here hx rfl (hb hby at_142) rfl rfl ?_
        show Steps p.tables e below (T22.setTop (mkF m 144 #[.val (.long p0), .second, .val (.long p1), .second, .val (.long p2), .second, .val (.long p3), .second, .val (.int p4), .val (.long at2), .second, .val (.long od2), .second, .val (.ref ra8), .val (.ref ra13), .val (.ref b14), .val (.ref b19), .val (.int (-1 : Int32)), .unset, .unset] [(.ref b19), (.ref b14)])) _
        refine st28.trans ?_
        show Steps p.tables e below (T28.setTop (mkF m 147 #[.val (.long p0), .second, .val (.long p1), .second, .val (.long p2), .second, .val (.long p3), .second, .val (.int p4), .val (.long at2), .second, .val (.long od2), .second, .val (.ref ra8), .val (.ref ra13), .val (.ref b14), .val (.ref b19), .val (.int (-1 : Int32)), .unset, .unset] [(.int (-1 : Int32))])) _
        refine st30 _ ?_
        show Steps p.tables e below (T30.setTop (mkF m 150 #[.val (.long p0), .second, .val (.long p1), .second, .val (.long p2), .second, .val (.long p3), .second, .val (.int p4), .val (.long at2), .second, .val (.long od2), .second, .val (.ref ra8), .val (.ref ra13), .val (.ref b14), .val (.ref b19), .val (.int (-1 : Int32)), .unset, .unset] [(.int (-1 : Int32))])) _
        refine XS.istore X30.here hx rfl (hb hby at_150) rfl (l' := #[.val (.long p0), .second, .val (.long p1), .second, .val (.long p2), .second, .val (.long p3), .second, .val (.int p4), .val (.long at2), .second, .val (.long od2), .second, .val (.ref ra8), .val (.ref ra13), .val (.ref b14), .val (.ref b19), .val (.int (-1 : Int32)), .val (.int (-1 : Int32)), .unset]) rfl ?_
        show Steps p.tables e below (T30.setTop (mkF m 152 #[.val (.long p0), .second, .val (.long p1), .second, .val (.long p2), .second, .val (.long p3), .second, .val (.int p4), .val (.long at2), .second, .val (.long od2), .second, .val (.ref ra8), .val (.ref ra13), .val (.ref b14), .val (.ref b19), .val (.int (-1 : Int32)), .val (.int (-1 : Int32)), .unset] [])) _
        refine XS.aload X30.here hx rfl (hb hby at_152) rfl rfl ?_
        show Steps p.tables e below (T30.setTop (mkF m 154 #[.val (.long p0), .second, .val (.long p1), .second, .val (.long p2), .second, .val (.long p3), .second, .val (.int p4), .val (.long at2), .second, .val (.long od2), .second, .val (.ref ra8), .val (.ref ra13), .val (.ref b14), .val (.ref b19), .val (.int (-1 : Int32)), .val (.int (-1 : Int32)), .unset] [(.ref b19)])) _
        refine XS.aload X30.here hx rfl (hb hby at_154) rfl rfl ?_
        show Steps p.tables e below (T30.setTop (mkF m 156 #[.val (.long p0), .second, .val (.long p1), .second, .val (.long p2), .second, .val (.long p3), .second, .val (.int p4), .val (.long at2), .second, .val (.long od2), .second, .val (.ref ra8), .val (.ref ra13), .val (.ref b14), .val (.ref b19), .val (.int (-1 : Int32)), .val (.int (-1 : Int32)), .unset] [(.ref b14), (.ref b19)])) _
        refine st31.trans ?_
        show Steps p.tables e below (T31.setTop (mkF m 159 #[.val (.long p0), .second, .val (.long p1), .second, .val (.long p2), .second, .val (.long p3), .second, .val (.int p4), .val (.long at2), .second, .val (.long od2), .second, .val (.ref ra8), .val (.ref ra13), .val (.ref b14), .val (.ref b19), .val (.int (-1 : Int32)), .val (.int (-1 : Int32)), .unset] [(.int (1 : Int32))])) _
        refine st33 _ ?_
        show Steps p.tables e below (T33.setTop (mkF m 162 #[.val (.long p0), .second, .val (.long p1), .second, .val (.long p2), .second, .val (.long p3), .second, .val (.int p4), .val (.long at2), .second, .val (.long od2), .second, .val (.ref ra8), .val (.ref ra13), .val (.ref b14), .val (.ref b19), .val (.int (-1 : Int32)), .val (.int (-1 : Int32)), .unset] [(.int (1 : Int32))])) _
        refine XS.istore X33.here hx rfl (hb hby at_162) rfl (l' := #[.val (.long p0), .second, .val (.long p1), .second, .val (.long p2), .second, .val (.long p3), .second, .val (.int p4), .val (.long at2), .second, .val (.long od2), .second, .val (.ref ra8), .val (.ref ra13), .val (.ref b14), .val (.ref b19), .val (.int (-1 : Int32)), .val (.int (-1 : Int32)), .val (.int (1 : Int32))]) rfl ?_
        show Steps p.tables e below (T33.setTop (mkF m 164 #[.val (.long p0), .second, .val (.long p1), .second, .val (.long p2), .second, .val (.long p3), .second, .val (.int p4), .val (.long at2), .second, .val (.long od2), .second, .val (.ref ra8), .val (.ref ra13), .val (.ref b14), .val (.ref b19), .val (.int (-1 : Int32)), .val (.int (-1 : Int32)), .val (.int (1 : Int32))] [])) _
        refine XS.iload X33.here hx rfl (hb hby at_164) rfl  ?_
        show Steps p.tables e below (T33.setTop (mkF m 166 #[.val (.long p0), .second, .val (.long p1), .second, .val (.long p2), .second, .val (.long p3), .second, .val (.int p4), .val (.long at2), .second, .val (.long od2), .second, .val (.ref ra8), .val (.ref ra13), .val (.ref b14), .val (.ref b19), .val (.int (-1 : Int32)), .val (.int (-1 : Int32)), .val (.int (1 : Int32))] [(.int (-1 : Int32))])) _
        refine XS.iload X33.here hx rfl (hb hby at_166) rfl  ?_
        show Steps p.tables e below (T33.setTop (mkF m 168 #[.val (.long p0), .second, .val (.long p1), .second, .val (.long p2), .second, .val (.long p3), .second, .val (.int p4), .val (.long at2), .second, .val (.long od2), .second, .val (.ref ra8), .val (.ref ra13), .val (.ref b14), .val (.ref b19), .val (.int (-1 : Int32)), .val (.int (-1 : Int32)), .val (.int (1 : Int32))] [(.int (-1 : Int32)), (.int (-1 : Int32))])) _
        refine XS.icmpNo X33.here hx rfl (hb hby at_168) rfl (teq (by decide : (-1 : Int32) = (-1 : Int32))).2 ?_
        show Steps p.tables e below (T33.setTop (mkF m 171 #[.val (.long p0), .second, .val (.long p1), .second, .val (.long p2), .second, .val (.long p3), .second, .val (.int p4), .val (.long at2), .second, .val (.long od2), .second, .val (.ref ra8), .val (.ref ra13), .val (.ref b14), .val (.ref b19), .val (.int (-1 : Int32)), .val (.int (-1 : Int32)), .val (.int (1 : Int32))] [])) _
        refine XS.iload X33.here hx rfl (hb hby at_171) rfl  ?_
        show Steps p.tables e below (T33.setTop (mkF m 173 #[.val (.long p0), .second, .val (.long p1), .second, .val (.long p2), .second, .val (.long p3), .second, .val (.int p4), .val (.long at2), .second, .val (.long od2), .second, .val (.ref ra8), .val (.ref ra13), .val (.ref b14), .val (.ref b19), .val (.int (-1 : Int32)), .val (.int (-1 : Int32)), .val (.int (1 : Int32))] [(.int (1 : Int32))])) _
        refine XS.iload X33.here hx rfl (hb hby at_173) rfl  ?_
        show Steps p.tables e below (T33.setTop (mkF m 175 #[.val (.long p0), .second, .val (.long p1), .second, .val (.long p2), .second, .val (.long p3), .second, .val (.int p4), .val (.long at2), .second, .val (.long od2), .second, .val (.ref ra8), .val (.ref ra13), .val (.ref b14), .val (.ref b19), .val (.int (-1 : Int32)), .val (.int (-1 : Int32)), .val (.int (1 : Int32))] [(.int (-1 : Int32)), (.int (1 : Int32))])) _
        refine XS.ineg X33.here hx rfl (hb hby at_175) rfl ?_
        show Steps p.tables e below (T33.setTop (mkF m 176 #[.val (.long p0), .second, .val (.long p1), .second, .val (.long p2), .second, .val (.long p3), .second, .val (.int p4), .val (.long at2), .second, .val (.long od2), .second, .val (.ref ra8), .val (.ref ra13), .val (.ref b14), .val (.ref b19), .val (.int (-1 : Int32)), .val (.int (-1 : Int32)), .val (.int (1 : Int32))] [(.int (-(-1 : Int32))), (.int (1 : Int32))])) _
        refine XS.icmpNo X33.here hx rfl (hb hby at_176) rfl (teq (by decide)).2 ?_
        show Steps p.tables e below (T33.setTop (mkF m 179 #[.val (.long p0), .second, .val (.long p1), .second, .val (.long p2), .second, .val (.long p3), .second, .val (.int p4), .val (.long at2), .second, .val (.long od2), .second, .val (.ref ra8), .val (.ref ra13), .val (.ref b14), .val (.ref b19), .val (.int (-1 : Int32)), .val (.int (-1 : Int32)), .val (.int (1 : Int32))] [])) _
        refine XS.iconst X33.here hx rfl (hb hby at_179) ?_
        show Steps p.tables e below (T33.setTop (mkF m 180 #[.val (.long p0), .second, .val (.long p1), .second, .val (.long p2), .second, .val (.long p3), .second, .val (.int p4), .val (.long at2), .second, .val (.long od2), .second, .val (.ref ra8), .val (.ref ra13), .val (.ref b14), .val (.ref b19), .val (.int (-1 : Int32)), .val (.int (-1 : Int32)), .val (.int (1 : Int32))] [(.int (1 : Int32))])) _
        refine XS.goto X33.here hx rfl (pc0 := 180) (pc' := 184) rfl (hb hby at_180) (by decide) (by decide) ?_
        show Steps p.tables e below (T33.setTop (mkF m 184 #[.val (.long p0), .second, .val (.long p1), .second, .val (.long p2), .second, .val (.long p3), .second, .val (.int p4), .val (.long at2), .second, .val (.long od2), .second, .val (.ref ra8), .val (.ref ra13), .val (.ref b14), .val (.ref b19), .val (.int (-1 : Int32)), .val (.int (-1 : Int32)), .val (.int (1 : Int32))] [(.int (1 : Int32))])) _
        exact retN X33 hx (t := .boolean) Bd.returns (by simp) (hb hby at_184) hr
      · show Q_rm0 Z p0 p1 p2 p3 p4 wC cl h0 n0 _ T33.heap _
        rw [e33]
        exact ⟨rfl, N33⟩
    · have pre35 : ∀ t, Steps p.tables e below (T22.setTop (mkF m 102 #[.val (.long p0), .second, .val (.long p1), .second, .val (.long p2), .second, .val (.long p3), .second, .val (.int p4), .val (.long at2), .second, .val (.long od2), .second, .val (.ref ra8), .val (.ref ra13), .val (.ref b14), .val (.ref b19), .unset, .unset, .unset] [(.int (lcmpW p0 at2))])) t → Steps p.tables e below (s₁.setTop (entryFrame m #[(.long p0), (.long p1), (.long p2), (.long p3), (.int p4)] maxLocals)) t := fun t kt => pre24 t (by
        show Steps p.tables e below (T22.setTop (mkF m 89 #[.val (.long p0), .second, .val (.long p1), .second, .val (.long p2), .second, .val (.long p3), .second, .val (.int p4), .val (.long at2), .second, .val (.long od2), .second, .val (.ref ra8), .val (.ref ra13), .val (.ref b14), .val (.ref b19), .unset, .unset, .unset] [(.int (lcmpW p0 at2))])) _
        refine XS.ifYes X22.here hx rfl (pc0 := 89) (pc' := 98) rfl (hb hby at_89) rfl ((if0 _ _).trans (flt hc89_23).2.1) (by decide) (by decide) ?_
        show Steps p.tables e below (T22.setTop (mkF m 98 #[.val (.long p0), .second, .val (.long p1), .second, .val (.long p2), .second, .val (.long p3), .second, .val (.int p4), .val (.long at2), .second, .val (.long od2), .second, .val (.ref ra8), .val (.ref ra13), .val (.ref b14), .val (.ref b19), .unset, .unset, .unset] [])) _
        refine XS.lloadN X22.here hx rfl (hb hby at_98) rfl  ?_
        show Steps p.tables e below (T22.setTop (mkF m 99 #[.val (.long p0), .second, .val (.long p1), .second, .val (.long p2), .second, .val (.long p3), .second, .val (.int p4), .val (.long at2), .second, .val (.long od2), .second, .val (.ref ra8), .val (.ref ra13), .val (.ref b14), .val (.ref b19), .unset, .unset, .unset] [(.long p0)])) _
        refine XS.lload X22.here hx rfl (hb hby at_99) rfl  ?_
        show Steps p.tables e below (T22.setTop (mkF m 101 #[.val (.long p0), .second, .val (.long p1), .second, .val (.long p2), .second, .val (.long p3), .second, .val (.int p4), .val (.long at2), .second, .val (.long od2), .second, .val (.ref ra8), .val (.ref ra13), .val (.ref b14), .val (.ref b19), .unset, .unset, .unset] [(.long at2), (.long p0)])) _
        refine XS.lcmp X22.here hx rfl (hb hby at_101) rfl ?_
        exact kt)
      by_cases hc102_34 : (0 : Int32) < (lcmpW p0 at2)
      · obtain ⟨hr1, hr2⟩ := own_c2 p1 od2 hc102_34
        have f36 := (Nat.le_trans f21 K22.1)
        have f37 := ((Fa17.ext E19).keep K22 (ninS ne19_b14 nin0))
        have f38 := ((Fo17.ext E19).keep K22 (ninS ne19_b14 nin0))
        have f40 := ((f18.ext E19).keep K22)
        obtain ⟨cq39, kq39, q39a, q39b, q39c⟩ := isOf hZ rfl f40
        obtain ⟨_, _, ⟨T39, L39, k39, n39⟩, -, X39, ⟨Lc39, hQ39, l39, y39, z39⟩, st39⟩ := X22.virtualBack hx (y := (⟨"shardwell/container/ExpiryQueue$Timer", "compareTo", "(Lshardwell/container/ExpiryQueue$Timer;)I"⟩ : MethodName)) (z := (⟨"shardwell/container/ExpiryQueue$Timer", "compareTo", "(Lshardwell/container/ExpiryQueue$Timer;)I"⟩ : MethodName)) hown (mvT hZ (hw _ (List.mem_of_getElem? (i := 27) rfl))) (mvT hZ (hw _ (List.mem_of_getElem? (i := 28) rfl))) (notFace_of_selects (args := #[]) (mvT hZ (hw _ (List.mem_of_getElem? (i := 30) rfl)))) (mvT hZ (hw _ (List.mem_of_getElem? (i := 30) rfl))) (mvT hZ (hw _ (List.mem_of_getElem? (i := 29) rfl))) (by decide) (backOf (W := 0) (rmCompareTo l Z a0 hw [] b14 b19 p0 p1 at2 od2 (1 : Int32) T22.heap n0 f36 f37 f38 Fa22 Fo22 hr1) hZ (hw _ (List.mem_of_getElem? (i := 31) rfl)) (hw _ (List.mem_of_getElem? (i := 9) rfl)) (by decide) (by decide)) q39a q39c (g := (mkF m 144 #[.val (.long p0), .second, .val (.long p1), .second, .val (.long p2), .second, .val (.long p3), .second, .val (.int p4), .val (.long at2), .second, .val (.long od2), .second, .val (.ref ra8), .val (.ref ra13), .val (.ref b14), .val (.ref b19), .val (.int (1 : Int32)), .unset, .unset] [(.ref b19), (.ref b14)])) rfl (by rw [hml]; rfl) (Steps.refl _) (argsL := [(.ref b19)]) (rest := []) (lenOf pd__Lshardwell_container_ExpiryQueue_Timer__I rfl) rfl (by show 2 * 0 + _ ≤ _; exact Nat.le_of_eq rfl) (hb hby at_144) (fun _ _ => ⟨rfl, rfl, (by decide : 4 + 0 ≤ _), (by decide : 8 + 0 ≤ _)⟩)
        dsimp only [Pt.U, Pt.locs, Pt.cells, Pt.slots] at X39 l39 y39 z39 st39 hQ39
        subst l39 y39 z39
        obtain ⟨rfl, Nq39, e39⟩ := hQ39
        have N39 := Fr.app N22 Nq39
        obtain ⟨_, _, ⟨T41, L41, k41, n41⟩, -, X41, ⟨Lc41, hQ41, l41, y41, z41⟩, st41⟩ := Jvm.LawKit.callS X39 hx (y := (⟨"shardwell/container/TimerCompareToPinLaw", "sign", "(I)I"⟩ : MethodName)) hown (mvT hZ (hw _ (List.mem_of_getElem? (i := 36) rfl))) (mvT hZ (hw _ (List.mem_of_getElem? (i := 37) rfl))) (mvT hZ (hw _ (List.mem_of_getElem? (i := 38) rfl))) (mvT hZ (hw _ (List.mem_of_getElem? (i := 39) rfl))) (by decide) (backOf (W := 0) (rmSign l Z a0 hw [] (1 : Int32) (1 : Int32) T22.heap n0 f36 (by decide)) hZ (hw _ (List.mem_of_getElem? (i := 39) rfl)) (hw _ (List.mem_of_getElem? (i := 38) rfl)) (by decide) (by decide)) (g := (mkF m 147 #[.val (.long p0), .second, .val (.long p1), .second, .val (.long p2), .second, .val (.long p3), .second, .val (.int p4), .val (.long at2), .second, .val (.long od2), .second, .val (.ref ra8), .val (.ref ra13), .val (.ref b14), .val (.ref b19), .val (.int (1 : Int32)), .unset, .unset] [(.int (1 : Int32))])) rfl (by rw [hml]; rfl) (argsL := [(.int (1 : Int32))]) (rest := []) (lenOf pd__I_I rfl) rfl (by show 2 * 0 + _ ≤ _; exact Nat.le_of_eq rfl) (hb hby at_147) (fun _ _ => ⟨rfl, e39, (by decide : 4 + 0 ≤ _), (by decide : 8 + 0 ≤ _)⟩)
        dsimp only [Pt.U, Pt.locs, Pt.cells, Pt.slots] at X41 l41 y41 z41 st41 hQ41
        subst l41 y41 z41
        obtain ⟨rfl, Nq41, e41⟩ := hQ41
        have N41 := Fr.app N39 Nq41
        have f43 := (A19.keep K22)
        obtain ⟨cq42, kq42, q42a, q42b, q42c⟩ := isOf hZ e41 f43
        obtain ⟨_, _, ⟨T42, L42, k42, n42⟩, -, X42, ⟨Lc42, hQ42, l42, y42, z42⟩, st42⟩ := X41.virtualBack hx (y := (⟨"shardwell/container/ExpiryQueue$Timer", "compareTo", "(Lshardwell/container/ExpiryQueue$Timer;)I"⟩ : MethodName)) (z := (⟨"shardwell/container/ExpiryQueue$Timer", "compareTo", "(Lshardwell/container/ExpiryQueue$Timer;)I"⟩ : MethodName)) hown (mvT hZ (hw _ (List.mem_of_getElem? (i := 27) rfl))) (mvT hZ (hw _ (List.mem_of_getElem? (i := 28) rfl))) (notFace_of_selects (args := #[]) (mvT hZ (hw _ (List.mem_of_getElem? (i := 30) rfl)))) (mvT hZ (hw _ (List.mem_of_getElem? (i := 30) rfl))) (mvT hZ (hw _ (List.mem_of_getElem? (i := 29) rfl))) (by decide) (backOf (W := 0) (rmCompareTo l Z a0 hw [] b19 b14 at2 od2 p0 p1 (-1 : Int32) T22.heap n0 f36 Fa22 Fo22 f37 f38 hr2) hZ (hw _ (List.mem_of_getElem? (i := 31) rfl)) (hw _ (List.mem_of_getElem? (i := 9) rfl)) (by decide) (by decide)) q42a q42c (g := (mkF m 156 #[.val (.long p0), .second, .val (.long p1), .second, .val (.long p2), .second, .val (.long p3), .second, .val (.int p4), .val (.long at2), .second, .val (.long od2), .second, .val (.ref ra8), .val (.ref ra13), .val (.ref b14), .val (.ref b19), .val (.int (1 : Int32)), .val (.int (1 : Int32)), .unset] [(.ref b14), (.ref b19)])) rfl (by rw [hml]; rfl) (Steps.refl _) (argsL := [(.ref b14)]) (rest := []) (lenOf pd__Lshardwell_container_ExpiryQueue_Timer__I rfl) rfl (by show 2 * 0 + _ ≤ _; exact Nat.le_of_eq rfl) (hb hby at_156) (fun _ _ => ⟨rfl, e41, (by decide : 4 + 0 ≤ _), (by decide : 8 + 0 ≤ _)⟩)
        dsimp only [Pt.U, Pt.locs, Pt.cells, Pt.slots] at X42 l42 y42 z42 st42 hQ42
        subst l42 y42 z42
        obtain ⟨rfl, Nq42, e42⟩ := hQ42
        have N42 := Fr.app N41 Nq42
        obtain ⟨_, _, ⟨T44, L44, k44, n44⟩, -, X44, ⟨Lc44, hQ44, l44, y44, z44⟩, st44⟩ := Jvm.LawKit.callS X42 hx (y := (⟨"shardwell/container/TimerCompareToPinLaw", "sign", "(I)I"⟩ : MethodName)) hown (mvT hZ (hw _ (List.mem_of_getElem? (i := 36) rfl))) (mvT hZ (hw _ (List.mem_of_getElem? (i := 37) rfl))) (mvT hZ (hw _ (List.mem_of_getElem? (i := 38) rfl))) (mvT hZ (hw _ (List.mem_of_getElem? (i := 39) rfl))) (by decide) (backOf (W := 0) (rmSign l Z a0 hw [] (-1 : Int32) (-1 : Int32) T22.heap n0 f36 (by decide)) hZ (hw _ (List.mem_of_getElem? (i := 39) rfl)) (hw _ (List.mem_of_getElem? (i := 38) rfl)) (by decide) (by decide)) (g := (mkF m 159 #[.val (.long p0), .second, .val (.long p1), .second, .val (.long p2), .second, .val (.long p3), .second, .val (.int p4), .val (.long at2), .second, .val (.long od2), .second, .val (.ref ra8), .val (.ref ra13), .val (.ref b14), .val (.ref b19), .val (.int (1 : Int32)), .val (.int (1 : Int32)), .unset] [(.int (-1 : Int32))])) rfl (by rw [hml]; rfl) (argsL := [(.int (-1 : Int32))]) (rest := []) (lenOf pd__I_I rfl) rfl (by show 2 * 0 + _ ≤ _; exact Nat.le_of_eq rfl) (hb hby at_159) (fun _ _ => ⟨rfl, e42, (by decide : 4 + 0 ≤ _), (by decide : 8 + 0 ≤ _)⟩)
        dsimp only [Pt.U, Pt.locs, Pt.cells, Pt.slots] at X44 l44 y44 z44 st44 hQ44
        subst l44 y44 z44
        obtain ⟨rfl, Nq44, e44⟩ := hQ44
        have N44 := Fr.app N42 Nq44
        obtain ⟨fs, hr, hrun, hended, hW, hsame⟩ := X44.leave (v := some (.int (1 : Int32))) (fun h => by rw [Bd.returns] at h; cases h)
        refine ⟨_, _, pre35 _ ?_, hrun, hended, _, _, rfl, ?_, ⟨_, rfl⟩, hW, hsame.mono (by decide) (by decide)⟩
        · show Steps p.tables e below (T22.setTop (mkF m 102 #[.val (.long p0), .second, .val (.long p1), .second, .val (.long p2), .second, .val (.long p3), .second, .val (.int p4), .val (.long at2), .second, .val (.long od2), .second, .val (.ref ra8), .val (.ref ra13), .val (.ref b14), .val (.ref b19), .unset, .unset, .unset] [(.int (lcmpW p0 at2))])) _
          refine XS.ifNo X22.here hx rfl (hb hby at_102) rfl ((if0 _ _).trans (tlt hc102_34).2.2.2) ?_
          show Steps p.tables e below (T22.setTop (mkF m 105 #[.val (.long p0), .second, .val (.long p1), .second, .val (.long p2), .second, .val (.long p3), .second, .val (.int p4), .val (.long at2), .second, .val (.long od2), .second, .val (.ref ra8), .val (.ref ra13), .val (.ref b14), .val (.ref b19), .unset, .unset, .unset] [])) _
          refine XS.iconst X22.here hx rfl (hb hby at_105) ?_
          show Steps p.tables e below (T22.setTop (mkF m 106 #[.val (.long p0), .second, .val (.long p1), .second, .val (.long p2), .second, .val (.long p3), .second, .val (.int p4), .val (.long at2), .second, .val (.long od2), .second, .val (.ref ra8), .val (.ref ra13), .val (.ref b14), .val (.ref b19), .unset, .unset, .unset] [(.int (1 : Int32))])) _
          refine XS.istore X22.here hx rfl (hb hby at_106) rfl (l' := #[.val (.long p0), .second, .val (.long p1), .second, .val (.long p2), .second, .val (.long p3), .second, .val (.int p4), .val (.long at2), .second, .val (.long od2), .second, .val (.ref ra8), .val (.ref ra13), .val (.ref b14), .val (.ref b19), .val (.int (1 : Int32)), .unset, .unset]) rfl ?_
          show Steps p.tables e below (T22.setTop (mkF m 108 #[.val (.long p0), .second, .val (.long p1), .second, .val (.long p2), .second, .val (.long p3), .second, .val (.int p4), .val (.long at2), .second, .val (.long od2), .second, .val (.ref ra8), .val (.ref ra13), .val (.ref b14), .val (.ref b19), .val (.int (1 : Int32)), .unset, .unset] [])) _
          refine XS.goto X22.here hx rfl (pc0 := 108) (pc' := 140) rfl (hb hby at_108) (by decide) (by decide) ?_
          show Steps p.tables e below (T22.setTop (mkF m 140 #[.val (.long p0), .second, .val (.long p1), .second, .val (.long p2), .second, .val (.long p3), .second, .val (.int p4), .val (.long at2), .second, .val (.long od2), .second, .val (.ref ra8), .val (.ref ra13), .val (.ref b14), .val (.ref b19), .val (.int (1 : Int32)), .unset, .unset] [])) _
          refine XS.aload X22.here hx rfl (hb hby at_140) rfl rfl ?_
          show Steps p.tables e below (T22.setTop (mkF m 142 #[.val (.long p0), .second, .val (.long p1), .second, .val (.long p2), .second, .val (.long p3), .second, .val (.int p4), .val (.long at2), .second, .val (.long od2), .second, .val (.ref ra8), .val (.ref ra13), .val (.ref b14), .val (.ref b19), .val (.int (1 : Int32)), .unset, .unset] [(.ref b14)])) _
          refine XS.aload X22.here hx rfl (hb hby at_142) rfl rfl ?_
          show Steps p.tables e below (T22.setTop (mkF m 144 #[.val (.long p0), .second, .val (.long p1), .second, .val (.long p2), .second, .val (.long p3), .second, .val (.int p4), .val (.long at2), .second, .val (.long od2), .second, .val (.ref ra8), .val (.ref ra13), .val (.ref b14), .val (.ref b19), .val (.int (1 : Int32)), .unset, .unset] [(.ref b19), (.ref b14)])) _
          refine st39.trans ?_
          show Steps p.tables e below (T39.setTop (mkF m 147 #[.val (.long p0), .second, .val (.long p1), .second, .val (.long p2), .second, .val (.long p3), .second, .val (.int p4), .val (.long at2), .second, .val (.long od2), .second, .val (.ref ra8), .val (.ref ra13), .val (.ref b14), .val (.ref b19), .val (.int (1 : Int32)), .unset, .unset] [(.int (1 : Int32))])) _
          refine st41 _ ?_
          show Steps p.tables e below (T41.setTop (mkF m 150 #[.val (.long p0), .second, .val (.long p1), .second, .val (.long p2), .second, .val (.long p3), .second, .val (.int p4), .val (.long at2), .second, .val (.long od2), .second, .val (.ref ra8), .val (.ref ra13), .val (.ref b14), .val (.ref b19), .val (.int (1 : Int32)), .unset, .unset] [(.int (1 : Int32))])) _
          refine XS.istore X41.here hx rfl (hb hby at_150) rfl (l' := #[.val (.long p0), .second, .val (.long p1), .second, .val (.long p2), .second, .val (.long p3), .second, .val (.int p4), .val (.long at2), .second, .val (.long od2), .second, .val (.ref ra8), .val (.ref ra13), .val (.ref b14), .val (.ref b19), .val (.int (1 : Int32)), .val (.int (1 : Int32)), .unset]) rfl ?_
          show Steps p.tables e below (T41.setTop (mkF m 152 #[.val (.long p0), .second, .val (.long p1), .second, .val (.long p2), .second, .val (.long p3), .second, .val (.int p4), .val (.long at2), .second, .val (.long od2), .second, .val (.ref ra8), .val (.ref ra13), .val (.ref b14), .val (.ref b19), .val (.int (1 : Int32)), .val (.int (1 : Int32)), .unset] [])) _
          refine XS.aload X41.here hx rfl (hb hby at_152) rfl rfl ?_
          show Steps p.tables e below (T41.setTop (mkF m 154 #[.val (.long p0), .second, .val (.long p1), .second, .val (.long p2), .second, .val (.long p3), .second, .val (.int p4), .val (.long at2), .second, .val (.long od2), .second, .val (.ref ra8), .val (.ref ra13), .val (.ref b14), .val (.ref b19), .val (.int (1 : Int32)), .val (.int (1 : Int32)), .unset] [(.ref b19)])) _
          refine XS.aload X41.here hx rfl (hb hby at_154) rfl rfl ?_
          show Steps p.tables e below (T41.setTop (mkF m 156 #[.val (.long p0), .second, .val (.long p1), .second, .val (.long p2), .second, .val (.long p3), .second, .val (.int p4), .val (.long at2), .second, .val (.long od2), .second, .val (.ref ra8), .val (.ref ra13), .val (.ref b14), .val (.ref b19), .val (.int (1 : Int32)), .val (.int (1 : Int32)), .unset] [(.ref b14), (.ref b19)])) _
          refine st42.trans ?_
          show Steps p.tables e below (T42.setTop (mkF m 159 #[.val (.long p0), .second, .val (.long p1), .second, .val (.long p2), .second, .val (.long p3), .second, .val (.int p4), .val (.long at2), .second, .val (.long od2), .second, .val (.ref ra8), .val (.ref ra13), .val (.ref b14), .val (.ref b19), .val (.int (1 : Int32)), .val (.int (1 : Int32)), .unset] [(.int (-1 : Int32))])) _
          refine st44 _ ?_
          show Steps p.tables e below (T44.setTop (mkF m 162 #[.val (.long p0), .second, .val (.long p1), .second, .val (.long p2), .second, .val (.long p3), .second, .val (.int p4), .val (.long at2), .second, .val (.long od2), .second, .val (.ref ra8), .val (.ref ra13), .val (.ref b14), .val (.ref b19), .val (.int (1 : Int32)), .val (.int (1 : Int32)), .unset] [(.int (-1 : Int32))])) _
          refine XS.istore X44.here hx rfl (hb hby at_162) rfl (l' := #[.val (.long p0), .second, .val (.long p1), .second, .val (.long p2), .second, .val (.long p3), .second, .val (.int p4), .val (.long at2), .second, .val (.long od2), .second, .val (.ref ra8), .val (.ref ra13), .val (.ref b14), .val (.ref b19), .val (.int (1 : Int32)), .val (.int (1 : Int32)), .val (.int (-1 : Int32))]) rfl ?_
          show Steps p.tables e below (T44.setTop (mkF m 164 #[.val (.long p0), .second, .val (.long p1), .second, .val (.long p2), .second, .val (.long p3), .second, .val (.int p4), .val (.long at2), .second, .val (.long od2), .second, .val (.ref ra8), .val (.ref ra13), .val (.ref b14), .val (.ref b19), .val (.int (1 : Int32)), .val (.int (1 : Int32)), .val (.int (-1 : Int32))] [])) _
          refine XS.iload X44.here hx rfl (hb hby at_164) rfl  ?_
          show Steps p.tables e below (T44.setTop (mkF m 166 #[.val (.long p0), .second, .val (.long p1), .second, .val (.long p2), .second, .val (.long p3), .second, .val (.int p4), .val (.long at2), .second, .val (.long od2), .second, .val (.ref ra8), .val (.ref ra13), .val (.ref b14), .val (.ref b19), .val (.int (1 : Int32)), .val (.int (1 : Int32)), .val (.int (-1 : Int32))] [(.int (1 : Int32))])) _
          refine XS.iload X44.here hx rfl (hb hby at_166) rfl  ?_
          show Steps p.tables e below (T44.setTop (mkF m 168 #[.val (.long p0), .second, .val (.long p1), .second, .val (.long p2), .second, .val (.long p3), .second, .val (.int p4), .val (.long at2), .second, .val (.long od2), .second, .val (.ref ra8), .val (.ref ra13), .val (.ref b14), .val (.ref b19), .val (.int (1 : Int32)), .val (.int (1 : Int32)), .val (.int (-1 : Int32))] [(.int (1 : Int32)), (.int (1 : Int32))])) _
          refine XS.icmpNo X44.here hx rfl (hb hby at_168) rfl (teq (by decide : (1 : Int32) = (1 : Int32))).2 ?_
          show Steps p.tables e below (T44.setTop (mkF m 171 #[.val (.long p0), .second, .val (.long p1), .second, .val (.long p2), .second, .val (.long p3), .second, .val (.int p4), .val (.long at2), .second, .val (.long od2), .second, .val (.ref ra8), .val (.ref ra13), .val (.ref b14), .val (.ref b19), .val (.int (1 : Int32)), .val (.int (1 : Int32)), .val (.int (-1 : Int32))] [])) _
          refine XS.iload X44.here hx rfl (hb hby at_171) rfl  ?_
          show Steps p.tables e below (T44.setTop (mkF m 173 #[.val (.long p0), .second, .val (.long p1), .second, .val (.long p2), .second, .val (.long p3), .second, .val (.int p4), .val (.long at2), .second, .val (.long od2), .second, .val (.ref ra8), .val (.ref ra13), .val (.ref b14), .val (.ref b19), .val (.int (1 : Int32)), .val (.int (1 : Int32)), .val (.int (-1 : Int32))] [(.int (-1 : Int32))])) _
          refine XS.iload X44.here hx rfl (hb hby at_173) rfl  ?_
          show Steps p.tables e below (T44.setTop (mkF m 175 #[.val (.long p0), .second, .val (.long p1), .second, .val (.long p2), .second, .val (.long p3), .second, .val (.int p4), .val (.long at2), .second, .val (.long od2), .second, .val (.ref ra8), .val (.ref ra13), .val (.ref b14), .val (.ref b19), .val (.int (1 : Int32)), .val (.int (1 : Int32)), .val (.int (-1 : Int32))] [(.int (1 : Int32)), (.int (-1 : Int32))])) _
          refine XS.ineg X44.here hx rfl (hb hby at_175) rfl ?_
          show Steps p.tables e below (T44.setTop (mkF m 176 #[.val (.long p0), .second, .val (.long p1), .second, .val (.long p2), .second, .val (.long p3), .second, .val (.int p4), .val (.long at2), .second, .val (.long od2), .second, .val (.ref ra8), .val (.ref ra13), .val (.ref b14), .val (.ref b19), .val (.int (1 : Int32)), .val (.int (1 : Int32)), .val (.int (-1 : Int32))] [(.int (-(1 : Int32))), (.int (-1 : Int32))])) _
          refine XS.icmpNo X44.here hx rfl (hb hby at_176) rfl (teq (by decide)).2 ?_
          show Steps p.tables e below (T44.setTop (mkF m 179 #[.val (.long p0), .second, .val (.long p1), .second, .val (.long p2), .second, .val (.long p3), .second, .val (.int p4), .val (.long at2), .second, .val (.long od2), .second, .val (.ref ra8), .val (.ref ra13), .val (.ref b14), .val (.ref b19), .val (.int (1 : Int32)), .val (.int (1 : Int32)), .val (.int (-1 : Int32))] [])) _
          refine XS.iconst X44.here hx rfl (hb hby at_179) ?_
          show Steps p.tables e below (T44.setTop (mkF m 180 #[.val (.long p0), .second, .val (.long p1), .second, .val (.long p2), .second, .val (.long p3), .second, .val (.int p4), .val (.long at2), .second, .val (.long od2), .second, .val (.ref ra8), .val (.ref ra13), .val (.ref b14), .val (.ref b19), .val (.int (1 : Int32)), .val (.int (1 : Int32)), .val (.int (-1 : Int32))] [(.int (1 : Int32))])) _
          refine XS.goto X44.here hx rfl (pc0 := 180) (pc' := 184) rfl (hb hby at_180) (by decide) (by decide) ?_
          show Steps p.tables e below (T44.setTop (mkF m 184 #[.val (.long p0), .second, .val (.long p1), .second, .val (.long p2), .second, .val (.long p3), .second, .val (.int p4), .val (.long at2), .second, .val (.long od2), .second, .val (.ref ra8), .val (.ref ra13), .val (.ref b14), .val (.ref b19), .val (.int (1 : Int32)), .val (.int (1 : Int32)), .val (.int (-1 : Int32))] [(.int (1 : Int32))])) _
          exact retN X44 hx (t := .boolean) Bd.returns (by simp) (hb hby at_184) hr
        · show Q_rm0 Z p0 p1 p2 p3 p4 wC cl h0 n0 _ T44.heap _
          rw [e44]
          exact ⟨rfl, N44⟩
      · have pre46 : ∀ t, Steps p.tables e below (T22.setTop (mkF m 115 #[.val (.long p0), .second, .val (.long p1), .second, .val (.long p2), .second, .val (.long p3), .second, .val (.int p4), .val (.long at2), .second, .val (.long od2), .second, .val (.ref ra8), .val (.ref ra13), .val (.ref b14), .val (.ref b19), .unset, .unset, .unset] [(.int (lcmpW p1 od2))])) t → Steps p.tables e below (s₁.setTop (entryFrame m #[(.long p0), (.long p1), (.long p2), (.long p3), (.int p4)] maxLocals)) t := fun t kt => pre35 t (by
          show Steps p.tables e below (T22.setTop (mkF m 102 #[.val (.long p0), .second, .val (.long p1), .second, .val (.long p2), .second, .val (.long p3), .second, .val (.int p4), .val (.long at2), .second, .val (.long od2), .second, .val (.ref ra8), .val (.ref ra13), .val (.ref b14), .val (.ref b19), .unset, .unset, .unset] [(.int (lcmpW p0 at2))])) _
          refine XS.ifYes X22.here hx rfl (pc0 := 102) (pc' := 111) rfl (hb hby at_102) rfl ((if0 _ _).trans (flt hc102_34).2.2.2) (by decide) (by decide) ?_
          show Steps p.tables e below (T22.setTop (mkF m 111 #[.val (.long p0), .second, .val (.long p1), .second, .val (.long p2), .second, .val (.long p3), .second, .val (.int p4), .val (.long at2), .second, .val (.long od2), .second, .val (.ref ra8), .val (.ref ra13), .val (.ref b14), .val (.ref b19), .unset, .unset, .unset] [])) _
          refine XS.lloadN X22.here hx rfl (hb hby at_111) rfl  ?_
          show Steps p.tables e below (T22.setTop (mkF m 112 #[.val (.long p0), .second, .val (.long p1), .second, .val (.long p2), .second, .val (.long p3), .second, .val (.int p4), .val (.long at2), .second, .val (.long od2), .second, .val (.ref ra8), .val (.ref ra13), .val (.ref b14), .val (.ref b19), .unset, .unset, .unset] [(.long p1)])) _
          refine XS.lload X22.here hx rfl (hb hby at_112) rfl  ?_
          show Steps p.tables e below (T22.setTop (mkF m 114 #[.val (.long p0), .second, .val (.long p1), .second, .val (.long p2), .second, .val (.long p3), .second, .val (.int p4), .val (.long at2), .second, .val (.long od2), .second, .val (.ref ra8), .val (.ref ra13), .val (.ref b14), .val (.ref b19), .unset, .unset, .unset] [(.long od2), (.long p1)])) _
          refine XS.lcmp X22.here hx rfl (hb hby at_114) rfl ?_
          exact kt)
        by_cases hc115_45 : (lcmpW p1 od2) < (0 : Int32)
        · obtain ⟨hr1, hr2⟩ := own_c3 hc89_23 hc102_34 hc115_45
          have f47 := (Nat.le_trans f21 K22.1)
          have f48 := ((Fa17.ext E19).keep K22 (ninS ne19_b14 nin0))
          have f49 := ((Fo17.ext E19).keep K22 (ninS ne19_b14 nin0))
          have f51 := ((f18.ext E19).keep K22)
          obtain ⟨cq50, kq50, q50a, q50b, q50c⟩ := isOf hZ rfl f51
          obtain ⟨_, _, ⟨T50, L50, k50, n50⟩, -, X50, ⟨Lc50, hQ50, l50, y50, z50⟩, st50⟩ := X22.virtualBack hx (y := (⟨"shardwell/container/ExpiryQueue$Timer", "compareTo", "(Lshardwell/container/ExpiryQueue$Timer;)I"⟩ : MethodName)) (z := (⟨"shardwell/container/ExpiryQueue$Timer", "compareTo", "(Lshardwell/container/ExpiryQueue$Timer;)I"⟩ : MethodName)) hown (mvT hZ (hw _ (List.mem_of_getElem? (i := 27) rfl))) (mvT hZ (hw _ (List.mem_of_getElem? (i := 28) rfl))) (notFace_of_selects (args := #[]) (mvT hZ (hw _ (List.mem_of_getElem? (i := 30) rfl)))) (mvT hZ (hw _ (List.mem_of_getElem? (i := 30) rfl))) (mvT hZ (hw _ (List.mem_of_getElem? (i := 29) rfl))) (by decide) (backOf (W := 0) (rmCompareTo l Z a0 hw [] b14 b19 p0 p1 at2 od2 (-1 : Int32) T22.heap n0 f47 f48 f49 Fa22 Fo22 hr1) hZ (hw _ (List.mem_of_getElem? (i := 31) rfl)) (hw _ (List.mem_of_getElem? (i := 9) rfl)) (by decide) (by decide)) q50a q50c (g := (mkF m 144 #[.val (.long p0), .second, .val (.long p1), .second, .val (.long p2), .second, .val (.long p3), .second, .val (.int p4), .val (.long at2), .second, .val (.long od2), .second, .val (.ref ra8), .val (.ref ra13), .val (.ref b14), .val (.ref b19), .val (.int (-1 : Int32)), .unset, .unset] [(.ref b19), (.ref b14)])) rfl (by rw [hml]; rfl) (Steps.refl _) (argsL := [(.ref b19)]) (rest := []) (lenOf pd__Lshardwell_container_ExpiryQueue_Timer__I rfl) rfl (by show 2 * 0 + _ ≤ _; exact Nat.le_of_eq rfl) (hb hby at_144) (fun _ _ => ⟨rfl, rfl, (by decide : 4 + 0 ≤ _), (by decide : 8 + 0 ≤ _)⟩)
          dsimp only [Pt.U, Pt.locs, Pt.cells, Pt.slots] at X50 l50 y50 z50 st50 hQ50
          subst l50 y50 z50
          obtain ⟨rfl, Nq50, e50⟩ := hQ50
          have N50 := Fr.app N22 Nq50
          obtain ⟨_, _, ⟨T52, L52, k52, n52⟩, -, X52, ⟨Lc52, hQ52, l52, y52, z52⟩, st52⟩ := Jvm.LawKit.callS X50 hx (y := (⟨"shardwell/container/TimerCompareToPinLaw", "sign", "(I)I"⟩ : MethodName)) hown (mvT hZ (hw _ (List.mem_of_getElem? (i := 36) rfl))) (mvT hZ (hw _ (List.mem_of_getElem? (i := 37) rfl))) (mvT hZ (hw _ (List.mem_of_getElem? (i := 38) rfl))) (mvT hZ (hw _ (List.mem_of_getElem? (i := 39) rfl))) (by decide) (backOf (W := 0) (rmSign l Z a0 hw [] (-1 : Int32) (-1 : Int32) T22.heap n0 f47 (by decide)) hZ (hw _ (List.mem_of_getElem? (i := 39) rfl)) (hw _ (List.mem_of_getElem? (i := 38) rfl)) (by decide) (by decide)) (g := (mkF m 147 #[.val (.long p0), .second, .val (.long p1), .second, .val (.long p2), .second, .val (.long p3), .second, .val (.int p4), .val (.long at2), .second, .val (.long od2), .second, .val (.ref ra8), .val (.ref ra13), .val (.ref b14), .val (.ref b19), .val (.int (-1 : Int32)), .unset, .unset] [(.int (-1 : Int32))])) rfl (by rw [hml]; rfl) (argsL := [(.int (-1 : Int32))]) (rest := []) (lenOf pd__I_I rfl) rfl (by show 2 * 0 + _ ≤ _; exact Nat.le_of_eq rfl) (hb hby at_147) (fun _ _ => ⟨rfl, e50, (by decide : 4 + 0 ≤ _), (by decide : 8 + 0 ≤ _)⟩)
          dsimp only [Pt.U, Pt.locs, Pt.cells, Pt.slots] at X52 l52 y52 z52 st52 hQ52
          subst l52 y52 z52
          obtain ⟨rfl, Nq52, e52⟩ := hQ52
          have N52 := Fr.app N50 Nq52
          have f54 := (A19.keep K22)
          obtain ⟨cq53, kq53, q53a, q53b, q53c⟩ := isOf hZ e52 f54
          obtain ⟨_, _, ⟨T53, L53, k53, n53⟩, -, X53, ⟨Lc53, hQ53, l53, y53, z53⟩, st53⟩ := X52.virtualBack hx (y := (⟨"shardwell/container/ExpiryQueue$Timer", "compareTo", "(Lshardwell/container/ExpiryQueue$Timer;)I"⟩ : MethodName)) (z := (⟨"shardwell/container/ExpiryQueue$Timer", "compareTo", "(Lshardwell/container/ExpiryQueue$Timer;)I"⟩ : MethodName)) hown (mvT hZ (hw _ (List.mem_of_getElem? (i := 27) rfl))) (mvT hZ (hw _ (List.mem_of_getElem? (i := 28) rfl))) (notFace_of_selects (args := #[]) (mvT hZ (hw _ (List.mem_of_getElem? (i := 30) rfl)))) (mvT hZ (hw _ (List.mem_of_getElem? (i := 30) rfl))) (mvT hZ (hw _ (List.mem_of_getElem? (i := 29) rfl))) (by decide) (backOf (W := 0) (rmCompareTo l Z a0 hw [] b19 b14 at2 od2 p0 p1 (1 : Int32) T22.heap n0 f47 Fa22 Fo22 f48 f49 hr2) hZ (hw _ (List.mem_of_getElem? (i := 31) rfl)) (hw _ (List.mem_of_getElem? (i := 9) rfl)) (by decide) (by decide)) q53a q53c (g := (mkF m 156 #[.val (.long p0), .second, .val (.long p1), .second, .val (.long p2), .second, .val (.long p3), .second, .val (.int p4), .val (.long at2), .second, .val (.long od2), .second, .val (.ref ra8), .val (.ref ra13), .val (.ref b14), .val (.ref b19), .val (.int (-1 : Int32)), .val (.int (-1 : Int32)), .unset] [(.ref b14), (.ref b19)])) rfl (by rw [hml]; rfl) (Steps.refl _) (argsL := [(.ref b14)]) (rest := []) (lenOf pd__Lshardwell_container_ExpiryQueue_Timer__I rfl) rfl (by show 2 * 0 + _ ≤ _; exact Nat.le_of_eq rfl) (hb hby at_156) (fun _ _ => ⟨rfl, e52, (by decide : 4 + 0 ≤ _), (by decide : 8 + 0 ≤ _)⟩)
          dsimp only [Pt.U, Pt.locs, Pt.cells, Pt.slots] at X53 l53 y53 z53 st53 hQ53
          subst l53 y53 z53
          obtain ⟨rfl, Nq53, e53⟩ := hQ53
          have N53 := Fr.app N52 Nq53
          obtain ⟨_, _, ⟨T55, L55, k55, n55⟩, -, X55, ⟨Lc55, hQ55, l55, y55, z55⟩, st55⟩ := Jvm.LawKit.callS X53 hx (y := (⟨"shardwell/container/TimerCompareToPinLaw", "sign", "(I)I"⟩ : MethodName)) hown (mvT hZ (hw _ (List.mem_of_getElem? (i := 36) rfl))) (mvT hZ (hw _ (List.mem_of_getElem? (i := 37) rfl))) (mvT hZ (hw _ (List.mem_of_getElem? (i := 38) rfl))) (mvT hZ (hw _ (List.mem_of_getElem? (i := 39) rfl))) (by decide) (backOf (W := 0) (rmSign l Z a0 hw [] (1 : Int32) (1 : Int32) T22.heap n0 f47 (by decide)) hZ (hw _ (List.mem_of_getElem? (i := 39) rfl)) (hw _ (List.mem_of_getElem? (i := 38) rfl)) (by decide) (by decide)) (g := (mkF m 159 #[.val (.long p0), .second, .val (.long p1), .second, .val (.long p2), .second, .val (.long p3), .second, .val (.int p4), .val (.long at2), .second, .val (.long od2), .second, .val (.ref ra8), .val (.ref ra13), .val (.ref b14), .val (.ref b19), .val (.int (-1 : Int32)), .val (.int (-1 : Int32)), .unset] [(.int (1 : Int32))])) rfl (by rw [hml]; rfl) (argsL := [(.int (1 : Int32))]) (rest := []) (lenOf pd__I_I rfl) rfl (by show 2 * 0 + _ ≤ _; exact Nat.le_of_eq rfl) (hb hby at_159) (fun _ _ => ⟨rfl, e53, (by decide : 4 + 0 ≤ _), (by decide : 8 + 0 ≤ _)⟩)
          dsimp only [Pt.U, Pt.locs, Pt.cells, Pt.slots] at X55 l55 y55 z55 st55 hQ55
          subst l55 y55 z55
          obtain ⟨rfl, Nq55, e55⟩ := hQ55
          have N55 := Fr.app N53 Nq55
          obtain ⟨fs, hr, hrun, hended, hW, hsame⟩ := X55.leave (v := some (.int (1 : Int32))) (fun h => by rw [Bd.returns] at h; cases h)
          refine ⟨_, _, pre46 _ ?_, hrun, hended, _, _, rfl, ?_, ⟨_, rfl⟩, hW, hsame.mono (by decide) (by decide)⟩
          · show Steps p.tables e below (T22.setTop (mkF m 115 #[.val (.long p0), .second, .val (.long p1), .second, .val (.long p2), .second, .val (.long p3), .second, .val (.int p4), .val (.long at2), .second, .val (.long od2), .second, .val (.ref ra8), .val (.ref ra13), .val (.ref b14), .val (.ref b19), .unset, .unset, .unset] [(.int (lcmpW p1 od2))])) _
            refine XS.ifNo X22.here hx rfl (hb hby at_115) rfl ((if0 _ _).trans (tlt hc115_45).2.1) ?_
            show Steps p.tables e below (T22.setTop (mkF m 118 #[.val (.long p0), .second, .val (.long p1), .second, .val (.long p2), .second, .val (.long p3), .second, .val (.int p4), .val (.long at2), .second, .val (.long od2), .second, .val (.ref ra8), .val (.ref ra13), .val (.ref b14), .val (.ref b19), .unset, .unset, .unset] [])) _
            refine XS.iconst X22.here hx rfl (hb hby at_118) ?_
            show Steps p.tables e below (T22.setTop (mkF m 119 #[.val (.long p0), .second, .val (.long p1), .second, .val (.long p2), .second, .val (.long p3), .second, .val (.int p4), .val (.long at2), .second, .val (.long od2), .second, .val (.ref ra8), .val (.ref ra13), .val (.ref b14), .val (.ref b19), .unset, .unset, .unset] [(.int (-1 : Int32))])) _
            refine XS.istore X22.here hx rfl (hb hby at_119) rfl (l' := #[.val (.long p0), .second, .val (.long p1), .second, .val (.long p2), .second, .val (.long p3), .second, .val (.int p4), .val (.long at2), .second, .val (.long od2), .second, .val (.ref ra8), .val (.ref ra13), .val (.ref b14), .val (.ref b19), .val (.int (-1 : Int32)), .unset, .unset]) rfl ?_
            show Steps p.tables e below (T22.setTop (mkF m 121 #[.val (.long p0), .second, .val (.long p1), .second, .val (.long p2), .second, .val (.long p3), .second, .val (.int p4), .val (.long at2), .second, .val (.long od2), .second, .val (.ref ra8), .val (.ref ra13), .val (.ref b14), .val (.ref b19), .val (.int (-1 : Int32)), .unset, .unset] [])) _
            refine XS.goto X22.here hx rfl (pc0 := 121) (pc' := 140) rfl (hb hby at_121) (by decide) (by decide) ?_
            show Steps p.tables e below (T22.setTop (mkF m 140 #[.val (.long p0), .second, .val (.long p1), .second, .val (.long p2), .second, .val (.long p3), .second, .val (.int p4), .val (.long at2), .second, .val (.long od2), .second, .val (.ref ra8), .val (.ref ra13), .val (.ref b14), .val (.ref b19), .val (.int (-1 : Int32)), .unset, .unset] [])) _
            refine XS.aload X22.here hx rfl (hb hby at_140) rfl rfl ?_
            show Steps p.tables e below (T22.setTop (mkF m 142 #[.val (.long p0), .second, .val (.long p1), .second, .val (.long p2), .second, .val (.long p3), .second, .val (.int p4), .val (.long at2), .second, .val (.long od2), .second, .val (.ref ra8), .val (.ref ra13), .val (.ref b14), .val (.ref b19), .val (.int (-1 : Int32)), .unset, .unset] [(.ref b14)])) _
            refine XS.aload X22.here hx rfl (hb hby at_142) rfl rfl ?_
            show Steps p.tables e below (T22.setTop (mkF m 144 #[.val (.long p0), .second, .val (.long p1), .second, .val (.long p2), .second, .val (.long p3), .second, .val (.int p4), .val (.long at2), .second, .val (.long od2), .second, .val (.ref ra8), .val (.ref ra13), .val (.ref b14), .val (.ref b19), .val (.int (-1 : Int32)), .unset, .unset] [(.ref b19), (.ref b14)])) _
            refine st50.trans ?_
            show Steps p.tables e below (T50.setTop (mkF m 147 #[.val (.long p0), .second, .val (.long p1), .second, .val (.long p2), .second, .val (.long p3), .second, .val (.int p4), .val (.long at2), .second, .val (.long od2), .second, .val (.ref ra8), .val (.ref ra13), .val (.ref b14), .val (.ref b19), .val (.int (-1 : Int32)), .unset, .unset] [(.int (-1 : Int32))])) _
            refine st52 _ ?_
            show Steps p.tables e below (T52.setTop (mkF m 150 #[.val (.long p0), .second, .val (.long p1), .second, .val (.long p2), .second, .val (.long p3), .second, .val (.int p4), .val (.long at2), .second, .val (.long od2), .second, .val (.ref ra8), .val (.ref ra13), .val (.ref b14), .val (.ref b19), .val (.int (-1 : Int32)), .unset, .unset] [(.int (-1 : Int32))])) _
            refine XS.istore X52.here hx rfl (hb hby at_150) rfl (l' := #[.val (.long p0), .second, .val (.long p1), .second, .val (.long p2), .second, .val (.long p3), .second, .val (.int p4), .val (.long at2), .second, .val (.long od2), .second, .val (.ref ra8), .val (.ref ra13), .val (.ref b14), .val (.ref b19), .val (.int (-1 : Int32)), .val (.int (-1 : Int32)), .unset]) rfl ?_
            show Steps p.tables e below (T52.setTop (mkF m 152 #[.val (.long p0), .second, .val (.long p1), .second, .val (.long p2), .second, .val (.long p3), .second, .val (.int p4), .val (.long at2), .second, .val (.long od2), .second, .val (.ref ra8), .val (.ref ra13), .val (.ref b14), .val (.ref b19), .val (.int (-1 : Int32)), .val (.int (-1 : Int32)), .unset] [])) _
            refine XS.aload X52.here hx rfl (hb hby at_152) rfl rfl ?_
            show Steps p.tables e below (T52.setTop (mkF m 154 #[.val (.long p0), .second, .val (.long p1), .second, .val (.long p2), .second, .val (.long p3), .second, .val (.int p4), .val (.long at2), .second, .val (.long od2), .second, .val (.ref ra8), .val (.ref ra13), .val (.ref b14), .val (.ref b19), .val (.int (-1 : Int32)), .val (.int (-1 : Int32)), .unset] [(.ref b19)])) _
            refine XS.aload X52.here hx rfl (hb hby at_154) rfl rfl ?_
            show Steps p.tables e below (T52.setTop (mkF m 156 #[.val (.long p0), .second, .val (.long p1), .second, .val (.long p2), .second, .val (.long p3), .second, .val (.int p4), .val (.long at2), .second, .val (.long od2), .second, .val (.ref ra8), .val (.ref ra13), .val (.ref b14), .val (.ref b19), .val (.int (-1 : Int32)), .val (.int (-1 : Int32)), .unset] [(.ref b14), (.ref b19)])) _
            refine st53.trans ?_
            show Steps p.tables e below (T53.setTop (mkF m 159 #[.val (.long p0), .second, .val (.long p1), .second, .val (.long p2), .second, .val (.long p3), .second, .val (.int p4), .val (.long at2), .second, .val (.long od2), .second, .val (.ref ra8), .val (.ref ra13), .val (.ref b14), .val (.ref b19), .val (.int (-1 : Int32)), .val (.int (-1 : Int32)), .unset] [(.int (1 : Int32))])) _
            refine st55 _ ?_
            show Steps p.tables e below (T55.setTop (mkF m 162 #[.val (.long p0), .second, .val (.long p1), .second, .val (.long p2), .second, .val (.long p3), .second, .val (.int p4), .val (.long at2), .second, .val (.long od2), .second, .val (.ref ra8), .val (.ref ra13), .val (.ref b14), .val (.ref b19), .val (.int (-1 : Int32)), .val (.int (-1 : Int32)), .unset] [(.int (1 : Int32))])) _
            refine XS.istore X55.here hx rfl (hb hby at_162) rfl (l' := #[.val (.long p0), .second, .val (.long p1), .second, .val (.long p2), .second, .val (.long p3), .second, .val (.int p4), .val (.long at2), .second, .val (.long od2), .second, .val (.ref ra8), .val (.ref ra13), .val (.ref b14), .val (.ref b19), .val (.int (-1 : Int32)), .val (.int (-1 : Int32)), .val (.int (1 : Int32))]) rfl ?_
            show Steps p.tables e below (T55.setTop (mkF m 164 #[.val (.long p0), .second, .val (.long p1), .second, .val (.long p2), .second, .val (.long p3), .second, .val (.int p4), .val (.long at2), .second, .val (.long od2), .second, .val (.ref ra8), .val (.ref ra13), .val (.ref b14), .val (.ref b19), .val (.int (-1 : Int32)), .val (.int (-1 : Int32)), .val (.int (1 : Int32))] [])) _
            refine XS.iload X55.here hx rfl (hb hby at_164) rfl  ?_
            show Steps p.tables e below (T55.setTop (mkF m 166 #[.val (.long p0), .second, .val (.long p1), .second, .val (.long p2), .second, .val (.long p3), .second, .val (.int p4), .val (.long at2), .second, .val (.long od2), .second, .val (.ref ra8), .val (.ref ra13), .val (.ref b14), .val (.ref b19), .val (.int (-1 : Int32)), .val (.int (-1 : Int32)), .val (.int (1 : Int32))] [(.int (-1 : Int32))])) _
            refine XS.iload X55.here hx rfl (hb hby at_166) rfl  ?_
            show Steps p.tables e below (T55.setTop (mkF m 168 #[.val (.long p0), .second, .val (.long p1), .second, .val (.long p2), .second, .val (.long p3), .second, .val (.int p4), .val (.long at2), .second, .val (.long od2), .second, .val (.ref ra8), .val (.ref ra13), .val (.ref b14), .val (.ref b19), .val (.int (-1 : Int32)), .val (.int (-1 : Int32)), .val (.int (1 : Int32))] [(.int (-1 : Int32)), (.int (-1 : Int32))])) _
            refine XS.icmpNo X55.here hx rfl (hb hby at_168) rfl (teq (by decide : (-1 : Int32) = (-1 : Int32))).2 ?_
            show Steps p.tables e below (T55.setTop (mkF m 171 #[.val (.long p0), .second, .val (.long p1), .second, .val (.long p2), .second, .val (.long p3), .second, .val (.int p4), .val (.long at2), .second, .val (.long od2), .second, .val (.ref ra8), .val (.ref ra13), .val (.ref b14), .val (.ref b19), .val (.int (-1 : Int32)), .val (.int (-1 : Int32)), .val (.int (1 : Int32))] [])) _
            refine XS.iload X55.here hx rfl (hb hby at_171) rfl  ?_
            show Steps p.tables e below (T55.setTop (mkF m 173 #[.val (.long p0), .second, .val (.long p1), .second, .val (.long p2), .second, .val (.long p3), .second, .val (.int p4), .val (.long at2), .second, .val (.long od2), .second, .val (.ref ra8), .val (.ref ra13), .val (.ref b14), .val (.ref b19), .val (.int (-1 : Int32)), .val (.int (-1 : Int32)), .val (.int (1 : Int32))] [(.int (1 : Int32))])) _
            refine XS.iload X55.here hx rfl (hb hby at_173) rfl  ?_
            show Steps p.tables e below (T55.setTop (mkF m 175 #[.val (.long p0), .second, .val (.long p1), .second, .val (.long p2), .second, .val (.long p3), .second, .val (.int p4), .val (.long at2), .second, .val (.long od2), .second, .val (.ref ra8), .val (.ref ra13), .val (.ref b14), .val (.ref b19), .val (.int (-1 : Int32)), .val (.int (-1 : Int32)), .val (.int (1 : Int32))] [(.int (-1 : Int32)), (.int (1 : Int32))])) _
            refine XS.ineg X55.here hx rfl (hb hby at_175) rfl ?_
            show Steps p.tables e below (T55.setTop (mkF m 176 #[.val (.long p0), .second, .val (.long p1), .second, .val (.long p2), .second, .val (.long p3), .second, .val (.int p4), .val (.long at2), .second, .val (.long od2), .second, .val (.ref ra8), .val (.ref ra13), .val (.ref b14), .val (.ref b19), .val (.int (-1 : Int32)), .val (.int (-1 : Int32)), .val (.int (1 : Int32))] [(.int (-(-1 : Int32))), (.int (1 : Int32))])) _
            refine XS.icmpNo X55.here hx rfl (hb hby at_176) rfl (teq (by decide)).2 ?_
            show Steps p.tables e below (T55.setTop (mkF m 179 #[.val (.long p0), .second, .val (.long p1), .second, .val (.long p2), .second, .val (.long p3), .second, .val (.int p4), .val (.long at2), .second, .val (.long od2), .second, .val (.ref ra8), .val (.ref ra13), .val (.ref b14), .val (.ref b19), .val (.int (-1 : Int32)), .val (.int (-1 : Int32)), .val (.int (1 : Int32))] [])) _
            refine XS.iconst X55.here hx rfl (hb hby at_179) ?_
            show Steps p.tables e below (T55.setTop (mkF m 180 #[.val (.long p0), .second, .val (.long p1), .second, .val (.long p2), .second, .val (.long p3), .second, .val (.int p4), .val (.long at2), .second, .val (.long od2), .second, .val (.ref ra8), .val (.ref ra13), .val (.ref b14), .val (.ref b19), .val (.int (-1 : Int32)), .val (.int (-1 : Int32)), .val (.int (1 : Int32))] [(.int (1 : Int32))])) _
            refine XS.goto X55.here hx rfl (pc0 := 180) (pc' := 184) rfl (hb hby at_180) (by decide) (by decide) ?_
            show Steps p.tables e below (T55.setTop (mkF m 184 #[.val (.long p0), .second, .val (.long p1), .second, .val (.long p2), .second, .val (.long p3), .second, .val (.int p4), .val (.long at2), .second, .val (.long od2), .second, .val (.ref ra8), .val (.ref ra13), .val (.ref b14), .val (.ref b19), .val (.int (-1 : Int32)), .val (.int (-1 : Int32)), .val (.int (1 : Int32))] [(.int (1 : Int32))])) _
            exact retN X55 hx (t := .boolean) Bd.returns (by simp) (hb hby at_184) hr
          · show Q_rm0 Z p0 p1 p2 p3 p4 wC cl h0 n0 _ T55.heap _
            rw [e55]
            exact ⟨rfl, N55⟩
        · have pre57 : ∀ t, Steps p.tables e below (T22.setTop (mkF m 128 #[.val (.long p0), .second, .val (.long p1), .second, .val (.long p2), .second, .val (.long p3), .second, .val (.int p4), .val (.long at2), .second, .val (.long od2), .second, .val (.ref ra8), .val (.ref ra13), .val (.ref b14), .val (.ref b19), .unset, .unset, .unset] [(.int (lcmpW p1 od2))])) t → Steps p.tables e below (s₁.setTop (entryFrame m #[(.long p0), (.long p1), (.long p2), (.long p3), (.int p4)] maxLocals)) t := fun t kt => pre46 t (by
            show Steps p.tables e below (T22.setTop (mkF m 115 #[.val (.long p0), .second, .val (.long p1), .second, .val (.long p2), .second, .val (.long p3), .second, .val (.int p4), .val (.long at2), .second, .val (.long od2), .second, .val (.ref ra8), .val (.ref ra13), .val (.ref b14), .val (.ref b19), .unset, .unset, .unset] [(.int (lcmpW p1 od2))])) _
            refine XS.ifYes X22.here hx rfl (pc0 := 115) (pc' := 124) rfl (hb hby at_115) rfl ((if0 _ _).trans (flt hc115_45).2.1) (by decide) (by decide) ?_
            show Steps p.tables e below (T22.setTop (mkF m 124 #[.val (.long p0), .second, .val (.long p1), .second, .val (.long p2), .second, .val (.long p3), .second, .val (.int p4), .val (.long at2), .second, .val (.long od2), .second, .val (.ref ra8), .val (.ref ra13), .val (.ref b14), .val (.ref b19), .unset, .unset, .unset] [])) _
            refine XS.lloadN X22.here hx rfl (hb hby at_124) rfl  ?_
            show Steps p.tables e below (T22.setTop (mkF m 125 #[.val (.long p0), .second, .val (.long p1), .second, .val (.long p2), .second, .val (.long p3), .second, .val (.int p4), .val (.long at2), .second, .val (.long od2), .second, .val (.ref ra8), .val (.ref ra13), .val (.ref b14), .val (.ref b19), .unset, .unset, .unset] [(.long p1)])) _
            refine XS.lload X22.here hx rfl (hb hby at_125) rfl  ?_
            show Steps p.tables e below (T22.setTop (mkF m 127 #[.val (.long p0), .second, .val (.long p1), .second, .val (.long p2), .second, .val (.long p3), .second, .val (.int p4), .val (.long at2), .second, .val (.long od2), .second, .val (.ref ra8), .val (.ref ra13), .val (.ref b14), .val (.ref b19), .unset, .unset, .unset] [(.long od2), (.long p1)])) _
            refine XS.lcmp X22.here hx rfl (hb hby at_127) rfl ?_
            exact kt)
          by_cases hc128_56 : (0 : Int32) < (lcmpW p1 od2)
          · obtain ⟨hr1, hr2⟩ := own_c4 hc89_23 hc102_34 hc128_56
            have f58 := (Nat.le_trans f21 K22.1)
            have f59 := ((Fa17.ext E19).keep K22 (ninS ne19_b14 nin0))
            have f60 := ((Fo17.ext E19).keep K22 (ninS ne19_b14 nin0))
            have f62 := ((f18.ext E19).keep K22)
            obtain ⟨cq61, kq61, q61a, q61b, q61c⟩ := isOf hZ rfl f62
            obtain ⟨_, _, ⟨T61, L61, k61, n61⟩, -, X61, ⟨Lc61, hQ61, l61, y61, z61⟩, st61⟩ := X22.virtualBack hx (y := (⟨"shardwell/container/ExpiryQueue$Timer", "compareTo", "(Lshardwell/container/ExpiryQueue$Timer;)I"⟩ : MethodName)) (z := (⟨"shardwell/container/ExpiryQueue$Timer", "compareTo", "(Lshardwell/container/ExpiryQueue$Timer;)I"⟩ : MethodName)) hown (mvT hZ (hw _ (List.mem_of_getElem? (i := 27) rfl))) (mvT hZ (hw _ (List.mem_of_getElem? (i := 28) rfl))) (notFace_of_selects (args := #[]) (mvT hZ (hw _ (List.mem_of_getElem? (i := 30) rfl)))) (mvT hZ (hw _ (List.mem_of_getElem? (i := 30) rfl))) (mvT hZ (hw _ (List.mem_of_getElem? (i := 29) rfl))) (by decide) (backOf (W := 0) (rmCompareTo l Z a0 hw [] b14 b19 p0 p1 at2 od2 (1 : Int32) T22.heap n0 f58 f59 f60 Fa22 Fo22 hr1) hZ (hw _ (List.mem_of_getElem? (i := 31) rfl)) (hw _ (List.mem_of_getElem? (i := 9) rfl)) (by decide) (by decide)) q61a q61c (g := (mkF m 144 #[.val (.long p0), .second, .val (.long p1), .second, .val (.long p2), .second, .val (.long p3), .second, .val (.int p4), .val (.long at2), .second, .val (.long od2), .second, .val (.ref ra8), .val (.ref ra13), .val (.ref b14), .val (.ref b19), .val (.int (1 : Int32)), .unset, .unset] [(.ref b19), (.ref b14)])) rfl (by rw [hml]; rfl) (Steps.refl _) (argsL := [(.ref b19)]) (rest := []) (lenOf pd__Lshardwell_container_ExpiryQueue_Timer__I rfl) rfl (by show 2 * 0 + _ ≤ _; exact Nat.le_of_eq rfl) (hb hby at_144) (fun _ _ => ⟨rfl, rfl, (by decide : 4 + 0 ≤ _), (by decide : 8 + 0 ≤ _)⟩)
            dsimp only [Pt.U, Pt.locs, Pt.cells, Pt.slots] at X61 l61 y61 z61 st61 hQ61
            subst l61 y61 z61
            obtain ⟨rfl, Nq61, e61⟩ := hQ61
            have N61 := Fr.app N22 Nq61
            obtain ⟨_, _, ⟨T63, L63, k63, n63⟩, -, X63, ⟨Lc63, hQ63, l63, y63, z63⟩, st63⟩ := Jvm.LawKit.callS X61 hx (y := (⟨"shardwell/container/TimerCompareToPinLaw", "sign", "(I)I"⟩ : MethodName)) hown (mvT hZ (hw _ (List.mem_of_getElem? (i := 36) rfl))) (mvT hZ (hw _ (List.mem_of_getElem? (i := 37) rfl))) (mvT hZ (hw _ (List.mem_of_getElem? (i := 38) rfl))) (mvT hZ (hw _ (List.mem_of_getElem? (i := 39) rfl))) (by decide) (backOf (W := 0) (rmSign l Z a0 hw [] (1 : Int32) (1 : Int32) T22.heap n0 f58 (by decide)) hZ (hw _ (List.mem_of_getElem? (i := 39) rfl)) (hw _ (List.mem_of_getElem? (i := 38) rfl)) (by decide) (by decide)) (g := (mkF m 147 #[.val (.long p0), .second, .val (.long p1), .second, .val (.long p2), .second, .val (.long p3), .second, .val (.int p4), .val (.long at2), .second, .val (.long od2), .second, .val (.ref ra8), .val (.ref ra13), .val (.ref b14), .val (.ref b19), .val (.int (1 : Int32)), .unset, .unset] [(.int (1 : Int32))])) rfl (by rw [hml]; rfl) (argsL := [(.int (1 : Int32))]) (rest := []) (lenOf pd__I_I rfl) rfl (by show 2 * 0 + _ ≤ _; exact Nat.le_of_eq rfl) (hb hby at_147) (fun _ _ => ⟨rfl, e61, (by decide : 4 + 0 ≤ _), (by decide : 8 + 0 ≤ _)⟩)
            dsimp only [Pt.U, Pt.locs, Pt.cells, Pt.slots] at X63 l63 y63 z63 st63 hQ63
            subst l63 y63 z63
            obtain ⟨rfl, Nq63, e63⟩ := hQ63
            have N63 := Fr.app N61 Nq63
            have f65 := (A19.keep K22)
            obtain ⟨cq64, kq64, q64a, q64b, q64c⟩ := isOf hZ e63 f65
            obtain ⟨_, _, ⟨T64, L64, k64, n64⟩, -, X64, ⟨Lc64, hQ64, l64, y64, z64⟩, st64⟩ := X63.virtualBack hx (y := (⟨"shardwell/container/ExpiryQueue$Timer", "compareTo", "(Lshardwell/container/ExpiryQueue$Timer;)I"⟩ : MethodName)) (z := (⟨"shardwell/container/ExpiryQueue$Timer", "compareTo", "(Lshardwell/container/ExpiryQueue$Timer;)I"⟩ : MethodName)) hown (mvT hZ (hw _ (List.mem_of_getElem? (i := 27) rfl))) (mvT hZ (hw _ (List.mem_of_getElem? (i := 28) rfl))) (notFace_of_selects (args := #[]) (mvT hZ (hw _ (List.mem_of_getElem? (i := 30) rfl)))) (mvT hZ (hw _ (List.mem_of_getElem? (i := 30) rfl))) (mvT hZ (hw _ (List.mem_of_getElem? (i := 29) rfl))) (by decide) (backOf (W := 0) (rmCompareTo l Z a0 hw [] b19 b14 at2 od2 p0 p1 (-1 : Int32) T22.heap n0 f58 Fa22 Fo22 f59 f60 hr2) hZ (hw _ (List.mem_of_getElem? (i := 31) rfl)) (hw _ (List.mem_of_getElem? (i := 9) rfl)) (by decide) (by decide)) q64a q64c (g := (mkF m 156 #[.val (.long p0), .second, .val (.long p1), .second, .val (.long p2), .second, .val (.long p3), .second, .val (.int p4), .val (.long at2), .second, .val (.long od2), .second, .val (.ref ra8), .val (.ref ra13), .val (.ref b14), .val (.ref b19), .val (.int (1 : Int32)), .val (.int (1 : Int32)), .unset] [(.ref b14), (.ref b19)])) rfl (by rw [hml]; rfl) (Steps.refl _) (argsL := [(.ref b14)]) (rest := []) (lenOf pd__Lshardwell_container_ExpiryQueue_Timer__I rfl) rfl (by show 2 * 0 + _ ≤ _; exact Nat.le_of_eq rfl) (hb hby at_156) (fun _ _ => ⟨rfl, e63, (by decide : 4 + 0 ≤ _), (by decide : 8 + 0 ≤ _)⟩)
            dsimp only [Pt.U, Pt.locs, Pt.cells, Pt.slots] at X64 l64 y64 z64 st64 hQ64
            subst l64 y64 z64
            obtain ⟨rfl, Nq64, e64⟩ := hQ64
            have N64 := Fr.app N63 Nq64
            obtain ⟨_, _, ⟨T66, L66, k66, n66⟩, -, X66, ⟨Lc66, hQ66, l66, y66, z66⟩, st66⟩ := Jvm.LawKit.callS X64 hx (y := (⟨"shardwell/container/TimerCompareToPinLaw", "sign", "(I)I"⟩ : MethodName)) hown (mvT hZ (hw _ (List.mem_of_getElem? (i := 36) rfl))) (mvT hZ (hw _ (List.mem_of_getElem? (i := 37) rfl))) (mvT hZ (hw _ (List.mem_of_getElem? (i := 38) rfl))) (mvT hZ (hw _ (List.mem_of_getElem? (i := 39) rfl))) (by decide) (backOf (W := 0) (rmSign l Z a0 hw [] (-1 : Int32) (-1 : Int32) T22.heap n0 f58 (by decide)) hZ (hw _ (List.mem_of_getElem? (i := 39) rfl)) (hw _ (List.mem_of_getElem? (i := 38) rfl)) (by decide) (by decide)) (g := (mkF m 159 #[.val (.long p0), .second, .val (.long p1), .second, .val (.long p2), .second, .val (.long p3), .second, .val (.int p4), .val (.long at2), .second, .val (.long od2), .second, .val (.ref ra8), .val (.ref ra13), .val (.ref b14), .val (.ref b19), .val (.int (1 : Int32)), .val (.int (1 : Int32)), .unset] [(.int (-1 : Int32))])) rfl (by rw [hml]; rfl) (argsL := [(.int (-1 : Int32))]) (rest := []) (lenOf pd__I_I rfl) rfl (by show 2 * 0 + _ ≤ _; exact Nat.le_of_eq rfl) (hb hby at_159) (fun _ _ => ⟨rfl, e64, (by decide : 4 + 0 ≤ _), (by decide : 8 + 0 ≤ _)⟩)
            dsimp only [Pt.U, Pt.locs, Pt.cells, Pt.slots] at X66 l66 y66 z66 st66 hQ66
            subst l66 y66 z66
            obtain ⟨rfl, Nq66, e66⟩ := hQ66
            have N66 := Fr.app N64 Nq66
            obtain ⟨fs, hr, hrun, hended, hW, hsame⟩ := X66.leave (v := some (.int (1 : Int32))) (fun h => by rw [Bd.returns] at h; cases h)
            refine ⟨_, _, pre57 _ ?_, hrun, hended, _, _, rfl, ?_, ⟨_, rfl⟩, hW, hsame.mono (by decide) (by decide)⟩
            · show Steps p.tables e below (T22.setTop (mkF m 128 #[.val (.long p0), .second, .val (.long p1), .second, .val (.long p2), .second, .val (.long p3), .second, .val (.int p4), .val (.long at2), .second, .val (.long od2), .second, .val (.ref ra8), .val (.ref ra13), .val (.ref b14), .val (.ref b19), .unset, .unset, .unset] [(.int (lcmpW p1 od2))])) _
              refine XS.ifNo X22.here hx rfl (hb hby at_128) rfl ((if0 _ _).trans (tlt hc128_56).2.2.2) ?_
              show Steps p.tables e below (T22.setTop (mkF m 131 #[.val (.long p0), .second, .val (.long p1), .second, .val (.long p2), .second, .val (.long p3), .second, .val (.int p4), .val (.long at2), .second, .val (.long od2), .second, .val (.ref ra8), .val (.ref ra13), .val (.ref b14), .val (.ref b19), .unset, .unset, .unset] [])) _
              refine XS.iconst X22.here hx rfl (hb hby at_131) ?_
              show Steps p.tables e below (T22.setTop (mkF m 132 #[.val (.long p0), .second, .val (.long p1), .second, .val (.long p2), .second, .val (.long p3), .second, .val (.int p4), .val (.long at2), .second, .val (.long od2), .second, .val (.ref ra8), .val (.ref ra13), .val (.ref b14), .val (.ref b19), .unset, .unset, .unset] [(.int (1 : Int32))])) _
              refine XS.istore X22.here hx rfl (hb hby at_132) rfl (l' := #[.val (.long p0), .second, .val (.long p1), .second, .val (.long p2), .second, .val (.long p3), .second, .val (.int p4), .val (.long at2), .second, .val (.long od2), .second, .val (.ref ra8), .val (.ref ra13), .val (.ref b14), .val (.ref b19), .val (.int (1 : Int32)), .unset, .unset]) rfl ?_
              show Steps p.tables e below (T22.setTop (mkF m 134 #[.val (.long p0), .second, .val (.long p1), .second, .val (.long p2), .second, .val (.long p3), .second, .val (.int p4), .val (.long at2), .second, .val (.long od2), .second, .val (.ref ra8), .val (.ref ra13), .val (.ref b14), .val (.ref b19), .val (.int (1 : Int32)), .unset, .unset] [])) _
              refine XS.goto X22.here hx rfl (pc0 := 134) (pc' := 140) rfl (hb hby at_134) (by decide) (by decide) ?_
              show Steps p.tables e below (T22.setTop (mkF m 140 #[.val (.long p0), .second, .val (.long p1), .second, .val (.long p2), .second, .val (.long p3), .second, .val (.int p4), .val (.long at2), .second, .val (.long od2), .second, .val (.ref ra8), .val (.ref ra13), .val (.ref b14), .val (.ref b19), .val (.int (1 : Int32)), .unset, .unset] [])) _
              refine XS.aload X22.here hx rfl (hb hby at_140) rfl rfl ?_
              show Steps p.tables e below (T22.setTop (mkF m 142 #[.val (.long p0), .second, .val (.long p1), .second, .val (.long p2), .second, .val (.long p3), .second, .val (.int p4), .val (.long at2), .second, .val (.long od2), .second, .val (.ref ra8), .val (.ref ra13), .val (.ref b14), .val (.ref b19), .val (.int (1 : Int32)), .unset, .unset] [(.ref b14)])) _
              refine XS.aload X22.here hx rfl (hb hby at_142) rfl rfl ?_
              show Steps p.tables e below (T22.setTop (mkF m 144 #[.val (.long p0), .second, .val (.long p1), .second, .val (.long p2), .second, .val (.long p3), .second, .val (.int p4), .val (.long at2), .second, .val (.long od2), .second, .val (.ref ra8), .val (.ref ra13), .val (.ref b14), .val (.ref b19), .val (.int (1 : Int32)), .unset, .unset] [(.ref b19), (.ref b14)])) _
              refine st61.trans ?_
              show Steps p.tables e below (T61.setTop (mkF m 147 #[.val (.long p0), .second, .val (.long p1), .second, .val (.long p2), .second, .val (.long p3), .second, .val (.int p4), .val (.long at2), .second, .val (.long od2), .second, .val (.ref ra8), .val (.ref ra13), .val (.ref b14), .val (.ref b19), .val (.int (1 : Int32)), .unset, .unset] [(.int (1 : Int32))])) _
              refine st63 _ ?_
              show Steps p.tables e below (T63.setTop (mkF m 150 #[.val (.long p0), .second, .val (.long p1), .second, .val (.long p2), .second, .val (.long p3), .second, .val (.int p4), .val (.long at2), .second, .val (.long od2), .second, .val (.ref ra8), .val (.ref ra13), .val (.ref b14), .val (.ref b19), .val (.int (1 : Int32)), .unset, .unset] [(.int (1 : Int32))])) _
              refine XS.istore X63.here hx rfl (hb hby at_150) rfl (l' := #[.val (.long p0), .second, .val (.long p1), .second, .val (.long p2), .second, .val (.long p3), .second, .val (.int p4), .val (.long at2), .second, .val (.long od2), .second, .val (.ref ra8), .val (.ref ra13), .val (.ref b14), .val (.ref b19), .val (.int (1 : Int32)), .val (.int (1 : Int32)), .unset]) rfl ?_
              show Steps p.tables e below (T63.setTop (mkF m 152 #[.val (.long p0), .second, .val (.long p1), .second, .val (.long p2), .second, .val (.long p3), .second, .val (.int p4), .val (.long at2), .second, .val (.long od2), .second, .val (.ref ra8), .val (.ref ra13), .val (.ref b14), .val (.ref b19), .val (.int (1 : Int32)), .val (.int (1 : Int32)), .unset] [])) _
              refine XS.aload X63.here hx rfl (hb hby at_152) rfl rfl ?_
              show Steps p.tables e below (T63.setTop (mkF m 154 #[.val (.long p0), .second, .val (.long p1), .second, .val (.long p2), .second, .val (.long p3), .second, .val (.int p4), .val (.long at2), .second, .val (.long od2), .second, .val (.ref ra8), .val (.ref ra13), .val (.ref b14), .val (.ref b19), .val (.int (1 : Int32)), .val (.int (1 : Int32)), .unset] [(.ref b19)])) _
              refine XS.aload X63.here hx rfl (hb hby at_154) rfl rfl ?_
              show Steps p.tables e below (T63.setTop (mkF m 156 #[.val (.long p0), .second, .val (.long p1), .second, .val (.long p2), .second, .val (.long p3), .second, .val (.int p4), .val (.long at2), .second, .val (.long od2), .second, .val (.ref ra8), .val (.ref ra13), .val (.ref b14), .val (.ref b19), .val (.int (1 : Int32)), .val (.int (1 : Int32)), .unset] [(.ref b14), (.ref b19)])) _
              refine st64.trans ?_
              show Steps p.tables e below (T64.setTop (mkF m 159 #[.val (.long p0), .second, .val (.long p1), .second, .val (.long p2), .second, .val (.long p3), .second, .val (.int p4), .val (.long at2), .second, .val (.long od2), .second, .val (.ref ra8), .val (.ref ra13), .val (.ref b14), .val (.ref b19), .val (.int (1 : Int32)), .val (.int (1 : Int32)), .unset] [(.int (-1 : Int32))])) _
              refine st66 _ ?_
              show Steps p.tables e below (T66.setTop (mkF m 162 #[.val (.long p0), .second, .val (.long p1), .second, .val (.long p2), .second, .val (.long p3), .second, .val (.int p4), .val (.long at2), .second, .val (.long od2), .second, .val (.ref ra8), .val (.ref ra13), .val (.ref b14), .val (.ref b19), .val (.int (1 : Int32)), .val (.int (1 : Int32)), .unset] [(.int (-1 : Int32))])) _
              refine XS.istore X66.here hx rfl (hb hby at_162) rfl (l' := #[.val (.long p0), .second, .val (.long p1), .second, .val (.long p2), .second, .val (.long p3), .second, .val (.int p4), .val (.long at2), .second, .val (.long od2), .second, .val (.ref ra8), .val (.ref ra13), .val (.ref b14), .val (.ref b19), .val (.int (1 : Int32)), .val (.int (1 : Int32)), .val (.int (-1 : Int32))]) rfl ?_
              show Steps p.tables e below (T66.setTop (mkF m 164 #[.val (.long p0), .second, .val (.long p1), .second, .val (.long p2), .second, .val (.long p3), .second, .val (.int p4), .val (.long at2), .second, .val (.long od2), .second, .val (.ref ra8), .val (.ref ra13), .val (.ref b14), .val (.ref b19), .val (.int (1 : Int32)), .val (.int (1 : Int32)), .val (.int (-1 : Int32))] [])) _
              refine XS.iload X66.here hx rfl (hb hby at_164) rfl  ?_
              show Steps p.tables e below (T66.setTop (mkF m 166 #[.val (.long p0), .second, .val (.long p1), .second, .val (.long p2), .second, .val (.long p3), .second, .val (.int p4), .val (.long at2), .second, .val (.long od2), .second, .val (.ref ra8), .val (.ref ra13), .val (.ref b14), .val (.ref b19), .val (.int (1 : Int32)), .val (.int (1 : Int32)), .val (.int (-1 : Int32))] [(.int (1 : Int32))])) _
              refine XS.iload X66.here hx rfl (hb hby at_166) rfl  ?_
              show Steps p.tables e below (T66.setTop (mkF m 168 #[.val (.long p0), .second, .val (.long p1), .second, .val (.long p2), .second, .val (.long p3), .second, .val (.int p4), .val (.long at2), .second, .val (.long od2), .second, .val (.ref ra8), .val (.ref ra13), .val (.ref b14), .val (.ref b19), .val (.int (1 : Int32)), .val (.int (1 : Int32)), .val (.int (-1 : Int32))] [(.int (1 : Int32)), (.int (1 : Int32))])) _
              refine XS.icmpNo X66.here hx rfl (hb hby at_168) rfl (teq (by decide : (1 : Int32) = (1 : Int32))).2 ?_
              show Steps p.tables e below (T66.setTop (mkF m 171 #[.val (.long p0), .second, .val (.long p1), .second, .val (.long p2), .second, .val (.long p3), .second, .val (.int p4), .val (.long at2), .second, .val (.long od2), .second, .val (.ref ra8), .val (.ref ra13), .val (.ref b14), .val (.ref b19), .val (.int (1 : Int32)), .val (.int (1 : Int32)), .val (.int (-1 : Int32))] [])) _
              refine XS.iload X66.here hx rfl (hb hby at_171) rfl  ?_
              show Steps p.tables e below (T66.setTop (mkF m 173 #[.val (.long p0), .second, .val (.long p1), .second, .val (.long p2), .second, .val (.long p3), .second, .val (.int p4), .val (.long at2), .second, .val (.long od2), .second, .val (.ref ra8), .val (.ref ra13), .val (.ref b14), .val (.ref b19), .val (.int (1 : Int32)), .val (.int (1 : Int32)), .val (.int (-1 : Int32))] [(.int (-1 : Int32))])) _
              refine XS.iload X66.here hx rfl (hb hby at_173) rfl  ?_
              show Steps p.tables e below (T66.setTop (mkF m 175 #[.val (.long p0), .second, .val (.long p1), .second, .val (.long p2), .second, .val (.long p3), .second, .val (.int p4), .val (.long at2), .second, .val (.long od2), .second, .val (.ref ra8), .val (.ref ra13), .val (.ref b14), .val (.ref b19), .val (.int (1 : Int32)), .val (.int (1 : Int32)), .val (.int (-1 : Int32))] [(.int (1 : Int32)), (.int (-1 : Int32))])) _
              refine XS.ineg X66.here hx rfl (hb hby at_175) rfl ?_
              show Steps p.tables e below (T66.setTop (mkF m 176 #[.val (.long p0), .second, .val (.long p1), .second, .val (.long p2), .second, .val (.long p3), .second, .val (.int p4), .val (.long at2), .second, .val (.long od2), .second, .val (.ref ra8), .val (.ref ra13), .val (.ref b14), .val (.ref b19), .val (.int (1 : Int32)), .val (.int (1 : Int32)), .val (.int (-1 : Int32))] [(.int (-(1 : Int32))), (.int (-1 : Int32))])) _
              refine XS.icmpNo X66.here hx rfl (hb hby at_176) rfl (teq (by decide)).2 ?_
              show Steps p.tables e below (T66.setTop (mkF m 179 #[.val (.long p0), .second, .val (.long p1), .second, .val (.long p2), .second, .val (.long p3), .second, .val (.int p4), .val (.long at2), .second, .val (.long od2), .second, .val (.ref ra8), .val (.ref ra13), .val (.ref b14), .val (.ref b19), .val (.int (1 : Int32)), .val (.int (1 : Int32)), .val (.int (-1 : Int32))] [])) _
              refine XS.iconst X66.here hx rfl (hb hby at_179) ?_
              show Steps p.tables e below (T66.setTop (mkF m 180 #[.val (.long p0), .second, .val (.long p1), .second, .val (.long p2), .second, .val (.long p3), .second, .val (.int p4), .val (.long at2), .second, .val (.long od2), .second, .val (.ref ra8), .val (.ref ra13), .val (.ref b14), .val (.ref b19), .val (.int (1 : Int32)), .val (.int (1 : Int32)), .val (.int (-1 : Int32))] [(.int (1 : Int32))])) _
              refine XS.goto X66.here hx rfl (pc0 := 180) (pc' := 184) rfl (hb hby at_180) (by decide) (by decide) ?_
              show Steps p.tables e below (T66.setTop (mkF m 184 #[.val (.long p0), .second, .val (.long p1), .second, .val (.long p2), .second, .val (.long p3), .second, .val (.int p4), .val (.long at2), .second, .val (.long od2), .second, .val (.ref ra8), .val (.ref ra13), .val (.ref b14), .val (.ref b19), .val (.int (1 : Int32)), .val (.int (1 : Int32)), .val (.int (-1 : Int32))] [(.int (1 : Int32))])) _
              exact retN X66 hx (t := .boolean) Bd.returns (by simp) (hb hby at_184) hr
            · show Q_rm0 Z p0 p1 p2 p3 p4 wC cl h0 n0 _ T66.heap _
              rw [e66]
              exact ⟨rfl, N66⟩
          · obtain ⟨hr1, hr2⟩ := own_c5 hc89_23 hc102_34 hc115_45 hc128_56
            have f67 := (Nat.le_trans f21 K22.1)
            have f68 := ((Fa17.ext E19).keep K22 (ninS ne19_b14 nin0))
            have f69 := ((Fo17.ext E19).keep K22 (ninS ne19_b14 nin0))
            have f71 := ((f18.ext E19).keep K22)
            obtain ⟨cq70, kq70, q70a, q70b, q70c⟩ := isOf hZ rfl f71
            obtain ⟨_, _, ⟨T70, L70, k70, n70⟩, -, X70, ⟨Lc70, hQ70, l70, y70, z70⟩, st70⟩ := X22.virtualBack hx (y := (⟨"shardwell/container/ExpiryQueue$Timer", "compareTo", "(Lshardwell/container/ExpiryQueue$Timer;)I"⟩ : MethodName)) (z := (⟨"shardwell/container/ExpiryQueue$Timer", "compareTo", "(Lshardwell/container/ExpiryQueue$Timer;)I"⟩ : MethodName)) hown (mvT hZ (hw _ (List.mem_of_getElem? (i := 27) rfl))) (mvT hZ (hw _ (List.mem_of_getElem? (i := 28) rfl))) (notFace_of_selects (args := #[]) (mvT hZ (hw _ (List.mem_of_getElem? (i := 30) rfl)))) (mvT hZ (hw _ (List.mem_of_getElem? (i := 30) rfl))) (mvT hZ (hw _ (List.mem_of_getElem? (i := 29) rfl))) (by decide) (backOf (W := 0) (rmCompareTo l Z a0 hw [] b14 b19 p0 p1 at2 od2 (0 : Int32) T22.heap n0 f67 f68 f69 Fa22 Fo22 hr1) hZ (hw _ (List.mem_of_getElem? (i := 31) rfl)) (hw _ (List.mem_of_getElem? (i := 9) rfl)) (by decide) (by decide)) q70a q70c (g := (mkF m 144 #[.val (.long p0), .second, .val (.long p1), .second, .val (.long p2), .second, .val (.long p3), .second, .val (.int p4), .val (.long at2), .second, .val (.long od2), .second, .val (.ref ra8), .val (.ref ra13), .val (.ref b14), .val (.ref b19), .val (.int (0 : Int32)), .unset, .unset] [(.ref b19), (.ref b14)])) rfl (by rw [hml]; rfl) (Steps.refl _) (argsL := [(.ref b19)]) (rest := []) (lenOf pd__Lshardwell_container_ExpiryQueue_Timer__I rfl) rfl (by show 2 * 0 + _ ≤ _; exact Nat.le_of_eq rfl) (hb hby at_144) (fun _ _ => ⟨rfl, rfl, (by decide : 4 + 0 ≤ _), (by decide : 8 + 0 ≤ _)⟩)
            dsimp only [Pt.U, Pt.locs, Pt.cells, Pt.slots] at X70 l70 y70 z70 st70 hQ70
            subst l70 y70 z70
            obtain ⟨rfl, Nq70, e70⟩ := hQ70
            have N70 := Fr.app N22 Nq70
            obtain ⟨_, _, ⟨T72, L72, k72, n72⟩, -, X72, ⟨Lc72, hQ72, l72, y72, z72⟩, st72⟩ := Jvm.LawKit.callS X70 hx (y := (⟨"shardwell/container/TimerCompareToPinLaw", "sign", "(I)I"⟩ : MethodName)) hown (mvT hZ (hw _ (List.mem_of_getElem? (i := 36) rfl))) (mvT hZ (hw _ (List.mem_of_getElem? (i := 37) rfl))) (mvT hZ (hw _ (List.mem_of_getElem? (i := 38) rfl))) (mvT hZ (hw _ (List.mem_of_getElem? (i := 39) rfl))) (by decide) (backOf (W := 0) (rmSign l Z a0 hw [] (0 : Int32) (0 : Int32) T22.heap n0 f67 (by decide)) hZ (hw _ (List.mem_of_getElem? (i := 39) rfl)) (hw _ (List.mem_of_getElem? (i := 38) rfl)) (by decide) (by decide)) (g := (mkF m 147 #[.val (.long p0), .second, .val (.long p1), .second, .val (.long p2), .second, .val (.long p3), .second, .val (.int p4), .val (.long at2), .second, .val (.long od2), .second, .val (.ref ra8), .val (.ref ra13), .val (.ref b14), .val (.ref b19), .val (.int (0 : Int32)), .unset, .unset] [(.int (0 : Int32))])) rfl (by rw [hml]; rfl) (argsL := [(.int (0 : Int32))]) (rest := []) (lenOf pd__I_I rfl) rfl (by show 2 * 0 + _ ≤ _; exact Nat.le_of_eq rfl) (hb hby at_147) (fun _ _ => ⟨rfl, e70, (by decide : 4 + 0 ≤ _), (by decide : 8 + 0 ≤ _)⟩)
            dsimp only [Pt.U, Pt.locs, Pt.cells, Pt.slots] at X72 l72 y72 z72 st72 hQ72
            subst l72 y72 z72
            obtain ⟨rfl, Nq72, e72⟩ := hQ72
            have N72 := Fr.app N70 Nq72
            have f74 := (A19.keep K22)
            obtain ⟨cq73, kq73, q73a, q73b, q73c⟩ := isOf hZ e72 f74
            obtain ⟨_, _, ⟨T73, L73, k73, n73⟩, -, X73, ⟨Lc73, hQ73, l73, y73, z73⟩, st73⟩ := X72.virtualBack hx (y := (⟨"shardwell/container/ExpiryQueue$Timer", "compareTo", "(Lshardwell/container/ExpiryQueue$Timer;)I"⟩ : MethodName)) (z := (⟨"shardwell/container/ExpiryQueue$Timer", "compareTo", "(Lshardwell/container/ExpiryQueue$Timer;)I"⟩ : MethodName)) hown (mvT hZ (hw _ (List.mem_of_getElem? (i := 27) rfl))) (mvT hZ (hw _ (List.mem_of_getElem? (i := 28) rfl))) (notFace_of_selects (args := #[]) (mvT hZ (hw _ (List.mem_of_getElem? (i := 30) rfl)))) (mvT hZ (hw _ (List.mem_of_getElem? (i := 30) rfl))) (mvT hZ (hw _ (List.mem_of_getElem? (i := 29) rfl))) (by decide) (backOf (W := 0) (rmCompareTo l Z a0 hw [] b19 b14 at2 od2 p0 p1 (0 : Int32) T22.heap n0 f67 Fa22 Fo22 f68 f69 hr2) hZ (hw _ (List.mem_of_getElem? (i := 31) rfl)) (hw _ (List.mem_of_getElem? (i := 9) rfl)) (by decide) (by decide)) q73a q73c (g := (mkF m 156 #[.val (.long p0), .second, .val (.long p1), .second, .val (.long p2), .second, .val (.long p3), .second, .val (.int p4), .val (.long at2), .second, .val (.long od2), .second, .val (.ref ra8), .val (.ref ra13), .val (.ref b14), .val (.ref b19), .val (.int (0 : Int32)), .val (.int (0 : Int32)), .unset] [(.ref b14), (.ref b19)])) rfl (by rw [hml]; rfl) (Steps.refl _) (argsL := [(.ref b14)]) (rest := []) (lenOf pd__Lshardwell_container_ExpiryQueue_Timer__I rfl) rfl (by show 2 * 0 + _ ≤ _; exact Nat.le_of_eq rfl) (hb hby at_156) (fun _ _ => ⟨rfl, e72, (by decide : 4 + 0 ≤ _), (by decide : 8 + 0 ≤ _)⟩)
            dsimp only [Pt.U, Pt.locs, Pt.cells, Pt.slots] at X73 l73 y73 z73 st73 hQ73
            subst l73 y73 z73
            obtain ⟨rfl, Nq73, e73⟩ := hQ73
            have N73 := Fr.app N72 Nq73
            obtain ⟨_, _, ⟨T75, L75, k75, n75⟩, -, X75, ⟨Lc75, hQ75, l75, y75, z75⟩, st75⟩ := Jvm.LawKit.callS X73 hx (y := (⟨"shardwell/container/TimerCompareToPinLaw", "sign", "(I)I"⟩ : MethodName)) hown (mvT hZ (hw _ (List.mem_of_getElem? (i := 36) rfl))) (mvT hZ (hw _ (List.mem_of_getElem? (i := 37) rfl))) (mvT hZ (hw _ (List.mem_of_getElem? (i := 38) rfl))) (mvT hZ (hw _ (List.mem_of_getElem? (i := 39) rfl))) (by decide) (backOf (W := 0) (rmSign l Z a0 hw [] (0 : Int32) (0 : Int32) T22.heap n0 f67 (by decide)) hZ (hw _ (List.mem_of_getElem? (i := 39) rfl)) (hw _ (List.mem_of_getElem? (i := 38) rfl)) (by decide) (by decide)) (g := (mkF m 159 #[.val (.long p0), .second, .val (.long p1), .second, .val (.long p2), .second, .val (.long p3), .second, .val (.int p4), .val (.long at2), .second, .val (.long od2), .second, .val (.ref ra8), .val (.ref ra13), .val (.ref b14), .val (.ref b19), .val (.int (0 : Int32)), .val (.int (0 : Int32)), .unset] [(.int (0 : Int32))])) rfl (by rw [hml]; rfl) (argsL := [(.int (0 : Int32))]) (rest := []) (lenOf pd__I_I rfl) rfl (by show 2 * 0 + _ ≤ _; exact Nat.le_of_eq rfl) (hb hby at_159) (fun _ _ => ⟨rfl, e73, (by decide : 4 + 0 ≤ _), (by decide : 8 + 0 ≤ _)⟩)
            dsimp only [Pt.U, Pt.locs, Pt.cells, Pt.slots] at X75 l75 y75 z75 st75 hQ75
            subst l75 y75 z75
            obtain ⟨rfl, Nq75, e75⟩ := hQ75
            have N75 := Fr.app N73 Nq75
            obtain ⟨fs, hr, hrun, hended, hW, hsame⟩ := X75.leave (v := some (.int (1 : Int32))) (fun h => by rw [Bd.returns] at h; cases h)
            refine ⟨_, _, pre57 _ ?_, hrun, hended, _, _, rfl, ?_, ⟨_, rfl⟩, hW, hsame.mono (by decide) (by decide)⟩
            · show Steps p.tables e below (T22.setTop (mkF m 128 #[.val (.long p0), .second, .val (.long p1), .second, .val (.long p2), .second, .val (.long p3), .second, .val (.int p4), .val (.long at2), .second, .val (.long od2), .second, .val (.ref ra8), .val (.ref ra13), .val (.ref b14), .val (.ref b19), .unset, .unset, .unset] [(.int (lcmpW p1 od2))])) _
              refine XS.ifYes X22.here hx rfl (pc0 := 128) (pc' := 137) rfl (hb hby at_128) rfl ((if0 _ _).trans (flt hc128_56).2.2.2) (by decide) (by decide) ?_
              show Steps p.tables e below (T22.setTop (mkF m 137 #[.val (.long p0), .second, .val (.long p1), .second, .val (.long p2), .second, .val (.long p3), .second, .val (.int p4), .val (.long at2), .second, .val (.long od2), .second, .val (.ref ra8), .val (.ref ra13), .val (.ref b14), .val (.ref b19), .unset, .unset, .unset] [])) _
              refine XS.iconst X22.here hx rfl (hb hby at_137) ?_
              show Steps p.tables e below (T22.setTop (mkF m 138 #[.val (.long p0), .second, .val (.long p1), .second, .val (.long p2), .second, .val (.long p3), .second, .val (.int p4), .val (.long at2), .second, .val (.long od2), .second, .val (.ref ra8), .val (.ref ra13), .val (.ref b14), .val (.ref b19), .unset, .unset, .unset] [(.int (0 : Int32))])) _
              refine XS.istore X22.here hx rfl (hb hby at_138) rfl (l' := #[.val (.long p0), .second, .val (.long p1), .second, .val (.long p2), .second, .val (.long p3), .second, .val (.int p4), .val (.long at2), .second, .val (.long od2), .second, .val (.ref ra8), .val (.ref ra13), .val (.ref b14), .val (.ref b19), .val (.int (0 : Int32)), .unset, .unset]) rfl ?_
              show Steps p.tables e below (T22.setTop (mkF m 140 #[.val (.long p0), .second, .val (.long p1), .second, .val (.long p2), .second, .val (.long p3), .second, .val (.int p4), .val (.long at2), .second, .val (.long od2), .second, .val (.ref ra8), .val (.ref ra13), .val (.ref b14), .val (.ref b19), .val (.int (0 : Int32)), .unset, .unset] [])) _
              refine XS.aload X22.here hx rfl (hb hby at_140) rfl rfl ?_
              show Steps p.tables e below (T22.setTop (mkF m 142 #[.val (.long p0), .second, .val (.long p1), .second, .val (.long p2), .second, .val (.long p3), .second, .val (.int p4), .val (.long at2), .second, .val (.long od2), .second, .val (.ref ra8), .val (.ref ra13), .val (.ref b14), .val (.ref b19), .val (.int (0 : Int32)), .unset, .unset] [(.ref b14)])) _
              refine XS.aload X22.here hx rfl (hb hby at_142) rfl rfl ?_
              show Steps p.tables e below (T22.setTop (mkF m 144 #[.val (.long p0), .second, .val (.long p1), .second, .val (.long p2), .second, .val (.long p3), .second, .val (.int p4), .val (.long at2), .second, .val (.long od2), .second, .val (.ref ra8), .val (.ref ra13), .val (.ref b14), .val (.ref b19), .val (.int (0 : Int32)), .unset, .unset] [(.ref b19), (.ref b14)])) _
              refine st70.trans ?_
              show Steps p.tables e below (T70.setTop (mkF m 147 #[.val (.long p0), .second, .val (.long p1), .second, .val (.long p2), .second, .val (.long p3), .second, .val (.int p4), .val (.long at2), .second, .val (.long od2), .second, .val (.ref ra8), .val (.ref ra13), .val (.ref b14), .val (.ref b19), .val (.int (0 : Int32)), .unset, .unset] [(.int (0 : Int32))])) _
              refine st72 _ ?_
              show Steps p.tables e below (T72.setTop (mkF m 150 #[.val (.long p0), .second, .val (.long p1), .second, .val (.long p2), .second, .val (.long p3), .second, .val (.int p4), .val (.long at2), .second, .val (.long od2), .second, .val (.ref ra8), .val (.ref ra13), .val (.ref b14), .val (.ref b19), .val (.int (0 : Int32)), .unset, .unset] [(.int (0 : Int32))])) _
              refine XS.istore X72.here hx rfl (hb hby at_150) rfl (l' := #[.val (.long p0), .second, .val (.long p1), .second, .val (.long p2), .second, .val (.long p3), .second, .val (.int p4), .val (.long at2), .second, .val (.long od2), .second, .val (.ref ra8), .val (.ref ra13), .val (.ref b14), .val (.ref b19), .val (.int (0 : Int32)), .val (.int (0 : Int32)), .unset]) rfl ?_
              show Steps p.tables e below (T72.setTop (mkF m 152 #[.val (.long p0), .second, .val (.long p1), .second, .val (.long p2), .second, .val (.long p3), .second, .val (.int p4), .val (.long at2), .second, .val (.long od2), .second, .val (.ref ra8), .val (.ref ra13), .val (.ref b14), .val (.ref b19), .val (.int (0 : Int32)), .val (.int (0 : Int32)), .unset] [])) _
              refine XS.aload X72.here hx rfl (hb hby at_152) rfl rfl ?_
              show Steps p.tables e below (T72.setTop (mkF m 154 #[.val (.long p0), .second, .val (.long p1), .second, .val (.long p2), .second, .val (.long p3), .second, .val (.int p4), .val (.long at2), .second, .val (.long od2), .second, .val (.ref ra8), .val (.ref ra13), .val (.ref b14), .val (.ref b19), .val (.int (0 : Int32)), .val (.int (0 : Int32)), .unset] [(.ref b19)])) _
              refine XS.aload X72.here hx rfl (hb hby at_154) rfl rfl ?_
              show Steps p.tables e below (T72.setTop (mkF m 156 #[.val (.long p0), .second, .val (.long p1), .second, .val (.long p2), .second, .val (.long p3), .second, .val (.int p4), .val (.long at2), .second, .val (.long od2), .second, .val (.ref ra8), .val (.ref ra13), .val (.ref b14), .val (.ref b19), .val (.int (0 : Int32)), .val (.int (0 : Int32)), .unset] [(.ref b14), (.ref b19)])) _
              refine st73.trans ?_
              show Steps p.tables e below (T73.setTop (mkF m 159 #[.val (.long p0), .second, .val (.long p1), .second, .val (.long p2), .second, .val (.long p3), .second, .val (.int p4), .val (.long at2), .second, .val (.long od2), .second, .val (.ref ra8), .val (.ref ra13), .val (.ref b14), .val (.ref b19), .val (.int (0 : Int32)), .val (.int (0 : Int32)), .unset] [(.int (0 : Int32))])) _
              refine st75 _ ?_
              show Steps p.tables e below (T75.setTop (mkF m 162 #[.val (.long p0), .second, .val (.long p1), .second, .val (.long p2), .second, .val (.long p3), .second, .val (.int p4), .val (.long at2), .second, .val (.long od2), .second, .val (.ref ra8), .val (.ref ra13), .val (.ref b14), .val (.ref b19), .val (.int (0 : Int32)), .val (.int (0 : Int32)), .unset] [(.int (0 : Int32))])) _
              refine XS.istore X75.here hx rfl (hb hby at_162) rfl (l' := #[.val (.long p0), .second, .val (.long p1), .second, .val (.long p2), .second, .val (.long p3), .second, .val (.int p4), .val (.long at2), .second, .val (.long od2), .second, .val (.ref ra8), .val (.ref ra13), .val (.ref b14), .val (.ref b19), .val (.int (0 : Int32)), .val (.int (0 : Int32)), .val (.int (0 : Int32))]) rfl ?_
              show Steps p.tables e below (T75.setTop (mkF m 164 #[.val (.long p0), .second, .val (.long p1), .second, .val (.long p2), .second, .val (.long p3), .second, .val (.int p4), .val (.long at2), .second, .val (.long od2), .second, .val (.ref ra8), .val (.ref ra13), .val (.ref b14), .val (.ref b19), .val (.int (0 : Int32)), .val (.int (0 : Int32)), .val (.int (0 : Int32))] [])) _
              refine XS.iload X75.here hx rfl (hb hby at_164) rfl  ?_
              show Steps p.tables e below (T75.setTop (mkF m 166 #[.val (.long p0), .second, .val (.long p1), .second, .val (.long p2), .second, .val (.long p3), .second, .val (.int p4), .val (.long at2), .second, .val (.long od2), .second, .val (.ref ra8), .val (.ref ra13), .val (.ref b14), .val (.ref b19), .val (.int (0 : Int32)), .val (.int (0 : Int32)), .val (.int (0 : Int32))] [(.int (0 : Int32))])) _
              refine XS.iload X75.here hx rfl (hb hby at_166) rfl  ?_
              show Steps p.tables e below (T75.setTop (mkF m 168 #[.val (.long p0), .second, .val (.long p1), .second, .val (.long p2), .second, .val (.long p3), .second, .val (.int p4), .val (.long at2), .second, .val (.long od2), .second, .val (.ref ra8), .val (.ref ra13), .val (.ref b14), .val (.ref b19), .val (.int (0 : Int32)), .val (.int (0 : Int32)), .val (.int (0 : Int32))] [(.int (0 : Int32)), (.int (0 : Int32))])) _
              refine XS.icmpNo X75.here hx rfl (hb hby at_168) rfl (teq (by decide : (0 : Int32) = (0 : Int32))).2 ?_
              show Steps p.tables e below (T75.setTop (mkF m 171 #[.val (.long p0), .second, .val (.long p1), .second, .val (.long p2), .second, .val (.long p3), .second, .val (.int p4), .val (.long at2), .second, .val (.long od2), .second, .val (.ref ra8), .val (.ref ra13), .val (.ref b14), .val (.ref b19), .val (.int (0 : Int32)), .val (.int (0 : Int32)), .val (.int (0 : Int32))] [])) _
              refine XS.iload X75.here hx rfl (hb hby at_171) rfl  ?_
              show Steps p.tables e below (T75.setTop (mkF m 173 #[.val (.long p0), .second, .val (.long p1), .second, .val (.long p2), .second, .val (.long p3), .second, .val (.int p4), .val (.long at2), .second, .val (.long od2), .second, .val (.ref ra8), .val (.ref ra13), .val (.ref b14), .val (.ref b19), .val (.int (0 : Int32)), .val (.int (0 : Int32)), .val (.int (0 : Int32))] [(.int (0 : Int32))])) _
              refine XS.iload X75.here hx rfl (hb hby at_173) rfl  ?_
              show Steps p.tables e below (T75.setTop (mkF m 175 #[.val (.long p0), .second, .val (.long p1), .second, .val (.long p2), .second, .val (.long p3), .second, .val (.int p4), .val (.long at2), .second, .val (.long od2), .second, .val (.ref ra8), .val (.ref ra13), .val (.ref b14), .val (.ref b19), .val (.int (0 : Int32)), .val (.int (0 : Int32)), .val (.int (0 : Int32))] [(.int (0 : Int32)), (.int (0 : Int32))])) _
              refine XS.ineg X75.here hx rfl (hb hby at_175) rfl ?_
              show Steps p.tables e below (T75.setTop (mkF m 176 #[.val (.long p0), .second, .val (.long p1), .second, .val (.long p2), .second, .val (.long p3), .second, .val (.int p4), .val (.long at2), .second, .val (.long od2), .second, .val (.ref ra8), .val (.ref ra13), .val (.ref b14), .val (.ref b19), .val (.int (0 : Int32)), .val (.int (0 : Int32)), .val (.int (0 : Int32))] [(.int (-(0 : Int32))), (.int (0 : Int32))])) _
              refine XS.icmpNo X75.here hx rfl (hb hby at_176) rfl (teq (by decide)).2 ?_
              show Steps p.tables e below (T75.setTop (mkF m 179 #[.val (.long p0), .second, .val (.long p1), .second, .val (.long p2), .second, .val (.long p3), .second, .val (.int p4), .val (.long at2), .second, .val (.long od2), .second, .val (.ref ra8), .val (.ref ra13), .val (.ref b14), .val (.ref b19), .val (.int (0 : Int32)), .val (.int (0 : Int32)), .val (.int (0 : Int32))] [])) _
              refine XS.iconst X75.here hx rfl (hb hby at_179) ?_
              show Steps p.tables e below (T75.setTop (mkF m 180 #[.val (.long p0), .second, .val (.long p1), .second, .val (.long p2), .second, .val (.long p3), .second, .val (.int p4), .val (.long at2), .second, .val (.long od2), .second, .val (.ref ra8), .val (.ref ra13), .val (.ref b14), .val (.ref b19), .val (.int (0 : Int32)), .val (.int (0 : Int32)), .val (.int (0 : Int32))] [(.int (1 : Int32))])) _
              refine XS.goto X75.here hx rfl (pc0 := 180) (pc' := 184) rfl (hb hby at_180) (by decide) (by decide) ?_
              show Steps p.tables e below (T75.setTop (mkF m 184 #[.val (.long p0), .second, .val (.long p1), .second, .val (.long p2), .second, .val (.long p3), .second, .val (.int p4), .val (.long at2), .second, .val (.long od2), .second, .val (.ref ra8), .val (.ref ra13), .val (.ref b14), .val (.ref b19), .val (.int (0 : Int32)), .val (.int (0 : Int32)), .val (.int (0 : Int32))] [(.int (1 : Int32))])) _
              exact retN X75 hx (t := .boolean) Bd.returns (by simp) (hb hby at_184) hr
            · show Q_rm0 Z p0 p1 p2 p3 p4 wC cl h0 n0 _ T75.heap _
              rw [e75]
              exact ⟨rfl, N75⟩
  · obtain ⟨T76, h76, X76, e76, E76, A76, D76, -, st76⟩ := newO X8 hx hZ hown (hw _ (List.mem_of_getElem? (i := 7) rfl)) (hw _ (List.mem_of_getElem? (i := 8) rfl)) (hw _ (List.mem_of_getElem? (i := 9) rfl)) rfl (g := (mkF m 57 #[.val (.long p0), .second, .val (.long p1), .second, .val (.long p2), .second, .val (.long p3), .second, .val (.int p4), .val (.long at2), .second, .val (.long od2), .second, .val (.ref ra8), .val .null, .unset, .unset, .unset, .unset, .unset] [])) rfl (hb hby at_57) (by decide) (by decide)
    obtain ⟨b76, g76⟩ : ∃ z, z = T8.heap.size := ⟨_, rfl⟩
    rw [← g76] at A76 D76 st76
    have f77 := (Nat.le_trans Z0 K8.1)
    have ge76 : n0 ≤ b76 := Nat.le_trans f77 (Nat.le_of_eq g76.symm)
    have F76_at : Fld Z h76 b76 "shardwell/container/ExpiryQueue$Timer" "at" "J" (.long (0 : Int64)) := D76 (Or.inr (hw _ (List.mem_of_getElem? (i := 22) rfl))) (ty := .long) (by decide)
    have F76_order : Fld Z h76 b76 "shardwell/container/ExpiryQueue$Timer" "order" "J" (.long (0 : Int64)) := D76 (Or.inr (hw _ (List.mem_of_getElem? (i := 24) rfl))) (ty := .long) (by decide)
    have F76_key : Fld Z h76 b76 "shardwell/container/ExpiryQueue$Timer" "key" "Ljava/lang/Object;" .null := D76 (Or.inr (hw _ (List.mem_of_getElem? (i := 26) rfl))) (ty := (.object "java/lang/Object")) (by decide)
    have f78 := (Nat.le_trans f77 E76.1)
    obtain ⟨_, _, ⟨T79, L79, k79, n79⟩, -, X79, ⟨Lc79, hQ79, l79, y79, z79⟩, st79⟩ := X76.specialBack hx (y := (⟨"shardwell/container/ExpiryQueue$Timer", "<init>", "(JJLjava/lang/Object;)V"⟩ : MethodName)) rfl hown (mvT hZ (hw _ (List.mem_of_getElem? (i := 10) rfl))) (mvT hZ (hw _ (List.mem_of_getElem? (i := 11) rfl))) (mvT hZ (hw _ (List.mem_of_getElem? (i := 12) rfl))) (by decide) (backOf (W := 1) (rmTimer l Z a0 hw [] b76 p0 p1 ra8 h76 n0 f78 A76 F76_at F76_order F76_key ge76) hZ (hw _ (List.mem_of_getElem? (i := 12) rfl)) (hw _ (List.mem_of_getElem? (i := 9) rfl)) (by decide) (by decide)) (g := (mkF m 65 #[.val (.long p0), .second, .val (.long p1), .second, .val (.long p2), .second, .val (.long p3), .second, .val (.int p4), .val (.long at2), .second, .val (.long od2), .second, .val (.ref ra8), .val .null, .unset, .unset, .unset, .unset, .unset] [(.ref ra8), (.long p1), (.long p0), (.ref b76), (.ref b76)])) rfl (by rw [hml]; rfl) (Steps.refl _) (a := b76) (argsL := [(.long p0), (.long p1), (.ref ra8)]) (rest := [(.ref b76)]) (lenOf pd__JJLjava_lang_Object__V rfl) rfl (by show 2 * 0 + _ ≤ _; exact Nat.le_of_eq rfl) (hb hby at_65) (fun _ _ => ⟨rfl, e76, (by decide : 2 + 0 ≤ _), (by decide : 4 + 0 ≤ _)⟩)
    dsimp only [Pt.U, Pt.locs, Pt.cells, Pt.slots] at X79 l79 y79 z79 st79 hQ79
    subst l79 y79 z79
    obtain ⟨rfl, Nq79, K79, Fa79, Fo79⟩ := hQ79
    have N79 := Fr.app N8 Nq79
    have f80 := (A76.keep K79)
    obtain ⟨T81, h81, X81, e81, E81, A81, D81, -, st81⟩ := newO X79 hx hZ hown (hw _ (List.mem_of_getElem? (i := 7) rfl)) (hw _ (List.mem_of_getElem? (i := 8) rfl)) (hw _ (List.mem_of_getElem? (i := 9) rfl)) rfl (g := (mkF m 70 #[.val (.long p0), .second, .val (.long p1), .second, .val (.long p2), .second, .val (.long p3), .second, .val (.int p4), .val (.long at2), .second, .val (.long od2), .second, .val (.ref ra8), .val .null, .val (.ref b76), .unset, .unset, .unset, .unset] [])) rfl (hb hby at_70) (by decide) (by decide)
    obtain ⟨b81, g81⟩ : ∃ z, z = T79.heap.size := ⟨_, rfl⟩
    rw [← g81] at A81 D81 st81
    have ne81_b76 : b76 ≠ b81 := Nat.ne_of_lt (Nat.lt_of_lt_of_le f80.lt (Nat.le_of_eq g81.symm))
    have f82 := (Nat.le_trans f78 K79.1)
    have ge81 : n0 ≤ b81 := Nat.le_trans f82 (Nat.le_of_eq g81.symm)
    have F81_at : Fld Z h81 b81 "shardwell/container/ExpiryQueue$Timer" "at" "J" (.long (0 : Int64)) := D81 (Or.inr (hw _ (List.mem_of_getElem? (i := 22) rfl))) (ty := .long) (by decide)
    have F81_order : Fld Z h81 b81 "shardwell/container/ExpiryQueue$Timer" "order" "J" (.long (0 : Int64)) := D81 (Or.inr (hw _ (List.mem_of_getElem? (i := 24) rfl))) (ty := .long) (by decide)
    have F81_key : Fld Z h81 b81 "shardwell/container/ExpiryQueue$Timer" "key" "Ljava/lang/Object;" .null := D81 (Or.inr (hw _ (List.mem_of_getElem? (i := 26) rfl))) (ty := (.object "java/lang/Object")) (by decide)
    have f83 := (Nat.le_trans f82 E81.1)
    obtain ⟨_, _, ⟨T84, L84, k84, n84⟩, -, X84, ⟨Lc84, hQ84, l84, y84, z84⟩, st84⟩ := X81.specialBack hx (y := (⟨"shardwell/container/ExpiryQueue$Timer", "<init>", "(JJLjava/lang/Object;)V"⟩ : MethodName)) rfl hown (mvT hZ (hw _ (List.mem_of_getElem? (i := 10) rfl))) (mvT hZ (hw _ (List.mem_of_getElem? (i := 11) rfl))) (mvT hZ (hw _ (List.mem_of_getElem? (i := 12) rfl))) (by decide) (backOf (W := 1) (rmTimer0 l Z a0 hw [] b81 at2 od2  h81 n0 f83 A81 F81_at F81_order F81_key ge81) hZ (hw _ (List.mem_of_getElem? (i := 12) rfl)) (hw _ (List.mem_of_getElem? (i := 9) rfl)) (by decide) (by decide)) (g := (mkF m 80 #[.val (.long p0), .second, .val (.long p1), .second, .val (.long p2), .second, .val (.long p3), .second, .val (.int p4), .val (.long at2), .second, .val (.long od2), .second, .val (.ref ra8), .val .null, .val (.ref b76), .unset, .unset, .unset, .unset] [.null, (.long od2), (.long at2), (.ref b81), (.ref b81)])) rfl (by rw [hml]; rfl) (Steps.refl _) (a := b81) (argsL := [(.long at2), (.long od2), .null]) (rest := [(.ref b81)]) (lenOf pd__JJLjava_lang_Object__V rfl) rfl (by show 2 * 0 + _ ≤ _; exact Nat.le_of_eq rfl) (hb hby at_80) (fun _ _ => ⟨rfl, e81, (by decide : 3 + 0 ≤ _), (by decide : 7 + 0 ≤ _)⟩)
    dsimp only [Pt.U, Pt.locs, Pt.cells, Pt.slots] at X84 l84 y84 z84 st84 hQ84
    subst l84 y84 z84
    obtain ⟨rfl, Nq84, K84, Fa84, Fo84⟩ := hQ84
    have N84 := Fr.app N79 Nq84
    have pre86 : ∀ t, Steps p.tables e below (T84.setTop (mkF m 89 #[.val (.long p0), .second, .val (.long p1), .second, .val (.long p2), .second, .val (.long p3), .second, .val (.int p4), .val (.long at2), .second, .val (.long od2), .second, .val (.ref ra8), .val .null, .val (.ref b76), .val (.ref b81), .unset, .unset, .unset] [(.int (lcmpW p0 at2))])) t → Steps p.tables e below (s₁.setTop (entryFrame m #[(.long p0), (.long p1), (.long p2), (.long p3), (.int p4)] maxLocals)) t := fun t kt => pre10 t (by
      show Steps p.tables e below (T8.setTop (mkF m 41 #[.val (.long p0), .second, .val (.long p1), .second, .val (.long p2), .second, .val (.long p3), .second, .val (.int p4), .val (.long at2), .second, .val (.long od2), .second, .val (.ref ra8), .unset, .unset, .unset, .unset, .unset, .unset] [(.int (p4 &&& (4 : Int32)))])) _
      refine XS.ifNo X8.here hx rfl (hb hby at_41) rfl ((if0 _ _).trans (feq hc41_9).1) ?_
      show Steps p.tables e below (T8.setTop (mkF m 44 #[.val (.long p0), .second, .val (.long p1), .second, .val (.long p2), .second, .val (.long p3), .second, .val (.int p4), .val (.long at2), .second, .val (.long od2), .second, .val (.ref ra8), .unset, .unset, .unset, .unset, .unset, .unset] [])) _
      refine XS.aconstNull X8.here hx rfl (hb hby at_44) ?_
      show Steps p.tables e below (T8.setTop (mkF m 45 #[.val (.long p0), .second, .val (.long p1), .second, .val (.long p2), .second, .val (.long p3), .second, .val (.int p4), .val (.long at2), .second, .val (.long od2), .second, .val (.ref ra8), .unset, .unset, .unset, .unset, .unset, .unset] [.null])) _
      refine XS.goto X8.here hx rfl (pc0 := 45) (pc' := 55) rfl (hb hby at_45) (by decide) (by decide) ?_
      show Steps p.tables e below (T8.setTop (mkF m 55 #[.val (.long p0), .second, .val (.long p1), .second, .val (.long p2), .second, .val (.long p3), .second, .val (.int p4), .val (.long at2), .second, .val (.long od2), .second, .val (.ref ra8), .unset, .unset, .unset, .unset, .unset, .unset] [.null])) _
      refine XS.astore X8.here hx rfl (hb hby at_55) rfl rfl (l' := #[.val (.long p0), .second, .val (.long p1), .second, .val (.long p2), .second, .val (.long p3), .second, .val (.int p4), .val (.long at2), .second, .val (.long od2), .second, .val (.ref ra8), .val .null, .unset, .unset, .unset, .unset, .unset]) rfl ?_
      show Steps p.tables e below (T8.setTop (mkF m 57 #[.val (.long p0), .second, .val (.long p1), .second, .val (.long p2), .second, .val (.long p3), .second, .val (.int p4), .val (.long at2), .second, .val (.long od2), .second, .val (.ref ra8), .val .null, .unset, .unset, .unset, .unset, .unset] [])) _
      refine st76 _ ?_
      show Steps p.tables e below (T76.setTop (mkF m 60 #[.val (.long p0), .second, .val (.long p1), .second, .val (.long p2), .second, .val (.long p3), .second, .val (.int p4), .val (.long at2), .second, .val (.long od2), .second, .val (.ref ra8), .val .null, .unset, .unset, .unset, .unset, .unset] [(.ref b76)])) _
      refine XS.dup X76.here hx rfl (hb hby at_60) rfl rfl ?_
      show Steps p.tables e below (T76.setTop (mkF m 61 #[.val (.long p0), .second, .val (.long p1), .second, .val (.long p2), .second, .val (.long p3), .second, .val (.int p4), .val (.long at2), .second, .val (.long od2), .second, .val (.ref ra8), .val .null, .unset, .unset, .unset, .unset, .unset] [(.ref b76), (.ref b76)])) _
      refine XS.lloadN X76.here hx rfl (hb hby at_61) rfl  ?_
      show Steps p.tables e below (T76.setTop (mkF m 62 #[.val (.long p0), .second, .val (.long p1), .second, .val (.long p2), .second, .val (.long p3), .second, .val (.int p4), .val (.long at2), .second, .val (.long od2), .second, .val (.ref ra8), .val .null, .unset, .unset, .unset, .unset, .unset] [(.long p0), (.ref b76), (.ref b76)])) _
      refine XS.lloadN X76.here hx rfl (hb hby at_62) rfl  ?_
      show Steps p.tables e below (T76.setTop (mkF m 63 #[.val (.long p0), .second, .val (.long p1), .second, .val (.long p2), .second, .val (.long p3), .second, .val (.int p4), .val (.long at2), .second, .val (.long od2), .second, .val (.ref ra8), .val .null, .unset, .unset, .unset, .unset, .unset] [(.long p1), (.long p0), (.ref b76), (.ref b76)])) _
      refine XS.aload X76.here hx rfl (hb hby at_63) rfl rfl ?_
      show Steps p.tables e below (T76.setTop (mkF m 65 #[.val (.long p0), .second, .val (.long p1), .second, .val (.long p2), .second, .val (.long p3), .second, .val (.int p4), .val (.long at2), .second, .val (.long od2), .second, .val (.ref ra8), .val .null, .unset, .unset, .unset, .unset, .unset] [(.ref ra8), (.long p1), (.long p0), (.ref b76), (.ref b76)])) _
      refine st79.trans ?_
      show Steps p.tables e below (T79.setTop (mkF m 68 #[.val (.long p0), .second, .val (.long p1), .second, .val (.long p2), .second, .val (.long p3), .second, .val (.int p4), .val (.long at2), .second, .val (.long od2), .second, .val (.ref ra8), .val .null, .unset, .unset, .unset, .unset, .unset] [(.ref b76)])) _
      refine XS.astore X79.here hx rfl (hb hby at_68) rfl rfl (l' := #[.val (.long p0), .second, .val (.long p1), .second, .val (.long p2), .second, .val (.long p3), .second, .val (.int p4), .val (.long at2), .second, .val (.long od2), .second, .val (.ref ra8), .val .null, .val (.ref b76), .unset, .unset, .unset, .unset]) rfl ?_
      show Steps p.tables e below (T79.setTop (mkF m 70 #[.val (.long p0), .second, .val (.long p1), .second, .val (.long p2), .second, .val (.long p3), .second, .val (.int p4), .val (.long at2), .second, .val (.long od2), .second, .val (.ref ra8), .val .null, .val (.ref b76), .unset, .unset, .unset, .unset] [])) _
      refine st81 _ ?_
      show Steps p.tables e below (T81.setTop (mkF m 73 #[.val (.long p0), .second, .val (.long p1), .second, .val (.long p2), .second, .val (.long p3), .second, .val (.int p4), .val (.long at2), .second, .val (.long od2), .second, .val (.ref ra8), .val .null, .val (.ref b76), .unset, .unset, .unset, .unset] [(.ref b81)])) _
      refine XS.dup X81.here hx rfl (hb hby at_73) rfl rfl ?_
      show Steps p.tables e below (T81.setTop (mkF m 74 #[.val (.long p0), .second, .val (.long p1), .second, .val (.long p2), .second, .val (.long p3), .second, .val (.int p4), .val (.long at2), .second, .val (.long od2), .second, .val (.ref ra8), .val .null, .val (.ref b76), .unset, .unset, .unset, .unset] [(.ref b81), (.ref b81)])) _
      refine XS.lload X81.here hx rfl (hb hby at_74) rfl  ?_
      show Steps p.tables e below (T81.setTop (mkF m 76 #[.val (.long p0), .second, .val (.long p1), .second, .val (.long p2), .second, .val (.long p3), .second, .val (.int p4), .val (.long at2), .second, .val (.long od2), .second, .val (.ref ra8), .val .null, .val (.ref b76), .unset, .unset, .unset, .unset] [(.long at2), (.ref b81), (.ref b81)])) _
      refine XS.lload X81.here hx rfl (hb hby at_76) rfl  ?_
      show Steps p.tables e below (T81.setTop (mkF m 78 #[.val (.long p0), .second, .val (.long p1), .second, .val (.long p2), .second, .val (.long p3), .second, .val (.int p4), .val (.long at2), .second, .val (.long od2), .second, .val (.ref ra8), .val .null, .val (.ref b76), .unset, .unset, .unset, .unset] [(.long od2), (.long at2), (.ref b81), (.ref b81)])) _
      refine XS.aload X81.here hx rfl (hb hby at_78) rfl rfl ?_
      show Steps p.tables e below (T81.setTop (mkF m 80 #[.val (.long p0), .second, .val (.long p1), .second, .val (.long p2), .second, .val (.long p3), .second, .val (.int p4), .val (.long at2), .second, .val (.long od2), .second, .val (.ref ra8), .val .null, .val (.ref b76), .unset, .unset, .unset, .unset] [.null, (.long od2), (.long at2), (.ref b81), (.ref b81)])) _
      refine st84.trans ?_
      show Steps p.tables e below (T84.setTop (mkF m 83 #[.val (.long p0), .second, .val (.long p1), .second, .val (.long p2), .second, .val (.long p3), .second, .val (.int p4), .val (.long at2), .second, .val (.long od2), .second, .val (.ref ra8), .val .null, .val (.ref b76), .unset, .unset, .unset, .unset] [(.ref b81)])) _
      refine XS.astore X84.here hx rfl (hb hby at_83) rfl rfl (l' := #[.val (.long p0), .second, .val (.long p1), .second, .val (.long p2), .second, .val (.long p3), .second, .val (.int p4), .val (.long at2), .second, .val (.long od2), .second, .val (.ref ra8), .val .null, .val (.ref b76), .val (.ref b81), .unset, .unset, .unset]) rfl ?_
      show Steps p.tables e below (T84.setTop (mkF m 85 #[.val (.long p0), .second, .val (.long p1), .second, .val (.long p2), .second, .val (.long p3), .second, .val (.int p4), .val (.long at2), .second, .val (.long od2), .second, .val (.ref ra8), .val .null, .val (.ref b76), .val (.ref b81), .unset, .unset, .unset] [])) _
      refine XS.lloadN X84.here hx rfl (hb hby at_85) rfl  ?_
      show Steps p.tables e below (T84.setTop (mkF m 86 #[.val (.long p0), .second, .val (.long p1), .second, .val (.long p2), .second, .val (.long p3), .second, .val (.int p4), .val (.long at2), .second, .val (.long od2), .second, .val (.ref ra8), .val .null, .val (.ref b76), .val (.ref b81), .unset, .unset, .unset] [(.long p0)])) _
      refine XS.lload X84.here hx rfl (hb hby at_86) rfl  ?_
      show Steps p.tables e below (T84.setTop (mkF m 88 #[.val (.long p0), .second, .val (.long p1), .second, .val (.long p2), .second, .val (.long p3), .second, .val (.int p4), .val (.long at2), .second, .val (.long od2), .second, .val (.ref ra8), .val .null, .val (.ref b76), .val (.ref b81), .unset, .unset, .unset] [(.long at2), (.long p0)])) _
      refine XS.lcmp X84.here hx rfl (hb hby at_88) rfl ?_
      exact kt)
    by_cases hc89_85 : (lcmpW p0 at2) < (0 : Int32)
    · obtain ⟨hr1, hr2⟩ := own_c1 p1 od2 hc89_85
      have f87 := (Nat.le_trans f83 K84.1)
      have f88 := ((Fa79.ext E81).keep K84 (ninS ne81_b76 nin0))
      have f89 := ((Fo79.ext E81).keep K84 (ninS ne81_b76 nin0))
      have f91 := ((f80.ext E81).keep K84)
      obtain ⟨cq90, kq90, q90a, q90b, q90c⟩ := isOf hZ rfl f91
      obtain ⟨_, _, ⟨T90, L90, k90, n90⟩, -, X90, ⟨Lc90, hQ90, l90, y90, z90⟩, st90⟩ := X84.virtualBack hx (y := (⟨"shardwell/container/ExpiryQueue$Timer", "compareTo", "(Lshardwell/container/ExpiryQueue$Timer;)I"⟩ : MethodName)) (z := (⟨"shardwell/container/ExpiryQueue$Timer", "compareTo", "(Lshardwell/container/ExpiryQueue$Timer;)I"⟩ : MethodName)) hown (mvT hZ (hw _ (List.mem_of_getElem? (i := 27) rfl))) (mvT hZ (hw _ (List.mem_of_getElem? (i := 28) rfl))) (notFace_of_selects (args := #[]) (mvT hZ (hw _ (List.mem_of_getElem? (i := 30) rfl)))) (mvT hZ (hw _ (List.mem_of_getElem? (i := 30) rfl))) (mvT hZ (hw _ (List.mem_of_getElem? (i := 29) rfl))) (by decide) (backOf (W := 0) (rmCompareTo l Z a0 hw [] b76 b81 p0 p1 at2 od2 (-1 : Int32) T84.heap n0 f87 f88 f89 Fa84 Fo84 hr1) hZ (hw _ (List.mem_of_getElem? (i := 31) rfl)) (hw _ (List.mem_of_getElem? (i := 9) rfl)) (by decide) (by decide)) q90a q90c (g := (mkF m 144 #[.val (.long p0), .second, .val (.long p1), .second, .val (.long p2), .second, .val (.long p3), .second, .val (.int p4), .val (.long at2), .second, .val (.long od2), .second, .val (.ref ra8), .val .null, .val (.ref b76), .val (.ref b81), .val (.int (-1 : Int32)), .unset, .unset] [(.ref b81), (.ref b76)])) rfl (by rw [hml]; rfl) (Steps.refl _) (argsL := [(.ref b81)]) (rest := []) (lenOf pd__Lshardwell_container_ExpiryQueue_Timer__I rfl) rfl (by show 2 * 0 + _ ≤ _; exact Nat.le_of_eq rfl) (hb hby at_144) (fun _ _ => ⟨rfl, rfl, (by decide : 3 + 0 ≤ _), (by decide : 7 + 0 ≤ _)⟩)
      dsimp only [Pt.U, Pt.locs, Pt.cells, Pt.slots] at X90 l90 y90 z90 st90 hQ90
      subst l90 y90 z90
      obtain ⟨rfl, Nq90, e90⟩ := hQ90
      have N90 := Fr.app N84 Nq90
      obtain ⟨_, _, ⟨T92, L92, k92, n92⟩, -, X92, ⟨Lc92, hQ92, l92, y92, z92⟩, st92⟩ := Jvm.LawKit.callS X90 hx (y := (⟨"shardwell/container/TimerCompareToPinLaw", "sign", "(I)I"⟩ : MethodName)) hown (mvT hZ (hw _ (List.mem_of_getElem? (i := 36) rfl))) (mvT hZ (hw _ (List.mem_of_getElem? (i := 37) rfl))) (mvT hZ (hw _ (List.mem_of_getElem? (i := 38) rfl))) (mvT hZ (hw _ (List.mem_of_getElem? (i := 39) rfl))) (by decide) (backOf (W := 0) (rmSign l Z a0 hw [] (-1 : Int32) (-1 : Int32) T84.heap n0 f87 (by decide)) hZ (hw _ (List.mem_of_getElem? (i := 39) rfl)) (hw _ (List.mem_of_getElem? (i := 38) rfl)) (by decide) (by decide)) (g := (mkF m 147 #[.val (.long p0), .second, .val (.long p1), .second, .val (.long p2), .second, .val (.long p3), .second, .val (.int p4), .val (.long at2), .second, .val (.long od2), .second, .val (.ref ra8), .val .null, .val (.ref b76), .val (.ref b81), .val (.int (-1 : Int32)), .unset, .unset] [(.int (-1 : Int32))])) rfl (by rw [hml]; rfl) (argsL := [(.int (-1 : Int32))]) (rest := []) (lenOf pd__I_I rfl) rfl (by show 2 * 0 + _ ≤ _; exact Nat.le_of_eq rfl) (hb hby at_147) (fun _ _ => ⟨rfl, e90, (by decide : 3 + 0 ≤ _), (by decide : 7 + 0 ≤ _)⟩)
      dsimp only [Pt.U, Pt.locs, Pt.cells, Pt.slots] at X92 l92 y92 z92 st92 hQ92
      subst l92 y92 z92
      obtain ⟨rfl, Nq92, e92⟩ := hQ92
      have N92 := Fr.app N90 Nq92
      have f94 := (A81.keep K84)
      obtain ⟨cq93, kq93, q93a, q93b, q93c⟩ := isOf hZ e92 f94
      obtain ⟨_, _, ⟨T93, L93, k93, n93⟩, -, X93, ⟨Lc93, hQ93, l93, y93, z93⟩, st93⟩ := X92.virtualBack hx (y := (⟨"shardwell/container/ExpiryQueue$Timer", "compareTo", "(Lshardwell/container/ExpiryQueue$Timer;)I"⟩ : MethodName)) (z := (⟨"shardwell/container/ExpiryQueue$Timer", "compareTo", "(Lshardwell/container/ExpiryQueue$Timer;)I"⟩ : MethodName)) hown (mvT hZ (hw _ (List.mem_of_getElem? (i := 27) rfl))) (mvT hZ (hw _ (List.mem_of_getElem? (i := 28) rfl))) (notFace_of_selects (args := #[]) (mvT hZ (hw _ (List.mem_of_getElem? (i := 30) rfl)))) (mvT hZ (hw _ (List.mem_of_getElem? (i := 30) rfl))) (mvT hZ (hw _ (List.mem_of_getElem? (i := 29) rfl))) (by decide) (backOf (W := 0) (rmCompareTo l Z a0 hw [] b81 b76 at2 od2 p0 p1 (1 : Int32) T84.heap n0 f87 Fa84 Fo84 f88 f89 hr2) hZ (hw _ (List.mem_of_getElem? (i := 31) rfl)) (hw _ (List.mem_of_getElem? (i := 9) rfl)) (by decide) (by decide)) q93a q93c (g := (mkF m 156 #[.val (.long p0), .second, .val (.long p1), .second, .val (.long p2), .second, .val (.long p3), .second, .val (.int p4), .val (.long at2), .second, .val (.long od2), .second, .val (.ref ra8), .val .null, .val (.ref b76), .val (.ref b81), .val (.int (-1 : Int32)), .val (.int (-1 : Int32)), .unset] [(.ref b76), (.ref b81)])) rfl (by rw [hml]; rfl) (Steps.refl _) (argsL := [(.ref b76)]) (rest := []) (lenOf pd__Lshardwell_container_ExpiryQueue_Timer__I rfl) rfl (by show 2 * 0 + _ ≤ _; exact Nat.le_of_eq rfl) (hb hby at_156) (fun _ _ => ⟨rfl, e92, (by decide : 3 + 0 ≤ _), (by decide : 7 + 0 ≤ _)⟩)
      dsimp only [Pt.U, Pt.locs, Pt.cells, Pt.slots] at X93 l93 y93 z93 st93 hQ93
      subst l93 y93 z93
      obtain ⟨rfl, Nq93, e93⟩ := hQ93
      have N93 := Fr.app N92 Nq93
      obtain ⟨_, _, ⟨T95, L95, k95, n95⟩, -, X95, ⟨Lc95, hQ95, l95, y95, z95⟩, st95⟩ := Jvm.LawKit.callS X93 hx (y := (⟨"shardwell/container/TimerCompareToPinLaw", "sign", "(I)I"⟩ : MethodName)) hown (mvT hZ (hw _ (List.mem_of_getElem? (i := 36) rfl))) (mvT hZ (hw _ (List.mem_of_getElem? (i := 37) rfl))) (mvT hZ (hw _ (List.mem_of_getElem? (i := 38) rfl))) (mvT hZ (hw _ (List.mem_of_getElem? (i := 39) rfl))) (by decide) (backOf (W := 0) (rmSign l Z a0 hw [] (1 : Int32) (1 : Int32) T84.heap n0 f87 (by decide)) hZ (hw _ (List.mem_of_getElem? (i := 39) rfl)) (hw _ (List.mem_of_getElem? (i := 38) rfl)) (by decide) (by decide)) (g := (mkF m 159 #[.val (.long p0), .second, .val (.long p1), .second, .val (.long p2), .second, .val (.long p3), .second, .val (.int p4), .val (.long at2), .second, .val (.long od2), .second, .val (.ref ra8), .val .null, .val (.ref b76), .val (.ref b81), .val (.int (-1 : Int32)), .val (.int (-1 : Int32)), .unset] [(.int (1 : Int32))])) rfl (by rw [hml]; rfl) (argsL := [(.int (1 : Int32))]) (rest := []) (lenOf pd__I_I rfl) rfl (by show 2 * 0 + _ ≤ _; exact Nat.le_of_eq rfl) (hb hby at_159) (fun _ _ => ⟨rfl, e93, (by decide : 3 + 0 ≤ _), (by decide : 7 + 0 ≤ _)⟩)
      dsimp only [Pt.U, Pt.locs, Pt.cells, Pt.slots] at X95 l95 y95 z95 st95 hQ95
      subst l95 y95 z95
      obtain ⟨rfl, Nq95, e95⟩ := hQ95
      have N95 := Fr.app N93 Nq95
      obtain ⟨fs, hr, hrun, hended, hW, hsame⟩ := X95.leave (v := some (.int (1 : Int32))) (fun h => by rw [Bd.returns] at h; cases h)
      refine ⟨_, _, pre86 _ ?_, hrun, hended, _, _, rfl, ?_, ⟨_, rfl⟩, hW, hsame.mono (by decide) (by decide)⟩
      · show Steps p.tables e below (T84.setTop (mkF m 89 #[.val (.long p0), .second, .val (.long p1), .second, .val (.long p2), .second, .val (.long p3), .second, .val (.int p4), .val (.long at2), .second, .val (.long od2), .second, .val (.ref ra8), .val .null, .val (.ref b76), .val (.ref b81), .unset, .unset, .unset] [(.int (lcmpW p0 at2))])) _
        refine XS.ifNo X84.here hx rfl (hb hby at_89) rfl ((if0 _ _).trans (tlt hc89_85).2.1) ?_
        show Steps p.tables e below (T84.setTop (mkF m 92 #[.val (.long p0), .second, .val (.long p1), .second, .val (.long p2), .second, .val (.long p3), .second, .val (.int p4), .val (.long at2), .second, .val (.long od2), .second, .val (.ref ra8), .val .null, .val (.ref b76), .val (.ref b81), .unset, .unset, .unset] [])) _
        refine XS.iconst X84.here hx rfl (hb hby at_92) ?_
        show Steps p.tables e below (T84.setTop (mkF m 93 #[.val (.long p0), .second, .val (.long p1), .second, .val (.long p2), .second, .val (.long p3), .second, .val (.int p4), .val (.long at2), .second, .val (.long od2), .second, .val (.ref ra8), .val .null, .val (.ref b76), .val (.ref b81), .unset, .unset, .unset] [(.int (-1 : Int32))])) _
        refine XS.istore X84.here hx rfl (hb hby at_93) rfl (l' := #[.val (.long p0), .second, .val (.long p1), .second, .val (.long p2), .second, .val (.long p3), .second, .val (.int p4), .val (.long at2), .second, .val (.long od2), .second, .val (.ref ra8), .val .null, .val (.ref b76), .val (.ref b81), .val (.int (-1 : Int32)), .unset, .unset]) rfl ?_
        show Steps p.tables e below (T84.setTop (mkF m 95 #[.val (.long p0), .second, .val (.long p1), .second, .val (.long p2), .second, .val (.long p3), .second, .val (.int p4), .val (.long at2), .second, .val (.long od2), .second, .val (.ref ra8), .val .null, .val (.ref b76), .val (.ref b81), .val (.int (-1 : Int32)), .unset, .unset] [])) _
        refine XS.goto X84.here hx rfl (pc0 := 95) (pc' := 140) rfl (hb hby at_95) (by decide) (by decide) ?_
        show Steps p.tables e below (T84.setTop (mkF m 140 #[.val (.long p0), .second, .val (.long p1), .second, .val (.long p2), .second, .val (.long p3), .second, .val (.int p4), .val (.long at2), .second, .val (.long od2), .second, .val (.ref ra8), .val .null, .val (.ref b76), .val (.ref b81), .val (.int (-1 : Int32)), .unset, .unset] [])) _
        refine XS.aload X84.here hx rfl (hb hby at_140) rfl rfl ?_
        show Steps p.tables e below (T84.setTop (mkF m 142 #[.val (.long p0), .second, .val (.long p1), .second, .val (.long p2), .second, .val (.long p3), .second, .val (.int p4), .val (.long at2), .second, .val (.long od2), .second, .val (.ref ra8), .val .null, .val (.ref b76), .val (.ref b81), .val (.int (-1 : Int32)), .unset, .unset] [(.ref b76)])) _
        refine XS.aload X84.here hx rfl (hb hby at_142) rfl rfl ?_
        show Steps p.tables e below (T84.setTop (mkF m 144 #[.val (.long p0), .second, .val (.long p1), .second, .val (.long p2), .second, .val (.long p3), .second, .val (.int p4), .val (.long at2), .second, .val (.long od2), .second, .val (.ref ra8), .val .null, .val (.ref b76), .val (.ref b81), .val (.int (-1 : Int32)), .unset, .unset] [(.ref b81), (.ref b76)])) _
        refine st90.trans ?_
        show Steps p.tables e below (T90.setTop (mkF m 147 #[.val (.long p0), .second, .val (.long p1), .second, .val (.long p2), .second, .val (.long p3), .second, .val (.int p4), .val (.long at2), .second, .val (.long od2), .second, .val (.ref ra8), .val .null, .val (.ref b76), .val (.ref b81), .val (.int (-1 : Int32)), .unset, .unset] [(.int (-1 : Int32))])) _
        refine st92 _ ?_
        show Steps p.tables e below (T92.setTop (mkF m 150 #[.val (.long p0), .second, .val (.long p1), .second, .val (.long p2), .second, .val (.long p3), .second, .val (.int p4), .val (.long at2), .second, .val (.long od2), .second, .val (.ref ra8), .val .null, .val (.ref b76), .val (.ref b81), .val (.int (-1 : Int32)), .unset, .unset] [(.int (-1 : Int32))])) _
        refine XS.istore X92.here hx rfl (hb hby at_150) rfl (l' := #[.val (.long p0), .second, .val (.long p1), .second, .val (.long p2), .second, .val (.long p3), .second, .val (.int p4), .val (.long at2), .second, .val (.long od2), .second, .val (.ref ra8), .val .null, .val (.ref b76), .val (.ref b81), .val (.int (-1 : Int32)), .val (.int (-1 : Int32)), .unset]) rfl ?_
        show Steps p.tables e below (T92.setTop (mkF m 152 #[.val (.long p0), .second, .val (.long p1), .second, .val (.long p2), .second, .val (.long p3), .second, .val (.int p4), .val (.long at2), .second, .val (.long od2), .second, .val (.ref ra8), .val .null, .val (.ref b76), .val (.ref b81), .val (.int (-1 : Int32)), .val (.int (-1 : Int32)), .unset] [])) _
        refine XS.aload X92.here hx rfl (hb hby at_152) rfl rfl ?_
        show Steps p.tables e below (T92.setTop (mkF m 154 #[.val (.long p0), .second, .val (.long p1), .second, .val (.long p2), .second, .val (.long p3), .second, .val (.int p4), .val (.long at2), .second, .val (.long od2), .second, .val (.ref ra8), .val .null, .val (.ref b76), .val (.ref b81), .val (.int (-1 : Int32)), .val (.int (-1 : Int32)), .unset] [(.ref b81)])) _
        refine XS.aload X92.here hx rfl (hb hby at_154) rfl rfl ?_
        show Steps p.tables e below (T92.setTop (mkF m 156 #[.val (.long p0), .second, .val (.long p1), .second, .val (.long p2), .second, .val (.long p3), .second, .val (.int p4), .val (.long at2), .second, .val (.long od2), .second, .val (.ref ra8), .val .null, .val (.ref b76), .val (.ref b81), .val (.int (-1 : Int32)), .val (.int (-1 : Int32)), .unset] [(.ref b76), (.ref b81)])) _
        refine st93.trans ?_
        show Steps p.tables e below (T93.setTop (mkF m 159 #[.val (.long p0), .second, .val (.long p1), .second, .val (.long p2), .second, .val (.long p3), .second, .val (.int p4), .val (.long at2), .second, .val (.long od2), .second, .val (.ref ra8), .val .null, .val (.ref b76), .val (.ref b81), .val (.int (-1 : Int32)), .val (.int (-1 : Int32)), .unset] [(.int (1 : Int32))])) _
        refine st95 _ ?_
        show Steps p.tables e below (T95.setTop (mkF m 162 #[.val (.long p0), .second, .val (.long p1), .second, .val (.long p2), .second, .val (.long p3), .second, .val (.int p4), .val (.long at2), .second, .val (.long od2), .second, .val (.ref ra8), .val .null, .val (.ref b76), .val (.ref b81), .val (.int (-1 : Int32)), .val (.int (-1 : Int32)), .unset] [(.int (1 : Int32))])) _
        refine XS.istore X95.here hx rfl (hb hby at_162) rfl (l' := #[.val (.long p0), .second, .val (.long p1), .second, .val (.long p2), .second, .val (.long p3), .second, .val (.int p4), .val (.long at2), .second, .val (.long od2), .second, .val (.ref ra8), .val .null, .val (.ref b76), .val (.ref b81), .val (.int (-1 : Int32)), .val (.int (-1 : Int32)), .val (.int (1 : Int32))]) rfl ?_
        show Steps p.tables e below (T95.setTop (mkF m 164 #[.val (.long p0), .second, .val (.long p1), .second, .val (.long p2), .second, .val (.long p3), .second, .val (.int p4), .val (.long at2), .second, .val (.long od2), .second, .val (.ref ra8), .val .null, .val (.ref b76), .val (.ref b81), .val (.int (-1 : Int32)), .val (.int (-1 : Int32)), .val (.int (1 : Int32))] [])) _
        refine XS.iload X95.here hx rfl (hb hby at_164) rfl  ?_
        show Steps p.tables e below (T95.setTop (mkF m 166 #[.val (.long p0), .second, .val (.long p1), .second, .val (.long p2), .second, .val (.long p3), .second, .val (.int p4), .val (.long at2), .second, .val (.long od2), .second, .val (.ref ra8), .val .null, .val (.ref b76), .val (.ref b81), .val (.int (-1 : Int32)), .val (.int (-1 : Int32)), .val (.int (1 : Int32))] [(.int (-1 : Int32))])) _
        refine XS.iload X95.here hx rfl (hb hby at_166) rfl  ?_
        show Steps p.tables e below (T95.setTop (mkF m 168 #[.val (.long p0), .second, .val (.long p1), .second, .val (.long p2), .second, .val (.long p3), .second, .val (.int p4), .val (.long at2), .second, .val (.long od2), .second, .val (.ref ra8), .val .null, .val (.ref b76), .val (.ref b81), .val (.int (-1 : Int32)), .val (.int (-1 : Int32)), .val (.int (1 : Int32))] [(.int (-1 : Int32)), (.int (-1 : Int32))])) _
        refine XS.icmpNo X95.here hx rfl (hb hby at_168) rfl (teq (by decide : (-1 : Int32) = (-1 : Int32))).2 ?_
        show Steps p.tables e below (T95.setTop (mkF m 171 #[.val (.long p0), .second, .val (.long p1), .second, .val (.long p2), .second, .val (.long p3), .second, .val (.int p4), .val (.long at2), .second, .val (.long od2), .second, .val (.ref ra8), .val .null, .val (.ref b76), .val (.ref b81), .val (.int (-1 : Int32)), .val (.int (-1 : Int32)), .val (.int (1 : Int32))] [])) _
        refine XS.iload X95.here hx rfl (hb hby at_171) rfl  ?_
        show Steps p.tables e below (T95.setTop (mkF m 173 #[.val (.long p0), .second, .val (.long p1), .second, .val (.long p2), .second, .val (.long p3), .second, .val (.int p4), .val (.long at2), .second, .val (.long od2), .second, .val (.ref ra8), .val .null, .val (.ref b76), .val (.ref b81), .val (.int (-1 : Int32)), .val (.int (-1 : Int32)), .val (.int (1 : Int32))] [(.int (1 : Int32))])) _
        refine XS.iload X95.here hx rfl (hb hby at_173) rfl  ?_
        show Steps p.tables e below (T95.setTop (mkF m 175 #[.val (.long p0), .second, .val (.long p1), .second, .val (.long p2), .second, .val (.long p3), .second, .val (.int p4), .val (.long at2), .second, .val (.long od2), .second, .val (.ref ra8), .val .null, .val (.ref b76), .val (.ref b81), .val (.int (-1 : Int32)), .val (.int (-1 : Int32)), .val (.int (1 : Int32))] [(.int (-1 : Int32)), (.int (1 : Int32))])) _
        refine XS.ineg X95.here hx rfl (hb hby at_175) rfl ?_
        show Steps p.tables e below (T95.setTop (mkF m 176 #[.val (.long p0), .second, .val (.long p1), .second, .val (.long p2), .second, .val (.long p3), .second, .val (.int p4), .val (.long at2), .second, .val (.long od2), .second, .val (.ref ra8), .val .null, .val (.ref b76), .val (.ref b81), .val (.int (-1 : Int32)), .val (.int (-1 : Int32)), .val (.int (1 : Int32))] [(.int (-(-1 : Int32))), (.int (1 : Int32))])) _
        refine XS.icmpNo X95.here hx rfl (hb hby at_176) rfl (teq (by decide)).2 ?_
        show Steps p.tables e below (T95.setTop (mkF m 179 #[.val (.long p0), .second, .val (.long p1), .second, .val (.long p2), .second, .val (.long p3), .second, .val (.int p4), .val (.long at2), .second, .val (.long od2), .second, .val (.ref ra8), .val .null, .val (.ref b76), .val (.ref b81), .val (.int (-1 : Int32)), .val (.int (-1 : Int32)), .val (.int (1 : Int32))] [])) _
        refine XS.iconst X95.here hx rfl (hb hby at_179) ?_
        show Steps p.tables e below (T95.setTop (mkF m 180 #[.val (.long p0), .second, .val (.long p1), .second, .val (.long p2), .second, .val (.long p3), .second, .val (.int p4), .val (.long at2), .second, .val (.long od2), .second, .val (.ref ra8), .val .null, .val (.ref b76), .val (.ref b81), .val (.int (-1 : Int32)), .val (.int (-1 : Int32)), .val (.int (1 : Int32))] [(.int (1 : Int32))])) _
        refine XS.goto X95.here hx rfl (pc0 := 180) (pc' := 184) rfl (hb hby at_180) (by decide) (by decide) ?_
        show Steps p.tables e below (T95.setTop (mkF m 184 #[.val (.long p0), .second, .val (.long p1), .second, .val (.long p2), .second, .val (.long p3), .second, .val (.int p4), .val (.long at2), .second, .val (.long od2), .second, .val (.ref ra8), .val .null, .val (.ref b76), .val (.ref b81), .val (.int (-1 : Int32)), .val (.int (-1 : Int32)), .val (.int (1 : Int32))] [(.int (1 : Int32))])) _
        exact retN X95 hx (t := .boolean) Bd.returns (by simp) (hb hby at_184) hr
      · show Q_rm0 Z p0 p1 p2 p3 p4 wC cl h0 n0 _ T95.heap _
        rw [e95]
        exact ⟨rfl, N95⟩
    · have pre97 : ∀ t, Steps p.tables e below (T84.setTop (mkF m 102 #[.val (.long p0), .second, .val (.long p1), .second, .val (.long p2), .second, .val (.long p3), .second, .val (.int p4), .val (.long at2), .second, .val (.long od2), .second, .val (.ref ra8), .val .null, .val (.ref b76), .val (.ref b81), .unset, .unset, .unset] [(.int (lcmpW p0 at2))])) t → Steps p.tables e below (s₁.setTop (entryFrame m #[(.long p0), (.long p1), (.long p2), (.long p3), (.int p4)] maxLocals)) t := fun t kt => pre86 t (by
        show Steps p.tables e below (T84.setTop (mkF m 89 #[.val (.long p0), .second, .val (.long p1), .second, .val (.long p2), .second, .val (.long p3), .second, .val (.int p4), .val (.long at2), .second, .val (.long od2), .second, .val (.ref ra8), .val .null, .val (.ref b76), .val (.ref b81), .unset, .unset, .unset] [(.int (lcmpW p0 at2))])) _
        refine XS.ifYes X84.here hx rfl (pc0 := 89) (pc' := 98) rfl (hb hby at_89) rfl ((if0 _ _).trans (flt hc89_85).2.1) (by decide) (by decide) ?_
        show Steps p.tables e below (T84.setTop (mkF m 98 #[.val (.long p0), .second, .val (.long p1), .second, .val (.long p2), .second, .val (.long p3), .second, .val (.int p4), .val (.long at2), .second, .val (.long od2), .second, .val (.ref ra8), .val .null, .val (.ref b76), .val (.ref b81), .unset, .unset, .unset] [])) _
        refine XS.lloadN X84.here hx rfl (hb hby at_98) rfl  ?_
        show Steps p.tables e below (T84.setTop (mkF m 99 #[.val (.long p0), .second, .val (.long p1), .second, .val (.long p2), .second, .val (.long p3), .second, .val (.int p4), .val (.long at2), .second, .val (.long od2), .second, .val (.ref ra8), .val .null, .val (.ref b76), .val (.ref b81), .unset, .unset, .unset] [(.long p0)])) _
        refine XS.lload X84.here hx rfl (hb hby at_99) rfl  ?_
        show Steps p.tables e below (T84.setTop (mkF m 101 #[.val (.long p0), .second, .val (.long p1), .second, .val (.long p2), .second, .val (.long p3), .second, .val (.int p4), .val (.long at2), .second, .val (.long od2), .second, .val (.ref ra8), .val .null, .val (.ref b76), .val (.ref b81), .unset, .unset, .unset] [(.long at2), (.long p0)])) _
        refine XS.lcmp X84.here hx rfl (hb hby at_101) rfl ?_
        exact kt)
      by_cases hc102_96 : (0 : Int32) < (lcmpW p0 at2)
      · obtain ⟨hr1, hr2⟩ := own_c2 p1 od2 hc102_96
        have f98 := (Nat.le_trans f83 K84.1)
        have f99 := ((Fa79.ext E81).keep K84 (ninS ne81_b76 nin0))
        have f100 := ((Fo79.ext E81).keep K84 (ninS ne81_b76 nin0))
        have f102 := ((f80.ext E81).keep K84)
        obtain ⟨cq101, kq101, q101a, q101b, q101c⟩ := isOf hZ rfl f102
        obtain ⟨_, _, ⟨T101, L101, k101, n101⟩, -, X101, ⟨Lc101, hQ101, l101, y101, z101⟩, st101⟩ := X84.virtualBack hx (y := (⟨"shardwell/container/ExpiryQueue$Timer", "compareTo", "(Lshardwell/container/ExpiryQueue$Timer;)I"⟩ : MethodName)) (z := (⟨"shardwell/container/ExpiryQueue$Timer", "compareTo", "(Lshardwell/container/ExpiryQueue$Timer;)I"⟩ : MethodName)) hown (mvT hZ (hw _ (List.mem_of_getElem? (i := 27) rfl))) (mvT hZ (hw _ (List.mem_of_getElem? (i := 28) rfl))) (notFace_of_selects (args := #[]) (mvT hZ (hw _ (List.mem_of_getElem? (i := 30) rfl)))) (mvT hZ (hw _ (List.mem_of_getElem? (i := 30) rfl))) (mvT hZ (hw _ (List.mem_of_getElem? (i := 29) rfl))) (by decide) (backOf (W := 0) (rmCompareTo l Z a0 hw [] b76 b81 p0 p1 at2 od2 (1 : Int32) T84.heap n0 f98 f99 f100 Fa84 Fo84 hr1) hZ (hw _ (List.mem_of_getElem? (i := 31) rfl)) (hw _ (List.mem_of_getElem? (i := 9) rfl)) (by decide) (by decide)) q101a q101c (g := (mkF m 144 #[.val (.long p0), .second, .val (.long p1), .second, .val (.long p2), .second, .val (.long p3), .second, .val (.int p4), .val (.long at2), .second, .val (.long od2), .second, .val (.ref ra8), .val .null, .val (.ref b76), .val (.ref b81), .val (.int (1 : Int32)), .unset, .unset] [(.ref b81), (.ref b76)])) rfl (by rw [hml]; rfl) (Steps.refl _) (argsL := [(.ref b81)]) (rest := []) (lenOf pd__Lshardwell_container_ExpiryQueue_Timer__I rfl) rfl (by show 2 * 0 + _ ≤ _; exact Nat.le_of_eq rfl) (hb hby at_144) (fun _ _ => ⟨rfl, rfl, (by decide : 3 + 0 ≤ _), (by decide : 7 + 0 ≤ _)⟩)
        dsimp only [Pt.U, Pt.locs, Pt.cells, Pt.slots] at X101 l101 y101 z101 st101 hQ101
        subst l101 y101 z101
        obtain ⟨rfl, Nq101, e101⟩ := hQ101
        have N101 := Fr.app N84 Nq101
        obtain ⟨_, _, ⟨T103, L103, k103, n103⟩, -, X103, ⟨Lc103, hQ103, l103, y103, z103⟩, st103⟩ := Jvm.LawKit.callS X101 hx (y := (⟨"shardwell/container/TimerCompareToPinLaw", "sign", "(I)I"⟩ : MethodName)) hown (mvT hZ (hw _ (List.mem_of_getElem? (i := 36) rfl))) (mvT hZ (hw _ (List.mem_of_getElem? (i := 37) rfl))) (mvT hZ (hw _ (List.mem_of_getElem? (i := 38) rfl))) (mvT hZ (hw _ (List.mem_of_getElem? (i := 39) rfl))) (by decide) (backOf (W := 0) (rmSign l Z a0 hw [] (1 : Int32) (1 : Int32) T84.heap n0 f98 (by decide)) hZ (hw _ (List.mem_of_getElem? (i := 39) rfl)) (hw _ (List.mem_of_getElem? (i := 38) rfl)) (by decide) (by decide)) (g := (mkF m 147 #[.val (.long p0), .second, .val (.long p1), .second, .val (.long p2), .second, .val (.long p3), .second, .val (.int p4), .val (.long at2), .second, .val (.long od2), .second, .val (.ref ra8), .val .null, .val (.ref b76), .val (.ref b81), .val (.int (1 : Int32)), .unset, .unset] [(.int (1 : Int32))])) rfl (by rw [hml]; rfl) (argsL := [(.int (1 : Int32))]) (rest := []) (lenOf pd__I_I rfl) rfl (by show 2 * 0 + _ ≤ _; exact Nat.le_of_eq rfl) (hb hby at_147) (fun _ _ => ⟨rfl, e101, (by decide : 3 + 0 ≤ _), (by decide : 7 + 0 ≤ _)⟩)
        dsimp only [Pt.U, Pt.locs, Pt.cells, Pt.slots] at X103 l103 y103 z103 st103 hQ103
        subst l103 y103 z103
        obtain ⟨rfl, Nq103, e103⟩ := hQ103
        have N103 := Fr.app N101 Nq103
        have f105 := (A81.keep K84)
        obtain ⟨cq104, kq104, q104a, q104b, q104c⟩ := isOf hZ e103 f105
        obtain ⟨_, _, ⟨T104, L104, k104, n104⟩, -, X104, ⟨Lc104, hQ104, l104, y104, z104⟩, st104⟩ := X103.virtualBack hx (y := (⟨"shardwell/container/ExpiryQueue$Timer", "compareTo", "(Lshardwell/container/ExpiryQueue$Timer;)I"⟩ : MethodName)) (z := (⟨"shardwell/container/ExpiryQueue$Timer", "compareTo", "(Lshardwell/container/ExpiryQueue$Timer;)I"⟩ : MethodName)) hown (mvT hZ (hw _ (List.mem_of_getElem? (i := 27) rfl))) (mvT hZ (hw _ (List.mem_of_getElem? (i := 28) rfl))) (notFace_of_selects (args := #[]) (mvT hZ (hw _ (List.mem_of_getElem? (i := 30) rfl)))) (mvT hZ (hw _ (List.mem_of_getElem? (i := 30) rfl))) (mvT hZ (hw _ (List.mem_of_getElem? (i := 29) rfl))) (by decide) (backOf (W := 0) (rmCompareTo l Z a0 hw [] b81 b76 at2 od2 p0 p1 (-1 : Int32) T84.heap n0 f98 Fa84 Fo84 f99 f100 hr2) hZ (hw _ (List.mem_of_getElem? (i := 31) rfl)) (hw _ (List.mem_of_getElem? (i := 9) rfl)) (by decide) (by decide)) q104a q104c (g := (mkF m 156 #[.val (.long p0), .second, .val (.long p1), .second, .val (.long p2), .second, .val (.long p3), .second, .val (.int p4), .val (.long at2), .second, .val (.long od2), .second, .val (.ref ra8), .val .null, .val (.ref b76), .val (.ref b81), .val (.int (1 : Int32)), .val (.int (1 : Int32)), .unset] [(.ref b76), (.ref b81)])) rfl (by rw [hml]; rfl) (Steps.refl _) (argsL := [(.ref b76)]) (rest := []) (lenOf pd__Lshardwell_container_ExpiryQueue_Timer__I rfl) rfl (by show 2 * 0 + _ ≤ _; exact Nat.le_of_eq rfl) (hb hby at_156) (fun _ _ => ⟨rfl, e103, (by decide : 3 + 0 ≤ _), (by decide : 7 + 0 ≤ _)⟩)
        dsimp only [Pt.U, Pt.locs, Pt.cells, Pt.slots] at X104 l104 y104 z104 st104 hQ104
        subst l104 y104 z104
        obtain ⟨rfl, Nq104, e104⟩ := hQ104
        have N104 := Fr.app N103 Nq104
        obtain ⟨_, _, ⟨T106, L106, k106, n106⟩, -, X106, ⟨Lc106, hQ106, l106, y106, z106⟩, st106⟩ := Jvm.LawKit.callS X104 hx (y := (⟨"shardwell/container/TimerCompareToPinLaw", "sign", "(I)I"⟩ : MethodName)) hown (mvT hZ (hw _ (List.mem_of_getElem? (i := 36) rfl))) (mvT hZ (hw _ (List.mem_of_getElem? (i := 37) rfl))) (mvT hZ (hw _ (List.mem_of_getElem? (i := 38) rfl))) (mvT hZ (hw _ (List.mem_of_getElem? (i := 39) rfl))) (by decide) (backOf (W := 0) (rmSign l Z a0 hw [] (-1 : Int32) (-1 : Int32) T84.heap n0 f98 (by decide)) hZ (hw _ (List.mem_of_getElem? (i := 39) rfl)) (hw _ (List.mem_of_getElem? (i := 38) rfl)) (by decide) (by decide)) (g := (mkF m 159 #[.val (.long p0), .second, .val (.long p1), .second, .val (.long p2), .second, .val (.long p3), .second, .val (.int p4), .val (.long at2), .second, .val (.long od2), .second, .val (.ref ra8), .val .null, .val (.ref b76), .val (.ref b81), .val (.int (1 : Int32)), .val (.int (1 : Int32)), .unset] [(.int (-1 : Int32))])) rfl (by rw [hml]; rfl) (argsL := [(.int (-1 : Int32))]) (rest := []) (lenOf pd__I_I rfl) rfl (by show 2 * 0 + _ ≤ _; exact Nat.le_of_eq rfl) (hb hby at_159) (fun _ _ => ⟨rfl, e104, (by decide : 3 + 0 ≤ _), (by decide : 7 + 0 ≤ _)⟩)
        dsimp only [Pt.U, Pt.locs, Pt.cells, Pt.slots] at X106 l106 y106 z106 st106 hQ106
        subst l106 y106 z106
        obtain ⟨rfl, Nq106, e106⟩ := hQ106
        have N106 := Fr.app N104 Nq106
        obtain ⟨fs, hr, hrun, hended, hW, hsame⟩ := X106.leave (v := some (.int (1 : Int32))) (fun h => by rw [Bd.returns] at h; cases h)
        refine ⟨_, _, pre97 _ ?_, hrun, hended, _, _, rfl, ?_, ⟨_, rfl⟩, hW, hsame.mono (by decide) (by decide)⟩
        · show Steps p.tables e below (T84.setTop (mkF m 102 #[.val (.long p0), .second, .val (.long p1), .second, .val (.long p2), .second, .val (.long p3), .second, .val (.int p4), .val (.long at2), .second, .val (.long od2), .second, .val (.ref ra8), .val .null, .val (.ref b76), .val (.ref b81), .unset, .unset, .unset] [(.int (lcmpW p0 at2))])) _
          refine XS.ifNo X84.here hx rfl (hb hby at_102) rfl ((if0 _ _).trans (tlt hc102_96).2.2.2) ?_
          show Steps p.tables e below (T84.setTop (mkF m 105 #[.val (.long p0), .second, .val (.long p1), .second, .val (.long p2), .second, .val (.long p3), .second, .val (.int p4), .val (.long at2), .second, .val (.long od2), .second, .val (.ref ra8), .val .null, .val (.ref b76), .val (.ref b81), .unset, .unset, .unset] [])) _
          refine XS.iconst X84.here hx rfl (hb hby at_105) ?_
          show Steps p.tables e below (T84.setTop (mkF m 106 #[.val (.long p0), .second, .val (.long p1), .second, .val (.long p2), .second, .val (.long p3), .second, .val (.int p4), .val (.long at2), .second, .val (.long od2), .second, .val (.ref ra8), .val .null, .val (.ref b76), .val (.ref b81), .unset, .unset, .unset] [(.int (1 : Int32))])) _
          refine XS.istore X84.here hx rfl (hb hby at_106) rfl (l' := #[.val (.long p0), .second, .val (.long p1), .second, .val (.long p2), .second, .val (.long p3), .second, .val (.int p4), .val (.long at2), .second, .val (.long od2), .second, .val (.ref ra8), .val .null, .val (.ref b76), .val (.ref b81), .val (.int (1 : Int32)), .unset, .unset]) rfl ?_
          show Steps p.tables e below (T84.setTop (mkF m 108 #[.val (.long p0), .second, .val (.long p1), .second, .val (.long p2), .second, .val (.long p3), .second, .val (.int p4), .val (.long at2), .second, .val (.long od2), .second, .val (.ref ra8), .val .null, .val (.ref b76), .val (.ref b81), .val (.int (1 : Int32)), .unset, .unset] [])) _
          refine XS.goto X84.here hx rfl (pc0 := 108) (pc' := 140) rfl (hb hby at_108) (by decide) (by decide) ?_
          show Steps p.tables e below (T84.setTop (mkF m 140 #[.val (.long p0), .second, .val (.long p1), .second, .val (.long p2), .second, .val (.long p3), .second, .val (.int p4), .val (.long at2), .second, .val (.long od2), .second, .val (.ref ra8), .val .null, .val (.ref b76), .val (.ref b81), .val (.int (1 : Int32)), .unset, .unset] [])) _
          refine XS.aload X84.here hx rfl (hb hby at_140) rfl rfl ?_
          show Steps p.tables e below (T84.setTop (mkF m 142 #[.val (.long p0), .second, .val (.long p1), .second, .val (.long p2), .second, .val (.long p3), .second, .val (.int p4), .val (.long at2), .second, .val (.long od2), .second, .val (.ref ra8), .val .null, .val (.ref b76), .val (.ref b81), .val (.int (1 : Int32)), .unset, .unset] [(.ref b76)])) _
          refine XS.aload X84.here hx rfl (hb hby at_142) rfl rfl ?_
          show Steps p.tables e below (T84.setTop (mkF m 144 #[.val (.long p0), .second, .val (.long p1), .second, .val (.long p2), .second, .val (.long p3), .second, .val (.int p4), .val (.long at2), .second, .val (.long od2), .second, .val (.ref ra8), .val .null, .val (.ref b76), .val (.ref b81), .val (.int (1 : Int32)), .unset, .unset] [(.ref b81), (.ref b76)])) _
          refine st101.trans ?_
          show Steps p.tables e below (T101.setTop (mkF m 147 #[.val (.long p0), .second, .val (.long p1), .second, .val (.long p2), .second, .val (.long p3), .second, .val (.int p4), .val (.long at2), .second, .val (.long od2), .second, .val (.ref ra8), .val .null, .val (.ref b76), .val (.ref b81), .val (.int (1 : Int32)), .unset, .unset] [(.int (1 : Int32))])) _
          refine st103 _ ?_
          show Steps p.tables e below (T103.setTop (mkF m 150 #[.val (.long p0), .second, .val (.long p1), .second, .val (.long p2), .second, .val (.long p3), .second, .val (.int p4), .val (.long at2), .second, .val (.long od2), .second, .val (.ref ra8), .val .null, .val (.ref b76), .val (.ref b81), .val (.int (1 : Int32)), .unset, .unset] [(.int (1 : Int32))])) _
          refine XS.istore X103.here hx rfl (hb hby at_150) rfl (l' := #[.val (.long p0), .second, .val (.long p1), .second, .val (.long p2), .second, .val (.long p3), .second, .val (.int p4), .val (.long at2), .second, .val (.long od2), .second, .val (.ref ra8), .val .null, .val (.ref b76), .val (.ref b81), .val (.int (1 : Int32)), .val (.int (1 : Int32)), .unset]) rfl ?_
          show Steps p.tables e below (T103.setTop (mkF m 152 #[.val (.long p0), .second, .val (.long p1), .second, .val (.long p2), .second, .val (.long p3), .second, .val (.int p4), .val (.long at2), .second, .val (.long od2), .second, .val (.ref ra8), .val .null, .val (.ref b76), .val (.ref b81), .val (.int (1 : Int32)), .val (.int (1 : Int32)), .unset] [])) _
          refine XS.aload X103.here hx rfl (hb hby at_152) rfl rfl ?_
          show Steps p.tables e below (T103.setTop (mkF m 154 #[.val (.long p0), .second, .val (.long p1), .second, .val (.long p2), .second, .val (.long p3), .second, .val (.int p4), .val (.long at2), .second, .val (.long od2), .second, .val (.ref ra8), .val .null, .val (.ref b76), .val (.ref b81), .val (.int (1 : Int32)), .val (.int (1 : Int32)), .unset] [(.ref b81)])) _
          refine XS.aload X103.here hx rfl (hb hby at_154) rfl rfl ?_
          show Steps p.tables e below (T103.setTop (mkF m 156 #[.val (.long p0), .second, .val (.long p1), .second, .val (.long p2), .second, .val (.long p3), .second, .val (.int p4), .val (.long at2), .second, .val (.long od2), .second, .val (.ref ra8), .val .null, .val (.ref b76), .val (.ref b81), .val (.int (1 : Int32)), .val (.int (1 : Int32)), .unset] [(.ref b76), (.ref b81)])) _
          refine st104.trans ?_
          show Steps p.tables e below (T104.setTop (mkF m 159 #[.val (.long p0), .second, .val (.long p1), .second, .val (.long p2), .second, .val (.long p3), .second, .val (.int p4), .val (.long at2), .second, .val (.long od2), .second, .val (.ref ra8), .val .null, .val (.ref b76), .val (.ref b81), .val (.int (1 : Int32)), .val (.int (1 : Int32)), .unset] [(.int (-1 : Int32))])) _
          refine st106 _ ?_
          show Steps p.tables e below (T106.setTop (mkF m 162 #[.val (.long p0), .second, .val (.long p1), .second, .val (.long p2), .second, .val (.long p3), .second, .val (.int p4), .val (.long at2), .second, .val (.long od2), .second, .val (.ref ra8), .val .null, .val (.ref b76), .val (.ref b81), .val (.int (1 : Int32)), .val (.int (1 : Int32)), .unset] [(.int (-1 : Int32))])) _
          refine XS.istore X106.here hx rfl (hb hby at_162) rfl (l' := #[.val (.long p0), .second, .val (.long p1), .second, .val (.long p2), .second, .val (.long p3), .second, .val (.int p4), .val (.long at2), .second, .val (.long od2), .second, .val (.ref ra8), .val .null, .val (.ref b76), .val (.ref b81), .val (.int (1 : Int32)), .val (.int (1 : Int32)), .val (.int (-1 : Int32))]) rfl ?_
          show Steps p.tables e below (T106.setTop (mkF m 164 #[.val (.long p0), .second, .val (.long p1), .second, .val (.long p2), .second, .val (.long p3), .second, .val (.int p4), .val (.long at2), .second, .val (.long od2), .second, .val (.ref ra8), .val .null, .val (.ref b76), .val (.ref b81), .val (.int (1 : Int32)), .val (.int (1 : Int32)), .val (.int (-1 : Int32))] [])) _
          refine XS.iload X106.here hx rfl (hb hby at_164) rfl  ?_
          show Steps p.tables e below (T106.setTop (mkF m 166 #[.val (.long p0), .second, .val (.long p1), .second, .val (.long p2), .second, .val (.long p3), .second, .val (.int p4), .val (.long at2), .second, .val (.long od2), .second, .val (.ref ra8), .val .null, .val (.ref b76), .val (.ref b81), .val (.int (1 : Int32)), .val (.int (1 : Int32)), .val (.int (-1 : Int32))] [(.int (1 : Int32))])) _
          refine XS.iload X106.here hx rfl (hb hby at_166) rfl  ?_
          show Steps p.tables e below (T106.setTop (mkF m 168 #[.val (.long p0), .second, .val (.long p1), .second, .val (.long p2), .second, .val (.long p3), .second, .val (.int p4), .val (.long at2), .second, .val (.long od2), .second, .val (.ref ra8), .val .null, .val (.ref b76), .val (.ref b81), .val (.int (1 : Int32)), .val (.int (1 : Int32)), .val (.int (-1 : Int32))] [(.int (1 : Int32)), (.int (1 : Int32))])) _
          refine XS.icmpNo X106.here hx rfl (hb hby at_168) rfl (teq (by decide : (1 : Int32) = (1 : Int32))).2 ?_
          show Steps p.tables e below (T106.setTop (mkF m 171 #[.val (.long p0), .second, .val (.long p1), .second, .val (.long p2), .second, .val (.long p3), .second, .val (.int p4), .val (.long at2), .second, .val (.long od2), .second, .val (.ref ra8), .val .null, .val (.ref b76), .val (.ref b81), .val (.int (1 : Int32)), .val (.int (1 : Int32)), .val (.int (-1 : Int32))] [])) _
          refine XS.iload X106.here hx rfl (hb hby at_171) rfl  ?_
          show Steps p.tables e below (T106.setTop (mkF m 173 #[.val (.long p0), .second, .val (.long p1), .second, .val (.long p2), .second, .val (.long p3), .second, .val (.int p4), .val (.long at2), .second, .val (.long od2), .second, .val (.ref ra8), .val .null, .val (.ref b76), .val (.ref b81), .val (.int (1 : Int32)), .val (.int (1 : Int32)), .val (.int (-1 : Int32))] [(.int (-1 : Int32))])) _
          refine XS.iload X106.here hx rfl (hb hby at_173) rfl  ?_
          show Steps p.tables e below (T106.setTop (mkF m 175 #[.val (.long p0), .second, .val (.long p1), .second, .val (.long p2), .second, .val (.long p3), .second, .val (.int p4), .val (.long at2), .second, .val (.long od2), .second, .val (.ref ra8), .val .null, .val (.ref b76), .val (.ref b81), .val (.int (1 : Int32)), .val (.int (1 : Int32)), .val (.int (-1 : Int32))] [(.int (1 : Int32)), (.int (-1 : Int32))])) _
          refine XS.ineg X106.here hx rfl (hb hby at_175) rfl ?_
          show Steps p.tables e below (T106.setTop (mkF m 176 #[.val (.long p0), .second, .val (.long p1), .second, .val (.long p2), .second, .val (.long p3), .second, .val (.int p4), .val (.long at2), .second, .val (.long od2), .second, .val (.ref ra8), .val .null, .val (.ref b76), .val (.ref b81), .val (.int (1 : Int32)), .val (.int (1 : Int32)), .val (.int (-1 : Int32))] [(.int (-(1 : Int32))), (.int (-1 : Int32))])) _
          refine XS.icmpNo X106.here hx rfl (hb hby at_176) rfl (teq (by decide)).2 ?_
          show Steps p.tables e below (T106.setTop (mkF m 179 #[.val (.long p0), .second, .val (.long p1), .second, .val (.long p2), .second, .val (.long p3), .second, .val (.int p4), .val (.long at2), .second, .val (.long od2), .second, .val (.ref ra8), .val .null, .val (.ref b76), .val (.ref b81), .val (.int (1 : Int32)), .val (.int (1 : Int32)), .val (.int (-1 : Int32))] [])) _
          refine XS.iconst X106.here hx rfl (hb hby at_179) ?_
          show Steps p.tables e below (T106.setTop (mkF m 180 #[.val (.long p0), .second, .val (.long p1), .second, .val (.long p2), .second, .val (.long p3), .second, .val (.int p4), .val (.long at2), .second, .val (.long od2), .second, .val (.ref ra8), .val .null, .val (.ref b76), .val (.ref b81), .val (.int (1 : Int32)), .val (.int (1 : Int32)), .val (.int (-1 : Int32))] [(.int (1 : Int32))])) _
          refine XS.goto X106.here hx rfl (pc0 := 180) (pc' := 184) rfl (hb hby at_180) (by decide) (by decide) ?_
          show Steps p.tables e below (T106.setTop (mkF m 184 #[.val (.long p0), .second, .val (.long p1), .second, .val (.long p2), .second, .val (.long p3), .second, .val (.int p4), .val (.long at2), .second, .val (.long od2), .second, .val (.ref ra8), .val .null, .val (.ref b76), .val (.ref b81), .val (.int (1 : Int32)), .val (.int (1 : Int32)), .val (.int (-1 : Int32))] [(.int (1 : Int32))])) _
          exact retN X106 hx (t := .boolean) Bd.returns (by simp) (hb hby at_184) hr
        · show Q_rm0 Z p0 p1 p2 p3 p4 wC cl h0 n0 _ T106.heap _
          rw [e106]
          exact ⟨rfl, N106⟩
      · have pre108 : ∀ t, Steps p.tables e below (T84.setTop (mkF m 115 #[.val (.long p0), .second, .val (.long p1), .second, .val (.long p2), .second, .val (.long p3), .second, .val (.int p4), .val (.long at2), .second, .val (.long od2), .second, .val (.ref ra8), .val .null, .val (.ref b76), .val (.ref b81), .unset, .unset, .unset] [(.int (lcmpW p1 od2))])) t → Steps p.tables e below (s₁.setTop (entryFrame m #[(.long p0), (.long p1), (.long p2), (.long p3), (.int p4)] maxLocals)) t := fun t kt => pre97 t (by
          show Steps p.tables e below (T84.setTop (mkF m 102 #[.val (.long p0), .second, .val (.long p1), .second, .val (.long p2), .second, .val (.long p3), .second, .val (.int p4), .val (.long at2), .second, .val (.long od2), .second, .val (.ref ra8), .val .null, .val (.ref b76), .val (.ref b81), .unset, .unset, .unset] [(.int (lcmpW p0 at2))])) _
          refine XS.ifYes X84.here hx rfl (pc0 := 102) (pc' := 111) rfl (hb hby at_102) rfl ((if0 _ _).trans (flt hc102_96).2.2.2) (by decide) (by decide) ?_
          show Steps p.tables e below (T84.setTop (mkF m 111 #[.val (.long p0), .second, .val (.long p1), .second, .val (.long p2), .second, .val (.long p3), .second, .val (.int p4), .val (.long at2), .second, .val (.long od2), .second, .val (.ref ra8), .val .null, .val (.ref b76), .val (.ref b81), .unset, .unset, .unset] [])) _
          refine XS.lloadN X84.here hx rfl (hb hby at_111) rfl  ?_
          show Steps p.tables e below (T84.setTop (mkF m 112 #[.val (.long p0), .second, .val (.long p1), .second, .val (.long p2), .second, .val (.long p3), .second, .val (.int p4), .val (.long at2), .second, .val (.long od2), .second, .val (.ref ra8), .val .null, .val (.ref b76), .val (.ref b81), .unset, .unset, .unset] [(.long p1)])) _
          refine XS.lload X84.here hx rfl (hb hby at_112) rfl  ?_
          show Steps p.tables e below (T84.setTop (mkF m 114 #[.val (.long p0), .second, .val (.long p1), .second, .val (.long p2), .second, .val (.long p3), .second, .val (.int p4), .val (.long at2), .second, .val (.long od2), .second, .val (.ref ra8), .val .null, .val (.ref b76), .val (.ref b81), .unset, .unset, .unset] [(.long od2), (.long p1)])) _
          refine XS.lcmp X84.here hx rfl (hb hby at_114) rfl ?_
          exact kt)
        by_cases hc115_107 : (lcmpW p1 od2) < (0 : Int32)
        · obtain ⟨hr1, hr2⟩ := own_c3 hc89_85 hc102_96 hc115_107
          have f109 := (Nat.le_trans f83 K84.1)
          have f110 := ((Fa79.ext E81).keep K84 (ninS ne81_b76 nin0))
          have f111 := ((Fo79.ext E81).keep K84 (ninS ne81_b76 nin0))
          have f113 := ((f80.ext E81).keep K84)
          obtain ⟨cq112, kq112, q112a, q112b, q112c⟩ := isOf hZ rfl f113
          obtain ⟨_, _, ⟨T112, L112, k112, n112⟩, -, X112, ⟨Lc112, hQ112, l112, y112, z112⟩, st112⟩ := X84.virtualBack hx (y := (⟨"shardwell/container/ExpiryQueue$Timer", "compareTo", "(Lshardwell/container/ExpiryQueue$Timer;)I"⟩ : MethodName)) (z := (⟨"shardwell/container/ExpiryQueue$Timer", "compareTo", "(Lshardwell/container/ExpiryQueue$Timer;)I"⟩ : MethodName)) hown (mvT hZ (hw _ (List.mem_of_getElem? (i := 27) rfl))) (mvT hZ (hw _ (List.mem_of_getElem? (i := 28) rfl))) (notFace_of_selects (args := #[]) (mvT hZ (hw _ (List.mem_of_getElem? (i := 30) rfl)))) (mvT hZ (hw _ (List.mem_of_getElem? (i := 30) rfl))) (mvT hZ (hw _ (List.mem_of_getElem? (i := 29) rfl))) (by decide) (backOf (W := 0) (rmCompareTo l Z a0 hw [] b76 b81 p0 p1 at2 od2 (-1 : Int32) T84.heap n0 f109 f110 f111 Fa84 Fo84 hr1) hZ (hw _ (List.mem_of_getElem? (i := 31) rfl)) (hw _ (List.mem_of_getElem? (i := 9) rfl)) (by decide) (by decide)) q112a q112c (g := (mkF m 144 #[.val (.long p0), .second, .val (.long p1), .second, .val (.long p2), .second, .val (.long p3), .second, .val (.int p4), .val (.long at2), .second, .val (.long od2), .second, .val (.ref ra8), .val .null, .val (.ref b76), .val (.ref b81), .val (.int (-1 : Int32)), .unset, .unset] [(.ref b81), (.ref b76)])) rfl (by rw [hml]; rfl) (Steps.refl _) (argsL := [(.ref b81)]) (rest := []) (lenOf pd__Lshardwell_container_ExpiryQueue_Timer__I rfl) rfl (by show 2 * 0 + _ ≤ _; exact Nat.le_of_eq rfl) (hb hby at_144) (fun _ _ => ⟨rfl, rfl, (by decide : 3 + 0 ≤ _), (by decide : 7 + 0 ≤ _)⟩)
          dsimp only [Pt.U, Pt.locs, Pt.cells, Pt.slots] at X112 l112 y112 z112 st112 hQ112
          subst l112 y112 z112
          obtain ⟨rfl, Nq112, e112⟩ := hQ112
          have N112 := Fr.app N84 Nq112
          obtain ⟨_, _, ⟨T114, L114, k114, n114⟩, -, X114, ⟨Lc114, hQ114, l114, y114, z114⟩, st114⟩ := Jvm.LawKit.callS X112 hx (y := (⟨"shardwell/container/TimerCompareToPinLaw", "sign", "(I)I"⟩ : MethodName)) hown (mvT hZ (hw _ (List.mem_of_getElem? (i := 36) rfl))) (mvT hZ (hw _ (List.mem_of_getElem? (i := 37) rfl))) (mvT hZ (hw _ (List.mem_of_getElem? (i := 38) rfl))) (mvT hZ (hw _ (List.mem_of_getElem? (i := 39) rfl))) (by decide) (backOf (W := 0) (rmSign l Z a0 hw [] (-1 : Int32) (-1 : Int32) T84.heap n0 f109 (by decide)) hZ (hw _ (List.mem_of_getElem? (i := 39) rfl)) (hw _ (List.mem_of_getElem? (i := 38) rfl)) (by decide) (by decide)) (g := (mkF m 147 #[.val (.long p0), .second, .val (.long p1), .second, .val (.long p2), .second, .val (.long p3), .second, .val (.int p4), .val (.long at2), .second, .val (.long od2), .second, .val (.ref ra8), .val .null, .val (.ref b76), .val (.ref b81), .val (.int (-1 : Int32)), .unset, .unset] [(.int (-1 : Int32))])) rfl (by rw [hml]; rfl) (argsL := [(.int (-1 : Int32))]) (rest := []) (lenOf pd__I_I rfl) rfl (by show 2 * 0 + _ ≤ _; exact Nat.le_of_eq rfl) (hb hby at_147) (fun _ _ => ⟨rfl, e112, (by decide : 3 + 0 ≤ _), (by decide : 7 + 0 ≤ _)⟩)
          dsimp only [Pt.U, Pt.locs, Pt.cells, Pt.slots] at X114 l114 y114 z114 st114 hQ114
          subst l114 y114 z114
          obtain ⟨rfl, Nq114, e114⟩ := hQ114
          have N114 := Fr.app N112 Nq114
          have f116 := (A81.keep K84)
          obtain ⟨cq115, kq115, q115a, q115b, q115c⟩ := isOf hZ e114 f116
          obtain ⟨_, _, ⟨T115, L115, k115, n115⟩, -, X115, ⟨Lc115, hQ115, l115, y115, z115⟩, st115⟩ := X114.virtualBack hx (y := (⟨"shardwell/container/ExpiryQueue$Timer", "compareTo", "(Lshardwell/container/ExpiryQueue$Timer;)I"⟩ : MethodName)) (z := (⟨"shardwell/container/ExpiryQueue$Timer", "compareTo", "(Lshardwell/container/ExpiryQueue$Timer;)I"⟩ : MethodName)) hown (mvT hZ (hw _ (List.mem_of_getElem? (i := 27) rfl))) (mvT hZ (hw _ (List.mem_of_getElem? (i := 28) rfl))) (notFace_of_selects (args := #[]) (mvT hZ (hw _ (List.mem_of_getElem? (i := 30) rfl)))) (mvT hZ (hw _ (List.mem_of_getElem? (i := 30) rfl))) (mvT hZ (hw _ (List.mem_of_getElem? (i := 29) rfl))) (by decide) (backOf (W := 0) (rmCompareTo l Z a0 hw [] b81 b76 at2 od2 p0 p1 (1 : Int32) T84.heap n0 f109 Fa84 Fo84 f110 f111 hr2) hZ (hw _ (List.mem_of_getElem? (i := 31) rfl)) (hw _ (List.mem_of_getElem? (i := 9) rfl)) (by decide) (by decide)) q115a q115c (g := (mkF m 156 #[.val (.long p0), .second, .val (.long p1), .second, .val (.long p2), .second, .val (.long p3), .second, .val (.int p4), .val (.long at2), .second, .val (.long od2), .second, .val (.ref ra8), .val .null, .val (.ref b76), .val (.ref b81), .val (.int (-1 : Int32)), .val (.int (-1 : Int32)), .unset] [(.ref b76), (.ref b81)])) rfl (by rw [hml]; rfl) (Steps.refl _) (argsL := [(.ref b76)]) (rest := []) (lenOf pd__Lshardwell_container_ExpiryQueue_Timer__I rfl) rfl (by show 2 * 0 + _ ≤ _; exact Nat.le_of_eq rfl) (hb hby at_156) (fun _ _ => ⟨rfl, e114, (by decide : 3 + 0 ≤ _), (by decide : 7 + 0 ≤ _)⟩)
          dsimp only [Pt.U, Pt.locs, Pt.cells, Pt.slots] at X115 l115 y115 z115 st115 hQ115
          subst l115 y115 z115
          obtain ⟨rfl, Nq115, e115⟩ := hQ115
          have N115 := Fr.app N114 Nq115
          obtain ⟨_, _, ⟨T117, L117, k117, n117⟩, -, X117, ⟨Lc117, hQ117, l117, y117, z117⟩, st117⟩ := Jvm.LawKit.callS X115 hx (y := (⟨"shardwell/container/TimerCompareToPinLaw", "sign", "(I)I"⟩ : MethodName)) hown (mvT hZ (hw _ (List.mem_of_getElem? (i := 36) rfl))) (mvT hZ (hw _ (List.mem_of_getElem? (i := 37) rfl))) (mvT hZ (hw _ (List.mem_of_getElem? (i := 38) rfl))) (mvT hZ (hw _ (List.mem_of_getElem? (i := 39) rfl))) (by decide) (backOf (W := 0) (rmSign l Z a0 hw [] (1 : Int32) (1 : Int32) T84.heap n0 f109 (by decide)) hZ (hw _ (List.mem_of_getElem? (i := 39) rfl)) (hw _ (List.mem_of_getElem? (i := 38) rfl)) (by decide) (by decide)) (g := (mkF m 159 #[.val (.long p0), .second, .val (.long p1), .second, .val (.long p2), .second, .val (.long p3), .second, .val (.int p4), .val (.long at2), .second, .val (.long od2), .second, .val (.ref ra8), .val .null, .val (.ref b76), .val (.ref b81), .val (.int (-1 : Int32)), .val (.int (-1 : Int32)), .unset] [(.int (1 : Int32))])) rfl (by rw [hml]; rfl) (argsL := [(.int (1 : Int32))]) (rest := []) (lenOf pd__I_I rfl) rfl (by show 2 * 0 + _ ≤ _; exact Nat.le_of_eq rfl) (hb hby at_159) (fun _ _ => ⟨rfl, e115, (by decide : 3 + 0 ≤ _), (by decide : 7 + 0 ≤ _)⟩)
          dsimp only [Pt.U, Pt.locs, Pt.cells, Pt.slots] at X117 l117 y117 z117 st117 hQ117
          subst l117 y117 z117
          obtain ⟨rfl, Nq117, e117⟩ := hQ117
          have N117 := Fr.app N115 Nq117
          obtain ⟨fs, hr, hrun, hended, hW, hsame⟩ := X117.leave (v := some (.int (1 : Int32))) (fun h => by rw [Bd.returns] at h; cases h)
          refine ⟨_, _, pre108 _ ?_, hrun, hended, _, _, rfl, ?_, ⟨_, rfl⟩, hW, hsame.mono (by decide) (by decide)⟩
          · show Steps p.tables e below (T84.setTop (mkF m 115 #[.val (.long p0), .second, .val (.long p1), .second, .val (.long p2), .second, .val (.long p3), .second, .val (.int p4), .val (.long at2), .second, .val (.long od2), .second, .val (.ref ra8), .val .null, .val (.ref b76), .val (.ref b81), .unset, .unset, .unset] [(.int (lcmpW p1 od2))])) _
            refine XS.ifNo X84.here hx rfl (hb hby at_115) rfl ((if0 _ _).trans (tlt hc115_107).2.1) ?_
            show Steps p.tables e below (T84.setTop (mkF m 118 #[.val (.long p0), .second, .val (.long p1), .second, .val (.long p2), .second, .val (.long p3), .second, .val (.int p4), .val (.long at2), .second, .val (.long od2), .second, .val (.ref ra8), .val .null, .val (.ref b76), .val (.ref b81), .unset, .unset, .unset] [])) _
            refine XS.iconst X84.here hx rfl (hb hby at_118) ?_
            show Steps p.tables e below (T84.setTop (mkF m 119 #[.val (.long p0), .second, .val (.long p1), .second, .val (.long p2), .second, .val (.long p3), .second, .val (.int p4), .val (.long at2), .second, .val (.long od2), .second, .val (.ref ra8), .val .null, .val (.ref b76), .val (.ref b81), .unset, .unset, .unset] [(.int (-1 : Int32))])) _
            refine XS.istore X84.here hx rfl (hb hby at_119) rfl (l' := #[.val (.long p0), .second, .val (.long p1), .second, .val (.long p2), .second, .val (.long p3), .second, .val (.int p4), .val (.long at2), .second, .val (.long od2), .second, .val (.ref ra8), .val .null, .val (.ref b76), .val (.ref b81), .val (.int (-1 : Int32)), .unset, .unset]) rfl ?_
            show Steps p.tables e below (T84.setTop (mkF m 121 #[.val (.long p0), .second, .val (.long p1), .second, .val (.long p2), .second, .val (.long p3), .second, .val (.int p4), .val (.long at2), .second, .val (.long od2), .second, .val (.ref ra8), .val .null, .val (.ref b76), .val (.ref b81), .val (.int (-1 : Int32)), .unset, .unset] [])) _
            refine XS.goto X84.here hx rfl (pc0 := 121) (pc' := 140) rfl (hb hby at_121) (by decide) (by decide) ?_
            show Steps p.tables e below (T84.setTop (mkF m 140 #[.val (.long p0), .second, .val (.long p1), .second, .val (.long p2), .second, .val (.long p3), .second, .val (.int p4), .val (.long at2), .second, .val (.long od2), .second, .val (.ref ra8), .val .null, .val (.ref b76), .val (.ref b81), .val (.int (-1 : Int32)), .unset, .unset] [])) _
            refine XS.aload X84.here hx rfl (hb hby at_140) rfl rfl ?_
            show Steps p.tables e below (T84.setTop (mkF m 142 #[.val (.long p0), .second, .val (.long p1), .second, .val (.long p2), .second, .val (.long p3), .second, .val (.int p4), .val (.long at2), .second, .val (.long od2), .second, .val (.ref ra8), .val .null, .val (.ref b76), .val (.ref b81), .val (.int (-1 : Int32)), .unset, .unset] [(.ref b76)])) _
            refine XS.aload X84.here hx rfl (hb hby at_142) rfl rfl ?_
            show Steps p.tables e below (T84.setTop (mkF m 144 #[.val (.long p0), .second, .val (.long p1), .second, .val (.long p2), .second, .val (.long p3), .second, .val (.int p4), .val (.long at2), .second, .val (.long od2), .second, .val (.ref ra8), .val .null, .val (.ref b76), .val (.ref b81), .val (.int (-1 : Int32)), .unset, .unset] [(.ref b81), (.ref b76)])) _
            refine st112.trans ?_
            show Steps p.tables e below (T112.setTop (mkF m 147 #[.val (.long p0), .second, .val (.long p1), .second, .val (.long p2), .second, .val (.long p3), .second, .val (.int p4), .val (.long at2), .second, .val (.long od2), .second, .val (.ref ra8), .val .null, .val (.ref b76), .val (.ref b81), .val (.int (-1 : Int32)), .unset, .unset] [(.int (-1 : Int32))])) _
            refine st114 _ ?_
            show Steps p.tables e below (T114.setTop (mkF m 150 #[.val (.long p0), .second, .val (.long p1), .second, .val (.long p2), .second, .val (.long p3), .second, .val (.int p4), .val (.long at2), .second, .val (.long od2), .second, .val (.ref ra8), .val .null, .val (.ref b76), .val (.ref b81), .val (.int (-1 : Int32)), .unset, .unset] [(.int (-1 : Int32))])) _
            refine XS.istore X114.here hx rfl (hb hby at_150) rfl (l' := #[.val (.long p0), .second, .val (.long p1), .second, .val (.long p2), .second, .val (.long p3), .second, .val (.int p4), .val (.long at2), .second, .val (.long od2), .second, .val (.ref ra8), .val .null, .val (.ref b76), .val (.ref b81), .val (.int (-1 : Int32)), .val (.int (-1 : Int32)), .unset]) rfl ?_
            show Steps p.tables e below (T114.setTop (mkF m 152 #[.val (.long p0), .second, .val (.long p1), .second, .val (.long p2), .second, .val (.long p3), .second, .val (.int p4), .val (.long at2), .second, .val (.long od2), .second, .val (.ref ra8), .val .null, .val (.ref b76), .val (.ref b81), .val (.int (-1 : Int32)), .val (.int (-1 : Int32)), .unset] [])) _
            refine XS.aload X114.here hx rfl (hb hby at_152) rfl rfl ?_
            show Steps p.tables e below (T114.setTop (mkF m 154 #[.val (.long p0), .second, .val (.long p1), .second, .val (.long p2), .second, .val (.long p3), .second, .val (.int p4), .val (.long at2), .second, .val (.long od2), .second, .val (.ref ra8), .val .null, .val (.ref b76), .val (.ref b81), .val (.int (-1 : Int32)), .val (.int (-1 : Int32)), .unset] [(.ref b81)])) _
            refine XS.aload X114.here hx rfl (hb hby at_154) rfl rfl ?_
            show Steps p.tables e below (T114.setTop (mkF m 156 #[.val (.long p0), .second, .val (.long p1), .second, .val (.long p2), .second, .val (.long p3), .second, .val (.int p4), .val (.long at2), .second, .val (.long od2), .second, .val (.ref ra8), .val .null, .val (.ref b76), .val (.ref b81), .val (.int (-1 : Int32)), .val (.int (-1 : Int32)), .unset] [(.ref b76), (.ref b81)])) _
            refine st115.trans ?_
            show Steps p.tables e below (T115.setTop (mkF m 159 #[.val (.long p0), .second, .val (.long p1), .second, .val (.long p2), .second, .val (.long p3), .second, .val (.int p4), .val (.long at2), .second, .val (.long od2), .second, .val (.ref ra8), .val .null, .val (.ref b76), .val (.ref b81), .val (.int (-1 : Int32)), .val (.int (-1 : Int32)), .unset] [(.int (1 : Int32))])) _
            refine st117 _ ?_
            show Steps p.tables e below (T117.setTop (mkF m 162 #[.val (.long p0), .second, .val (.long p1), .second, .val (.long p2), .second, .val (.long p3), .second, .val (.int p4), .val (.long at2), .second, .val (.long od2), .second, .val (.ref ra8), .val .null, .val (.ref b76), .val (.ref b81), .val (.int (-1 : Int32)), .val (.int (-1 : Int32)), .unset] [(.int (1 : Int32))])) _
            refine XS.istore X117.here hx rfl (hb hby at_162) rfl (l' := #[.val (.long p0), .second, .val (.long p1), .second, .val (.long p2), .second, .val (.long p3), .second, .val (.int p4), .val (.long at2), .second, .val (.long od2), .second, .val (.ref ra8), .val .null, .val (.ref b76), .val (.ref b81), .val (.int (-1 : Int32)), .val (.int (-1 : Int32)), .val (.int (1 : Int32))]) rfl ?_
            show Steps p.tables e below (T117.setTop (mkF m 164 #[.val (.long p0), .second, .val (.long p1), .second, .val (.long p2), .second, .val (.long p3), .second, .val (.int p4), .val (.long at2), .second, .val (.long od2), .second, .val (.ref ra8), .val .null, .val (.ref b76), .val (.ref b81), .val (.int (-1 : Int32)), .val (.int (-1 : Int32)), .val (.int (1 : Int32))] [])) _
            refine XS.iload X117.here hx rfl (hb hby at_164) rfl  ?_
            show Steps p.tables e below (T117.setTop (mkF m 166 #[.val (.long p0), .second, .val (.long p1), .second, .val (.long p2), .second, .val (.long p3), .second, .val (.int p4), .val (.long at2), .second, .val (.long od2), .second, .val (.ref ra8), .val .null, .val (.ref b76), .val (.ref b81), .val (.int (-1 : Int32)), .val (.int (-1 : Int32)), .val (.int (1 : Int32))] [(.int (-1 : Int32))])) _
            refine XS.iload X117.here hx rfl (hb hby at_166) rfl  ?_
            show Steps p.tables e below (T117.setTop (mkF m 168 #[.val (.long p0), .second, .val (.long p1), .second, .val (.long p2), .second, .val (.long p3), .second, .val (.int p4), .val (.long at2), .second, .val (.long od2), .second, .val (.ref ra8), .val .null, .val (.ref b76), .val (.ref b81), .val (.int (-1 : Int32)), .val (.int (-1 : Int32)), .val (.int (1 : Int32))] [(.int (-1 : Int32)), (.int (-1 : Int32))])) _
            refine XS.icmpNo X117.here hx rfl (hb hby at_168) rfl (teq (by decide : (-1 : Int32) = (-1 : Int32))).2 ?_
            show Steps p.tables e below (T117.setTop (mkF m 171 #[.val (.long p0), .second, .val (.long p1), .second, .val (.long p2), .second, .val (.long p3), .second, .val (.int p4), .val (.long at2), .second, .val (.long od2), .second, .val (.ref ra8), .val .null, .val (.ref b76), .val (.ref b81), .val (.int (-1 : Int32)), .val (.int (-1 : Int32)), .val (.int (1 : Int32))] [])) _
            refine XS.iload X117.here hx rfl (hb hby at_171) rfl  ?_
            show Steps p.tables e below (T117.setTop (mkF m 173 #[.val (.long p0), .second, .val (.long p1), .second, .val (.long p2), .second, .val (.long p3), .second, .val (.int p4), .val (.long at2), .second, .val (.long od2), .second, .val (.ref ra8), .val .null, .val (.ref b76), .val (.ref b81), .val (.int (-1 : Int32)), .val (.int (-1 : Int32)), .val (.int (1 : Int32))] [(.int (1 : Int32))])) _
            refine XS.iload X117.here hx rfl (hb hby at_173) rfl  ?_
            show Steps p.tables e below (T117.setTop (mkF m 175 #[.val (.long p0), .second, .val (.long p1), .second, .val (.long p2), .second, .val (.long p3), .second, .val (.int p4), .val (.long at2), .second, .val (.long od2), .second, .val (.ref ra8), .val .null, .val (.ref b76), .val (.ref b81), .val (.int (-1 : Int32)), .val (.int (-1 : Int32)), .val (.int (1 : Int32))] [(.int (-1 : Int32)), (.int (1 : Int32))])) _
            refine XS.ineg X117.here hx rfl (hb hby at_175) rfl ?_
            show Steps p.tables e below (T117.setTop (mkF m 176 #[.val (.long p0), .second, .val (.long p1), .second, .val (.long p2), .second, .val (.long p3), .second, .val (.int p4), .val (.long at2), .second, .val (.long od2), .second, .val (.ref ra8), .val .null, .val (.ref b76), .val (.ref b81), .val (.int (-1 : Int32)), .val (.int (-1 : Int32)), .val (.int (1 : Int32))] [(.int (-(-1 : Int32))), (.int (1 : Int32))])) _
            refine XS.icmpNo X117.here hx rfl (hb hby at_176) rfl (teq (by decide)).2 ?_
            show Steps p.tables e below (T117.setTop (mkF m 179 #[.val (.long p0), .second, .val (.long p1), .second, .val (.long p2), .second, .val (.long p3), .second, .val (.int p4), .val (.long at2), .second, .val (.long od2), .second, .val (.ref ra8), .val .null, .val (.ref b76), .val (.ref b81), .val (.int (-1 : Int32)), .val (.int (-1 : Int32)), .val (.int (1 : Int32))] [])) _
            refine XS.iconst X117.here hx rfl (hb hby at_179) ?_
            show Steps p.tables e below (T117.setTop (mkF m 180 #[.val (.long p0), .second, .val (.long p1), .second, .val (.long p2), .second, .val (.long p3), .second, .val (.int p4), .val (.long at2), .second, .val (.long od2), .second, .val (.ref ra8), .val .null, .val (.ref b76), .val (.ref b81), .val (.int (-1 : Int32)), .val (.int (-1 : Int32)), .val (.int (1 : Int32))] [(.int (1 : Int32))])) _
            refine XS.goto X117.here hx rfl (pc0 := 180) (pc' := 184) rfl (hb hby at_180) (by decide) (by decide) ?_
            show Steps p.tables e below (T117.setTop (mkF m 184 #[.val (.long p0), .second, .val (.long p1), .second, .val (.long p2), .second, .val (.long p3), .second, .val (.int p4), .val (.long at2), .second, .val (.long od2), .second, .val (.ref ra8), .val .null, .val (.ref b76), .val (.ref b81), .val (.int (-1 : Int32)), .val (.int (-1 : Int32)), .val (.int (1 : Int32))] [(.int (1 : Int32))])) _
            exact retN X117 hx (t := .boolean) Bd.returns (by simp) (hb hby at_184) hr
          · show Q_rm0 Z p0 p1 p2 p3 p4 wC cl h0 n0 _ T117.heap _
            rw [e117]
            exact ⟨rfl, N117⟩
        · have pre119 : ∀ t, Steps p.tables e below (T84.setTop (mkF m 128 #[.val (.long p0), .second, .val (.long p1), .second, .val (.long p2), .second, .val (.long p3), .second, .val (.int p4), .val (.long at2), .second, .val (.long od2), .second, .val (.ref ra8), .val .null, .val (.ref b76), .val (.ref b81), .unset, .unset, .unset] [(.int (lcmpW p1 od2))])) t → Steps p.tables e below (s₁.setTop (entryFrame m #[(.long p0), (.long p1), (.long p2), (.long p3), (.int p4)] maxLocals)) t := fun t kt => pre108 t (by
            show Steps p.tables e below (T84.setTop (mkF m 115 #[.val (.long p0), .second, .val (.long p1), .second, .val (.long p2), .second, .val (.long p3), .second, .val (.int p4), .val (.long at2), .second, .val (.long od2), .second, .val (.ref ra8), .val .null, .val (.ref b76), .val (.ref b81), .unset, .unset, .unset] [(.int (lcmpW p1 od2))])) _
            refine XS.ifYes X84.here hx rfl (pc0 := 115) (pc' := 124) rfl (hb hby at_115) rfl ((if0 _ _).trans (flt hc115_107).2.1) (by decide) (by decide) ?_
            show Steps p.tables e below (T84.setTop (mkF m 124 #[.val (.long p0), .second, .val (.long p1), .second, .val (.long p2), .second, .val (.long p3), .second, .val (.int p4), .val (.long at2), .second, .val (.long od2), .second, .val (.ref ra8), .val .null, .val (.ref b76), .val (.ref b81), .unset, .unset, .unset] [])) _
            refine XS.lloadN X84.here hx rfl (hb hby at_124) rfl  ?_
            show Steps p.tables e below (T84.setTop (mkF m 125 #[.val (.long p0), .second, .val (.long p1), .second, .val (.long p2), .second, .val (.long p3), .second, .val (.int p4), .val (.long at2), .second, .val (.long od2), .second, .val (.ref ra8), .val .null, .val (.ref b76), .val (.ref b81), .unset, .unset, .unset] [(.long p1)])) _
            refine XS.lload X84.here hx rfl (hb hby at_125) rfl  ?_
            show Steps p.tables e below (T84.setTop (mkF m 127 #[.val (.long p0), .second, .val (.long p1), .second, .val (.long p2), .second, .val (.long p3), .second, .val (.int p4), .val (.long at2), .second, .val (.long od2), .second, .val (.ref ra8), .val .null, .val (.ref b76), .val (.ref b81), .unset, .unset, .unset] [(.long od2), (.long p1)])) _
            refine XS.lcmp X84.here hx rfl (hb hby at_127) rfl ?_
            exact kt)
          by_cases hc128_118 : (0 : Int32) < (lcmpW p1 od2)
          · obtain ⟨hr1, hr2⟩ := own_c4 hc89_85 hc102_96 hc128_118
            have f120 := (Nat.le_trans f83 K84.1)
            have f121 := ((Fa79.ext E81).keep K84 (ninS ne81_b76 nin0))
            have f122 := ((Fo79.ext E81).keep K84 (ninS ne81_b76 nin0))
            have f124 := ((f80.ext E81).keep K84)
            obtain ⟨cq123, kq123, q123a, q123b, q123c⟩ := isOf hZ rfl f124
            obtain ⟨_, _, ⟨T123, L123, k123, n123⟩, -, X123, ⟨Lc123, hQ123, l123, y123, z123⟩, st123⟩ := X84.virtualBack hx (y := (⟨"shardwell/container/ExpiryQueue$Timer", "compareTo", "(Lshardwell/container/ExpiryQueue$Timer;)I"⟩ : MethodName)) (z := (⟨"shardwell/container/ExpiryQueue$Timer", "compareTo", "(Lshardwell/container/ExpiryQueue$Timer;)I"⟩ : MethodName)) hown (mvT hZ (hw _ (List.mem_of_getElem? (i := 27) rfl))) (mvT hZ (hw _ (List.mem_of_getElem? (i := 28) rfl))) (notFace_of_selects (args := #[]) (mvT hZ (hw _ (List.mem_of_getElem? (i := 30) rfl)))) (mvT hZ (hw _ (List.mem_of_getElem? (i := 30) rfl))) (mvT hZ (hw _ (List.mem_of_getElem? (i := 29) rfl))) (by decide) (backOf (W := 0) (rmCompareTo l Z a0 hw [] b76 b81 p0 p1 at2 od2 (1 : Int32) T84.heap n0 f120 f121 f122 Fa84 Fo84 hr1) hZ (hw _ (List.mem_of_getElem? (i := 31) rfl)) (hw _ (List.mem_of_getElem? (i := 9) rfl)) (by decide) (by decide)) q123a q123c (g := (mkF m 144 #[.val (.long p0), .second, .val (.long p1), .second, .val (.long p2), .second, .val (.long p3), .second, .val (.int p4), .val (.long at2), .second, .val (.long od2), .second, .val (.ref ra8), .val .null, .val (.ref b76), .val (.ref b81), .val (.int (1 : Int32)), .unset, .unset] [(.ref b81), (.ref b76)])) rfl (by rw [hml]; rfl) (Steps.refl _) (argsL := [(.ref b81)]) (rest := []) (lenOf pd__Lshardwell_container_ExpiryQueue_Timer__I rfl) rfl (by show 2 * 0 + _ ≤ _; exact Nat.le_of_eq rfl) (hb hby at_144) (fun _ _ => ⟨rfl, rfl, (by decide : 3 + 0 ≤ _), (by decide : 7 + 0 ≤ _)⟩)
            dsimp only [Pt.U, Pt.locs, Pt.cells, Pt.slots] at X123 l123 y123 z123 st123 hQ123
            subst l123 y123 z123
            obtain ⟨rfl, Nq123, e123⟩ := hQ123
            have N123 := Fr.app N84 Nq123
            obtain ⟨_, _, ⟨T125, L125, k125, n125⟩, -, X125, ⟨Lc125, hQ125, l125, y125, z125⟩, st125⟩ := Jvm.LawKit.callS X123 hx (y := (⟨"shardwell/container/TimerCompareToPinLaw", "sign", "(I)I"⟩ : MethodName)) hown (mvT hZ (hw _ (List.mem_of_getElem? (i := 36) rfl))) (mvT hZ (hw _ (List.mem_of_getElem? (i := 37) rfl))) (mvT hZ (hw _ (List.mem_of_getElem? (i := 38) rfl))) (mvT hZ (hw _ (List.mem_of_getElem? (i := 39) rfl))) (by decide) (backOf (W := 0) (rmSign l Z a0 hw [] (1 : Int32) (1 : Int32) T84.heap n0 f120 (by decide)) hZ (hw _ (List.mem_of_getElem? (i := 39) rfl)) (hw _ (List.mem_of_getElem? (i := 38) rfl)) (by decide) (by decide)) (g := (mkF m 147 #[.val (.long p0), .second, .val (.long p1), .second, .val (.long p2), .second, .val (.long p3), .second, .val (.int p4), .val (.long at2), .second, .val (.long od2), .second, .val (.ref ra8), .val .null, .val (.ref b76), .val (.ref b81), .val (.int (1 : Int32)), .unset, .unset] [(.int (1 : Int32))])) rfl (by rw [hml]; rfl) (argsL := [(.int (1 : Int32))]) (rest := []) (lenOf pd__I_I rfl) rfl (by show 2 * 0 + _ ≤ _; exact Nat.le_of_eq rfl) (hb hby at_147) (fun _ _ => ⟨rfl, e123, (by decide : 3 + 0 ≤ _), (by decide : 7 + 0 ≤ _)⟩)
            dsimp only [Pt.U, Pt.locs, Pt.cells, Pt.slots] at X125 l125 y125 z125 st125 hQ125
            subst l125 y125 z125
            obtain ⟨rfl, Nq125, e125⟩ := hQ125
            have N125 := Fr.app N123 Nq125
            have f127 := (A81.keep K84)
            obtain ⟨cq126, kq126, q126a, q126b, q126c⟩ := isOf hZ e125 f127
            obtain ⟨_, _, ⟨T126, L126, k126, n126⟩, -, X126, ⟨Lc126, hQ126, l126, y126, z126⟩, st126⟩ := X125.virtualBack hx (y := (⟨"shardwell/container/ExpiryQueue$Timer", "compareTo", "(Lshardwell/container/ExpiryQueue$Timer;)I"⟩ : MethodName)) (z := (⟨"shardwell/container/ExpiryQueue$Timer", "compareTo", "(Lshardwell/container/ExpiryQueue$Timer;)I"⟩ : MethodName)) hown (mvT hZ (hw _ (List.mem_of_getElem? (i := 27) rfl))) (mvT hZ (hw _ (List.mem_of_getElem? (i := 28) rfl))) (notFace_of_selects (args := #[]) (mvT hZ (hw _ (List.mem_of_getElem? (i := 30) rfl)))) (mvT hZ (hw _ (List.mem_of_getElem? (i := 30) rfl))) (mvT hZ (hw _ (List.mem_of_getElem? (i := 29) rfl))) (by decide) (backOf (W := 0) (rmCompareTo l Z a0 hw [] b81 b76 at2 od2 p0 p1 (-1 : Int32) T84.heap n0 f120 Fa84 Fo84 f121 f122 hr2) hZ (hw _ (List.mem_of_getElem? (i := 31) rfl)) (hw _ (List.mem_of_getElem? (i := 9) rfl)) (by decide) (by decide)) q126a q126c (g := (mkF m 156 #[.val (.long p0), .second, .val (.long p1), .second, .val (.long p2), .second, .val (.long p3), .second, .val (.int p4), .val (.long at2), .second, .val (.long od2), .second, .val (.ref ra8), .val .null, .val (.ref b76), .val (.ref b81), .val (.int (1 : Int32)), .val (.int (1 : Int32)), .unset] [(.ref b76), (.ref b81)])) rfl (by rw [hml]; rfl) (Steps.refl _) (argsL := [(.ref b76)]) (rest := []) (lenOf pd__Lshardwell_container_ExpiryQueue_Timer__I rfl) rfl (by show 2 * 0 + _ ≤ _; exact Nat.le_of_eq rfl) (hb hby at_156) (fun _ _ => ⟨rfl, e125, (by decide : 3 + 0 ≤ _), (by decide : 7 + 0 ≤ _)⟩)
            dsimp only [Pt.U, Pt.locs, Pt.cells, Pt.slots] at X126 l126 y126 z126 st126 hQ126
            subst l126 y126 z126
            obtain ⟨rfl, Nq126, e126⟩ := hQ126
            have N126 := Fr.app N125 Nq126
            obtain ⟨_, _, ⟨T128, L128, k128, n128⟩, -, X128, ⟨Lc128, hQ128, l128, y128, z128⟩, st128⟩ := Jvm.LawKit.callS X126 hx (y := (⟨"shardwell/container/TimerCompareToPinLaw", "sign", "(I)I"⟩ : MethodName)) hown (mvT hZ (hw _ (List.mem_of_getElem? (i := 36) rfl))) (mvT hZ (hw _ (List.mem_of_getElem? (i := 37) rfl))) (mvT hZ (hw _ (List.mem_of_getElem? (i := 38) rfl))) (mvT hZ (hw _ (List.mem_of_getElem? (i := 39) rfl))) (by decide) (backOf (W := 0) (rmSign l Z a0 hw [] (-1 : Int32) (-1 : Int32) T84.heap n0 f120 (by decide)) hZ (hw _ (List.mem_of_getElem? (i := 39) rfl)) (hw _ (List.mem_of_getElem? (i := 38) rfl)) (by decide) (by decide)) (g := (mkF m 159 #[.val (.long p0), .second, .val (.long p1), .second, .val (.long p2), .second, .val (.long p3), .second, .val (.int p4), .val (.long at2), .second, .val (.long od2), .second, .val (.ref ra8), .val .null, .val (.ref b76), .val (.ref b81), .val (.int (1 : Int32)), .val (.int (1 : Int32)), .unset] [(.int (-1 : Int32))])) rfl (by rw [hml]; rfl) (argsL := [(.int (-1 : Int32))]) (rest := []) (lenOf pd__I_I rfl) rfl (by show 2 * 0 + _ ≤ _; exact Nat.le_of_eq rfl) (hb hby at_159) (fun _ _ => ⟨rfl, e126, (by decide : 3 + 0 ≤ _), (by decide : 7 + 0 ≤ _)⟩)
            dsimp only [Pt.U, Pt.locs, Pt.cells, Pt.slots] at X128 l128 y128 z128 st128 hQ128
            subst l128 y128 z128
            obtain ⟨rfl, Nq128, e128⟩ := hQ128
            have N128 := Fr.app N126 Nq128
            obtain ⟨fs, hr, hrun, hended, hW, hsame⟩ := X128.leave (v := some (.int (1 : Int32))) (fun h => by rw [Bd.returns] at h; cases h)
            refine ⟨_, _, pre119 _ ?_, hrun, hended, _, _, rfl, ?_, ⟨_, rfl⟩, hW, hsame.mono (by decide) (by decide)⟩
            · show Steps p.tables e below (T84.setTop (mkF m 128 #[.val (.long p0), .second, .val (.long p1), .second, .val (.long p2), .second, .val (.long p3), .second, .val (.int p4), .val (.long at2), .second, .val (.long od2), .second, .val (.ref ra8), .val .null, .val (.ref b76), .val (.ref b81), .unset, .unset, .unset] [(.int (lcmpW p1 od2))])) _
              refine XS.ifNo X84.here hx rfl (hb hby at_128) rfl ((if0 _ _).trans (tlt hc128_118).2.2.2) ?_
              show Steps p.tables e below (T84.setTop (mkF m 131 #[.val (.long p0), .second, .val (.long p1), .second, .val (.long p2), .second, .val (.long p3), .second, .val (.int p4), .val (.long at2), .second, .val (.long od2), .second, .val (.ref ra8), .val .null, .val (.ref b76), .val (.ref b81), .unset, .unset, .unset] [])) _
              refine XS.iconst X84.here hx rfl (hb hby at_131) ?_
              show Steps p.tables e below (T84.setTop (mkF m 132 #[.val (.long p0), .second, .val (.long p1), .second, .val (.long p2), .second, .val (.long p3), .second, .val (.int p4), .val (.long at2), .second, .val (.long od2), .second, .val (.ref ra8), .val .null, .val (.ref b76), .val (.ref b81), .unset, .unset, .unset] [(.int (1 : Int32))])) _
              refine XS.istore X84.here hx rfl (hb hby at_132) rfl (l' := #[.val (.long p0), .second, .val (.long p1), .second, .val (.long p2), .second, .val (.long p3), .second, .val (.int p4), .val (.long at2), .second, .val (.long od2), .second, .val (.ref ra8), .val .null, .val (.ref b76), .val (.ref b81), .val (.int (1 : Int32)), .unset, .unset]) rfl ?_
              show Steps p.tables e below (T84.setTop (mkF m 134 #[.val (.long p0), .second, .val (.long p1), .second, .val (.long p2), .second, .val (.long p3), .second, .val (.int p4), .val (.long at2), .second, .val (.long od2), .second, .val (.ref ra8), .val .null, .val (.ref b76), .val (.ref b81), .val (.int (1 : Int32)), .unset, .unset] [])) _
              refine XS.goto X84.here hx rfl (pc0 := 134) (pc' := 140) rfl (hb hby at_134) (by decide) (by decide) ?_
              show Steps p.tables e below (T84.setTop (mkF m 140 #[.val (.long p0), .second, .val (.long p1), .second, .val (.long p2), .second, .val (.long p3), .second, .val (.int p4), .val (.long at2), .second, .val (.long od2), .second, .val (.ref ra8), .val .null, .val (.ref b76), .val (.ref b81), .val (.int (1 : Int32)), .unset, .unset] [])) _
              refine XS.aload X84.here hx rfl (hb hby at_140) rfl rfl ?_
              show Steps p.tables e below (T84.setTop (mkF m 142 #[.val (.long p0), .second, .val (.long p1), .second, .val (.long p2), .second, .val (.long p3), .second, .val (.int p4), .val (.long at2), .second, .val (.long od2), .second, .val (.ref ra8), .val .null, .val (.ref b76), .val (.ref b81), .val (.int (1 : Int32)), .unset, .unset] [(.ref b76)])) _
              refine XS.aload X84.here hx rfl (hb hby at_142) rfl rfl ?_
              show Steps p.tables e below (T84.setTop (mkF m 144 #[.val (.long p0), .second, .val (.long p1), .second, .val (.long p2), .second, .val (.long p3), .second, .val (.int p4), .val (.long at2), .second, .val (.long od2), .second, .val (.ref ra8), .val .null, .val (.ref b76), .val (.ref b81), .val (.int (1 : Int32)), .unset, .unset] [(.ref b81), (.ref b76)])) _
              refine st123.trans ?_
              show Steps p.tables e below (T123.setTop (mkF m 147 #[.val (.long p0), .second, .val (.long p1), .second, .val (.long p2), .second, .val (.long p3), .second, .val (.int p4), .val (.long at2), .second, .val (.long od2), .second, .val (.ref ra8), .val .null, .val (.ref b76), .val (.ref b81), .val (.int (1 : Int32)), .unset, .unset] [(.int (1 : Int32))])) _
              refine st125 _ ?_
              show Steps p.tables e below (T125.setTop (mkF m 150 #[.val (.long p0), .second, .val (.long p1), .second, .val (.long p2), .second, .val (.long p3), .second, .val (.int p4), .val (.long at2), .second, .val (.long od2), .second, .val (.ref ra8), .val .null, .val (.ref b76), .val (.ref b81), .val (.int (1 : Int32)), .unset, .unset] [(.int (1 : Int32))])) _
              refine XS.istore X125.here hx rfl (hb hby at_150) rfl (l' := #[.val (.long p0), .second, .val (.long p1), .second, .val (.long p2), .second, .val (.long p3), .second, .val (.int p4), .val (.long at2), .second, .val (.long od2), .second, .val (.ref ra8), .val .null, .val (.ref b76), .val (.ref b81), .val (.int (1 : Int32)), .val (.int (1 : Int32)), .unset]) rfl ?_
              show Steps p.tables e below (T125.setTop (mkF m 152 #[.val (.long p0), .second, .val (.long p1), .second, .val (.long p2), .second, .val (.long p3), .second, .val (.int p4), .val (.long at2), .second, .val (.long od2), .second, .val (.ref ra8), .val .null, .val (.ref b76), .val (.ref b81), .val (.int (1 : Int32)), .val (.int (1 : Int32)), .unset] [])) _
              refine XS.aload X125.here hx rfl (hb hby at_152) rfl rfl ?_
              show Steps p.tables e below (T125.setTop (mkF m 154 #[.val (.long p0), .second, .val (.long p1), .second, .val (.long p2), .second, .val (.long p3), .second, .val (.int p4), .val (.long at2), .second, .val (.long od2), .second, .val (.ref ra8), .val .null, .val (.ref b76), .val (.ref b81), .val (.int (1 : Int32)), .val (.int (1 : Int32)), .unset] [(.ref b81)])) _
              refine XS.aload X125.here hx rfl (hb hby at_154) rfl rfl ?_
              show Steps p.tables e below (T125.setTop (mkF m 156 #[.val (.long p0), .second, .val (.long p1), .second, .val (.long p2), .second, .val (.long p3), .second, .val (.int p4), .val (.long at2), .second, .val (.long od2), .second, .val (.ref ra8), .val .null, .val (.ref b76), .val (.ref b81), .val (.int (1 : Int32)), .val (.int (1 : Int32)), .unset] [(.ref b76), (.ref b81)])) _
              refine st126.trans ?_
              show Steps p.tables e below (T126.setTop (mkF m 159 #[.val (.long p0), .second, .val (.long p1), .second, .val (.long p2), .second, .val (.long p3), .second, .val (.int p4), .val (.long at2), .second, .val (.long od2), .second, .val (.ref ra8), .val .null, .val (.ref b76), .val (.ref b81), .val (.int (1 : Int32)), .val (.int (1 : Int32)), .unset] [(.int (-1 : Int32))])) _
              refine st128 _ ?_
              show Steps p.tables e below (T128.setTop (mkF m 162 #[.val (.long p0), .second, .val (.long p1), .second, .val (.long p2), .second, .val (.long p3), .second, .val (.int p4), .val (.long at2), .second, .val (.long od2), .second, .val (.ref ra8), .val .null, .val (.ref b76), .val (.ref b81), .val (.int (1 : Int32)), .val (.int (1 : Int32)), .unset] [(.int (-1 : Int32))])) _
              refine XS.istore X128.here hx rfl (hb hby at_162) rfl (l' := #[.val (.long p0), .second, .val (.long p1), .second, .val (.long p2), .second, .val (.long p3), .second, .val (.int p4), .val (.long at2), .second, .val (.long od2), .second, .val (.ref ra8), .val .null, .val (.ref b76), .val (.ref b81), .val (.int (1 : Int32)), .val (.int (1 : Int32)), .val (.int (-1 : Int32))]) rfl ?_
              show Steps p.tables e below (T128.setTop (mkF m 164 #[.val (.long p0), .second, .val (.long p1), .second, .val (.long p2), .second, .val (.long p3), .second, .val (.int p4), .val (.long at2), .second, .val (.long od2), .second, .val (.ref ra8), .val .null, .val (.ref b76), .val (.ref b81), .val (.int (1 : Int32)), .val (.int (1 : Int32)), .val (.int (-1 : Int32))] [])) _
              refine XS.iload X128.here hx rfl (hb hby at_164) rfl  ?_
              show Steps p.tables e below (T128.setTop (mkF m 166 #[.val (.long p0), .second, .val (.long p1), .second, .val (.long p2), .second, .val (.long p3), .second, .val (.int p4), .val (.long at2), .second, .val (.long od2), .second, .val (.ref ra8), .val .null, .val (.ref b76), .val (.ref b81), .val (.int (1 : Int32)), .val (.int (1 : Int32)), .val (.int (-1 : Int32))] [(.int (1 : Int32))])) _
              refine XS.iload X128.here hx rfl (hb hby at_166) rfl  ?_
              show Steps p.tables e below (T128.setTop (mkF m 168 #[.val (.long p0), .second, .val (.long p1), .second, .val (.long p2), .second, .val (.long p3), .second, .val (.int p4), .val (.long at2), .second, .val (.long od2), .second, .val (.ref ra8), .val .null, .val (.ref b76), .val (.ref b81), .val (.int (1 : Int32)), .val (.int (1 : Int32)), .val (.int (-1 : Int32))] [(.int (1 : Int32)), (.int (1 : Int32))])) _
              refine XS.icmpNo X128.here hx rfl (hb hby at_168) rfl (teq (by decide : (1 : Int32) = (1 : Int32))).2 ?_
              show Steps p.tables e below (T128.setTop (mkF m 171 #[.val (.long p0), .second, .val (.long p1), .second, .val (.long p2), .second, .val (.long p3), .second, .val (.int p4), .val (.long at2), .second, .val (.long od2), .second, .val (.ref ra8), .val .null, .val (.ref b76), .val (.ref b81), .val (.int (1 : Int32)), .val (.int (1 : Int32)), .val (.int (-1 : Int32))] [])) _
              refine XS.iload X128.here hx rfl (hb hby at_171) rfl  ?_
              show Steps p.tables e below (T128.setTop (mkF m 173 #[.val (.long p0), .second, .val (.long p1), .second, .val (.long p2), .second, .val (.long p3), .second, .val (.int p4), .val (.long at2), .second, .val (.long od2), .second, .val (.ref ra8), .val .null, .val (.ref b76), .val (.ref b81), .val (.int (1 : Int32)), .val (.int (1 : Int32)), .val (.int (-1 : Int32))] [(.int (-1 : Int32))])) _
              refine XS.iload X128.here hx rfl (hb hby at_173) rfl  ?_
              show Steps p.tables e below (T128.setTop (mkF m 175 #[.val (.long p0), .second, .val (.long p1), .second, .val (.long p2), .second, .val (.long p3), .second, .val (.int p4), .val (.long at2), .second, .val (.long od2), .second, .val (.ref ra8), .val .null, .val (.ref b76), .val (.ref b81), .val (.int (1 : Int32)), .val (.int (1 : Int32)), .val (.int (-1 : Int32))] [(.int (1 : Int32)), (.int (-1 : Int32))])) _
              refine XS.ineg X128.here hx rfl (hb hby at_175) rfl ?_
              show Steps p.tables e below (T128.setTop (mkF m 176 #[.val (.long p0), .second, .val (.long p1), .second, .val (.long p2), .second, .val (.long p3), .second, .val (.int p4), .val (.long at2), .second, .val (.long od2), .second, .val (.ref ra8), .val .null, .val (.ref b76), .val (.ref b81), .val (.int (1 : Int32)), .val (.int (1 : Int32)), .val (.int (-1 : Int32))] [(.int (-(1 : Int32))), (.int (-1 : Int32))])) _
              refine XS.icmpNo X128.here hx rfl (hb hby at_176) rfl (teq (by decide)).2 ?_
              show Steps p.tables e below (T128.setTop (mkF m 179 #[.val (.long p0), .second, .val (.long p1), .second, .val (.long p2), .second, .val (.long p3), .second, .val (.int p4), .val (.long at2), .second, .val (.long od2), .second, .val (.ref ra8), .val .null, .val (.ref b76), .val (.ref b81), .val (.int (1 : Int32)), .val (.int (1 : Int32)), .val (.int (-1 : Int32))] [])) _
              refine XS.iconst X128.here hx rfl (hb hby at_179) ?_
              show Steps p.tables e below (T128.setTop (mkF m 180 #[.val (.long p0), .second, .val (.long p1), .second, .val (.long p2), .second, .val (.long p3), .second, .val (.int p4), .val (.long at2), .second, .val (.long od2), .second, .val (.ref ra8), .val .null, .val (.ref b76), .val (.ref b81), .val (.int (1 : Int32)), .val (.int (1 : Int32)), .val (.int (-1 : Int32))] [(.int (1 : Int32))])) _
              refine XS.goto X128.here hx rfl (pc0 := 180) (pc' := 184) rfl (hb hby at_180) (by decide) (by decide) ?_
              show Steps p.tables e below (T128.setTop (mkF m 184 #[.val (.long p0), .second, .val (.long p1), .second, .val (.long p2), .second, .val (.long p3), .second, .val (.int p4), .val (.long at2), .second, .val (.long od2), .second, .val (.ref ra8), .val .null, .val (.ref b76), .val (.ref b81), .val (.int (1 : Int32)), .val (.int (1 : Int32)), .val (.int (-1 : Int32))] [(.int (1 : Int32))])) _
              exact retN X128 hx (t := .boolean) Bd.returns (by simp) (hb hby at_184) hr
            · show Q_rm0 Z p0 p1 p2 p3 p4 wC cl h0 n0 _ T128.heap _
              rw [e128]
              exact ⟨rfl, N128⟩
          · obtain ⟨hr1, hr2⟩ := own_c5 hc89_85 hc102_96 hc115_107 hc128_118
            have f129 := (Nat.le_trans f83 K84.1)
            have f130 := ((Fa79.ext E81).keep K84 (ninS ne81_b76 nin0))
            have f131 := ((Fo79.ext E81).keep K84 (ninS ne81_b76 nin0))
            have f133 := ((f80.ext E81).keep K84)
            obtain ⟨cq132, kq132, q132a, q132b, q132c⟩ := isOf hZ rfl f133
            obtain ⟨_, _, ⟨T132, L132, k132, n132⟩, -, X132, ⟨Lc132, hQ132, l132, y132, z132⟩, st132⟩ := X84.virtualBack hx (y := (⟨"shardwell/container/ExpiryQueue$Timer", "compareTo", "(Lshardwell/container/ExpiryQueue$Timer;)I"⟩ : MethodName)) (z := (⟨"shardwell/container/ExpiryQueue$Timer", "compareTo", "(Lshardwell/container/ExpiryQueue$Timer;)I"⟩ : MethodName)) hown (mvT hZ (hw _ (List.mem_of_getElem? (i := 27) rfl))) (mvT hZ (hw _ (List.mem_of_getElem? (i := 28) rfl))) (notFace_of_selects (args := #[]) (mvT hZ (hw _ (List.mem_of_getElem? (i := 30) rfl)))) (mvT hZ (hw _ (List.mem_of_getElem? (i := 30) rfl))) (mvT hZ (hw _ (List.mem_of_getElem? (i := 29) rfl))) (by decide) (backOf (W := 0) (rmCompareTo l Z a0 hw [] b76 b81 p0 p1 at2 od2 (0 : Int32) T84.heap n0 f129 f130 f131 Fa84 Fo84 hr1) hZ (hw _ (List.mem_of_getElem? (i := 31) rfl)) (hw _ (List.mem_of_getElem? (i := 9) rfl)) (by decide) (by decide)) q132a q132c (g := (mkF m 144 #[.val (.long p0), .second, .val (.long p1), .second, .val (.long p2), .second, .val (.long p3), .second, .val (.int p4), .val (.long at2), .second, .val (.long od2), .second, .val (.ref ra8), .val .null, .val (.ref b76), .val (.ref b81), .val (.int (0 : Int32)), .unset, .unset] [(.ref b81), (.ref b76)])) rfl (by rw [hml]; rfl) (Steps.refl _) (argsL := [(.ref b81)]) (rest := []) (lenOf pd__Lshardwell_container_ExpiryQueue_Timer__I rfl) rfl (by show 2 * 0 + _ ≤ _; exact Nat.le_of_eq rfl) (hb hby at_144) (fun _ _ => ⟨rfl, rfl, (by decide : 3 + 0 ≤ _), (by decide : 7 + 0 ≤ _)⟩)
            dsimp only [Pt.U, Pt.locs, Pt.cells, Pt.slots] at X132 l132 y132 z132 st132 hQ132
            subst l132 y132 z132
            obtain ⟨rfl, Nq132, e132⟩ := hQ132
            have N132 := Fr.app N84 Nq132
            obtain ⟨_, _, ⟨T134, L134, k134, n134⟩, -, X134, ⟨Lc134, hQ134, l134, y134, z134⟩, st134⟩ := Jvm.LawKit.callS X132 hx (y := (⟨"shardwell/container/TimerCompareToPinLaw", "sign", "(I)I"⟩ : MethodName)) hown (mvT hZ (hw _ (List.mem_of_getElem? (i := 36) rfl))) (mvT hZ (hw _ (List.mem_of_getElem? (i := 37) rfl))) (mvT hZ (hw _ (List.mem_of_getElem? (i := 38) rfl))) (mvT hZ (hw _ (List.mem_of_getElem? (i := 39) rfl))) (by decide) (backOf (W := 0) (rmSign l Z a0 hw [] (0 : Int32) (0 : Int32) T84.heap n0 f129 (by decide)) hZ (hw _ (List.mem_of_getElem? (i := 39) rfl)) (hw _ (List.mem_of_getElem? (i := 38) rfl)) (by decide) (by decide)) (g := (mkF m 147 #[.val (.long p0), .second, .val (.long p1), .second, .val (.long p2), .second, .val (.long p3), .second, .val (.int p4), .val (.long at2), .second, .val (.long od2), .second, .val (.ref ra8), .val .null, .val (.ref b76), .val (.ref b81), .val (.int (0 : Int32)), .unset, .unset] [(.int (0 : Int32))])) rfl (by rw [hml]; rfl) (argsL := [(.int (0 : Int32))]) (rest := []) (lenOf pd__I_I rfl) rfl (by show 2 * 0 + _ ≤ _; exact Nat.le_of_eq rfl) (hb hby at_147) (fun _ _ => ⟨rfl, e132, (by decide : 3 + 0 ≤ _), (by decide : 7 + 0 ≤ _)⟩)
            dsimp only [Pt.U, Pt.locs, Pt.cells, Pt.slots] at X134 l134 y134 z134 st134 hQ134
            subst l134 y134 z134
            obtain ⟨rfl, Nq134, e134⟩ := hQ134
            have N134 := Fr.app N132 Nq134
            have f136 := (A81.keep K84)
            obtain ⟨cq135, kq135, q135a, q135b, q135c⟩ := isOf hZ e134 f136
            obtain ⟨_, _, ⟨T135, L135, k135, n135⟩, -, X135, ⟨Lc135, hQ135, l135, y135, z135⟩, st135⟩ := X134.virtualBack hx (y := (⟨"shardwell/container/ExpiryQueue$Timer", "compareTo", "(Lshardwell/container/ExpiryQueue$Timer;)I"⟩ : MethodName)) (z := (⟨"shardwell/container/ExpiryQueue$Timer", "compareTo", "(Lshardwell/container/ExpiryQueue$Timer;)I"⟩ : MethodName)) hown (mvT hZ (hw _ (List.mem_of_getElem? (i := 27) rfl))) (mvT hZ (hw _ (List.mem_of_getElem? (i := 28) rfl))) (notFace_of_selects (args := #[]) (mvT hZ (hw _ (List.mem_of_getElem? (i := 30) rfl)))) (mvT hZ (hw _ (List.mem_of_getElem? (i := 30) rfl))) (mvT hZ (hw _ (List.mem_of_getElem? (i := 29) rfl))) (by decide) (backOf (W := 0) (rmCompareTo l Z a0 hw [] b81 b76 at2 od2 p0 p1 (0 : Int32) T84.heap n0 f129 Fa84 Fo84 f130 f131 hr2) hZ (hw _ (List.mem_of_getElem? (i := 31) rfl)) (hw _ (List.mem_of_getElem? (i := 9) rfl)) (by decide) (by decide)) q135a q135c (g := (mkF m 156 #[.val (.long p0), .second, .val (.long p1), .second, .val (.long p2), .second, .val (.long p3), .second, .val (.int p4), .val (.long at2), .second, .val (.long od2), .second, .val (.ref ra8), .val .null, .val (.ref b76), .val (.ref b81), .val (.int (0 : Int32)), .val (.int (0 : Int32)), .unset] [(.ref b76), (.ref b81)])) rfl (by rw [hml]; rfl) (Steps.refl _) (argsL := [(.ref b76)]) (rest := []) (lenOf pd__Lshardwell_container_ExpiryQueue_Timer__I rfl) rfl (by show 2 * 0 + _ ≤ _; exact Nat.le_of_eq rfl) (hb hby at_156) (fun _ _ => ⟨rfl, e134, (by decide : 3 + 0 ≤ _), (by decide : 7 + 0 ≤ _)⟩)
            dsimp only [Pt.U, Pt.locs, Pt.cells, Pt.slots] at X135 l135 y135 z135 st135 hQ135
            subst l135 y135 z135
            obtain ⟨rfl, Nq135, e135⟩ := hQ135
            have N135 := Fr.app N134 Nq135
            obtain ⟨_, _, ⟨T137, L137, k137, n137⟩, -, X137, ⟨Lc137, hQ137, l137, y137, z137⟩, st137⟩ := Jvm.LawKit.callS X135 hx (y := (⟨"shardwell/container/TimerCompareToPinLaw", "sign", "(I)I"⟩ : MethodName)) hown (mvT hZ (hw _ (List.mem_of_getElem? (i := 36) rfl))) (mvT hZ (hw _ (List.mem_of_getElem? (i := 37) rfl))) (mvT hZ (hw _ (List.mem_of_getElem? (i := 38) rfl))) (mvT hZ (hw _ (List.mem_of_getElem? (i := 39) rfl))) (by decide) (backOf (W := 0) (rmSign l Z a0 hw [] (0 : Int32) (0 : Int32) T84.heap n0 f129 (by decide)) hZ (hw _ (List.mem_of_getElem? (i := 39) rfl)) (hw _ (List.mem_of_getElem? (i := 38) rfl)) (by decide) (by decide)) (g := (mkF m 159 #[.val (.long p0), .second, .val (.long p1), .second, .val (.long p2), .second, .val (.long p3), .second, .val (.int p4), .val (.long at2), .second, .val (.long od2), .second, .val (.ref ra8), .val .null, .val (.ref b76), .val (.ref b81), .val (.int (0 : Int32)), .val (.int (0 : Int32)), .unset] [(.int (0 : Int32))])) rfl (by rw [hml]; rfl) (argsL := [(.int (0 : Int32))]) (rest := []) (lenOf pd__I_I rfl) rfl (by show 2 * 0 + _ ≤ _; exact Nat.le_of_eq rfl) (hb hby at_159) (fun _ _ => ⟨rfl, e135, (by decide : 3 + 0 ≤ _), (by decide : 7 + 0 ≤ _)⟩)
            dsimp only [Pt.U, Pt.locs, Pt.cells, Pt.slots] at X137 l137 y137 z137 st137 hQ137
            subst l137 y137 z137
            obtain ⟨rfl, Nq137, e137⟩ := hQ137
            have N137 := Fr.app N135 Nq137
            obtain ⟨fs, hr, hrun, hended, hW, hsame⟩ := X137.leave (v := some (.int (1 : Int32))) (fun h => by rw [Bd.returns] at h; cases h)
            refine ⟨_, _, pre119 _ ?_, hrun, hended, _, _, rfl, ?_, ⟨_, rfl⟩, hW, hsame.mono (by decide) (by decide)⟩
            · show Steps p.tables e below (T84.setTop (mkF m 128 #[.val (.long p0), .second, .val (.long p1), .second, .val (.long p2), .second, .val (.long p3), .second, .val (.int p4), .val (.long at2), .second, .val (.long od2), .second, .val (.ref ra8), .val .null, .val (.ref b76), .val (.ref b81), .unset, .unset, .unset] [(.int (lcmpW p1 od2))])) _
              refine XS.ifYes X84.here hx rfl (pc0 := 128) (pc' := 137) rfl (hb hby at_128) rfl ((if0 _ _).trans (flt hc128_118).2.2.2) (by decide) (by decide) ?_
              show Steps p.tables e below (T84.setTop (mkF m 137 #[.val (.long p0), .second, .val (.long p1), .second, .val (.long p2), .second, .val (.long p3), .second, .val (.int p4), .val (.long at2), .second, .val (.long od2), .second, .val (.ref ra8), .val .null, .val (.ref b76), .val (.ref b81), .unset, .unset, .unset] [])) _
              refine XS.iconst X84.here hx rfl (hb hby at_137) ?_
              show Steps p.tables e below (T84.setTop (mkF m 138 #[.val (.long p0), .second, .val (.long p1), .second, .val (.long p2), .second, .val (.long p3), .second, .val (.int p4), .val (.long at2), .second, .val (.long od2), .second, .val (.ref ra8), .val .null, .val (.ref b76), .val (.ref b81), .unset, .unset, .unset] [(.int (0 : Int32))])) _
              refine XS.istore X84.here hx rfl (hb hby at_138) rfl (l' := #[.val (.long p0), .second, .val (.long p1), .second, .val (.long p2), .second, .val (.long p3), .second, .val (.int p4), .val (.long at2), .second, .val (.long od2), .second, .val (.ref ra8), .val .null, .val (.ref b76), .val (.ref b81), .val (.int (0 : Int32)), .unset, .unset]) rfl ?_
              show Steps p.tables e below (T84.setTop (mkF m 140 #[.val (.long p0), .second, .val (.long p1), .second, .val (.long p2), .second, .val (.long p3), .second, .val (.int p4), .val (.long at2), .second, .val (.long od2), .second, .val (.ref ra8), .val .null, .val (.ref b76), .val (.ref b81), .val (.int (0 : Int32)), .unset, .unset] [])) _
              refine XS.aload X84.here hx rfl (hb hby at_140) rfl rfl ?_
              show Steps p.tables e below (T84.setTop (mkF m 142 #[.val (.long p0), .second, .val (.long p1), .second, .val (.long p2), .second, .val (.long p3), .second, .val (.int p4), .val (.long at2), .second, .val (.long od2), .second, .val (.ref ra8), .val .null, .val (.ref b76), .val (.ref b81), .val (.int (0 : Int32)), .unset, .unset] [(.ref b76)])) _
              refine XS.aload X84.here hx rfl (hb hby at_142) rfl rfl ?_
              show Steps p.tables e below (T84.setTop (mkF m 144 #[.val (.long p0), .second, .val (.long p1), .second, .val (.long p2), .second, .val (.long p3), .second, .val (.int p4), .val (.long at2), .second, .val (.long od2), .second, .val (.ref ra8), .val .null, .val (.ref b76), .val (.ref b81), .val (.int (0 : Int32)), .unset, .unset] [(.ref b81), (.ref b76)])) _
              refine st132.trans ?_
              show Steps p.tables e below (T132.setTop (mkF m 147 #[.val (.long p0), .second, .val (.long p1), .second, .val (.long p2), .second, .val (.long p3), .second, .val (.int p4), .val (.long at2), .second, .val (.long od2), .second, .val (.ref ra8), .val .null, .val (.ref b76), .val (.ref b81), .val (.int (0 : Int32)), .unset, .unset] [(.int (0 : Int32))])) _
              refine st134 _ ?_
              show Steps p.tables e below (T134.setTop (mkF m 150 #[.val (.long p0), .second, .val (.long p1), .second, .val (.long p2), .second, .val (.long p3), .second, .val (.int p4), .val (.long at2), .second, .val (.long od2), .second, .val (.ref ra8), .val .null, .val (.ref b76), .val (.ref b81), .val (.int (0 : Int32)), .unset, .unset] [(.int (0 : Int32))])) _
              refine XS.istore X134.here hx rfl (hb hby at_150) rfl (l' := #[.val (.long p0), .second, .val (.long p1), .second, .val (.long p2), .second, .val (.long p3), .second, .val (.int p4), .val (.long at2), .second, .val (.long od2), .second, .val (.ref ra8), .val .null, .val (.ref b76), .val (.ref b81), .val (.int (0 : Int32)), .val (.int (0 : Int32)), .unset]) rfl ?_
              show Steps p.tables e below (T134.setTop (mkF m 152 #[.val (.long p0), .second, .val (.long p1), .second, .val (.long p2), .second, .val (.long p3), .second, .val (.int p4), .val (.long at2), .second, .val (.long od2), .second, .val (.ref ra8), .val .null, .val (.ref b76), .val (.ref b81), .val (.int (0 : Int32)), .val (.int (0 : Int32)), .unset] [])) _
              refine XS.aload X134.here hx rfl (hb hby at_152) rfl rfl ?_
              show Steps p.tables e below (T134.setTop (mkF m 154 #[.val (.long p0), .second, .val (.long p1), .second, .val (.long p2), .second, .val (.long p3), .second, .val (.int p4), .val (.long at2), .second, .val (.long od2), .second, .val (.ref ra8), .val .null, .val (.ref b76), .val (.ref b81), .val (.int (0 : Int32)), .val (.int (0 : Int32)), .unset] [(.ref b81)])) _
              refine XS.aload X134.here hx rfl (hb hby at_154) rfl rfl ?_
              show Steps p.tables e below (T134.setTop (mkF m 156 #[.val (.long p0), .second, .val (.long p1), .second, .val (.long p2), .second, .val (.long p3), .second, .val (.int p4), .val (.long at2), .second, .val (.long od2), .second, .val (.ref ra8), .val .null, .val (.ref b76), .val (.ref b81), .val (.int (0 : Int32)), .val (.int (0 : Int32)), .unset] [(.ref b76), (.ref b81)])) _
              refine st135.trans ?_
              show Steps p.tables e below (T135.setTop (mkF m 159 #[.val (.long p0), .second, .val (.long p1), .second, .val (.long p2), .second, .val (.long p3), .second, .val (.int p4), .val (.long at2), .second, .val (.long od2), .second, .val (.ref ra8), .val .null, .val (.ref b76), .val (.ref b81), .val (.int (0 : Int32)), .val (.int (0 : Int32)), .unset] [(.int (0 : Int32))])) _
              refine st137 _ ?_
              show Steps p.tables e below (T137.setTop (mkF m 162 #[.val (.long p0), .second, .val (.long p1), .second, .val (.long p2), .second, .val (.long p3), .second, .val (.int p4), .val (.long at2), .second, .val (.long od2), .second, .val (.ref ra8), .val .null, .val (.ref b76), .val (.ref b81), .val (.int (0 : Int32)), .val (.int (0 : Int32)), .unset] [(.int (0 : Int32))])) _
              refine XS.istore X137.here hx rfl (hb hby at_162) rfl (l' := #[.val (.long p0), .second, .val (.long p1), .second, .val (.long p2), .second, .val (.long p3), .second, .val (.int p4), .val (.long at2), .second, .val (.long od2), .second, .val (.ref ra8), .val .null, .val (.ref b76), .val (.ref b81), .val (.int (0 : Int32)), .val (.int (0 : Int32)), .val (.int (0 : Int32))]) rfl ?_
              show Steps p.tables e below (T137.setTop (mkF m 164 #[.val (.long p0), .second, .val (.long p1), .second, .val (.long p2), .second, .val (.long p3), .second, .val (.int p4), .val (.long at2), .second, .val (.long od2), .second, .val (.ref ra8), .val .null, .val (.ref b76), .val (.ref b81), .val (.int (0 : Int32)), .val (.int (0 : Int32)), .val (.int (0 : Int32))] [])) _
              refine XS.iload X137.here hx rfl (hb hby at_164) rfl  ?_
              show Steps p.tables e below (T137.setTop (mkF m 166 #[.val (.long p0), .second, .val (.long p1), .second, .val (.long p2), .second, .val (.long p3), .second, .val (.int p4), .val (.long at2), .second, .val (.long od2), .second, .val (.ref ra8), .val .null, .val (.ref b76), .val (.ref b81), .val (.int (0 : Int32)), .val (.int (0 : Int32)), .val (.int (0 : Int32))] [(.int (0 : Int32))])) _
              refine XS.iload X137.here hx rfl (hb hby at_166) rfl  ?_
              show Steps p.tables e below (T137.setTop (mkF m 168 #[.val (.long p0), .second, .val (.long p1), .second, .val (.long p2), .second, .val (.long p3), .second, .val (.int p4), .val (.long at2), .second, .val (.long od2), .second, .val (.ref ra8), .val .null, .val (.ref b76), .val (.ref b81), .val (.int (0 : Int32)), .val (.int (0 : Int32)), .val (.int (0 : Int32))] [(.int (0 : Int32)), (.int (0 : Int32))])) _
              refine XS.icmpNo X137.here hx rfl (hb hby at_168) rfl (teq (by decide : (0 : Int32) = (0 : Int32))).2 ?_
              show Steps p.tables e below (T137.setTop (mkF m 171 #[.val (.long p0), .second, .val (.long p1), .second, .val (.long p2), .second, .val (.long p3), .second, .val (.int p4), .val (.long at2), .second, .val (.long od2), .second, .val (.ref ra8), .val .null, .val (.ref b76), .val (.ref b81), .val (.int (0 : Int32)), .val (.int (0 : Int32)), .val (.int (0 : Int32))] [])) _
              refine XS.iload X137.here hx rfl (hb hby at_171) rfl  ?_
              show Steps p.tables e below (T137.setTop (mkF m 173 #[.val (.long p0), .second, .val (.long p1), .second, .val (.long p2), .second, .val (.long p3), .second, .val (.int p4), .val (.long at2), .second, .val (.long od2), .second, .val (.ref ra8), .val .null, .val (.ref b76), .val (.ref b81), .val (.int (0 : Int32)), .val (.int (0 : Int32)), .val (.int (0 : Int32))] [(.int (0 : Int32))])) _
              refine XS.iload X137.here hx rfl (hb hby at_173) rfl  ?_
              show Steps p.tables e below (T137.setTop (mkF m 175 #[.val (.long p0), .second, .val (.long p1), .second, .val (.long p2), .second, .val (.long p3), .second, .val (.int p4), .val (.long at2), .second, .val (.long od2), .second, .val (.ref ra8), .val .null, .val (.ref b76), .val (.ref b81), .val (.int (0 : Int32)), .val (.int (0 : Int32)), .val (.int (0 : Int32))] [(.int (0 : Int32)), (.int (0 : Int32))])) _
              refine XS.ineg X137.here hx rfl (hb hby at_175) rfl ?_
              show Steps p.tables e below (T137.setTop (mkF m 176 #[.val (.long p0), .second, .val (.long p1), .second, .val (.long p2), .second, .val (.long p3), .second, .val (.int p4), .val (.long at2), .second, .val (.long od2), .second, .val (.ref ra8), .val .null, .val (.ref b76), .val (.ref b81), .val (.int (0 : Int32)), .val (.int (0 : Int32)), .val (.int (0 : Int32))] [(.int (-(0 : Int32))), (.int (0 : Int32))])) _
              refine XS.icmpNo X137.here hx rfl (hb hby at_176) rfl (teq (by decide)).2 ?_
              show Steps p.tables e below (T137.setTop (mkF m 179 #[.val (.long p0), .second, .val (.long p1), .second, .val (.long p2), .second, .val (.long p3), .second, .val (.int p4), .val (.long at2), .second, .val (.long od2), .second, .val (.ref ra8), .val .null, .val (.ref b76), .val (.ref b81), .val (.int (0 : Int32)), .val (.int (0 : Int32)), .val (.int (0 : Int32))] [])) _
              refine XS.iconst X137.here hx rfl (hb hby at_179) ?_
              show Steps p.tables e below (T137.setTop (mkF m 180 #[.val (.long p0), .second, .val (.long p1), .second, .val (.long p2), .second, .val (.long p3), .second, .val (.int p4), .val (.long at2), .second, .val (.long od2), .second, .val (.ref ra8), .val .null, .val (.ref b76), .val (.ref b81), .val (.int (0 : Int32)), .val (.int (0 : Int32)), .val (.int (0 : Int32))] [(.int (1 : Int32))])) _
              refine XS.goto X137.here hx rfl (pc0 := 180) (pc' := 184) rfl (hb hby at_180) (by decide) (by decide) ?_
              show Steps p.tables e below (T137.setTop (mkF m 184 #[.val (.long p0), .second, .val (.long p1), .second, .val (.long p2), .second, .val (.long p3), .second, .val (.int p4), .val (.long at2), .second, .val (.long od2), .second, .val (.ref ra8), .val .null, .val (.ref b76), .val (.ref b81), .val (.int (0 : Int32)), .val (.int (0 : Int32)), .val (.int (0 : Int32))] [(.int (1 : Int32))])) _
              exact retN X137 hx (t := .boolean) Bd.returns (by simp) (hb hby at_184) hr
            · show Q_rm0 Z p0 p1 p2 p3 p4 wC cl h0 n0 _ T137.heap _
              rw [e137]
              exact ⟨rfl, N137⟩
set_option maxRecDepth 65536 in
set_option maxHeartbeats 40000000 in
theorem comes_1 {Post : Tables → Env → Array Value → State → Outcome → State → Prop} (hpost : ∀ tb e args s v u, (limb_1_1.after args s (.returned v) u = true ∧ limb_1_2.after args s (.returned v) u = true ∧ True) → FrameEnd s (.returned v) u (Jvm.fieldLocs frame_1_writes args s ++ Jvm.arrayLocs frame_1_arrays args s ++ Jvm.staticLocs frame_1_statics s) 16 128 → Post tb e args s (.returned v) u) :
    ArmFor flags0 classFile x code maxLocals ret World_1 tables_1 room_1 Calls_1 rest_1 Pre_1 Post := by
  intro l hfl _ _ p e ha hc hk s m args below hf hA hF happ hP
  obtain ⟨hcalls, hrest, hpre⟩ := hP
  obtain ⟨-, -, -, hnamed, -, -, -, hat⟩ := (Spec.applies_iff hf).mp happ
  obtain ⟨hg, hn⟩ := and_e (Cond.before_iff.mp (show (Jvm.Cond.and given_1 narrow_1).before args s = true from hpre))
  obtain ⟨gc, gr0⟩ := and_e hg
  obtain ⟨ga0, gr1⟩ := and_e gr0
  obtain ⟨ga1, gr2⟩ := and_e gr1
  obtain ⟨ga2, gr3⟩ := and_e gr2
  obtain ⟨ga3, gr4⟩ := and_e gr3
  obtain ⟨w0, w1, w2, w3, w4, rfl⟩ : ∃ w0 w1 w2 w3 w4 : Value, args = #[w0, w1, w2, w3, w4] := by
    have hs : args.size = 5 := by simpa [Cond.value, given_1] using gc
    obtain ⟨L⟩ := args
    match L, hs with
    | [w0, w1, w2, w3, w4], _ => exact ⟨w0, w1, w2, w3, w4, rfl⟩
  have hw := fun d (hd : d ∈ tables_1) => atoms_spec (ws := Jvm.Cond.code x code maxLocals ret :: tables_1) hat d (List.mem_cons_of_mem _ hd)
  have hfit : Fit s := fun {y c} hc i hi => by
    obtain ⟨ha, rfl⟩ := Array.getElem?_eq_some_iff.mp hc
    have q := List.all_eq_true.mp ((Array.all_eq_true_iff_forall_mem.mp hF) _ (Array.getElem_mem ha)) i (List.mem_range.mpr hi)
    simpa [Array.getElem?_eq_getElem hi] using q
  obtain ⟨i0, ei0⟩ := isL_v ga0
  obtain rfl : w0 = (.long i0) := Option.some.inj ei0
  obtain ⟨i1, ei1⟩ := isL_v ga1
  obtain rfl : w1 = (.long i1) := Option.some.inj ei1
  obtain ⟨i2, ei2⟩ := isL_v ga2
  obtain rfl : w2 = (.long i2) := Option.some.inj ei2
  obtain ⟨i3, ei3⟩ := isL_v ga3
  obtain rfl : w3 = (.long i3) := Option.some.inj ei3
  obtain ⟨i4, ei4⟩ := is_v gr4
  obtain rfl : w4 = (.int i4) := Option.some.inj ei4
  obtain ⟨hsets, hown0⟩ := atoms_of _ (rest_1_c_eq ▸ (show rest_1_c.before _ s = true from hrest))
  have q3 := Cond.before_iff.mp (hsets _ (List.mem_of_getElem? (i := 3) rfl))
  obtain ⟨vH, vK, evH, evK, kin, -⟩ := cmp_v (Or.inl q3)
  obtain rfl : vK = .int 127 := (Option.some.inj ((Term.int_eval (127)).symm.trans evK)).symm
  obtain rfl : vH = .int 127 := by
    cases vH <;> simp [Kin, Value.isRef] at kin
    simp [Cond.value, evH, Term.int_eval] at q3; simp [q3]
  have hS := Sta.start evH (Or.inl (hsets _ (List.mem_of_getElem? (i := 1) rfl)))
  have q5 := Cond.before_iff.mp (hsets _ (List.mem_of_getElem? (i := 5) rfl))
  obtain ⟨wC, evC⟩ := exa_v q5
  have q4 := Cond.before_iff.mp (hsets _ (List.mem_of_getElem? (i := 4) rfl))
  obtain ⟨cl, Ar⟩ := Arr.start evC q4
  have hC := Sta.start evC (Or.inr ⟨(hw _ (List.mem_of_getElem? (i := 5) rfl)), (hsets _ (List.mem_of_getElem? (i := 2) rfl))⟩)
  have harr := Ar.fin (U := s) (Vm.Alike.refl _)
  have hsz : cl.slots.size = 256 := own_len evC harr (Cond.before_iff.mp (hsets _ (List.mem_of_getElem? (i := 6) rfl)))
  have hel := own_hel evC harr hsz (Cond.before_iff.mp (hsets _ (List.mem_of_getElem? (i := 7) rfl)))
  obtain ⟨n, o, h1, h2, h3, _, L, rfl, ⟨rfl, N⟩, hq⟩ := rm0 l s _ hw tables_1 i0 i1 i2 i3 i4 wC cl s.heap s.heap.size (Nat.le_refl _) (Old.start s) hS hC Ar hsz hel p e ha hc hk s m _ below hf ((Spec.applies_iff_loose hf).mp happ).1 ⟨rfl, State.Warmed39.refl s, rfl⟩ trivial
  refine ⟨n, _, h1, h2, h3, hpost _ _ _ _ _ _ ⟨Cond.after_iff.mpr rfl, Cond.after_iff.mpr (eq_i res_at (Term.int_eval (1)) rfl), trivial⟩ ⟨hq.1, hq.2.1, (hq.2.2.sift fun y hy => Or.inr (N y hy)).mono (by decide) (by decide)⟩⟩
theorem main_1_1 : Claimed_1_1 := comes_1 fun _ _ _ _ _ _ h hF => ⟨h.1, hF⟩
theorem main_1_2 : Claimed_1_2 := comes_1 fun _ _ _ _ _ _ h hF => ⟨h.2.1, hF⟩
end Jvm.Pilot.@@N@@
namespace Jvm.Pilot.@@N@@
open Jvm Jvm.ClassFile Sem Op Lib Jvm.Free Jvm.Stand Jvm.Pilot.@@N@@.Jvm.D
/-! MADE BY PROGRAM (witnessworld.py) out of the Statement's table words and the real class files: 16 classes; the members and pool entries that the words name. The judged class is class 1, her method 2. -/
namespace start1
open Jvm.ClassFile
def u (s : String) : CpInfo := .utf8 (stringToUtf16 s)
/-- a pool by its gaps: so many unusable entries, then the entry; so many at the end -/
def gap : Nat → List CpInfo → List CpInfo
  | 0, r => r
  | n + 1, r => .unusable :: gap n r
def poolList (es : List (Nat × CpInfo)) (last : Nat) : List CpInfo := es.foldr (fun e r => gap e.1 (e.2 :: r)) (gap last [])
def pool (es : List (Nat × CpInfo)) (last : Nat) : Array CpInfo := ⟨poolList es last⟩
def fileOf (pool : Array CpInfo) (this : Nat) (attrs : Array Attribute := #[]) (ms : Array MethodInfo := #[]) (fl : Nat := 33) (sup : Nat := 0) (ifs : Array Nat := #[]) (fds : Array FieldInfo := #[]) : ClassFile where
  minorVersion := 0
  majorVersion := 65
  constantPool := pool
  accessFlags := fl
  thisClass := this
  superClass := sup
  interfaces := ifs
  fields := fds
  methods := ms
  attributes := attrs
def plain (name : String) (sup : Option ClassId) : Class where
  name := name
  kind := .ordinary
  loader := none
  accessFlags := 33
  super := sup
  interfaces := #[]
  cf := none
  fields := #[]
  methods := #[]
  instanceTypes := #[]
  staticTypes := #[]
  resolved := #[]
  callSites := []
  init := .initialized
  statics := none
  mirror := none

def pool0 : Array CpInfo := pool [(5, u "<init>"), (0, u "()V"), (1, .class_ 10), (1, u "java/lang/Object")] 113

def k0c0 : Code := { maxStack := 0, maxLocals := 1, code := object_method_1_code, exceptionTable := #[], attributes := #[] }
def k0m0 : Method := { name := "<init>", desc := "()V", sig := { parameters := [], returnType := none }, accessFlags := 1, code := some k0c0 }
/-- java/lang/Object -/
def k0 : Class := { plain "java/lang/Object" none with
  accessFlags := 33
  interfaces := #[]
  cf := some (fileOf pool0 8 #[] #[{ accessFlags := 1, nameIndex := 5, descriptorIndex := 6, attributes := #[] }] 33 0 #[] #[])
  fields := #[]
  methods := #[k0m0]
  instanceTypes := #[]
  staticTypes := #[]
  resolved := Array.replicate 124 none
  statics := none }

def pool1 : Array CpInfo := pool [(2, .class_ 4), (1, u "java/lang/Object"), (0, u "<init>"), (0, u "()V"), (0, .methodref 8 9), (0, .class_ 10), (0, .nameAndType 11 12), (0, u "java/lang/Integer"), (0, u "valueOf"), (0, u "(I)Ljava/lang/Integer;"), (0, .class_ 14), (0, u "shardwell/container/ExpiryQueue$Timer"), (0, .methodref 13 16), (0, .nameAndType 5 17), (0, u "(JJLjava/lang/Object;)V"), (0, .methodref 13 19), (0, .nameAndType 20 21), (0, u "compareTo"), (0, u "(Lshardwell/container/ExpiryQueue$Timer;)I"), (0, .methodref 23 24), (0, .class_ 25), (0, .nameAndType 26 27), (0, u "shardwell/container/TimerCompareToPinLaw"), (0, u "sign"), (0, u "(I)I"), (3, u "law"), (0, u "(JJJJI)Z")] 6

def k1m0 : Method := { name := "<init>", desc := "()V", sig := { parameters := [], returnType := none }, accessFlags := 1, code := none }
def k1c1 : Code := { maxStack := 1, maxLocals := 1, code := method_2_code, exceptionTable := #[], attributes := #[] }
def k1m1 : Method := { name := "sign", desc := "(I)I", sig := { parameters := [.int], returnType := some .int }, accessFlags := 10, code := some k1c1 }
def k1c2 : Code := { maxStack := 7, maxLocals := 20, code := code, exceptionTable := #[], attributes := #[] }
def k1m2 : Method := { name := "law", desc := "(JJJJI)Z", sig := { parameters := [.long, .long, .long, .long, .int], returnType := some .boolean }, accessFlags := 9, code := some k1c2 }
/-- shardwell/container/TimerCompareToPinLaw -/
def k1 : Class := { plain "shardwell/container/TimerCompareToPinLaw" (some 0) with
  accessFlags := 49
  interfaces := #[]
  cf := some (fileOf pool1 23 #[] #[{ accessFlags := 1, nameIndex := 5, descriptorIndex := 6, attributes := #[] }, { accessFlags := 10, nameIndex := 26, descriptorIndex := 27, attributes := #[] }, { accessFlags := 9, nameIndex := 31, descriptorIndex := 32, attributes := #[] }] 49 2 #[] #[])
  fields := #[]
  methods := #[k1m0, k1m1, k1m2]
  instanceTypes := #[]
  staticTypes := #[]
  resolved := Array.replicate 39 none
  statics := none }

def pool2 : Array CpInfo := pool [(1, .class_ 2), (0, u "java/io/Serializable"), (0, .class_ 4), (0, u "java/lang/Object")] 2

/-- java/io/Serializable -/
def k2 : Class := { plain "java/io/Serializable" (some 0) with
  accessFlags := 1537
  interfaces := #[]
  cf := some (fileOf pool2 1 #[] #[] 1537 3 #[] #[])
  fields := #[]
  methods := #[]
  instanceTypes := #[]
  staticTypes := #[]
  resolved := Array.replicate 7 none
  statics := none }

def pool3 : Array CpInfo := pool [(1, .methodref 2 3), (0, .class_ 4), (0, .nameAndType 5 6), (0, u "java/lang/Object"), (0, u "<init>"), (0, u "()V"), (1, .class_ 10), (1, u "java/lang/Number"), (2, .class_ 14), (0, u "java/io/Serializable"), (0, u "serialVersionUID"), (0, u "J")] 20

def k3c0 : Code := { maxStack := 1, maxLocals := 1, code := jdk_18_method_1_code, exceptionTable := #[], attributes := #[] }
def k3m0 : Method := { name := "<init>", desc := "()V", sig := { parameters := [], returnType := none }, accessFlags := 1, code := some k3c0 }
/-- java/lang/Number -/
def k3 : Class := { plain "java/lang/Number" (some 0) with
  accessFlags := 1057
  interfaces := #[2]
  cf := some (fileOf pool3 8 #[] #[{ accessFlags := 1, nameIndex := 5, descriptorIndex := 6, attributes := #[] }] 1057 2 #[13] #[{ accessFlags := 26, nameIndex := 15, descriptorIndex := 16, attributes := #[] }])
  fields := #[{ name := "serialVersionUID", type := .long, accessFlags := 26, slot := 0, constantValue := 0 }]
  methods := #[k3m0]
  instanceTypes := #[]
  staticTypes := #[.long]
  resolved := Array.replicate 37 none
  statics := none }

def pool4 : Array CpInfo := pool [(1, .class_ 2), (0, u "java/lang/Comparable"), (0, .class_ 4), (0, u "java/lang/Object")] 7

/-- java/lang/Comparable -/
def k4 : Class := { plain "java/lang/Comparable" (some 0) with
  accessFlags := 1537
  interfaces := #[]
  cf := some (fileOf pool4 1 #[] #[] 1537 3 #[] #[])
  fields := #[]
  methods := #[]
  instanceTypes := #[]
  staticTypes := #[]
  resolved := Array.replicate 12 none
  statics := none }

def pool5 : Array CpInfo := pool [(1, .class_ 2), (0, u "java/lang/constant/Constable"), (0, .class_ 4), (0, u "java/lang/Object")] 6

/-- java/lang/constant/Constable -/
def k5 : Class := { plain "java/lang/constant/Constable" (some 0) with
  accessFlags := 1537
  interfaces := #[]
  cf := some (fileOf pool5 1 #[] #[] 1537 3 #[] #[])
  fields := #[]
  methods := #[]
  instanceTypes := #[]
  staticTypes := #[]
  resolved := Array.replicate 11 none
  statics := none }

def pool6 : Array CpInfo := pool [(1, .class_ 2), (0, u "java/lang/constant/ConstantDesc"), (0, .class_ 4), (0, u "java/lang/Object")] 32

/-- java/lang/constant/ConstantDesc -/
def k6 : Class := { plain "java/lang/constant/ConstantDesc" (some 0) with
  accessFlags := 1537
  interfaces := #[]
  cf := some (fileOf pool6 1 #[] #[] 1537 3 #[] #[])
  fields := #[]
  methods := #[]
  instanceTypes := #[]
  staticTypes := #[]
  resolved := Array.replicate 37 none
  statics := none }

def pool7 : Array CpInfo := pool [(1, .class_ 2), (0, u "java/lang/Integer"), (16, u "digits"), (0, u "[C"), (46, u "<init>"), (17, u "DigitOnes"), (0, u "[B"), (2, u "DigitTens"), (10, .nameAndType 67 101), (0, u "()V"), (85, u "valueOf"), (0, u "(I)Ljava/lang/Integer;"), (0, .class_ 190), (0, u "java/lang/Integer$IntegerCache"), (0, .fieldref 189 192), (0, .nameAndType 193 194), (0, u "high"), (0, u "I"), (0, .fieldref 189 196), (0, .nameAndType 197 198), (0, u "cache"), (0, u "[Ljava/lang/Integer;"), (0, .methodref 1 200), (0, .nameAndType 67 201), (0, u "(I)V"), (0, .methodref 203 100), (0, .class_ 204), (0, u "java/lang/Number"), (0, .fieldref 1 206), (0, .nameAndType 207 194), (0, u "value"), (94, u "TYPE"), (0, u "Ljava/lang/Class;"), (0, .class_ 305), (0, u "java/lang/Comparable"), (0, .class_ 307), (0, u "java/lang/constant/Constable"), (0, .class_ 309), (0, u "java/lang/constant/ConstantDesc"), (0, u "MIN_VALUE"), (1, u "MAX_VALUE"), (3, u "SIZE"), (1, u "BYTES"), (1, u "serialVersionUID"), (0, u "J")] 131

def k7c0 : Code := { maxStack := 3, maxLocals := 1, code := jdk_33_method_22_code, exceptionTable := #[], attributes := #[] }
def k7m0 : Method := { name := "valueOf", desc := "(I)Ljava/lang/Integer;", sig := { parameters := [.int], returnType := some (.object "java/lang/Integer") }, accessFlags := 9, code := some k7c0 }
def k7c1 : Code := { maxStack := 2, maxLocals := 2, code := jdk_33_method_23_code, exceptionTable := #[], attributes := #[] }
def k7m1 : Method := { name := "<init>", desc := "(I)V", sig := { parameters := [.int], returnType := none }, accessFlags := 1, code := some k7c1 }
/-- java/lang/Integer -/
def k7 : Class := { plain "java/lang/Integer" (some 3) with
  accessFlags := 49
  interfaces := #[4, 5, 6]
  cf := some (fileOf pool7 1 #[.nestMembers #[189]] #[{ accessFlags := 9, nameIndex := 187, descriptorIndex := 188, attributes := #[] }, { accessFlags := 1, nameIndex := 67, descriptorIndex := 201, attributes := #[] }] 49 203 #[304, 306, 308] #[{ accessFlags := 25, nameIndex := 310, descriptorIndex := 194, attributes := #[] }, { accessFlags := 25, nameIndex := 312, descriptorIndex := 194, attributes := #[] }, { accessFlags := 25, nameIndex := 302, descriptorIndex := 303, attributes := #[] }, { accessFlags := 24, nameIndex := 19, descriptorIndex := 20, attributes := #[] }, { accessFlags := 24, nameIndex := 89, descriptorIndex := 86, attributes := #[] }, { accessFlags := 24, nameIndex := 85, descriptorIndex := 86, attributes := #[] }, { accessFlags := 18, nameIndex := 207, descriptorIndex := 194, attributes := #[] }, { accessFlags := 25, nameIndex := 316, descriptorIndex := 194, attributes := #[] }, { accessFlags := 25, nameIndex := 318, descriptorIndex := 194, attributes := #[] }, { accessFlags := 26, nameIndex := 320, descriptorIndex := 321, attributes := #[] }])
  fields := #[{ name := "MIN_VALUE", type := .int, accessFlags := 25, slot := 0, constantValue := 0 }, { name := "MAX_VALUE", type := .int, accessFlags := 25, slot := 1, constantValue := 0 }, { name := "TYPE", type := (.object "java/lang/Class"), accessFlags := 25, slot := 2, constantValue := 0 }, { name := "digits", type := (.array .char), accessFlags := 24, slot := 3, constantValue := 0 }, { name := "DigitTens", type := (.array .byte), accessFlags := 24, slot := 4, constantValue := 0 }, { name := "DigitOnes", type := (.array .byte), accessFlags := 24, slot := 5, constantValue := 0 }, { name := "value", type := .int, accessFlags := 18, slot := 0, constantValue := 0 }, { name := "SIZE", type := .int, accessFlags := 25, slot := 6, constantValue := 0 }, { name := "BYTES", type := .int, accessFlags := 25, slot := 7, constantValue := 0 }, { name := "serialVersionUID", type := .long, accessFlags := 26, slot := 8, constantValue := 0 }]
  methods := #[k7m0, k7m1]
  instanceTypes := #[.int]
  staticTypes := #[.int, .int, (.object "java/lang/Class"), (.array .char), (.array .byte), (.array .byte), .int, .int, .long]
  resolved := Array.replicate 453 none
  statics := none }

def pool8 : Array CpInfo := pool [(2, .class_ 4), (1, u "java/lang/Object"), (0, u "<init>"), (0, u "()V"), (0, .class_ 8), (0, u "java/lang/Integer"), (7, .class_ 18), (1, u "java/lang/Integer$IntegerCache"), (0, u "$assertionsDisabled"), (0, u "Z"), (26, u "high"), (0, u "I"), (8, u "archivedCache"), (0, u "[Ljava/lang/Integer;"), (12, u "cache"), (0, u "low")] 27

def k8m0 : Method := { name := "<init>", desc := "()V", sig := { parameters := [], returnType := none }, accessFlags := 2, code := none }
/-- java/lang/Integer$IntegerCache -/
def k8 : Class := { plain "java/lang/Integer$IntegerCache" (some 0) with
  accessFlags := 48
  interfaces := #[]
  cf := some (fileOf pool8 16 #[.nestHost 7] #[{ accessFlags := 2, nameIndex := 5, descriptorIndex := 6, attributes := #[] }] 48 2 #[] #[{ accessFlags := 24, nameIndex := 72, descriptorIndex := 48, attributes := #[] }, { accessFlags := 24, nameIndex := 47, descriptorIndex := 48, attributes := #[] }, { accessFlags := 24, nameIndex := 71, descriptorIndex := 58, attributes := #[] }, { accessFlags := 8, nameIndex := 57, descriptorIndex := 58, attributes := #[] }, { accessFlags := 4120, nameIndex := 19, descriptorIndex := 20, attributes := #[] }])
  fields := #[{ name := "low", type := .int, accessFlags := 24, slot := 0, constantValue := 0 }, { name := "high", type := .int, accessFlags := 24, slot := 1, constantValue := 0 }, { name := "cache", type := (.array (.object "java/lang/Integer")), accessFlags := 24, slot := 2, constantValue := 0 }, { name := "archivedCache", type := (.array (.object "java/lang/Integer")), accessFlags := 8, slot := 3, constantValue := 0 }, { name := "$assertionsDisabled", type := .boolean, accessFlags := 4120, slot := 4, constantValue := 0 }]
  methods := #[k8m0]
  instanceTypes := #[]
  staticTypes := #[.int, .int, (.array (.object "java/lang/Integer")), (.array (.object "java/lang/Integer")), .boolean]
  resolved := Array.replicate 100 none
  statics := some 0 }

def pool9 : Array CpInfo := pool [(1, .methodref 2 3), (0, .class_ 4), (0, .nameAndType 5 6), (0, u "java/lang/Object"), (0, u "<init>"), (0, u "()V"), (0, .class_ 8), (0, u "java/lang/Record")] 13

def k9c0 : Code := { maxStack := 1, maxLocals := 1, code := jdk_30_method_1_code, exceptionTable := #[], attributes := #[] }
def k9m0 : Method := { name := "<init>", desc := "()V", sig := { parameters := [], returnType := none }, accessFlags := 4, code := some k9c0 }
/-- java/lang/Record -/
def k9 : Class := { plain "java/lang/Record" (some 0) with
  accessFlags := 1057
  interfaces := #[]
  cf := some (fileOf pool9 7 #[] #[{ accessFlags := 4, nameIndex := 5, descriptorIndex := 6, attributes := #[] }] 1057 2 #[] #[])
  fields := #[]
  methods := #[k9m0]
  instanceTypes := #[]
  staticTypes := #[]
  resolved := Array.replicate 22 none
  statics := none }

def pool10 : Array CpInfo := pool [(1, .methodref 2 3), (0, .class_ 4), (0, .nameAndType 5 6), (0, u "java/lang/Record"), (0, u "<init>"), (0, u "()V"), (0, .fieldref 8 9), (0, .class_ 10), (0, .nameAndType 11 12), (0, u "shardwell/container/ExpiryQueue$Timer"), (0, u "at"), (0, u "J"), (0, .fieldref 8 14), (0, .nameAndType 15 12), (0, u "order"), (0, .fieldref 8 17), (0, .nameAndType 18 19), (0, u "key"), (0, u "Ljava/lang/Object;"), (0, .methodref 21 22), (0, .class_ 23), (0, .nameAndType 24 25), (0, u "java/lang/Long"), (0, u "compare"), (0, u "(JJ)I"), (2, u "compareTo"), (0, u "(Lshardwell/container/ExpiryQueue$Timer;)I"), (11, .class_ 42), (0, u "java/lang/Comparable"), (2, u "(JJLjava/lang/Object;)V"), (17, .class_ 64), (0, u "shardwell/container/ExpiryQueue")] 21

def k10c0 : Code := { maxStack := 3, maxLocals := 6, code := prog_73_method_1_code, exceptionTable := #[], attributes := #[] }
def k10m0 : Method := { name := "<init>", desc := "(JJLjava/lang/Object;)V", sig := { parameters := [.long, .long, (.object "java/lang/Object")], returnType := none }, accessFlags := 0, code := some k10c0 }
def k10c1 : Code := { maxStack := 4, maxLocals := 3, code := prog_73_method_2_code, exceptionTable := #[], attributes := #[] }
def k10m1 : Method := { name := "compareTo", desc := "(Lshardwell/container/ExpiryQueue$Timer;)I", sig := { parameters := [(.object "shardwell/container/ExpiryQueue$Timer")], returnType := some .int }, accessFlags := 1, code := some k10c1 }
/-- shardwell/container/ExpiryQueue$Timer -/
def k10 : Class := { plain "shardwell/container/ExpiryQueue$Timer" (some 9) with
  accessFlags := 48
  interfaces := #[4]
  cf := some (fileOf pool10 8 #[.nestHost 63] #[{ accessFlags := 0, nameIndex := 5, descriptorIndex := 45, attributes := #[] }, { accessFlags := 1, nameIndex := 28, descriptorIndex := 29, attributes := #[] }] 48 2 #[41] #[{ accessFlags := 18, nameIndex := 11, descriptorIndex := 12, attributes := #[] }, { accessFlags := 18, nameIndex := 15, descriptorIndex := 12, attributes := #[] }, { accessFlags := 18, nameIndex := 18, descriptorIndex := 19, attributes := #[] }])
  fields := #[{ name := "at", type := .long, accessFlags := 18, slot := 0, constantValue := 0 }, { name := "order", type := .long, accessFlags := 18, slot := 1, constantValue := 0 }, { name := "key", type := (.object "java/lang/Object"), accessFlags := 18, slot := 2, constantValue := 0 }]
  methods := #[k10m0, k10m1]
  instanceTypes := #[.long, .long, (.object "java/lang/Object")]
  staticTypes := #[]
  resolved := Array.replicate 86 none
  statics := none }

def pool11 : Array CpInfo := pool [(1, .class_ 2), (0, u "java/lang/Long"), (232, .class_ 237), (1, u "java/lang/Long$LongCache"), (33, .class_ 272), (0, u "java/lang/Number"), (2, u "value"), (0, u "J"), (27, u "compare"), (0, u "(JJ)I"), (55, u "TYPE"), (0, u "Ljava/lang/Class;"), (0, .class_ 364), (0, u "java/lang/Comparable"), (0, .class_ 366), (0, u "java/lang/constant/Constable"), (0, .class_ 368), (0, u "java/lang/constant/ConstantDesc"), (0, u "MIN_VALUE"), (1, u "MAX_VALUE"), (4, u "SIZE"), (0, u "I"), (1, u "BYTES"), (1, u "serialVersionUID")] 142

def k11c0 : Code := { maxStack := 4, maxLocals := 4, code := jdk_35_method_42_code, exceptionTable := #[], attributes := #[] }
def k11m0 : Method := { name := "compare", desc := "(JJ)I", sig := { parameters := [.long, .long], returnType := some .int }, accessFlags := 9, code := some k11c0 }
/-- java/lang/Long -/
def k11 : Class := { plain "java/lang/Long" (some 3) with
  accessFlags := 49
  interfaces := #[4, 5, 6]
  cf := some (fileOf pool11 1 #[.nestMembers #[235]] #[{ accessFlags := 9, nameIndex := 304, descriptorIndex := 305, attributes := #[] }] 49 271 #[363, 365, 367] #[{ accessFlags := 25, nameIndex := 369, descriptorIndex := 276, attributes := #[] }, { accessFlags := 25, nameIndex := 371, descriptorIndex := 276, attributes := #[] }, { accessFlags := 25, nameIndex := 361, descriptorIndex := 362, attributes := #[] }, { accessFlags := 18, nameIndex := 275, descriptorIndex := 276, attributes := #[] }, { accessFlags := 25, nameIndex := 376, descriptorIndex := 377, attributes := #[] }, { accessFlags := 25, nameIndex := 379, descriptorIndex := 377, attributes := #[] }, { accessFlags := 26, nameIndex := 381, descriptorIndex := 276, attributes := #[] }])
  fields := #[{ name := "MIN_VALUE", type := .long, accessFlags := 25, slot := 0, constantValue := 0 }, { name := "MAX_VALUE", type := .long, accessFlags := 25, slot := 1, constantValue := 0 }, { name := "TYPE", type := (.object "java/lang/Class"), accessFlags := 25, slot := 2, constantValue := 0 }, { name := "value", type := .long, accessFlags := 18, slot := 0, constantValue := 0 }, { name := "SIZE", type := .int, accessFlags := 25, slot := 3, constantValue := 0 }, { name := "BYTES", type := .int, accessFlags := 25, slot := 4, constantValue := 0 }, { name := "serialVersionUID", type := .long, accessFlags := 26, slot := 5, constantValue := 0 }]
  methods := #[k11m0]
  instanceTypes := #[.long]
  staticTypes := #[.long, .long, (.object "java/lang/Class"), .int, .int, .long]
  resolved := Array.replicate 524 none
  statics := none }

def pool12 : Array CpInfo := pool [(1, u "java/lang/Cloneable"), (0, .class_ 1), (0, u "java/lang/Object"), (0, .class_ 3)] 3

/-- java/lang/Cloneable -/
def k12 : Class := { plain "java/lang/Cloneable" (some 0) with
  accessFlags := 1537
  interfaces := #[]
  cf := some (fileOf pool12 2 #[] #[] 1537 4 #[] #[])
  fields := #[]
  methods := #[]
  instanceTypes := #[]
  staticTypes := #[]
  resolved := Array.replicate 8 none
  statics := none }

/-- the primitive byte -/
def k13 : Class := { plain "byte" none with kind := .primitive 'B', accessFlags := 0x411 }
/-- [B -/
def k14 : Class := { plain "[B" (some 0) with kind := .array 13 .byte, interfaces := #[12, 2], accessFlags := 1041 }

/-- [Ljava/lang/Integer; -/
def k15 : Class := { plain "[Ljava/lang/Integer;" (some 0) with kind := .array 7 (.object "java/lang/Integer"), interfaces := #[12, 2], accessFlags := 1041 }

def heap : Heap := #[{ cls := 8, slots := #[.int 0, .int 127, .ref 1, .null, .int 0], vm := .statics 8 },
  { cls := 15, slots := #[.ref 2, .ref 3, .ref 4, .ref 5, .ref 6, .ref 7, .ref 8, .ref 9, .ref 10, .ref 11, .ref 12, .ref 13, .ref 14, .ref 15, .ref 16, .ref 17, .ref 18, .ref 19, .ref 20, .ref 21, .ref 22, .ref 23, .ref 24, .ref 25, .ref 26, .ref 27, .ref 28, .ref 29, .ref 30, .ref 31, .ref 32, .ref 33, .ref 34, .ref 35, .ref 36, .ref 37, .ref 38, .ref 39, .ref 40, .ref 41, .ref 42, .ref 43, .ref 44, .ref 45, .ref 46, .ref 47, .ref 48, .ref 49, .ref 50, .ref 51, .ref 52, .ref 53, .ref 54, .ref 55, .ref 56, .ref 57, .ref 58, .ref 59, .ref 60, .ref 61, .ref 62, .ref 63, .ref 64, .ref 65, .ref 66, .ref 67, .ref 68, .ref 69, .ref 70, .ref 71, .ref 72, .ref 73, .ref 74, .ref 75, .ref 76, .ref 77, .ref 78, .ref 79, .ref 80, .ref 81, .ref 82, .ref 83, .ref 84, .ref 85, .ref 86, .ref 87, .ref 88, .ref 89, .ref 90, .ref 91, .ref 92, .ref 93, .ref 94, .ref 95, .ref 96, .ref 97, .ref 98, .ref 99, .ref 100, .ref 101, .ref 102, .ref 103, .ref 104, .ref 105, .ref 106, .ref 107, .ref 108, .ref 109, .ref 110, .ref 111, .ref 112, .ref 113, .ref 114, .ref 115, .ref 116, .ref 117, .ref 118, .ref 119, .ref 120, .ref 121, .ref 122, .ref 123, .ref 124, .ref 125, .ref 126, .ref 127, .ref 128, .ref 129, .ref 130, .ref 131, .ref 132, .ref 133, .ref 134, .ref 135, .ref 136, .ref 137, .ref 138, .ref 139, .ref 140, .ref 141, .ref 142, .ref 143, .ref 144, .ref 145, .ref 146, .ref 147, .ref 148, .ref 149, .ref 150, .ref 151, .ref 152, .ref 153, .ref 154, .ref 155, .ref 156, .ref 157, .ref 158, .ref 159, .ref 160, .ref 161, .ref 162, .ref 163, .ref 164, .ref 165, .ref 166, .ref 167, .ref 168, .ref 169, .ref 170, .ref 171, .ref 172, .ref 173, .ref 174, .ref 175, .ref 176, .ref 177, .ref 178, .ref 179, .ref 180, .ref 181, .ref 182, .ref 183, .ref 184, .ref 185, .ref 186, .ref 187, .ref 188, .ref 189, .ref 190, .ref 191, .ref 192, .ref 193, .ref 194, .ref 195, .ref 196, .ref 197, .ref 198, .ref 199, .ref 200, .ref 201, .ref 202, .ref 203, .ref 204, .ref 205, .ref 206, .ref 207, .ref 208, .ref 209, .ref 210, .ref 211, .ref 212, .ref 213, .ref 214, .ref 215, .ref 216, .ref 217, .ref 218, .ref 219, .ref 220, .ref 221, .ref 222, .ref 223, .ref 224, .ref 225, .ref 226, .ref 227, .ref 228, .ref 229, .ref 230, .ref 231, .ref 232, .ref 233, .ref 234, .ref 235, .ref 236, .ref 237, .ref 238, .ref 239, .ref 240, .ref 241, .ref 242, .ref 243, .ref 244, .ref 245, .ref 246, .ref 247, .ref 248, .ref 249, .ref 250, .ref 251, .ref 252, .ref 253, .ref 254, .ref 255, .ref 256, .ref 257], vm := .none },
  { cls := 7, slots := #[.int (-128)], vm := .none },
  { cls := 7, slots := #[.int (-127)], vm := .none },
  { cls := 7, slots := #[.int (-126)], vm := .none },
  { cls := 7, slots := #[.int (-125)], vm := .none },
  { cls := 7, slots := #[.int (-124)], vm := .none },
  { cls := 7, slots := #[.int (-123)], vm := .none },
  { cls := 7, slots := #[.int (-122)], vm := .none },
  { cls := 7, slots := #[.int (-121)], vm := .none },
  { cls := 7, slots := #[.int (-120)], vm := .none },
  { cls := 7, slots := #[.int (-119)], vm := .none },
  { cls := 7, slots := #[.int (-118)], vm := .none },
  { cls := 7, slots := #[.int (-117)], vm := .none },
  { cls := 7, slots := #[.int (-116)], vm := .none },
  { cls := 7, slots := #[.int (-115)], vm := .none },
  { cls := 7, slots := #[.int (-114)], vm := .none },
  { cls := 7, slots := #[.int (-113)], vm := .none },
  { cls := 7, slots := #[.int (-112)], vm := .none },
  { cls := 7, slots := #[.int (-111)], vm := .none },
  { cls := 7, slots := #[.int (-110)], vm := .none },
  { cls := 7, slots := #[.int (-109)], vm := .none },
  { cls := 7, slots := #[.int (-108)], vm := .none },
  { cls := 7, slots := #[.int (-107)], vm := .none },
  { cls := 7, slots := #[.int (-106)], vm := .none },
  { cls := 7, slots := #[.int (-105)], vm := .none },
  { cls := 7, slots := #[.int (-104)], vm := .none },
  { cls := 7, slots := #[.int (-103)], vm := .none },
  { cls := 7, slots := #[.int (-102)], vm := .none },
  { cls := 7, slots := #[.int (-101)], vm := .none },
  { cls := 7, slots := #[.int (-100)], vm := .none },
  { cls := 7, slots := #[.int (-99)], vm := .none },
  { cls := 7, slots := #[.int (-98)], vm := .none },
  { cls := 7, slots := #[.int (-97)], vm := .none },
  { cls := 7, slots := #[.int (-96)], vm := .none },
  { cls := 7, slots := #[.int (-95)], vm := .none },
  { cls := 7, slots := #[.int (-94)], vm := .none },
  { cls := 7, slots := #[.int (-93)], vm := .none },
  { cls := 7, slots := #[.int (-92)], vm := .none },
  { cls := 7, slots := #[.int (-91)], vm := .none },
  { cls := 7, slots := #[.int (-90)], vm := .none },
  { cls := 7, slots := #[.int (-89)], vm := .none },
  { cls := 7, slots := #[.int (-88)], vm := .none },
  { cls := 7, slots := #[.int (-87)], vm := .none },
  { cls := 7, slots := #[.int (-86)], vm := .none },
  { cls := 7, slots := #[.int (-85)], vm := .none },
  { cls := 7, slots := #[.int (-84)], vm := .none },
  { cls := 7, slots := #[.int (-83)], vm := .none },
  { cls := 7, slots := #[.int (-82)], vm := .none },
  { cls := 7, slots := #[.int (-81)], vm := .none },
  { cls := 7, slots := #[.int (-80)], vm := .none },
  { cls := 7, slots := #[.int (-79)], vm := .none },
  { cls := 7, slots := #[.int (-78)], vm := .none },
  { cls := 7, slots := #[.int (-77)], vm := .none },
  { cls := 7, slots := #[.int (-76)], vm := .none },
  { cls := 7, slots := #[.int (-75)], vm := .none },
  { cls := 7, slots := #[.int (-74)], vm := .none },
  { cls := 7, slots := #[.int (-73)], vm := .none },
  { cls := 7, slots := #[.int (-72)], vm := .none },
  { cls := 7, slots := #[.int (-71)], vm := .none },
  { cls := 7, slots := #[.int (-70)], vm := .none },
  { cls := 7, slots := #[.int (-69)], vm := .none },
  { cls := 7, slots := #[.int (-68)], vm := .none },
  { cls := 7, slots := #[.int (-67)], vm := .none },
  { cls := 7, slots := #[.int (-66)], vm := .none },
  { cls := 7, slots := #[.int (-65)], vm := .none },
  { cls := 7, slots := #[.int (-64)], vm := .none },
  { cls := 7, slots := #[.int (-63)], vm := .none },
  { cls := 7, slots := #[.int (-62)], vm := .none },
  { cls := 7, slots := #[.int (-61)], vm := .none },
  { cls := 7, slots := #[.int (-60)], vm := .none },
  { cls := 7, slots := #[.int (-59)], vm := .none },
  { cls := 7, slots := #[.int (-58)], vm := .none },
  { cls := 7, slots := #[.int (-57)], vm := .none },
  { cls := 7, slots := #[.int (-56)], vm := .none },
  { cls := 7, slots := #[.int (-55)], vm := .none },
  { cls := 7, slots := #[.int (-54)], vm := .none },
  { cls := 7, slots := #[.int (-53)], vm := .none },
  { cls := 7, slots := #[.int (-52)], vm := .none },
  { cls := 7, slots := #[.int (-51)], vm := .none },
  { cls := 7, slots := #[.int (-50)], vm := .none },
  { cls := 7, slots := #[.int (-49)], vm := .none },
  { cls := 7, slots := #[.int (-48)], vm := .none },
  { cls := 7, slots := #[.int (-47)], vm := .none },
  { cls := 7, slots := #[.int (-46)], vm := .none },
  { cls := 7, slots := #[.int (-45)], vm := .none },
  { cls := 7, slots := #[.int (-44)], vm := .none },
  { cls := 7, slots := #[.int (-43)], vm := .none },
  { cls := 7, slots := #[.int (-42)], vm := .none },
  { cls := 7, slots := #[.int (-41)], vm := .none },
  { cls := 7, slots := #[.int (-40)], vm := .none },
  { cls := 7, slots := #[.int (-39)], vm := .none },
  { cls := 7, slots := #[.int (-38)], vm := .none },
  { cls := 7, slots := #[.int (-37)], vm := .none },
  { cls := 7, slots := #[.int (-36)], vm := .none },
  { cls := 7, slots := #[.int (-35)], vm := .none },
  { cls := 7, slots := #[.int (-34)], vm := .none },
  { cls := 7, slots := #[.int (-33)], vm := .none },
  { cls := 7, slots := #[.int (-32)], vm := .none },
  { cls := 7, slots := #[.int (-31)], vm := .none },
  { cls := 7, slots := #[.int (-30)], vm := .none },
  { cls := 7, slots := #[.int (-29)], vm := .none },
  { cls := 7, slots := #[.int (-28)], vm := .none },
  { cls := 7, slots := #[.int (-27)], vm := .none },
  { cls := 7, slots := #[.int (-26)], vm := .none },
  { cls := 7, slots := #[.int (-25)], vm := .none },
  { cls := 7, slots := #[.int (-24)], vm := .none },
  { cls := 7, slots := #[.int (-23)], vm := .none },
  { cls := 7, slots := #[.int (-22)], vm := .none },
  { cls := 7, slots := #[.int (-21)], vm := .none },
  { cls := 7, slots := #[.int (-20)], vm := .none },
  { cls := 7, slots := #[.int (-19)], vm := .none },
  { cls := 7, slots := #[.int (-18)], vm := .none },
  { cls := 7, slots := #[.int (-17)], vm := .none },
  { cls := 7, slots := #[.int (-16)], vm := .none },
  { cls := 7, slots := #[.int (-15)], vm := .none },
  { cls := 7, slots := #[.int (-14)], vm := .none },
  { cls := 7, slots := #[.int (-13)], vm := .none },
  { cls := 7, slots := #[.int (-12)], vm := .none },
  { cls := 7, slots := #[.int (-11)], vm := .none },
  { cls := 7, slots := #[.int (-10)], vm := .none },
  { cls := 7, slots := #[.int (-9)], vm := .none },
  { cls := 7, slots := #[.int (-8)], vm := .none },
  { cls := 7, slots := #[.int (-7)], vm := .none },
  { cls := 7, slots := #[.int (-6)], vm := .none },
  { cls := 7, slots := #[.int (-5)], vm := .none },
  { cls := 7, slots := #[.int (-4)], vm := .none },
  { cls := 7, slots := #[.int (-3)], vm := .none },
  { cls := 7, slots := #[.int (-2)], vm := .none },
  { cls := 7, slots := #[.int (-1)], vm := .none },
  { cls := 7, slots := #[.int 0], vm := .none },
  { cls := 7, slots := #[.int 1], vm := .none },
  { cls := 7, slots := #[.int 2], vm := .none },
  { cls := 7, slots := #[.int 3], vm := .none },
  { cls := 7, slots := #[.int 4], vm := .none },
  { cls := 7, slots := #[.int 5], vm := .none },
  { cls := 7, slots := #[.int 6], vm := .none },
  { cls := 7, slots := #[.int 7], vm := .none },
  { cls := 7, slots := #[.int 8], vm := .none },
  { cls := 7, slots := #[.int 9], vm := .none },
  { cls := 7, slots := #[.int 10], vm := .none },
  { cls := 7, slots := #[.int 11], vm := .none },
  { cls := 7, slots := #[.int 12], vm := .none },
  { cls := 7, slots := #[.int 13], vm := .none },
  { cls := 7, slots := #[.int 14], vm := .none },
  { cls := 7, slots := #[.int 15], vm := .none },
  { cls := 7, slots := #[.int 16], vm := .none },
  { cls := 7, slots := #[.int 17], vm := .none },
  { cls := 7, slots := #[.int 18], vm := .none },
  { cls := 7, slots := #[.int 19], vm := .none },
  { cls := 7, slots := #[.int 20], vm := .none },
  { cls := 7, slots := #[.int 21], vm := .none },
  { cls := 7, slots := #[.int 22], vm := .none },
  { cls := 7, slots := #[.int 23], vm := .none },
  { cls := 7, slots := #[.int 24], vm := .none },
  { cls := 7, slots := #[.int 25], vm := .none },
  { cls := 7, slots := #[.int 26], vm := .none },
  { cls := 7, slots := #[.int 27], vm := .none },
  { cls := 7, slots := #[.int 28], vm := .none },
  { cls := 7, slots := #[.int 29], vm := .none },
  { cls := 7, slots := #[.int 30], vm := .none },
  { cls := 7, slots := #[.int 31], vm := .none },
  { cls := 7, slots := #[.int 32], vm := .none },
  { cls := 7, slots := #[.int 33], vm := .none },
  { cls := 7, slots := #[.int 34], vm := .none },
  { cls := 7, slots := #[.int 35], vm := .none },
  { cls := 7, slots := #[.int 36], vm := .none },
  { cls := 7, slots := #[.int 37], vm := .none },
  { cls := 7, slots := #[.int 38], vm := .none },
  { cls := 7, slots := #[.int 39], vm := .none },
  { cls := 7, slots := #[.int 40], vm := .none },
  { cls := 7, slots := #[.int 41], vm := .none },
  { cls := 7, slots := #[.int 42], vm := .none },
  { cls := 7, slots := #[.int 43], vm := .none },
  { cls := 7, slots := #[.int 44], vm := .none },
  { cls := 7, slots := #[.int 45], vm := .none },
  { cls := 7, slots := #[.int 46], vm := .none },
  { cls := 7, slots := #[.int 47], vm := .none },
  { cls := 7, slots := #[.int 48], vm := .none },
  { cls := 7, slots := #[.int 49], vm := .none },
  { cls := 7, slots := #[.int 50], vm := .none },
  { cls := 7, slots := #[.int 51], vm := .none },
  { cls := 7, slots := #[.int 52], vm := .none },
  { cls := 7, slots := #[.int 53], vm := .none },
  { cls := 7, slots := #[.int 54], vm := .none },
  { cls := 7, slots := #[.int 55], vm := .none },
  { cls := 7, slots := #[.int 56], vm := .none },
  { cls := 7, slots := #[.int 57], vm := .none },
  { cls := 7, slots := #[.int 58], vm := .none },
  { cls := 7, slots := #[.int 59], vm := .none },
  { cls := 7, slots := #[.int 60], vm := .none },
  { cls := 7, slots := #[.int 61], vm := .none },
  { cls := 7, slots := #[.int 62], vm := .none },
  { cls := 7, slots := #[.int 63], vm := .none },
  { cls := 7, slots := #[.int 64], vm := .none },
  { cls := 7, slots := #[.int 65], vm := .none },
  { cls := 7, slots := #[.int 66], vm := .none },
  { cls := 7, slots := #[.int 67], vm := .none },
  { cls := 7, slots := #[.int 68], vm := .none },
  { cls := 7, slots := #[.int 69], vm := .none },
  { cls := 7, slots := #[.int 70], vm := .none },
  { cls := 7, slots := #[.int 71], vm := .none },
  { cls := 7, slots := #[.int 72], vm := .none },
  { cls := 7, slots := #[.int 73], vm := .none },
  { cls := 7, slots := #[.int 74], vm := .none },
  { cls := 7, slots := #[.int 75], vm := .none },
  { cls := 7, slots := #[.int 76], vm := .none },
  { cls := 7, slots := #[.int 77], vm := .none },
  { cls := 7, slots := #[.int 78], vm := .none },
  { cls := 7, slots := #[.int 79], vm := .none },
  { cls := 7, slots := #[.int 80], vm := .none },
  { cls := 7, slots := #[.int 81], vm := .none },
  { cls := 7, slots := #[.int 82], vm := .none },
  { cls := 7, slots := #[.int 83], vm := .none },
  { cls := 7, slots := #[.int 84], vm := .none },
  { cls := 7, slots := #[.int 85], vm := .none },
  { cls := 7, slots := #[.int 86], vm := .none },
  { cls := 7, slots := #[.int 87], vm := .none },
  { cls := 7, slots := #[.int 88], vm := .none },
  { cls := 7, slots := #[.int 89], vm := .none },
  { cls := 7, slots := #[.int 90], vm := .none },
  { cls := 7, slots := #[.int 91], vm := .none },
  { cls := 7, slots := #[.int 92], vm := .none },
  { cls := 7, slots := #[.int 93], vm := .none },
  { cls := 7, slots := #[.int 94], vm := .none },
  { cls := 7, slots := #[.int 95], vm := .none },
  { cls := 7, slots := #[.int 96], vm := .none },
  { cls := 7, slots := #[.int 97], vm := .none },
  { cls := 7, slots := #[.int 98], vm := .none },
  { cls := 7, slots := #[.int 99], vm := .none },
  { cls := 7, slots := #[.int 100], vm := .none },
  { cls := 7, slots := #[.int 101], vm := .none },
  { cls := 7, slots := #[.int 102], vm := .none },
  { cls := 7, slots := #[.int 103], vm := .none },
  { cls := 7, slots := #[.int 104], vm := .none },
  { cls := 7, slots := #[.int 105], vm := .none },
  { cls := 7, slots := #[.int 106], vm := .none },
  { cls := 7, slots := #[.int 107], vm := .none },
  { cls := 7, slots := #[.int 108], vm := .none },
  { cls := 7, slots := #[.int 109], vm := .none },
  { cls := 7, slots := #[.int 110], vm := .none },
  { cls := 7, slots := #[.int 111], vm := .none },
  { cls := 7, slots := #[.int 112], vm := .none },
  { cls := 7, slots := #[.int 113], vm := .none },
  { cls := 7, slots := #[.int 114], vm := .none },
  { cls := 7, slots := #[.int 115], vm := .none },
  { cls := 7, slots := #[.int 116], vm := .none },
  { cls := 7, slots := #[.int 117], vm := .none },
  { cls := 7, slots := #[.int 118], vm := .none },
  { cls := 7, slots := #[.int 119], vm := .none },
  { cls := 7, slots := #[.int 120], vm := .none },
  { cls := 7, slots := #[.int 121], vm := .none },
  { cls := 7, slots := #[.int 122], vm := .none },
  { cls := 7, slots := #[.int 123], vm := .none },
  { cls := 7, slots := #[.int 124], vm := .none },
  { cls := 7, slots := #[.int 125], vm := .none },
  { cls := 7, slots := #[.int 126], vm := .none },
  { cls := 7, slots := #[.int 127], vm := .none }]
def classes : Array Class := #[k0, k1, k2, k3, k4, k5, k6, k7, k8, k9, k10, k11, k12, k13, k14, k15]
def interned : List (Array UInt16 × Addr) := []
def slotsUsed : Nat := 517
def theMethod : MethodId := ⟨1, 2⟩
def args0 : Array Value := #[.long 5, .long 5, .long 5, .long 5, .int 5]
def aboutOver (below : List Frame) : State where
  vm := { classes := classes, interned := interned.toArray }
  heap := heap
  slotsUsed := slotsUsed
  threads := #[{ frames := .invoking theMethod args0 :: below }]
def below0 : List Frame := [.native { method := ⟨0, 0⟩, args := #[] }]
def about1 : State := aboutOver below0
def p0 : Program := .bare "" "" ""
def e0 : Env := launch0.env 0 0 0
theorem w_frames : about1.frames = Frame.invoking theMethod args0 :: below0 := rfl
set_option maxRecDepth 65536 in
theorem w_args : argsFit about1.vm theMethod args0 = true := by decide +kernel
set_option maxRecDepth 65536 in
theorem w_heap : heapFits about1 = true := by decide +kernel
set_option maxRecDepth 65536 in
theorem w_runnable : about1.curStatus? = some .runnable := by decide +kernel
set_option maxRecDepth 65536 in
theorem w_alone : about1.alone = true := by decide +kernel
set_option maxRecDepth 65536 in
theorem w_named : about1.methodNamed? x = some theMethod := by decide +kernel
set_option maxRecDepth 65536 in
theorem w_hears : about1.hears theMethod below0 = true := by decide +kernel
set_option maxRecDepth 65536 in
theorem w_ripe : about1.ripe theMethod args0 below0 = true := by decide +kernel
theorem w_running : about1.status = .running := rfl
set_option maxRecDepth 65536 in
theorem w_room : about1.hasRoom e0.platform room_1 = true :=
  launch0.hasRoom_least _ room_1 (by decide +kernel) (by decide +kernel) (by decide +kernel) (by decide +kernel) (by decide +kernel) (by decide +kernel)
theorem allAtoms_all (ts : List Jvm.Cond) (a : Array Jvm.Value) (st : Jvm.State) : (allAtoms ts).before a st = ts.all (fun c => c.before a st) := by
  induction ts with
  | nil => rfl
  | cons c t ih =>
    show (Jvm.Cond.and c (allAtoms t)).before a st = _
    rw [Jvm.Cond.before_and, ih, List.all_cons]
def words1 : List Jvm.Cond := Jvm.Cond.code x code maxLocals ret :: tables_1
/-- a 'code' word, met by the world's own term for the bytes: nothing is compared byte by byte -/
theorem code_word {y : MethodName} {bytes : ByteArray} {mx : Nat} {rt : Option FieldType} {a : Array Value} {s : State} {m : MethodId} {meth : Method} {c : Code} (h1 : s.methodNamed? y = some m) (h2 : s.vm.method? m = some meth) (h3 : meth.code = some c) (h4 : c.code = bytes)
    (h5 : (c.maxLocals == mx && c.exceptionTable.isEmpty && decide (c.maxStack ≤ mostOperands) && decide (meth.sig.returnType = rt) && !meth.locks && decide (parseMethodDescriptor y.desc = some meth.sig)) = true) : (Jvm.Cond.code y bytes mx rt).before a s = true := by
  simp only [Bool.and_eq_true, beq_iff_eq, Bool.not_eq_true', decide_eq_true_eq] at h5
  obtain ⟨⟨⟨⟨⟨g1, g2⟩, g3⟩, g4⟩, g5⟩, g6⟩ := h5
  simp [Cond.before, Cond.holds, Cond.value, h1, h2, h3, h4, g1, g2, g3, g4, g5, g6]
def isCode : Jvm.Cond → Bool
  | .code _ _ _ _ => true
  | _ => false
theorem all_split {L : List Jvm.Cond} {P : Jvm.Cond → Bool} (h1 : L.all (fun c => isCode c || P c) = true) (h2 : ∀ c ∈ L.filter isCode, P c = true) : L.all P = true := by
  refine List.all_eq_true.mpr fun c hc => ?_
  have h := List.all_eq_true.mp h1 c hc
  rcases Bool.eq_false_or_eq_true (isCode c) with hi | hi
  · exact h2 c (List.mem_filter.mpr ⟨hc, hi⟩)
  · simpa [hi] using h
set_option maxRecDepth 65536 in
theorem w_c0 : (Jvm.Cond.code x code maxLocals ret).before args0 about1 = true := code_word (m := ⟨1, 2⟩) (meth := k1m2) (c := k1c2) (by decide +kernel) rfl rfl rfl (by decide +kernel)
set_option maxRecDepth 65536 in
theorem w_c1 : (Jvm.Cond.code ({ cls := "java/lang/Integer", name := "valueOf", desc := "(I)Ljava/lang/Integer;" } : Jvm.MethodName) jdk_33_method_22_code (1 : Nat) (Option.some (Jvm.ClassFile.FieldType.object "java/lang/Integer"))).before args0 about1 = true := code_word (m := ⟨7, 0⟩) (meth := k7m0) (c := k7c0) (by decide +kernel) rfl rfl rfl (by decide +kernel)
set_option maxRecDepth 65536 in
theorem w_c2 : (Jvm.Cond.code ({ cls := "shardwell/container/ExpiryQueue$Timer", name := "<init>", desc := "(JJLjava/lang/Object;)V" } : Jvm.MethodName) prog_73_method_1_code (6 : Nat) (Option.none : Option Jvm.ClassFile.FieldType)).before args0 about1 = true := code_word (m := ⟨10, 0⟩) (meth := k10m0) (c := k10c0) (by decide +kernel) rfl rfl rfl (by decide +kernel)
set_option maxRecDepth 65536 in
theorem w_c3 : (Jvm.Cond.code ({ cls := "java/lang/Record", name := "<init>", desc := "()V" } : Jvm.MethodName) jdk_30_method_1_code (1 : Nat) (Option.none : Option Jvm.ClassFile.FieldType)).before args0 about1 = true := code_word (m := ⟨9, 0⟩) (meth := k9m0) (c := k9c0) (by decide +kernel) rfl rfl rfl (by decide +kernel)
set_option maxRecDepth 65536 in
theorem w_c4 : (Jvm.Cond.code ({ cls := "java/lang/Object", name := "<init>", desc := "()V" } : Jvm.MethodName) object_method_1_code (1 : Nat) (Option.none : Option Jvm.ClassFile.FieldType)).before args0 about1 = true := code_word (m := ⟨0, 0⟩) (meth := k0m0) (c := k0c0) (by decide +kernel) rfl rfl rfl (by decide +kernel)
set_option maxRecDepth 65536 in
theorem w_c5 : (Jvm.Cond.code ({ cls := "shardwell/container/ExpiryQueue$Timer", name := "compareTo", desc := "(Lshardwell/container/ExpiryQueue$Timer;)I" } : Jvm.MethodName) prog_73_method_2_code (3 : Nat) (Option.some Jvm.ClassFile.FieldType.int)).before args0 about1 = true := code_word (m := ⟨10, 1⟩) (meth := k10m1) (c := k10c1) (by decide +kernel) rfl rfl rfl (by decide +kernel)
set_option maxRecDepth 65536 in
theorem w_c6 : (Jvm.Cond.code ({ cls := "java/lang/Long", name := "compare", desc := "(JJ)I" } : Jvm.MethodName) jdk_35_method_42_code (4 : Nat) (Option.some Jvm.ClassFile.FieldType.int)).before args0 about1 = true := code_word (m := ⟨11, 0⟩) (meth := k11m0) (c := k11c0) (by decide +kernel) rfl rfl rfl (by decide +kernel)
set_option maxRecDepth 65536 in
theorem w_c7 : (Jvm.Cond.code ({ cls := "shardwell/container/TimerCompareToPinLaw", name := "sign", desc := "(I)I" } : Jvm.MethodName) method_2_code (1 : Nat) (Option.some Jvm.ClassFile.FieldType.int)).before args0 about1 = true := code_word (m := ⟨1, 1⟩) (meth := k1m1) (c := k1c1) (by decide +kernel) rfl rfl rfl (by decide +kernel)
set_option maxRecDepth 65536 in
theorem w_c8 : (Jvm.Cond.code ({ cls := "java/lang/Integer", name := "<init>", desc := "(I)V" } : Jvm.MethodName) jdk_33_method_23_code (2 : Nat) (Option.none : Option Jvm.ClassFile.FieldType)).before args0 about1 = true := code_word (m := ⟨7, 1⟩) (meth := k7m1) (c := k7c1) (by decide +kernel) rfl rfl rfl (by decide +kernel)
set_option maxRecDepth 65536 in
theorem w_c9 : (Jvm.Cond.code ({ cls := "java/lang/Number", name := "<init>", desc := "()V" } : Jvm.MethodName) jdk_18_method_1_code (1 : Nat) (Option.none : Option Jvm.ClassFile.FieldType)).before args0 about1 = true := code_word (m := ⟨3, 0⟩) (meth := k3m0) (c := k3c0) (by decide +kernel) rfl rfl rfl (by decide +kernel)
def codes1 : List Jvm.Cond := [Jvm.Cond.code x code maxLocals ret, Jvm.Cond.code ({ cls := "java/lang/Integer", name := "valueOf", desc := "(I)Ljava/lang/Integer;" } : Jvm.MethodName) jdk_33_method_22_code (1 : Nat) (Option.some (Jvm.ClassFile.FieldType.object "java/lang/Integer")), Jvm.Cond.code ({ cls := "shardwell/container/ExpiryQueue$Timer", name := "<init>", desc := "(JJLjava/lang/Object;)V" } : Jvm.MethodName) prog_73_method_1_code (6 : Nat) (Option.none : Option Jvm.ClassFile.FieldType), Jvm.Cond.code ({ cls := "java/lang/Record", name := "<init>", desc := "()V" } : Jvm.MethodName) jdk_30_method_1_code (1 : Nat) (Option.none : Option Jvm.ClassFile.FieldType), Jvm.Cond.code ({ cls := "java/lang/Object", name := "<init>", desc := "()V" } : Jvm.MethodName) object_method_1_code (1 : Nat) (Option.none : Option Jvm.ClassFile.FieldType), Jvm.Cond.code ({ cls := "shardwell/container/ExpiryQueue$Timer", name := "compareTo", desc := "(Lshardwell/container/ExpiryQueue$Timer;)I" } : Jvm.MethodName) prog_73_method_2_code (3 : Nat) (Option.some Jvm.ClassFile.FieldType.int), Jvm.Cond.code ({ cls := "java/lang/Long", name := "compare", desc := "(JJ)I" } : Jvm.MethodName) jdk_35_method_42_code (4 : Nat) (Option.some Jvm.ClassFile.FieldType.int), Jvm.Cond.code ({ cls := "shardwell/container/TimerCompareToPinLaw", name := "sign", desc := "(I)I" } : Jvm.MethodName) method_2_code (1 : Nat) (Option.some Jvm.ClassFile.FieldType.int), Jvm.Cond.code ({ cls := "java/lang/Integer", name := "<init>", desc := "(I)V" } : Jvm.MethodName) jdk_33_method_23_code (2 : Nat) (Option.none : Option Jvm.ClassFile.FieldType), Jvm.Cond.code ({ cls := "java/lang/Number", name := "<init>", desc := "()V" } : Jvm.MethodName) jdk_18_method_1_code (1 : Nat) (Option.none : Option Jvm.ClassFile.FieldType)]
set_option maxRecDepth 65536 in
theorem codes_eq : words1.filter isCode = codes1 := rfl
theorem w_codes : ∀ c ∈ words1.filter isCode, c.before args0 about1 = true := by
  rw [codes_eq]
  intro c hc
  simp only [codes1, List.mem_cons, List.not_mem_nil, or_false] at hc
  rcases hc with rfl | rfl | rfl | rfl | rfl | rfl | rfl | rfl | rfl | rfl
  · exact w_c0
  · exact w_c1
  · exact w_c2
  · exact w_c3
  · exact w_c4
  · exact w_c5
  · exact w_c6
  · exact w_c7
  · exact w_c8
  · exact w_c9
set_option maxRecDepth 65536 in
theorem w_t1 : (words1.take 24).all (fun c => isCode c || c.before args0 about1) = true := by decide +kernel
set_option maxRecDepth 65536 in
theorem w_t2 : ((words1.drop 24).take 24).all (fun c => isCode c || c.before args0 about1) = true := by decide +kernel
set_option maxRecDepth 65536 in
theorem w_t3 : ((words1.drop 24).drop 24).all (fun c => isCode c || c.before args0 about1) = true := by decide +kernel
theorem w_tables : (allAtoms (Jvm.Cond.code x code maxLocals ret :: tables_1)).before args0 about1 = true := by
  rw [allAtoms_all]
  show words1.all (fun c => c.before args0 about1) = true
  refine all_split ?_ w_codes
  rw [← List.take_append_drop 24 words1, List.all_append, w_t1, ← List.take_append_drop 24 (words1.drop 24), List.all_append, w_t2, w_t3]
  rfl
set_option maxRecDepth 65536 in
theorem w_rest : rest_1_c.before args0 about1 = true := by decide +kernel
set_option maxRecDepth 65536 in
theorem w_case : (Jvm.Cond.and given_1 narrow_1).before args0 about1 = true := by decide +kernel
theorem w_applies : (headSpec (Jvm.Cond.code x code maxLocals ret :: tables_1) room_1).applies x e0.platform about1 = true :=
  (Spec.applies_iff w_frames).mpr ⟨w_running, w_runnable, w_alone, w_named, w_hears, w_ripe, w_room, w_tables⟩
theorem atStart : AtStart classFile x code maxLocals ret World_1 tables_1 room_1 Calls_1 rest_1 Pre_1 launch0 p0 e0 about1 theMethod args0 below0 :=
  ⟨lists_1, trivial, launch0.admits_env _ _ _, launch0.least_env, fairChoices_fair.cas, fairChoices_fair.clock, w_frames, w_args, w_heap, w_applies, trivial, w_rest, w_case⟩
end start1
theorem witness_1 : WitnessClaimed_1 := ⟨start1.p0, start1.e0, start1.about1, start1.theMethod, start1.args0, start1.below0, start1.atStart⟩
end Jvm.Pilot.@@N@@
