import JvmDerived
import JvmDerived.Pilot.@@N@@Statement
import JvmDerived.Pilot.@@N@@Code
set_option linter.unusedVariables false
set_option linter.unusedSimpArgs false
namespace Jvm.RoadKit
open Sem ClassFile Op Lib Jvm.Stand Jvm.Free Jvm.LawKit
section New
variable {p : Program} {l : Launch} {e : Env} {R : Room} {s : State} {m : MethodId} {args : Array Value} {below : List Frame} {meth : Method} {c : Code} {T : State} {locs : List Loc} {cells slots : Nat}
theorem retI (X : Stand p l e R s m args below meth c T locs cells slots) (hx : p.tables.exec = Jvm.exec) {pc : Nat} {Ls : Array Slot} {z : Int32} {rest : List Value} (hret : meth.sig.returnType = some .int) (hd : decode c.code pc = .ok (.ireturn, 1)) {fs : List Frame}
    (hl : ∀ (f : JFrame) (acts : List Action), f.method = m → f.locked = none → f.entered = [] → (doReturn e (T.setTop f) acts (some (.int z))).1 = T.setFrames fs) : Steps p.tables e below (T.setTop (mkF m pc Ls (.int z :: rest))) (T.setFrames fs) := by
  have hm' : T.vm.method? m = some meth := X.method'
  have hn : narrow .int (.int z) = .int z := rfl
  show Steps p.tables e below (T.setTop { method := m, pc := pc, locals := Ls, stack := _ :: rest, locked := none }) _
  jvm_step X.here [X.here.top, hx, hd, hm', hret, hn]
  first | (intro acts; rw [hl _ acts rfl rfl rfl]) | rw [hl _ _ rfl rfl rfl]
  exact Steps.refl _
end New
end Jvm.RoadKit
namespace Jvm.Pilot.@@N@@
open Jvm Jvm.ClassFile Sem Op Lib Jvm.Free Jvm.Stand Jvm.LawKit Jvm.RoadKit Bundle Jvm.Pilot.@@N@@.Jvm.D
def own_A (Z : State) (h : Heap) (a : Addr) (ty : FieldType) (n : Int32) : Prop := ∃ c : Cell, Arr Z h a c ty ∧ c.slots.size = n.toNatClampNeg
theorem own_A.lt {Z : State} {h : Heap} {a : Addr} {ty : FieldType} {n : Int32} (F : own_A Z h a ty n) : a < h.size := by obtain ⟨c, A, -⟩ := F; exact A.lt
theorem own_A.ext {Z : State} {h h' : Heap} {a : Addr} {ty : FieldType} {n : Int32} (F : own_A Z h a ty n) (E : Ext h h') : own_A Z h' a ty n := by obtain ⟨c, A, r⟩ := F; exact ⟨c, A.ext E, r⟩
theorem own_A.other {Z : State} {h h' : Heap} {a b : Addr} {ty : FieldType} {n : Int32} {sl : Nat} {v : Value} (F : own_A Z h b ty n) (W : Wr h h' a sl v) (q : b ≠ a) : own_A Z h' b ty n := by obtain ⟨c, A, r⟩ := F; exact ⟨c, A.other W q, r⟩
theorem own_A.keep {Z : State} {h h' : Heap} {a : Addr} {ty : FieldType} {n : Int32} {ws : List Addr} (F : own_A Z h a ty n) (K : Keep h h' ws) (q : a ∉ ws) : own_A Z h' a ty n := by obtain ⟨c, A, r⟩ := F; exact ⟨c, ⟨K.2.1 a c A.1 q, A.2⟩, r⟩
theorem own_A.of {Z : State} {h : Heap} {a : Addr} {k : ClassId} {ty : FieldType} {n : Int32} {vs : List Value} {d : Value} (F : Arv Z h a k ty n vs d) : own_A Z h a ty n := by obtain ⟨c, A, -, S, -⟩ := F; exact ⟨c, A, S⟩
theorem own_A.upd {Z : State} {h h' : Heap} {a : Addr} {c : Cell} {ty : FieldType} {n : Int32} {sl : Nat} {v : Value} (A : Arr Z h a c ty) (S : c.slots.size = n.toNatClampNeg) (W : Wr h h' a sl v) : own_A Z h' a ty n := ⟨_, A.same W, by rw [sz_set]; exact S⟩
def own_D (p wK wO wF wS wT : Addr) : Prop := p ≠ wK ∧ p ≠ wO ∧ p ≠ wF ∧ p ≠ wS ∧ p ≠ wT ∧ wK ≠ wO ∧ wK ≠ wF ∧ wK ≠ wS ∧ wK ≠ wT ∧ wO ≠ wF ∧ wO ≠ wS ∧ wO ≠ wT ∧ wF ≠ wS ∧ wF ≠ wT ∧ wS ≠ wT
def own_G (n0 : Nat) (wK wO wF wS wT : Addr) : Prop := n0 ≤ wK ∧ n0 ≤ wO ∧ n0 ≤ wF ∧ n0 ≤ wS ∧ n0 ≤ wT
def own_P (Z : State) (h : Heap) (p wK wO wF wS wT : Addr) (k : ClassId) (n : Int32) (hs : List (Int32 × Value)) : Prop := Exa Z h p "com/example/bytelens/bytelens/ConstantPool" ∧ Fld Z h p "com/example/bytelens/bytelens/ConstantPool" "kinds" "[Lcom/example/bytelens/bytelens/ConstantKind;" (.ref wK) ∧ Fld Z h p "com/example/bytelens/bytelens/ConstantPool" "offsets" "[I" (.ref wO) ∧ Fld Z h p "com/example/bytelens/bytelens/ConstantPool" "firsts" "[I" (.ref wF) ∧ Fld Z h p "com/example/bytelens/bytelens/ConstantPool" "seconds" "[I" (.ref wS) ∧ Fld Z h p "com/example/bytelens/bytelens/ConstantPool" "texts" "[Ljava/lang/String;" (.ref wT) ∧ Arh Z h wK k (.object "com/example/bytelens/bytelens/ConstantKind") n hs [] .null ∧ Ovr Z k "com/example/bytelens/bytelens/ConstantKind" ∧ own_A Z h wO .int n ∧ own_A Z h wF .int n ∧ own_A Z h wS .int n ∧ own_A Z h wT (.object "java/lang/String") n
theorem own_cat {v : Value} (h : v.isRef = true) : v.category = 1 := by rcases ref_cases h with rfl | ⟨z, rfl⟩ <;> rfl
def own_kv (n : Int32) (hs : List (Int32 × Value)) (i : Int32) : Value := if i < 0 then .null else if i < n then getH hs [] .null i.toNatClampNeg else .null
def own_ex (n a : Int32) (ka : Addr) (b : Int32) (kb : Addr) (i : Int32) : Value := if i < 0 then .null else if i < n then (if b < n ∧ i = b then .ref kb else if a < n ∧ i = a then .ref ka else .null) else .null
theorem own_getr : ∀ (hs : List (Int32 × Value)) (i : Nat), (∀ q ∈ hs, q.2.isRef = true) → (getH hs [] .null i).isRef = true
  | [], _, _ => rfl
  | (j, v) :: r, i, h => by
    show (if j.toInt = (i : Int) then v else getH r [] .null i).isRef = true
    split
    · exact h (j, v) (List.mem_cons_self ..)
    · exact own_getr r i fun q hq => h q (List.mem_cons_of_mem _ hq)
theorem own_kvr {n i : Int32} {hs : List (Int32 × Value)} (h : ∀ q ∈ hs, q.2.isRef = true) : (own_kv n hs i).isRef = true := by
  unfold own_kv; split
  · rfl
  · split
    · exact own_getr hs _ h
    · rfl
theorem own_r0 : ∀ q ∈ ([] : List (Int32 × Value)), q.2.isRef = true := fun _ q => nomatch q
theorem own_rS {j : Int32} {a : Addr} {r : List (Int32 × Value)} (h : ∀ q ∈ r, q.2.isRef = true) : ∀ q ∈ (j, Value.ref a) :: r, q.2.isRef = true := fun q hq => (List.mem_cons.mp hq).elim (fun u => u ▸ rfl) (h q)
theorem own_toI {i b : Int32} (h0 : ¬ i < 0) : (b.toInt = (i.toNatClampNeg : Int)) ↔ i = b := by
  rw [← nat_of h0]; exact ⟨fun h => (Int32.toInt_inj.mp h).symm, fun h => by rw [h]⟩
theorem own_q {n a b i : Int32} {ka kb : Addr} {hs : List (Int32 × Value)} (h : ¬ i < 0 → i < n → getH hs [] .null i.toNatClampNeg = (if b < n ∧ i = b then .ref kb else if a < n ∧ i = a then .ref ka else .null)) : own_kv n hs i = own_ex n a ka b kb i := by
  unfold own_kv own_ex
  by_cases h0 : i < 0
  · rw [if_pos h0, if_pos h0]
  · rw [if_neg h0, if_neg h0]
    by_cases h1 : i < n
    · rw [if_pos h1, if_pos h1]; exact h h0 h1
    · rw [if_neg h1, if_neg h1]
theorem own_q00 {n a b i : Int32} {ka kb : Addr} (ha : ¬ a < n) (hb : ¬ b < n) : own_kv n [] i = own_ex n a ka b kb i := own_q fun h0 h1 => by
  simp [ha, hb, getH]
theorem own_q10 {n a b i : Int32} {ka kb : Addr} (ha : a < n) (hb : ¬ b < n) : own_kv n [(a, .ref ka)] i = own_ex n a ka b kb i := own_q fun h0 h1 => by
  simp only [getH, own_toI h0, ha, hb, true_and, false_and, if_false, List.getD_nil]
theorem own_q01 {n a b i : Int32} {ka kb : Addr} (ha : ¬ a < n) (hb : b < n) : own_kv n [(b, .ref kb)] i = own_ex n a ka b kb i := own_q fun h0 h1 => by
  simp only [getH, own_toI h0, ha, hb, true_and, false_and, if_false, List.getD_nil]
theorem own_q11 {n a b i : Int32} {ka kb : Addr} (ha : a < n) (hb : b < n) : own_kv n [(b, .ref kb), (a, .ref ka)] i = own_ex n a ka b kb i := own_q fun h0 h1 => by
  simp only [getH, own_toI h0, ha, hb, true_and, List.getD_nil]
def own_ko (k : Int32) (w0 w1 w2 w3 : Addr) : Addr := if (k &&& (3 : Int32)) = 0 then w0 else if (k &&& (3 : Int32)) = 1 then w1 else if (k &&& (3 : Int32)) = 2 then w2 else w3
theorem own_koE {Z : State} {h : Heap} {C : String} {k : Int32} {w0 w1 w2 w3 : Addr} (h0 : Exa Z h w0 C) (h1 : Exa Z h w1 C) (h2 : Exa Z h w2 C) (h3 : Exa Z h w3 C) : Exa Z h (own_ko k w0 w1 w2 w3) C := by
  unfold own_ko; split
  · exact h0
  · split
    · exact h1
    · split
      · exact h2
      · exact h3
theorem own_n (c : Int32) : ¬ (c &&& (15 : Int32)) < 0 ∧ (c &&& (15 : Int32)).toNatClampNeg ≤ 15 := by
  have h := c_and c 15 (by decide)
  have e : (15 : Int32).toInt = 15 := by decide
  have e0 : (0 : Int32).toInt = 0 := by decide
  simp only [Int32.lt_iff_toInt_lt, Int32.toNatClampNeg]; omega
theorem own_a (c : Int32) : ¬ ((c &&& (7 : Int32)) + (1 : Int32)) < 0 := by
  have h := c_and c 7 (by decide)
  have e : (7 : Int32).toInt = 7 := by decide
  have e1 : (1 : Int32).toInt = 1 := by decide
  have e0 : (0 : Int32).toInt = 0 := by decide
  have a := c_iadd (c &&& 7) 1
  have r := rng32 ((c &&& 7) + 1)
  simp only [Int32.lt_iff_toInt_lt]; omega
theorem own_fr {C : String} {v : Value} (h : fits (.object C) v = true) : v.isRef = true := by cases v <;> simp [fits, Value.isRef] at h ⊢
theorem pn_com_example_bytelens_bytelens_ConstantPool : plainName "com/example/bytelens/bytelens/ConstantPool" = true := by first | (simp [plainName, overriddenIn]; done) | decide +kernel
theorem pn_com_example_bytelens_bytelens_ConstantPoolKindPinLaw : plainName "com/example/bytelens/bytelens/ConstantPoolKindPinLaw" = true := by first | (simp [plainName, overriddenIn]; done) | decide +kernel
theorem ef_rmKindOf (m : MethodId) (p0 : Int32) : entryFrame m #[(.int p0)] 2 = mkF m 0 #[.val (.int p0), .unset] [] := by first | (simp [entryFrame, mkF, argsToLocals, Value.category]; done) | rfl
theorem d1_0 : decode method_3_code 0 = .ok (.iload_n 0, 1) := by decide +kernel
theorem d1_1 : decode method_3_code 1 = .ok (.iconst 3, 1) := by decide +kernel
theorem d1_2 : decode method_3_code 2 = .ok (.iand, 1) := by decide +kernel
theorem d1_3 : decode method_3_code 3 = .ok (.istore_n 1, 1) := by decide +kernel
theorem d1_4 : decode method_3_code 4 = .ok (.iload_n 1, 1) := by decide +kernel
theorem d1_5 : decode method_3_code 5 = .ok (.ifCond .ne 7, 3) := by decide +kernel
theorem d1_8 : decode method_3_code 8 = .ok (.getstatic 29, 3) := by decide +kernel
theorem d1_11 : decode method_3_code 11 = .ok (.areturn, 1) := by decide +kernel
theorem d1_12 : decode method_3_code 12 = .ok (.iload_n 1, 1) := by decide +kernel
theorem d1_13 : decode method_3_code 13 = .ok (.iconst 1, 1) := by decide +kernel
theorem d1_14 : decode method_3_code 14 = .ok (.if_icmp .ne 7, 3) := by decide +kernel
theorem d1_17 : decode method_3_code 17 = .ok (.getstatic 35, 3) := by decide +kernel
theorem d1_20 : decode method_3_code 20 = .ok (.areturn, 1) := by decide +kernel
theorem d1_21 : decode method_3_code 21 = .ok (.iload_n 1, 1) := by decide +kernel
theorem d1_22 : decode method_3_code 22 = .ok (.iconst 2, 1) := by decide +kernel
theorem d1_23 : decode method_3_code 23 = .ok (.if_icmp .ne 7, 3) := by decide +kernel
theorem d1_26 : decode method_3_code 26 = .ok (.getstatic 38, 3) := by decide +kernel
theorem d1_29 : decode method_3_code 29 = .ok (.areturn, 1) := by decide +kernel
theorem d1_30 : decode method_3_code 30 = .ok (.getstatic 41, 3) := by decide +kernel
theorem d1_33 : decode method_3_code 33 = .ok (.areturn, 1) := by decide +kernel
def Q_rmKindOf (Z : State) (p0 : Int32) (w0 : Addr) (w1 : Addr) (w2 : Addr) (w3 : Addr) (r : Addr) (h0 : Heap) (n0 : Nat) (v : Option Value) (h : Heap) (L : List Loc) : Prop := v = some (.ref r) ∧ Fr n0 L ∧ h = h0
set_option maxRecDepth 65536 in
set_option maxHeartbeats 40000000 in
theorem rmKindOf (l : Launch) (Z : State) (a0 : Array Value) (hw : ∀ d ∈ tables_1, d.before a0 Z = true) (ws : List Jvm.Cond) (p0 : Int32) (w0 : Addr) (w1 : Addr) (w2 : Addr) (w3 : Addr) (r : Addr) (h0 : Heap) (n0 : Nat) (Z0 : n0 ≤ h0.size) (S_UTF8 : Sta Z h0 "com/example/bytelens/bytelens/ConstantKind" "UTF8" "Lcom/example/bytelens/bytelens/ConstantKind;" (.ref w0)) (S_LONG : Sta Z h0 "com/example/bytelens/bytelens/ConstantKind" "LONG" "Lcom/example/bytelens/bytelens/ConstantKind;" (.ref w1)) (S_CLASS : Sta Z h0 "com/example/bytelens/bytelens/ConstantKind" "CLASS" "Lcom/example/bytelens/bytelens/ConstantKind;" (.ref w2)) (S_PACKAGE : Sta Z h0 "com/example/bytelens/bytelens/ConstantKind" "PACKAGE" "Lcom/example/bytelens/bytelens/ConstantKind;" (.ref w3)) (hres : r = own_ko p0 w0 w1 w2 w3) :
    MetFree l (⟨"com/example/bytelens/bytelens/ConstantPoolKindPinLaw", "kindOf", "(I)Lcom/example/bytelens/bytelens/ConstantKind;"⟩ : MethodName) (head1 (Jvm.Cond.code (⟨"com/example/bytelens/bytelens/ConstantPoolKindPinLaw", "kindOf", "(I)Lcom/example/bytelens/bytelens/ConstantKind;"⟩ : MethodName) method_3_code 2 (some (.object "com/example/bytelens/bytelens/ConstantKind")) :: ws) ({ frames := 0, cells := 0, slots := 0, locals := 0 } : Room)) (fun a U => a = #[(.int p0)] ∧ Z.Warmed39 U.vm ∧ U.heap = h0) (fun _ _ _ _ _ => True) (fun _ U o U' => ∃ v L, o = .returned v ∧ Q_rmKindOf Z p0 w0 w1 w2 w3 r h0 n0 v U'.heap L ∧ FrameEnd U o U' L ({ frames := 0, cells := 0, slots := 0, locals := 0 } : Room).cells ({ frames := 0, cells := 0, slots := 0, locals := 0 } : Room).slots) := by
  refine MetFree.of_bodySF (plainFor_of_name pn_com_example_bytelens_bytelens_ConstantPoolKindPinLaw) hisR ?_
  intro p e s m args below meth c s₁ Bd hml0 hP hK
  obtain ⟨rfl, hZ, hh⟩ := hP
  have hx := Bd.exec
  have hby := Bd.bytes
  have hml : c.maxLocals = 2 := hml0
  have hown : s.vm.findClass "com/example/bytelens/bytelens/ConstantPoolKindPinLaw" = some m.cls := findClass_of_methodNamed Bd.named
  have hnm := (name_of_methodNamed Bd.named Bd.method).1
  have X0 : Stand p l e ({ frames := 0, cells := 0, slots := 0, locals := 0 } : Room) s m #[(.int p0)] below meth c s₁ [] 0 0 := Stand.of_body Bd
  have e0 : s₁.heap = h0 := by rw [← hh, Bd.state]; rfl
  have N0 := Fr.nil n0
  have pre0 : ∀ t, Steps p.tables e below (s₁.setTop (mkF m 0 #[.val (.int p0), .unset] [])) t → Steps p.tables e below (s₁.setTop (entryFrame m #[(.int p0)] 2)) t := fun t k => castTop (ef_rmKindOf m p0 ) k
  have pre2 : ∀ t, Steps p.tables e below (s₁.setTop (mkF m 5 #[.val (.int p0), .val (.int (p0 &&& (3 : Int32)))] [(.int (p0 &&& (3 : Int32)))])) t → Steps p.tables e below (s₁.setTop (entryFrame m #[(.int p0)] 2)) t := fun t kt => pre0 t (by
    show Steps p.tables e below (s₁.setTop (mkF m 0 #[.val (.int p0), .unset] [])) _
    refine XS.iloadN X0.here hx rfl (hb hby d1_0) rfl  ?_
    show Steps p.tables e below (s₁.setTop (mkF m 1 #[.val (.int p0), .unset] [(.int p0)])) _
    refine XS.iconst X0.here hx rfl (hb hby d1_1) ?_
    show Steps p.tables e below (s₁.setTop (mkF m 2 #[.val (.int p0), .unset] [(.int (3 : Int32)), (.int p0)])) _
    refine XS.iand X0.here hx rfl (hb hby d1_2) rfl ?_
    show Steps p.tables e below (s₁.setTop (mkF m 3 #[.val (.int p0), .unset] [(.int (p0 &&& (3 : Int32)))])) _
    refine XS.istoreN X0.here hx rfl (hb hby d1_3) rfl (l' := #[.val (.int p0), .val (.int (p0 &&& (3 : Int32)))]) rfl ?_
    show Steps p.tables e below (s₁.setTop (mkF m 4 #[.val (.int p0), .val (.int (p0 &&& (3 : Int32)))] [])) _
    refine XS.iloadN X0.here hx rfl (hb hby d1_4) rfl  ?_
    exact kt)
  by_cases hc5_1 : (p0 &&& (3 : Int32)) = (0 : Int32)
  · obtain ⟨T3, X3, e3, st3⟩ := getS2 X0 hx hZ hown (host := "") (Or.inl (hw _ (List.mem_of_getElem? (i := 7) rfl))) Via.refl e0 S_UTF8 (g := (mkF m 8 #[.val (.int p0), .val (.int (p0 &&& (3 : Int32)))] [])) rfl (hb hby d1_8)
    obtain ⟨fs, hr, hrun, hended, hW, hsame⟩ := X3.leave (v := some (.ref w0)) (fun h => by rw [Bd.returns] at h; cases h)
    refine ⟨_, _, pre2 _ ?_, hrun, hended, _, _, rfl, ?_, ⟨_, rfl⟩, hW, hsame.mono (by decide) (by decide)⟩
    · show Steps p.tables e below (s₁.setTop (mkF m 5 #[.val (.int p0), .val (.int (p0 &&& (3 : Int32)))] [(.int (p0 &&& (3 : Int32)))])) _
      refine XS.ifNo X0.here hx rfl (hb hby d1_5) rfl ((if0 _ _).trans (teq hc5_1).2) ?_
      show Steps p.tables e below (s₁.setTop (mkF m 8 #[.val (.int p0), .val (.int (p0 &&& (3 : Int32)))] [])) _
      refine st3 _ ?_
      show Steps p.tables e below (T3.setTop (mkF m 11 #[.val (.int p0), .val (.int (p0 &&& (3 : Int32)))] [(.ref w0)])) _
      jvm_step X3.here [X3.here.top, hx, (hb hby d1_11), X3.method', Bd.returns, Value.isRef, FieldType.isReference]
      first | (intro acts; rw [hr _ acts rfl rfl rfl]) | rw [hr _ _ rfl rfl rfl]
      exact Steps.refl _
    · show Q_rmKindOf Z p0 w0 w1 w2 w3 r h0 n0 _ T3.heap _
      rw [e3]
      exact ⟨by rw [hres]; unfold own_ko; rw [if_pos hc5_1], N0, rfl⟩
  · have pre5 : ∀ t, Steps p.tables e below (s₁.setTop (mkF m 14 #[.val (.int p0), .val (.int (p0 &&& (3 : Int32)))] [(.int (1 : Int32)), (.int (p0 &&& (3 : Int32)))])) t → Steps p.tables e below (s₁.setTop (entryFrame m #[(.int p0)] 2)) t := fun t kt => pre2 t (by
      show Steps p.tables e below (s₁.setTop (mkF m 5 #[.val (.int p0), .val (.int (p0 &&& (3 : Int32)))] [(.int (p0 &&& (3 : Int32)))])) _
      refine XS.ifYes X0.here hx rfl (pc0 := 5) (pc' := 12) rfl (hb hby d1_5) rfl ((if0 _ _).trans (feq hc5_1).2) (by decide) (by decide) ?_
      show Steps p.tables e below (s₁.setTop (mkF m 12 #[.val (.int p0), .val (.int (p0 &&& (3 : Int32)))] [])) _
      refine XS.iloadN X0.here hx rfl (hb hby d1_12) rfl  ?_
      show Steps p.tables e below (s₁.setTop (mkF m 13 #[.val (.int p0), .val (.int (p0 &&& (3 : Int32)))] [(.int (p0 &&& (3 : Int32)))])) _
      refine XS.iconst X0.here hx rfl (hb hby d1_13) ?_
      exact kt)
    by_cases hc14_4 : (p0 &&& (3 : Int32)) = (1 : Int32)
    · obtain ⟨T6, X6, e6, st6⟩ := getS2 X0 hx hZ hown (host := "") (Or.inl (hw _ (List.mem_of_getElem? (i := 54) rfl))) Via.refl e0 S_LONG (g := (mkF m 17 #[.val (.int p0), .val (.int (p0 &&& (3 : Int32)))] [])) rfl (hb hby d1_17)
      obtain ⟨fs, hr, hrun, hended, hW, hsame⟩ := X6.leave (v := some (.ref w1)) (fun h => by rw [Bd.returns] at h; cases h)
      refine ⟨_, _, pre5 _ ?_, hrun, hended, _, _, rfl, ?_, ⟨_, rfl⟩, hW, hsame.mono (by decide) (by decide)⟩
      · show Steps p.tables e below (s₁.setTop (mkF m 14 #[.val (.int p0), .val (.int (p0 &&& (3 : Int32)))] [(.int (1 : Int32)), (.int (p0 &&& (3 : Int32)))])) _
        refine XS.icmpNo X0.here hx rfl (hb hby d1_14) rfl (teq hc14_4).2 ?_
        show Steps p.tables e below (s₁.setTop (mkF m 17 #[.val (.int p0), .val (.int (p0 &&& (3 : Int32)))] [])) _
        refine st6 _ ?_
        show Steps p.tables e below (T6.setTop (mkF m 20 #[.val (.int p0), .val (.int (p0 &&& (3 : Int32)))] [(.ref w1)])) _
        jvm_step X6.here [X6.here.top, hx, (hb hby d1_20), X6.method', Bd.returns, Value.isRef, FieldType.isReference]
        first | (intro acts; rw [hr _ acts rfl rfl rfl]) | rw [hr _ _ rfl rfl rfl]
        exact Steps.refl _
      · show Q_rmKindOf Z p0 w0 w1 w2 w3 r h0 n0 _ T6.heap _
        rw [e6]
        exact ⟨by rw [hres]; unfold own_ko; rw [if_neg hc5_1, if_pos hc14_4], N0, rfl⟩
    · have pre8 : ∀ t, Steps p.tables e below (s₁.setTop (mkF m 23 #[.val (.int p0), .val (.int (p0 &&& (3 : Int32)))] [(.int (2 : Int32)), (.int (p0 &&& (3 : Int32)))])) t → Steps p.tables e below (s₁.setTop (entryFrame m #[(.int p0)] 2)) t := fun t kt => pre5 t (by
        show Steps p.tables e below (s₁.setTop (mkF m 14 #[.val (.int p0), .val (.int (p0 &&& (3 : Int32)))] [(.int (1 : Int32)), (.int (p0 &&& (3 : Int32)))])) _
        refine XS.icmpYes X0.here hx rfl (pc0 := 14) (pc' := 21) rfl (hb hby d1_14) rfl (feq hc14_4).2 (by decide) (by decide) ?_
        show Steps p.tables e below (s₁.setTop (mkF m 21 #[.val (.int p0), .val (.int (p0 &&& (3 : Int32)))] [])) _
        refine XS.iloadN X0.here hx rfl (hb hby d1_21) rfl  ?_
        show Steps p.tables e below (s₁.setTop (mkF m 22 #[.val (.int p0), .val (.int (p0 &&& (3 : Int32)))] [(.int (p0 &&& (3 : Int32)))])) _
        refine XS.iconst X0.here hx rfl (hb hby d1_22) ?_
        exact kt)
      by_cases hc23_7 : (p0 &&& (3 : Int32)) = (2 : Int32)
      · obtain ⟨T9, X9, e9, st9⟩ := getS2 X0 hx hZ hown (host := "") (Or.inl (hw _ (List.mem_of_getElem? (i := 4) rfl))) Via.refl e0 S_CLASS (g := (mkF m 26 #[.val (.int p0), .val (.int (p0 &&& (3 : Int32)))] [])) rfl (hb hby d1_26)
        obtain ⟨fs, hr, hrun, hended, hW, hsame⟩ := X9.leave (v := some (.ref w2)) (fun h => by rw [Bd.returns] at h; cases h)
        refine ⟨_, _, pre8 _ ?_, hrun, hended, _, _, rfl, ?_, ⟨_, rfl⟩, hW, hsame.mono (by decide) (by decide)⟩
        · show Steps p.tables e below (s₁.setTop (mkF m 23 #[.val (.int p0), .val (.int (p0 &&& (3 : Int32)))] [(.int (2 : Int32)), (.int (p0 &&& (3 : Int32)))])) _
          refine XS.icmpNo X0.here hx rfl (hb hby d1_23) rfl (teq hc23_7).2 ?_
          show Steps p.tables e below (s₁.setTop (mkF m 26 #[.val (.int p0), .val (.int (p0 &&& (3 : Int32)))] [])) _
          refine st9 _ ?_
          show Steps p.tables e below (T9.setTop (mkF m 29 #[.val (.int p0), .val (.int (p0 &&& (3 : Int32)))] [(.ref w2)])) _
          jvm_step X9.here [X9.here.top, hx, (hb hby d1_29), X9.method', Bd.returns, Value.isRef, FieldType.isReference]
          first | (intro acts; rw [hr _ acts rfl rfl rfl]) | rw [hr _ _ rfl rfl rfl]
          exact Steps.refl _
        · show Q_rmKindOf Z p0 w0 w1 w2 w3 r h0 n0 _ T9.heap _
          rw [e9]
          exact ⟨by rw [hres]; unfold own_ko; rw [if_neg hc5_1, if_neg hc14_4, if_pos hc23_7], N0, rfl⟩
      · obtain ⟨T10, X10, e10, st10⟩ := getS2 X0 hx hZ hown (host := "") (Or.inl (hw _ (List.mem_of_getElem? (i := 46) rfl))) Via.refl e0 S_PACKAGE (g := (mkF m 30 #[.val (.int p0), .val (.int (p0 &&& (3 : Int32)))] [])) rfl (hb hby d1_30)
        obtain ⟨fs, hr, hrun, hended, hW, hsame⟩ := X10.leave (v := some (.ref w3)) (fun h => by rw [Bd.returns] at h; cases h)
        refine ⟨_, _, pre8 _ ?_, hrun, hended, _, _, rfl, ?_, ⟨_, rfl⟩, hW, hsame.mono (by decide) (by decide)⟩
        · show Steps p.tables e below (s₁.setTop (mkF m 23 #[.val (.int p0), .val (.int (p0 &&& (3 : Int32)))] [(.int (2 : Int32)), (.int (p0 &&& (3 : Int32)))])) _
          refine XS.icmpYes X0.here hx rfl (pc0 := 23) (pc' := 30) rfl (hb hby d1_23) rfl (feq hc23_7).2 (by decide) (by decide) ?_
          show Steps p.tables e below (s₁.setTop (mkF m 30 #[.val (.int p0), .val (.int (p0 &&& (3 : Int32)))] [])) _
          refine st10 _ ?_
          show Steps p.tables e below (T10.setTop (mkF m 33 #[.val (.int p0), .val (.int (p0 &&& (3 : Int32)))] [(.ref w3)])) _
          jvm_step X10.here [X10.here.top, hx, (hb hby d1_33), X10.method', Bd.returns, Value.isRef, FieldType.isReference]
          first | (intro acts; rw [hr _ acts rfl rfl rfl]) | rw [hr _ _ rfl rfl rfl]
          exact Steps.refl _
        · show Q_rmKindOf Z p0 w0 w1 w2 w3 r h0 n0 _ T10.heap _
          rw [e10]
          exact ⟨by rw [hres]; unfold own_ko; rw [if_neg hc5_1, if_neg hc14_4, if_neg hc23_7], N0, rfl⟩
theorem ef_rmExpected (m : MethodId) (p0 : Int32) (p1 : Int32) (p2 : Addr) (p3 : Int32) (p4 : Addr) (p5 : Int32) : entryFrame m #[(.int p0), (.int p1), (.ref p2), (.int p3), (.ref p4), (.int p5)] 6 = mkF m 0 #[.val (.int p0), .val (.int p1), .val (.ref p2), .val (.int p3), .val (.ref p4), .val (.int p5)] [] := by first | (simp [entryFrame, mkF, argsToLocals, Value.category]; done) | rfl
theorem d6_0 : decode method_4_code 0 = .ok (.iload 5, 2) := by decide +kernel
theorem d6_2 : decode method_4_code 2 = .ok (.ifCond .lt 9, 3) := by decide +kernel
theorem d6_11 : decode method_4_code 11 = .ok (.aconst_null, 1) := by decide +kernel
theorem d6_12 : decode method_4_code 12 = .ok (.areturn, 1) := by decide +kernel
theorem d6_5 : decode method_4_code 5 = .ok (.iload 5, 2) := by decide +kernel
theorem d6_7 : decode method_4_code 7 = .ok (.iload_n 0, 1) := by decide +kernel
theorem d6_8 : decode method_4_code 8 = .ok (.if_icmp .lt 5, 3) := by decide +kernel
theorem d6_13 : decode method_4_code 13 = .ok (.iload_n 3, 1) := by decide +kernel
theorem d6_14 : decode method_4_code 14 = .ok (.iload_n 0, 1) := by decide +kernel
theorem d6_15 : decode method_4_code 15 = .ok (.if_icmp .ge 12, 3) := by decide +kernel
theorem d6_18 : decode method_4_code 18 = .ok (.iload 5, 2) := by decide +kernel
theorem d6_20 : decode method_4_code 20 = .ok (.iload_n 3, 1) := by decide +kernel
theorem d6_21 : decode method_4_code 21 = .ok (.if_icmp .ne 6, 3) := by decide +kernel
theorem d6_24 : decode method_4_code 24 = .ok (.aload 4, 2) := by decide +kernel
theorem d6_26 : decode method_4_code 26 = .ok (.areturn, 1) := by decide +kernel
theorem d6_27 : decode method_4_code 27 = .ok (.iload_n 1, 1) := by decide +kernel
theorem d6_28 : decode method_4_code 28 = .ok (.iload_n 0, 1) := by decide +kernel
theorem d6_29 : decode method_4_code 29 = .ok (.if_icmp .ge 11, 3) := by decide +kernel
theorem d6_32 : decode method_4_code 32 = .ok (.iload 5, 2) := by decide +kernel
theorem d6_34 : decode method_4_code 34 = .ok (.iload_n 1, 1) := by decide +kernel
theorem d6_35 : decode method_4_code 35 = .ok (.if_icmp .ne 5, 3) := by decide +kernel
theorem d6_38 : decode method_4_code 38 = .ok (.aload_n 2, 1) := by decide +kernel
theorem d6_39 : decode method_4_code 39 = .ok (.areturn, 1) := by decide +kernel
theorem d6_40 : decode method_4_code 40 = .ok (.aconst_null, 1) := by decide +kernel
theorem d6_41 : decode method_4_code 41 = .ok (.areturn, 1) := by decide +kernel
def Q_rmExpected (Z : State) (p0 : Int32) (p1 : Int32) (p2 : Addr) (p3 : Int32) (p4 : Addr) (p5 : Int32) (r : Value) (h0 : Heap) (n0 : Nat) (v : Option Value) (h : Heap) (L : List Loc) : Prop := v = some r ∧ Fr n0 L ∧ h = h0
set_option maxRecDepth 65536 in
set_option maxHeartbeats 40000000 in
theorem rmExpected (l : Launch) (Z : State) (a0 : Array Value) (hw : ∀ d ∈ tables_1, d.before a0 Z = true) (ws : List Jvm.Cond) (p0 : Int32) (p1 : Int32) (p2 : Addr) (p3 : Int32) (p4 : Addr) (p5 : Int32) (r : Value) (h0 : Heap) (n0 : Nat) (Z0 : n0 ≤ h0.size) (hres : r = own_ex p0 p1 p2 p3 p4 p5) :
    MetFree l (⟨"com/example/bytelens/bytelens/ConstantPoolKindPinLaw", "expected", "(IILcom/example/bytelens/bytelens/ConstantKind;ILcom/example/bytelens/bytelens/ConstantKind;I)Lcom/example/bytelens/bytelens/ConstantKind;"⟩ : MethodName) (head1 (Jvm.Cond.code (⟨"com/example/bytelens/bytelens/ConstantPoolKindPinLaw", "expected", "(IILcom/example/bytelens/bytelens/ConstantKind;ILcom/example/bytelens/bytelens/ConstantKind;I)Lcom/example/bytelens/bytelens/ConstantKind;"⟩ : MethodName) method_4_code 6 (some (.object "com/example/bytelens/bytelens/ConstantKind")) :: ws) ({ frames := 0, cells := 0, slots := 0, locals := 0 } : Room)) (fun a U => a = #[(.int p0), (.int p1), (.ref p2), (.int p3), (.ref p4), (.int p5)] ∧ Z.Warmed39 U.vm ∧ U.heap = h0) (fun _ _ _ _ _ => True) (fun _ U o U' => ∃ v L, o = .returned v ∧ Q_rmExpected Z p0 p1 p2 p3 p4 p5 r h0 n0 v U'.heap L ∧ FrameEnd U o U' L ({ frames := 0, cells := 0, slots := 0, locals := 0 } : Room).cells ({ frames := 0, cells := 0, slots := 0, locals := 0 } : Room).slots) := by
  refine MetFree.of_bodySF (plainFor_of_name pn_com_example_bytelens_bytelens_ConstantPoolKindPinLaw) hisR ?_
  intro p e s m args below meth c s₁ Bd hml0 hP hK
  obtain ⟨rfl, hZ, hh⟩ := hP
  have hx := Bd.exec
  have hby := Bd.bytes
  have hml : c.maxLocals = 6 := hml0
  have hown : s.vm.findClass "com/example/bytelens/bytelens/ConstantPoolKindPinLaw" = some m.cls := findClass_of_methodNamed Bd.named
  have hnm := (name_of_methodNamed Bd.named Bd.method).1
  have X0 : Stand p l e ({ frames := 0, cells := 0, slots := 0, locals := 0 } : Room) s m #[(.int p0), (.int p1), (.ref p2), (.int p3), (.ref p4), (.int p5)] below meth c s₁ [] 0 0 := Stand.of_body Bd
  have e0 : s₁.heap = h0 := by rw [← hh, Bd.state]; rfl
  have N0 := Fr.nil n0
  have pre0 : ∀ t, Steps p.tables e below (s₁.setTop (mkF m 0 #[.val (.int p0), .val (.int p1), .val (.ref p2), .val (.int p3), .val (.ref p4), .val (.int p5)] [])) t → Steps p.tables e below (s₁.setTop (entryFrame m #[(.int p0), (.int p1), (.ref p2), (.int p3), (.ref p4), (.int p5)] 6)) t := fun t k => castTop (ef_rmExpected m p0 p1 p2 p3 p4 p5 ) k
  have pre2 : ∀ t, Steps p.tables e below (s₁.setTop (mkF m 2 #[.val (.int p0), .val (.int p1), .val (.ref p2), .val (.int p3), .val (.ref p4), .val (.int p5)] [(.int p5)])) t → Steps p.tables e below (s₁.setTop (entryFrame m #[(.int p0), (.int p1), (.ref p2), (.int p3), (.ref p4), (.int p5)] 6)) t := fun t kt => pre0 t (by
    show Steps p.tables e below (s₁.setTop (mkF m 0 #[.val (.int p0), .val (.int p1), .val (.ref p2), .val (.int p3), .val (.ref p4), .val (.int p5)] [])) _
    refine XS.iload X0.here hx rfl (hb hby d6_0) rfl  ?_
    exact kt)
  by_cases hc2_1 : p5 < (0 : Int32)
  · obtain ⟨fs, hr, hrun, hended, hW, hsame⟩ := X0.leave (v := some .null) (fun h => by rw [Bd.returns] at h; cases h)
    refine ⟨_, _, pre2 _ ?_, hrun, hended, _, _, rfl, ?_, ⟨_, rfl⟩, hW, hsame.mono (by decide) (by decide)⟩
    · show Steps p.tables e below (s₁.setTop (mkF m 2 #[.val (.int p0), .val (.int p1), .val (.ref p2), .val (.int p3), .val (.ref p4), .val (.int p5)] [(.int p5)])) _
      refine XS.ifYes X0.here hx rfl (pc0 := 2) (pc' := 11) rfl (hb hby d6_2) rfl ((if0 _ _).trans (tlt hc2_1).1) (by decide) (by decide) ?_
      show Steps p.tables e below (s₁.setTop (mkF m 11 #[.val (.int p0), .val (.int p1), .val (.ref p2), .val (.int p3), .val (.ref p4), .val (.int p5)] [])) _
      refine XS.aconstNull X0.here hx rfl (hb hby d6_11) ?_
      show Steps p.tables e below (s₁.setTop (mkF m 12 #[.val (.int p0), .val (.int p1), .val (.ref p2), .val (.int p3), .val (.ref p4), .val (.int p5)] [.null])) _
      jvm_step X0.here [X0.here.top, hx, (hb hby d6_12), X0.method', Bd.returns, Value.isRef, FieldType.isReference]
      first | (intro acts; rw [hr _ acts rfl rfl rfl]) | rw [hr _ _ rfl rfl rfl]
      exact Steps.refl _
    · show Q_rmExpected Z p0 p1 p2 p3 p4 p5 r h0 n0 _ s₁.heap _
      rw [e0]
      exact ⟨by rw [hres]; unfold own_ex; rw [if_pos hc2_1], N0, rfl⟩
  · have pre4 : ∀ t, Steps p.tables e below (s₁.setTop (mkF m 8 #[.val (.int p0), .val (.int p1), .val (.ref p2), .val (.int p3), .val (.ref p4), .val (.int p5)] [(.int p0), (.int p5)])) t → Steps p.tables e below (s₁.setTop (entryFrame m #[(.int p0), (.int p1), (.ref p2), (.int p3), (.ref p4), (.int p5)] 6)) t := fun t kt => pre2 t (by
      show Steps p.tables e below (s₁.setTop (mkF m 2 #[.val (.int p0), .val (.int p1), .val (.ref p2), .val (.int p3), .val (.ref p4), .val (.int p5)] [(.int p5)])) _
      refine XS.ifNo X0.here hx rfl (hb hby d6_2) rfl ((if0 _ _).trans (flt hc2_1).1) ?_
      show Steps p.tables e below (s₁.setTop (mkF m 5 #[.val (.int p0), .val (.int p1), .val (.ref p2), .val (.int p3), .val (.ref p4), .val (.int p5)] [])) _
      refine XS.iload X0.here hx rfl (hb hby d6_5) rfl  ?_
      show Steps p.tables e below (s₁.setTop (mkF m 7 #[.val (.int p0), .val (.int p1), .val (.ref p2), .val (.int p3), .val (.ref p4), .val (.int p5)] [(.int p5)])) _
      refine XS.iloadN X0.here hx rfl (hb hby d6_7) rfl  ?_
      exact kt)
    by_cases hc8_3 : p5 < p0
    · have pre6 : ∀ t, Steps p.tables e below (s₁.setTop (mkF m 15 #[.val (.int p0), .val (.int p1), .val (.ref p2), .val (.int p3), .val (.ref p4), .val (.int p5)] [(.int p0), (.int p3)])) t → Steps p.tables e below (s₁.setTop (entryFrame m #[(.int p0), (.int p1), (.ref p2), (.int p3), (.ref p4), (.int p5)] 6)) t := fun t kt => pre4 t (by
        show Steps p.tables e below (s₁.setTop (mkF m 8 #[.val (.int p0), .val (.int p1), .val (.ref p2), .val (.int p3), .val (.ref p4), .val (.int p5)] [(.int p0), (.int p5)])) _
        refine XS.icmpYes X0.here hx rfl (pc0 := 8) (pc' := 13) rfl (hb hby d6_8) rfl (tlt hc8_3).1 (by decide) (by decide) ?_
        show Steps p.tables e below (s₁.setTop (mkF m 13 #[.val (.int p0), .val (.int p1), .val (.ref p2), .val (.int p3), .val (.ref p4), .val (.int p5)] [])) _
        refine XS.iloadN X0.here hx rfl (hb hby d6_13) rfl  ?_
        show Steps p.tables e below (s₁.setTop (mkF m 14 #[.val (.int p0), .val (.int p1), .val (.ref p2), .val (.int p3), .val (.ref p4), .val (.int p5)] [(.int p3)])) _
        refine XS.iloadN X0.here hx rfl (hb hby d6_14) rfl  ?_
        exact kt)
      by_cases hc15_5 : p3 < p0
      · have pre8 : ∀ t, Steps p.tables e below (s₁.setTop (mkF m 21 #[.val (.int p0), .val (.int p1), .val (.ref p2), .val (.int p3), .val (.ref p4), .val (.int p5)] [(.int p3), (.int p5)])) t → Steps p.tables e below (s₁.setTop (entryFrame m #[(.int p0), (.int p1), (.ref p2), (.int p3), (.ref p4), (.int p5)] 6)) t := fun t kt => pre6 t (by
          show Steps p.tables e below (s₁.setTop (mkF m 15 #[.val (.int p0), .val (.int p1), .val (.ref p2), .val (.int p3), .val (.ref p4), .val (.int p5)] [(.int p0), (.int p3)])) _
          refine XS.icmpNo X0.here hx rfl (hb hby d6_15) rfl (tlt hc15_5).2.1 ?_
          show Steps p.tables e below (s₁.setTop (mkF m 18 #[.val (.int p0), .val (.int p1), .val (.ref p2), .val (.int p3), .val (.ref p4), .val (.int p5)] [])) _
          refine XS.iload X0.here hx rfl (hb hby d6_18) rfl  ?_
          show Steps p.tables e below (s₁.setTop (mkF m 20 #[.val (.int p0), .val (.int p1), .val (.ref p2), .val (.int p3), .val (.ref p4), .val (.int p5)] [(.int p5)])) _
          refine XS.iloadN X0.here hx rfl (hb hby d6_20) rfl  ?_
          exact kt)
        by_cases hc21_7 : p5 = p3
        · obtain ⟨fs, hr, hrun, hended, hW, hsame⟩ := X0.leave (v := some (.ref p4)) (fun h => by rw [Bd.returns] at h; cases h)
          refine ⟨_, _, pre8 _ ?_, hrun, hended, _, _, rfl, ?_, ⟨_, rfl⟩, hW, hsame.mono (by decide) (by decide)⟩
          · show Steps p.tables e below (s₁.setTop (mkF m 21 #[.val (.int p0), .val (.int p1), .val (.ref p2), .val (.int p3), .val (.ref p4), .val (.int p5)] [(.int p3), (.int p5)])) _
            refine XS.icmpNo X0.here hx rfl (hb hby d6_21) rfl (teq hc21_7).2 ?_
            show Steps p.tables e below (s₁.setTop (mkF m 24 #[.val (.int p0), .val (.int p1), .val (.ref p2), .val (.int p3), .val (.ref p4), .val (.int p5)] [])) _
            refine XS.aload X0.here hx rfl (hb hby d6_24) rfl rfl ?_
            show Steps p.tables e below (s₁.setTop (mkF m 26 #[.val (.int p0), .val (.int p1), .val (.ref p2), .val (.int p3), .val (.ref p4), .val (.int p5)] [(.ref p4)])) _
            jvm_step X0.here [X0.here.top, hx, (hb hby d6_26), X0.method', Bd.returns, Value.isRef, FieldType.isReference]
            first | (intro acts; rw [hr _ acts rfl rfl rfl]) | rw [hr _ _ rfl rfl rfl]
            exact Steps.refl _
          · show Q_rmExpected Z p0 p1 p2 p3 p4 p5 r h0 n0 _ s₁.heap _
            rw [e0]
            exact ⟨by rw [hres]; unfold own_ex; rw [if_neg hc2_1, if_pos hc8_3, if_pos ⟨hc15_5, hc21_7⟩], N0, rfl⟩
        · have pre10 : ∀ t, Steps p.tables e below (s₁.setTop (mkF m 29 #[.val (.int p0), .val (.int p1), .val (.ref p2), .val (.int p3), .val (.ref p4), .val (.int p5)] [(.int p0), (.int p1)])) t → Steps p.tables e below (s₁.setTop (entryFrame m #[(.int p0), (.int p1), (.ref p2), (.int p3), (.ref p4), (.int p5)] 6)) t := fun t kt => pre8 t (by
            show Steps p.tables e below (s₁.setTop (mkF m 21 #[.val (.int p0), .val (.int p1), .val (.ref p2), .val (.int p3), .val (.ref p4), .val (.int p5)] [(.int p3), (.int p5)])) _
            refine XS.icmpYes X0.here hx rfl (pc0 := 21) (pc' := 27) rfl (hb hby d6_21) rfl (feq hc21_7).2 (by decide) (by decide) ?_
            show Steps p.tables e below (s₁.setTop (mkF m 27 #[.val (.int p0), .val (.int p1), .val (.ref p2), .val (.int p3), .val (.ref p4), .val (.int p5)] [])) _
            refine XS.iloadN X0.here hx rfl (hb hby d6_27) rfl  ?_
            show Steps p.tables e below (s₁.setTop (mkF m 28 #[.val (.int p0), .val (.int p1), .val (.ref p2), .val (.int p3), .val (.ref p4), .val (.int p5)] [(.int p1)])) _
            refine XS.iloadN X0.here hx rfl (hb hby d6_28) rfl  ?_
            exact kt)
          by_cases hc29_9 : p1 < p0
          · have pre12 : ∀ t, Steps p.tables e below (s₁.setTop (mkF m 35 #[.val (.int p0), .val (.int p1), .val (.ref p2), .val (.int p3), .val (.ref p4), .val (.int p5)] [(.int p1), (.int p5)])) t → Steps p.tables e below (s₁.setTop (entryFrame m #[(.int p0), (.int p1), (.ref p2), (.int p3), (.ref p4), (.int p5)] 6)) t := fun t kt => pre10 t (by
              show Steps p.tables e below (s₁.setTop (mkF m 29 #[.val (.int p0), .val (.int p1), .val (.ref p2), .val (.int p3), .val (.ref p4), .val (.int p5)] [(.int p0), (.int p1)])) _
              refine XS.icmpNo X0.here hx rfl (hb hby d6_29) rfl (tlt hc29_9).2.1 ?_
              show Steps p.tables e below (s₁.setTop (mkF m 32 #[.val (.int p0), .val (.int p1), .val (.ref p2), .val (.int p3), .val (.ref p4), .val (.int p5)] [])) _
              refine XS.iload X0.here hx rfl (hb hby d6_32) rfl  ?_
              show Steps p.tables e below (s₁.setTop (mkF m 34 #[.val (.int p0), .val (.int p1), .val (.ref p2), .val (.int p3), .val (.ref p4), .val (.int p5)] [(.int p5)])) _
              refine XS.iloadN X0.here hx rfl (hb hby d6_34) rfl  ?_
              exact kt)
            by_cases hc35_11 : p5 = p1
            · obtain ⟨fs, hr, hrun, hended, hW, hsame⟩ := X0.leave (v := some (.ref p2)) (fun h => by rw [Bd.returns] at h; cases h)
              refine ⟨_, _, pre12 _ ?_, hrun, hended, _, _, rfl, ?_, ⟨_, rfl⟩, hW, hsame.mono (by decide) (by decide)⟩
              · show Steps p.tables e below (s₁.setTop (mkF m 35 #[.val (.int p0), .val (.int p1), .val (.ref p2), .val (.int p3), .val (.ref p4), .val (.int p5)] [(.int p1), (.int p5)])) _
                refine XS.icmpNo X0.here hx rfl (hb hby d6_35) rfl (teq hc35_11).2 ?_
                show Steps p.tables e below (s₁.setTop (mkF m 38 #[.val (.int p0), .val (.int p1), .val (.ref p2), .val (.int p3), .val (.ref p4), .val (.int p5)] [])) _
                refine XS.aloadN X0.here hx rfl (hb hby d6_38) rfl rfl ?_
                show Steps p.tables e below (s₁.setTop (mkF m 39 #[.val (.int p0), .val (.int p1), .val (.ref p2), .val (.int p3), .val (.ref p4), .val (.int p5)] [(.ref p2)])) _
                jvm_step X0.here [X0.here.top, hx, (hb hby d6_39), X0.method', Bd.returns, Value.isRef, FieldType.isReference]
                first | (intro acts; rw [hr _ acts rfl rfl rfl]) | rw [hr _ _ rfl rfl rfl]
                exact Steps.refl _
              · show Q_rmExpected Z p0 p1 p2 p3 p4 p5 r h0 n0 _ s₁.heap _
                rw [e0]
                exact ⟨by rw [hres]; unfold own_ex; rw [if_neg hc2_1, if_pos hc8_3, if_neg (fun q => hc21_7 q.2), if_pos ⟨hc29_9, hc35_11⟩], N0, rfl⟩
            · obtain ⟨fs, hr, hrun, hended, hW, hsame⟩ := X0.leave (v := some .null) (fun h => by rw [Bd.returns] at h; cases h)
              refine ⟨_, _, pre12 _ ?_, hrun, hended, _, _, rfl, ?_, ⟨_, rfl⟩, hW, hsame.mono (by decide) (by decide)⟩
              · show Steps p.tables e below (s₁.setTop (mkF m 35 #[.val (.int p0), .val (.int p1), .val (.ref p2), .val (.int p3), .val (.ref p4), .val (.int p5)] [(.int p1), (.int p5)])) _
                refine XS.icmpYes X0.here hx rfl (pc0 := 35) (pc' := 40) rfl (hb hby d6_35) rfl (feq hc35_11).2 (by decide) (by decide) ?_
                show Steps p.tables e below (s₁.setTop (mkF m 40 #[.val (.int p0), .val (.int p1), .val (.ref p2), .val (.int p3), .val (.ref p4), .val (.int p5)] [])) _
                refine XS.aconstNull X0.here hx rfl (hb hby d6_40) ?_
                show Steps p.tables e below (s₁.setTop (mkF m 41 #[.val (.int p0), .val (.int p1), .val (.ref p2), .val (.int p3), .val (.ref p4), .val (.int p5)] [.null])) _
                jvm_step X0.here [X0.here.top, hx, (hb hby d6_41), X0.method', Bd.returns, Value.isRef, FieldType.isReference]
                first | (intro acts; rw [hr _ acts rfl rfl rfl]) | rw [hr _ _ rfl rfl rfl]
                exact Steps.refl _
              · show Q_rmExpected Z p0 p1 p2 p3 p4 p5 r h0 n0 _ s₁.heap _
                rw [e0]
                exact ⟨by rw [hres]; unfold own_ex; rw [if_neg hc2_1, if_pos hc8_3, if_neg (fun q => hc21_7 q.2), if_neg (fun q => hc35_11 q.2)], N0, rfl⟩
          · obtain ⟨fs, hr, hrun, hended, hW, hsame⟩ := X0.leave (v := some .null) (fun h => by rw [Bd.returns] at h; cases h)
            refine ⟨_, _, pre10 _ ?_, hrun, hended, _, _, rfl, ?_, ⟨_, rfl⟩, hW, hsame.mono (by decide) (by decide)⟩
            · show Steps p.tables e below (s₁.setTop (mkF m 29 #[.val (.int p0), .val (.int p1), .val (.ref p2), .val (.int p3), .val (.ref p4), .val (.int p5)] [(.int p0), (.int p1)])) _
              refine XS.icmpYes X0.here hx rfl (pc0 := 29) (pc' := 40) rfl (hb hby d6_29) rfl (flt hc29_9).2.1 (by decide) (by decide) ?_
              show Steps p.tables e below (s₁.setTop (mkF m 40 #[.val (.int p0), .val (.int p1), .val (.ref p2), .val (.int p3), .val (.ref p4), .val (.int p5)] [])) _
              refine XS.aconstNull X0.here hx rfl (hb hby d6_40) ?_
              show Steps p.tables e below (s₁.setTop (mkF m 41 #[.val (.int p0), .val (.int p1), .val (.ref p2), .val (.int p3), .val (.ref p4), .val (.int p5)] [.null])) _
              jvm_step X0.here [X0.here.top, hx, (hb hby d6_41), X0.method', Bd.returns, Value.isRef, FieldType.isReference]
              first | (intro acts; rw [hr _ acts rfl rfl rfl]) | rw [hr _ _ rfl rfl rfl]
              exact Steps.refl _
            · show Q_rmExpected Z p0 p1 p2 p3 p4 p5 r h0 n0 _ s₁.heap _
              rw [e0]
              exact ⟨by rw [hres]; unfold own_ex; rw [if_neg hc2_1, if_pos hc8_3, if_neg (fun q => hc21_7 q.2), if_neg (fun q => hc29_9 q.1)], N0, rfl⟩
      · have pre14 : ∀ t, Steps p.tables e below (s₁.setTop (mkF m 29 #[.val (.int p0), .val (.int p1), .val (.ref p2), .val (.int p3), .val (.ref p4), .val (.int p5)] [(.int p0), (.int p1)])) t → Steps p.tables e below (s₁.setTop (entryFrame m #[(.int p0), (.int p1), (.ref p2), (.int p3), (.ref p4), (.int p5)] 6)) t := fun t kt => pre6 t (by
          show Steps p.tables e below (s₁.setTop (mkF m 15 #[.val (.int p0), .val (.int p1), .val (.ref p2), .val (.int p3), .val (.ref p4), .val (.int p5)] [(.int p0), (.int p3)])) _
          refine XS.icmpYes X0.here hx rfl (pc0 := 15) (pc' := 27) rfl (hb hby d6_15) rfl (flt hc15_5).2.1 (by decide) (by decide) ?_
          show Steps p.tables e below (s₁.setTop (mkF m 27 #[.val (.int p0), .val (.int p1), .val (.ref p2), .val (.int p3), .val (.ref p4), .val (.int p5)] [])) _
          refine XS.iloadN X0.here hx rfl (hb hby d6_27) rfl  ?_
          show Steps p.tables e below (s₁.setTop (mkF m 28 #[.val (.int p0), .val (.int p1), .val (.ref p2), .val (.int p3), .val (.ref p4), .val (.int p5)] [(.int p1)])) _
          refine XS.iloadN X0.here hx rfl (hb hby d6_28) rfl  ?_
          exact kt)
        by_cases hc29_13 : p1 < p0
        · have pre16 : ∀ t, Steps p.tables e below (s₁.setTop (mkF m 35 #[.val (.int p0), .val (.int p1), .val (.ref p2), .val (.int p3), .val (.ref p4), .val (.int p5)] [(.int p1), (.int p5)])) t → Steps p.tables e below (s₁.setTop (entryFrame m #[(.int p0), (.int p1), (.ref p2), (.int p3), (.ref p4), (.int p5)] 6)) t := fun t kt => pre14 t (by
            show Steps p.tables e below (s₁.setTop (mkF m 29 #[.val (.int p0), .val (.int p1), .val (.ref p2), .val (.int p3), .val (.ref p4), .val (.int p5)] [(.int p0), (.int p1)])) _
            refine XS.icmpNo X0.here hx rfl (hb hby d6_29) rfl (tlt hc29_13).2.1 ?_
            show Steps p.tables e below (s₁.setTop (mkF m 32 #[.val (.int p0), .val (.int p1), .val (.ref p2), .val (.int p3), .val (.ref p4), .val (.int p5)] [])) _
            refine XS.iload X0.here hx rfl (hb hby d6_32) rfl  ?_
            show Steps p.tables e below (s₁.setTop (mkF m 34 #[.val (.int p0), .val (.int p1), .val (.ref p2), .val (.int p3), .val (.ref p4), .val (.int p5)] [(.int p5)])) _
            refine XS.iloadN X0.here hx rfl (hb hby d6_34) rfl  ?_
            exact kt)
          by_cases hc35_15 : p5 = p1
          · obtain ⟨fs, hr, hrun, hended, hW, hsame⟩ := X0.leave (v := some (.ref p2)) (fun h => by rw [Bd.returns] at h; cases h)
            refine ⟨_, _, pre16 _ ?_, hrun, hended, _, _, rfl, ?_, ⟨_, rfl⟩, hW, hsame.mono (by decide) (by decide)⟩
            · show Steps p.tables e below (s₁.setTop (mkF m 35 #[.val (.int p0), .val (.int p1), .val (.ref p2), .val (.int p3), .val (.ref p4), .val (.int p5)] [(.int p1), (.int p5)])) _
              refine XS.icmpNo X0.here hx rfl (hb hby d6_35) rfl (teq hc35_15).2 ?_
              show Steps p.tables e below (s₁.setTop (mkF m 38 #[.val (.int p0), .val (.int p1), .val (.ref p2), .val (.int p3), .val (.ref p4), .val (.int p5)] [])) _
              refine XS.aloadN X0.here hx rfl (hb hby d6_38) rfl rfl ?_
              show Steps p.tables e below (s₁.setTop (mkF m 39 #[.val (.int p0), .val (.int p1), .val (.ref p2), .val (.int p3), .val (.ref p4), .val (.int p5)] [(.ref p2)])) _
              jvm_step X0.here [X0.here.top, hx, (hb hby d6_39), X0.method', Bd.returns, Value.isRef, FieldType.isReference]
              first | (intro acts; rw [hr _ acts rfl rfl rfl]) | rw [hr _ _ rfl rfl rfl]
              exact Steps.refl _
            · show Q_rmExpected Z p0 p1 p2 p3 p4 p5 r h0 n0 _ s₁.heap _
              rw [e0]
              exact ⟨by rw [hres]; unfold own_ex; rw [if_neg hc2_1, if_pos hc8_3, if_neg (fun q => hc15_5 q.1), if_pos ⟨hc29_13, hc35_15⟩], N0, rfl⟩
          · obtain ⟨fs, hr, hrun, hended, hW, hsame⟩ := X0.leave (v := some .null) (fun h => by rw [Bd.returns] at h; cases h)
            refine ⟨_, _, pre16 _ ?_, hrun, hended, _, _, rfl, ?_, ⟨_, rfl⟩, hW, hsame.mono (by decide) (by decide)⟩
            · show Steps p.tables e below (s₁.setTop (mkF m 35 #[.val (.int p0), .val (.int p1), .val (.ref p2), .val (.int p3), .val (.ref p4), .val (.int p5)] [(.int p1), (.int p5)])) _
              refine XS.icmpYes X0.here hx rfl (pc0 := 35) (pc' := 40) rfl (hb hby d6_35) rfl (feq hc35_15).2 (by decide) (by decide) ?_
              show Steps p.tables e below (s₁.setTop (mkF m 40 #[.val (.int p0), .val (.int p1), .val (.ref p2), .val (.int p3), .val (.ref p4), .val (.int p5)] [])) _
              refine XS.aconstNull X0.here hx rfl (hb hby d6_40) ?_
              show Steps p.tables e below (s₁.setTop (mkF m 41 #[.val (.int p0), .val (.int p1), .val (.ref p2), .val (.int p3), .val (.ref p4), .val (.int p5)] [.null])) _
              jvm_step X0.here [X0.here.top, hx, (hb hby d6_41), X0.method', Bd.returns, Value.isRef, FieldType.isReference]
              first | (intro acts; rw [hr _ acts rfl rfl rfl]) | rw [hr _ _ rfl rfl rfl]
              exact Steps.refl _
            · show Q_rmExpected Z p0 p1 p2 p3 p4 p5 r h0 n0 _ s₁.heap _
              rw [e0]
              exact ⟨by rw [hres]; unfold own_ex; rw [if_neg hc2_1, if_pos hc8_3, if_neg (fun q => hc15_5 q.1), if_neg (fun q => hc35_15 q.2)], N0, rfl⟩
        · obtain ⟨fs, hr, hrun, hended, hW, hsame⟩ := X0.leave (v := some .null) (fun h => by rw [Bd.returns] at h; cases h)
          refine ⟨_, _, pre14 _ ?_, hrun, hended, _, _, rfl, ?_, ⟨_, rfl⟩, hW, hsame.mono (by decide) (by decide)⟩
          · show Steps p.tables e below (s₁.setTop (mkF m 29 #[.val (.int p0), .val (.int p1), .val (.ref p2), .val (.int p3), .val (.ref p4), .val (.int p5)] [(.int p0), (.int p1)])) _
            refine XS.icmpYes X0.here hx rfl (pc0 := 29) (pc' := 40) rfl (hb hby d6_29) rfl (flt hc29_13).2.1 (by decide) (by decide) ?_
            show Steps p.tables e below (s₁.setTop (mkF m 40 #[.val (.int p0), .val (.int p1), .val (.ref p2), .val (.int p3), .val (.ref p4), .val (.int p5)] [])) _
            refine XS.aconstNull X0.here hx rfl (hb hby d6_40) ?_
            show Steps p.tables e below (s₁.setTop (mkF m 41 #[.val (.int p0), .val (.int p1), .val (.ref p2), .val (.int p3), .val (.ref p4), .val (.int p5)] [.null])) _
            jvm_step X0.here [X0.here.top, hx, (hb hby d6_41), X0.method', Bd.returns, Value.isRef, FieldType.isReference]
            first | (intro acts; rw [hr _ acts rfl rfl rfl]) | rw [hr _ _ rfl rfl rfl]
            exact Steps.refl _
          · show Q_rmExpected Z p0 p1 p2 p3 p4 p5 r h0 n0 _ s₁.heap _
            rw [e0]
            exact ⟨by rw [hres]; unfold own_ex; rw [if_neg hc2_1, if_pos hc8_3, if_neg (fun q => hc15_5 q.1), if_neg (fun q => hc29_13 q.1)], N0, rfl⟩
    · obtain ⟨fs, hr, hrun, hended, hW, hsame⟩ := X0.leave (v := some .null) (fun h => by rw [Bd.returns] at h; cases h)
      refine ⟨_, _, pre4 _ ?_, hrun, hended, _, _, rfl, ?_, ⟨_, rfl⟩, hW, hsame.mono (by decide) (by decide)⟩
      · show Steps p.tables e below (s₁.setTop (mkF m 8 #[.val (.int p0), .val (.int p1), .val (.ref p2), .val (.int p3), .val (.ref p4), .val (.int p5)] [(.int p0), (.int p5)])) _
        refine XS.icmpNo X0.here hx rfl (hb hby d6_8) rfl (flt hc8_3).1 ?_
        show Steps p.tables e below (s₁.setTop (mkF m 11 #[.val (.int p0), .val (.int p1), .val (.ref p2), .val (.int p3), .val (.ref p4), .val (.int p5)] [])) _
        refine XS.aconstNull X0.here hx rfl (hb hby d6_11) ?_
        show Steps p.tables e below (s₁.setTop (mkF m 12 #[.val (.int p0), .val (.int p1), .val (.ref p2), .val (.int p3), .val (.ref p4), .val (.int p5)] [.null])) _
        jvm_step X0.here [X0.here.top, hx, (hb hby d6_12), X0.method', Bd.returns, Value.isRef, FieldType.isReference]
        first | (intro acts; rw [hr _ acts rfl rfl rfl]) | rw [hr _ _ rfl rfl rfl]
        exact Steps.refl _
      · show Q_rmExpected Z p0 p1 p2 p3 p4 p5 r h0 n0 _ s₁.heap _
        rw [e0]
        exact ⟨by rw [hres]; unfold own_ex; rw [if_neg hc2_1, if_neg hc8_3], N0, rfl⟩
theorem ef_rmInit2 (m : MethodId) (p0 : Addr) (p1 : Addr) (p2 : Addr) (p3 : Addr) (p4 : Addr) (p5 : Addr) : entryFrame m #[(.ref p0), (.ref p1), (.ref p2), (.ref p3), (.ref p4), (.ref p5), (.int (0 : Int32))] 7 = mkF m 0 #[.val (.ref p0), .val (.ref p1), .val (.ref p2), .val (.ref p3), .val (.ref p4), .val (.ref p5), .val (.int (0 : Int32))] [] := by first | (simp [entryFrame, mkF, argsToLocals, Value.category]; done) | rfl
theorem d3_0 : decode prog_64_method_2_code 0 = .ok (.aload_n 0, 1) := by decide +kernel
theorem d3_1 : decode prog_64_method_2_code 1 = .ok (.invokespecial 11, 3) := by decide +kernel
theorem d3_4 : decode prog_64_method_2_code 4 = .ok (.aload_n 0, 1) := by decide +kernel
theorem d3_5 : decode prog_64_method_2_code 5 = .ok (.aload_n 1, 1) := by decide +kernel
theorem d3_6 : decode prog_64_method_2_code 6 = .ok (.putfield 16, 3) := by decide +kernel
theorem d3_9 : decode prog_64_method_2_code 9 = .ok (.aload_n 0, 1) := by decide +kernel
theorem d3_10 : decode prog_64_method_2_code 10 = .ok (.aload_n 2, 1) := by decide +kernel
theorem d3_11 : decode prog_64_method_2_code 11 = .ok (.putfield 20, 3) := by decide +kernel
theorem d3_14 : decode prog_64_method_2_code 14 = .ok (.aload_n 0, 1) := by decide +kernel
theorem d3_15 : decode prog_64_method_2_code 15 = .ok (.aload_n 3, 1) := by decide +kernel
theorem d3_16 : decode prog_64_method_2_code 16 = .ok (.putfield 24, 3) := by decide +kernel
theorem d3_19 : decode prog_64_method_2_code 19 = .ok (.aload_n 0, 1) := by decide +kernel
theorem d3_20 : decode prog_64_method_2_code 20 = .ok (.aload 4, 2) := by decide +kernel
theorem d3_22 : decode prog_64_method_2_code 22 = .ok (.putfield 27, 3) := by decide +kernel
theorem d3_25 : decode prog_64_method_2_code 25 = .ok (.aload_n 0, 1) := by decide +kernel
theorem d3_26 : decode prog_64_method_2_code 26 = .ok (.aload 5, 2) := by decide +kernel
theorem d3_28 : decode prog_64_method_2_code 28 = .ok (.putfield 30, 3) := by decide +kernel
theorem d3_31 : decode prog_64_method_2_code 31 = .ok (.aload_n 0, 1) := by decide +kernel
theorem d3_32 : decode prog_64_method_2_code 32 = .ok (.iload 6, 2) := by decide +kernel
theorem d3_34 : decode prog_64_method_2_code 34 = .ok (.putfield 34, 3) := by decide +kernel
theorem d3_37 : decode prog_64_method_2_code 37 = .ok (.return_, 1) := by decide +kernel
def Q_rmInit2 (Z : State) (p0 : Addr) (p1 : Addr) (p2 : Addr) (p3 : Addr) (p4 : Addr) (p5 : Addr) (h0 : Heap) (n0 : Nat) (v : Option Value) (h : Heap) (L : List Loc) : Prop := v = none ∧ Fr n0 L ∧ Keep h0 h [p0] ∧ Fld Z h p0 "com/example/bytelens/bytelens/ConstantPool" "kinds" "[Lcom/example/bytelens/bytelens/ConstantKind;" (.ref p1) ∧ Fld Z h p0 "com/example/bytelens/bytelens/ConstantPool" "offsets" "[I" (.ref p2) ∧ Fld Z h p0 "com/example/bytelens/bytelens/ConstantPool" "firsts" "[I" (.ref p3) ∧ Fld Z h p0 "com/example/bytelens/bytelens/ConstantPool" "seconds" "[I" (.ref p4) ∧ Fld Z h p0 "com/example/bytelens/bytelens/ConstantPool" "texts" "[Ljava/lang/String;" (.ref p5)
set_option maxRecDepth 65536 in
set_option maxHeartbeats 40000000 in
theorem rmInit2 (l : Launch) (Z : State) (a0 : Array Value) (hw : ∀ d ∈ tables_1, d.before a0 Z = true) (ws : List Jvm.Cond) (p0 : Addr) (p1 : Addr) (p2 : Addr) (p3 : Addr) (p4 : Addr) (p5 : Addr) (h0 : Heap) (n0 : Nat) (Z0 : n0 ≤ h0.size) (E0 : Exa Z h0 p0 "com/example/bytelens/bytelens/ConstantPool") (F_kinds : Fld Z h0 p0 "com/example/bytelens/bytelens/ConstantPool" "kinds" "[Lcom/example/bytelens/bytelens/ConstantKind;" .null) (F_offsets : Fld Z h0 p0 "com/example/bytelens/bytelens/ConstantPool" "offsets" "[I" .null) (F_firsts : Fld Z h0 p0 "com/example/bytelens/bytelens/ConstantPool" "firsts" "[I" .null) (F_seconds : Fld Z h0 p0 "com/example/bytelens/bytelens/ConstantPool" "seconds" "[I" .null) (F_texts : Fld Z h0 p0 "com/example/bytelens/bytelens/ConstantPool" "texts" "[Ljava/lang/String;" .null) (F_checked : Fld Z h0 p0 "com/example/bytelens/bytelens/ConstantPool" "checked" "Z" (.int (0 : Int32))) (g0 : n0 ≤ p0) :
    MetFree l (⟨"com/example/bytelens/bytelens/ConstantPool", "<init>", "([Lcom/example/bytelens/bytelens/ConstantKind;[I[I[I[Ljava/lang/String;Z)V"⟩ : MethodName) (head1 (Jvm.Cond.code (⟨"com/example/bytelens/bytelens/ConstantPool", "<init>", "([Lcom/example/bytelens/bytelens/ConstantKind;[I[I[I[Ljava/lang/String;Z)V"⟩ : MethodName) prog_64_method_2_code 7 none :: ws) ({ frames := 1, cells := 0, slots := 0, locals := 12 } : Room)) (fun a U => a = #[(.ref p0), (.ref p1), (.ref p2), (.ref p3), (.ref p4), (.ref p5), (.int (0 : Int32))] ∧ Z.Warmed39 U.vm ∧ U.heap = h0) (fun _ _ _ _ _ => True) (fun _ U o U' => ∃ v L, o = .returned v ∧ Q_rmInit2 Z p0 p1 p2 p3 p4 p5 h0 n0 v U'.heap L ∧ FrameEnd U o U' L ({ frames := 1, cells := 0, slots := 0, locals := 12 } : Room).cells ({ frames := 1, cells := 0, slots := 0, locals := 12 } : Room).slots) := by
  refine MetFree.of_bodySF (plainFor_of_name pn_com_example_bytelens_bytelens_ConstantPool) hisR ?_
  intro p e s m args below meth c s₁ Bd hml0 hP hK
  obtain ⟨rfl, hZ, hh⟩ := hP
  have hx := Bd.exec
  have hby := Bd.bytes
  have hml : c.maxLocals = 7 := hml0
  have hown : s.vm.findClass "com/example/bytelens/bytelens/ConstantPool" = some m.cls := findClass_of_methodNamed Bd.named
  have hnm := (name_of_methodNamed Bd.named Bd.method).1
  have X0 : Stand p l e ({ frames := 1, cells := 0, slots := 0, locals := 12 } : Room) s m #[(.ref p0), (.ref p1), (.ref p2), (.ref p3), (.ref p4), (.ref p5), (.int (0 : Int32))] below meth c s₁ [] 0 0 := Stand.of_body Bd
  have e0 : s₁.heap = h0 := by rw [← hh, Bd.state]; rfl
  have N0 := Fr.nil n0
  have pre0 : ∀ t, Steps p.tables e below (s₁.setTop (mkF m 0 #[.val (.ref p0), .val (.ref p1), .val (.ref p2), .val (.ref p3), .val (.ref p4), .val (.ref p5), .val (.int (0 : Int32))] [])) t → Steps p.tables e below (s₁.setTop (entryFrame m #[(.ref p0), (.ref p1), (.ref p2), (.ref p3), (.ref p4), (.ref p5), (.int (0 : Int32))] 7)) t := fun t k => castTop (ef_rmInit2 m p0 p1 p2 p3 p4 p5 ) k
  obtain ⟨T1, X1, e1, st1⟩ := initO X0 hx hZ hown (hw _ (List.mem_of_getElem? (i := 23) rfl)) (hw _ (List.mem_of_getElem? (i := 24) rfl)) (hw _ (List.mem_of_getElem? (i := 25) rfl)) e0 (g := (mkF m 1 #[.val (.ref p0), .val (.ref p1), .val (.ref p2), .val (.ref p3), .val (.ref p4), .val (.ref p5), .val (.int (0 : Int32))] [(.ref p0)])) rfl (by rw [hml]; rfl) rfl (hb hby d3_1) (by decide) (W := 0) (by show 2 * 0 + _ ≤ _; exact Nat.le_of_eq rfl) (by decide)
  obtain ⟨T2, h2, X2, e2, W2, st2⟩ := putF X1 hx hZ hown (host := "") (Or.inl (hw _ (List.mem_of_getElem? (i := 26) rfl))) Via.refl e1 F_kinds E0 (Or.inr ⟨(hw _ (List.mem_of_getElem? (i := 27) rfl)), rfl, hnm⟩) (hw _ (List.mem_of_getElem? (i := 10) rfl)) (ty := (.array (.object "com/example/bytelens/bytelens/ConstantKind"))) (by decide) rfl rfl (g := (mkF m 6 #[.val (.ref p0), .val (.ref p1), .val (.ref p2), .val (.ref p3), .val (.ref p4), .val (.ref p5), .val (.int (0 : Int32))] [(.ref p1), (.ref p0)])) rfl rfl (hb hby d3_6)
  have Fw2 := F_kinds.same W2
  have N2 := Fr.snoc X2 N0 g0
  have K2 := (Keep.refl h0 [p0]).wr W2 (Or.inl (List.mem_of_getElem? (i := 0) rfl))
  have f3 := (E0.wr W2)
  have f4 := (F_offsets.other W2 (Or.inr (slot_ne (Or.inr (hw _ (List.mem_of_getElem? (i := 29) rfl))) (Or.inr (hw _ (List.mem_of_getElem? (i := 27) rfl))) (by decide) (t := (.array .int)) (t' := (.array (.object "com/example/bytelens/bytelens/ConstantKind"))) (by decide) (by decide))))
  obtain ⟨T5, h5, X5, e5, W5, st5⟩ := putF X2 hx hZ hown (host := "") (Or.inl (hw _ (List.mem_of_getElem? (i := 28) rfl))) Via.refl e2 f4 f3 (Or.inr ⟨(hw _ (List.mem_of_getElem? (i := 29) rfl)), rfl, hnm⟩) (hw _ (List.mem_of_getElem? (i := 10) rfl)) (ty := (.array .int)) (by decide) rfl rfl (g := (mkF m 11 #[.val (.ref p0), .val (.ref p1), .val (.ref p2), .val (.ref p3), .val (.ref p4), .val (.ref p5), .val (.int (0 : Int32))] [(.ref p2), (.ref p0)])) rfl rfl (hb hby d3_11)
  have Fw5 := f4.same W5
  have N5 := Fr.snoc X5 N2 g0
  have K5 := K2.wr W5 (Or.inl (List.mem_of_getElem? (i := 0) rfl))
  have f6 := (f3.wr W5)
  have f7 := ((F_firsts.other W2 (Or.inr (slot_ne (Or.inr (hw _ (List.mem_of_getElem? (i := 31) rfl))) (Or.inr (hw _ (List.mem_of_getElem? (i := 27) rfl))) (by decide) (t := (.array .int)) (t' := (.array (.object "com/example/bytelens/bytelens/ConstantKind"))) (by decide) (by decide)))).other W5 (Or.inr (slot_ne (Or.inr (hw _ (List.mem_of_getElem? (i := 31) rfl))) (Or.inr (hw _ (List.mem_of_getElem? (i := 29) rfl))) (by decide) (t := (.array .int)) (t' := (.array .int)) (by decide) (by decide))))
  obtain ⟨T8, h8, X8, e8, W8, st8⟩ := putF X5 hx hZ hown (host := "") (Or.inl (hw _ (List.mem_of_getElem? (i := 30) rfl))) Via.refl e5 f7 f6 (Or.inr ⟨(hw _ (List.mem_of_getElem? (i := 31) rfl)), rfl, hnm⟩) (hw _ (List.mem_of_getElem? (i := 10) rfl)) (ty := (.array .int)) (by decide) rfl rfl (g := (mkF m 16 #[.val (.ref p0), .val (.ref p1), .val (.ref p2), .val (.ref p3), .val (.ref p4), .val (.ref p5), .val (.int (0 : Int32))] [(.ref p3), (.ref p0)])) rfl rfl (hb hby d3_16)
  have Fw8 := f7.same W8
  have N8 := Fr.snoc X8 N5 g0
  have K8 := K5.wr W8 (Or.inl (List.mem_of_getElem? (i := 0) rfl))
  have f9 := (f6.wr W8)
  have f10 := (((F_seconds.other W2 (Or.inr (slot_ne (Or.inr (hw _ (List.mem_of_getElem? (i := 33) rfl))) (Or.inr (hw _ (List.mem_of_getElem? (i := 27) rfl))) (by decide) (t := (.array .int)) (t' := (.array (.object "com/example/bytelens/bytelens/ConstantKind"))) (by decide) (by decide)))).other W5 (Or.inr (slot_ne (Or.inr (hw _ (List.mem_of_getElem? (i := 33) rfl))) (Or.inr (hw _ (List.mem_of_getElem? (i := 29) rfl))) (by decide) (t := (.array .int)) (t' := (.array .int)) (by decide) (by decide)))).other W8 (Or.inr (slot_ne (Or.inr (hw _ (List.mem_of_getElem? (i := 33) rfl))) (Or.inr (hw _ (List.mem_of_getElem? (i := 31) rfl))) (by decide) (t := (.array .int)) (t' := (.array .int)) (by decide) (by decide))))
  obtain ⟨T11, h11, X11, e11, W11, st11⟩ := putF X8 hx hZ hown (host := "") (Or.inl (hw _ (List.mem_of_getElem? (i := 32) rfl))) Via.refl e8 f10 f9 (Or.inr ⟨(hw _ (List.mem_of_getElem? (i := 33) rfl)), rfl, hnm⟩) (hw _ (List.mem_of_getElem? (i := 10) rfl)) (ty := (.array .int)) (by decide) rfl rfl (g := (mkF m 22 #[.val (.ref p0), .val (.ref p1), .val (.ref p2), .val (.ref p3), .val (.ref p4), .val (.ref p5), .val (.int (0 : Int32))] [(.ref p4), (.ref p0)])) rfl rfl (hb hby d3_22)
  have Fw11 := f10.same W11
  have N11 := Fr.snoc X11 N8 g0
  have K11 := K8.wr W11 (Or.inl (List.mem_of_getElem? (i := 0) rfl))
  have f12 := (f9.wr W11)
  have f13 := ((((F_texts.other W2 (Or.inr (slot_ne (Or.inr (hw _ (List.mem_of_getElem? (i := 35) rfl))) (Or.inr (hw _ (List.mem_of_getElem? (i := 27) rfl))) (by decide) (t := (.array (.object "java/lang/String"))) (t' := (.array (.object "com/example/bytelens/bytelens/ConstantKind"))) (by decide) (by decide)))).other W5 (Or.inr (slot_ne (Or.inr (hw _ (List.mem_of_getElem? (i := 35) rfl))) (Or.inr (hw _ (List.mem_of_getElem? (i := 29) rfl))) (by decide) (t := (.array (.object "java/lang/String"))) (t' := (.array .int)) (by decide) (by decide)))).other W8 (Or.inr (slot_ne (Or.inr (hw _ (List.mem_of_getElem? (i := 35) rfl))) (Or.inr (hw _ (List.mem_of_getElem? (i := 31) rfl))) (by decide) (t := (.array (.object "java/lang/String"))) (t' := (.array .int)) (by decide) (by decide)))).other W11 (Or.inr (slot_ne (Or.inr (hw _ (List.mem_of_getElem? (i := 35) rfl))) (Or.inr (hw _ (List.mem_of_getElem? (i := 33) rfl))) (by decide) (t := (.array (.object "java/lang/String"))) (t' := (.array .int)) (by decide) (by decide))))
  obtain ⟨T14, h14, X14, e14, W14, st14⟩ := putF X11 hx hZ hown (host := "") (Or.inl (hw _ (List.mem_of_getElem? (i := 34) rfl))) Via.refl e11 f13 f12 (Or.inr ⟨(hw _ (List.mem_of_getElem? (i := 35) rfl)), rfl, hnm⟩) (hw _ (List.mem_of_getElem? (i := 10) rfl)) (ty := (.array (.object "java/lang/String"))) (by decide) rfl rfl (g := (mkF m 28 #[.val (.ref p0), .val (.ref p1), .val (.ref p2), .val (.ref p3), .val (.ref p4), .val (.ref p5), .val (.int (0 : Int32))] [(.ref p5), (.ref p0)])) rfl rfl (hb hby d3_28)
  have Fw14 := f13.same W14
  have N14 := Fr.snoc X14 N11 g0
  have K14 := K11.wr W14 (Or.inl (List.mem_of_getElem? (i := 0) rfl))
  have f15 := (f12.wr W14)
  have f16 := (((((F_checked.other W2 (Or.inr (slot_ne (Or.inr (hw _ (List.mem_of_getElem? (i := 37) rfl))) (Or.inr (hw _ (List.mem_of_getElem? (i := 27) rfl))) (by decide) (t := .boolean) (t' := (.array (.object "com/example/bytelens/bytelens/ConstantKind"))) (by decide) (by decide)))).other W5 (Or.inr (slot_ne (Or.inr (hw _ (List.mem_of_getElem? (i := 37) rfl))) (Or.inr (hw _ (List.mem_of_getElem? (i := 29) rfl))) (by decide) (t := .boolean) (t' := (.array .int)) (by decide) (by decide)))).other W8 (Or.inr (slot_ne (Or.inr (hw _ (List.mem_of_getElem? (i := 37) rfl))) (Or.inr (hw _ (List.mem_of_getElem? (i := 31) rfl))) (by decide) (t := .boolean) (t' := (.array .int)) (by decide) (by decide)))).other W11 (Or.inr (slot_ne (Or.inr (hw _ (List.mem_of_getElem? (i := 37) rfl))) (Or.inr (hw _ (List.mem_of_getElem? (i := 33) rfl))) (by decide) (t := .boolean) (t' := (.array .int)) (by decide) (by decide)))).other W14 (Or.inr (slot_ne (Or.inr (hw _ (List.mem_of_getElem? (i := 37) rfl))) (Or.inr (hw _ (List.mem_of_getElem? (i := 35) rfl))) (by decide) (t := .boolean) (t' := (.array (.object "java/lang/String"))) (by decide) (by decide))))
  obtain ⟨T17, h17, X17, e17, W17, st17⟩ := putFN X14 hx hZ hown (hw _ (List.mem_of_getElem? (i := 36) rfl)) Via.refl e14 f16 f15 (Or.inr ⟨(hw _ (List.mem_of_getElem? (i := 37) rfl)), rfl, hnm⟩) (hw _ (List.mem_of_getElem? (i := 10) rfl)) (ty := .boolean) (v' := (.int (0 : Int32))) (by decide) rfl (by decide) (g := (mkF m 34 #[.val (.ref p0), .val (.ref p1), .val (.ref p2), .val (.ref p3), .val (.ref p4), .val (.ref p5), .val (.int (0 : Int32))] [(.int (0 : Int32)), (.ref p0)])) rfl rfl (hb hby d3_34)
  have Fw17 := f16.same W17
  have N17 := Fr.snoc X17 N14 g0
  have K17 := K14.wr W17 (Or.inl (List.mem_of_getElem? (i := 0) rfl))
  have f18 := (((((Fw2.other W5 (Or.inr (slot_ne (Or.inr (hw _ (List.mem_of_getElem? (i := 27) rfl))) (Or.inr (hw _ (List.mem_of_getElem? (i := 29) rfl))) (by decide) (t := (.array (.object "com/example/bytelens/bytelens/ConstantKind"))) (t' := (.array .int)) (by decide) (by decide)))).other W8 (Or.inr (slot_ne (Or.inr (hw _ (List.mem_of_getElem? (i := 27) rfl))) (Or.inr (hw _ (List.mem_of_getElem? (i := 31) rfl))) (by decide) (t := (.array (.object "com/example/bytelens/bytelens/ConstantKind"))) (t' := (.array .int)) (by decide) (by decide)))).other W11 (Or.inr (slot_ne (Or.inr (hw _ (List.mem_of_getElem? (i := 27) rfl))) (Or.inr (hw _ (List.mem_of_getElem? (i := 33) rfl))) (by decide) (t := (.array (.object "com/example/bytelens/bytelens/ConstantKind"))) (t' := (.array .int)) (by decide) (by decide)))).other W14 (Or.inr (slot_ne (Or.inr (hw _ (List.mem_of_getElem? (i := 27) rfl))) (Or.inr (hw _ (List.mem_of_getElem? (i := 35) rfl))) (by decide) (t := (.array (.object "com/example/bytelens/bytelens/ConstantKind"))) (t' := (.array (.object "java/lang/String"))) (by decide) (by decide)))).other W17 (Or.inr (slot_ne (Or.inr (hw _ (List.mem_of_getElem? (i := 27) rfl))) (Or.inr (hw _ (List.mem_of_getElem? (i := 37) rfl))) (by decide) (t := (.array (.object "com/example/bytelens/bytelens/ConstantKind"))) (t' := .boolean) (by decide) (by decide))))
  have f19 := ((((Fw5.other W8 (Or.inr (slot_ne (Or.inr (hw _ (List.mem_of_getElem? (i := 29) rfl))) (Or.inr (hw _ (List.mem_of_getElem? (i := 31) rfl))) (by decide) (t := (.array .int)) (t' := (.array .int)) (by decide) (by decide)))).other W11 (Or.inr (slot_ne (Or.inr (hw _ (List.mem_of_getElem? (i := 29) rfl))) (Or.inr (hw _ (List.mem_of_getElem? (i := 33) rfl))) (by decide) (t := (.array .int)) (t' := (.array .int)) (by decide) (by decide)))).other W14 (Or.inr (slot_ne (Or.inr (hw _ (List.mem_of_getElem? (i := 29) rfl))) (Or.inr (hw _ (List.mem_of_getElem? (i := 35) rfl))) (by decide) (t := (.array .int)) (t' := (.array (.object "java/lang/String"))) (by decide) (by decide)))).other W17 (Or.inr (slot_ne (Or.inr (hw _ (List.mem_of_getElem? (i := 29) rfl))) (Or.inr (hw _ (List.mem_of_getElem? (i := 37) rfl))) (by decide) (t := (.array .int)) (t' := .boolean) (by decide) (by decide))))
  have f20 := (((Fw8.other W11 (Or.inr (slot_ne (Or.inr (hw _ (List.mem_of_getElem? (i := 31) rfl))) (Or.inr (hw _ (List.mem_of_getElem? (i := 33) rfl))) (by decide) (t := (.array .int)) (t' := (.array .int)) (by decide) (by decide)))).other W14 (Or.inr (slot_ne (Or.inr (hw _ (List.mem_of_getElem? (i := 31) rfl))) (Or.inr (hw _ (List.mem_of_getElem? (i := 35) rfl))) (by decide) (t := (.array .int)) (t' := (.array (.object "java/lang/String"))) (by decide) (by decide)))).other W17 (Or.inr (slot_ne (Or.inr (hw _ (List.mem_of_getElem? (i := 31) rfl))) (Or.inr (hw _ (List.mem_of_getElem? (i := 37) rfl))) (by decide) (t := (.array .int)) (t' := .boolean) (by decide) (by decide))))
  have f21 := ((Fw11.other W14 (Or.inr (slot_ne (Or.inr (hw _ (List.mem_of_getElem? (i := 33) rfl))) (Or.inr (hw _ (List.mem_of_getElem? (i := 35) rfl))) (by decide) (t := (.array .int)) (t' := (.array (.object "java/lang/String"))) (by decide) (by decide)))).other W17 (Or.inr (slot_ne (Or.inr (hw _ (List.mem_of_getElem? (i := 33) rfl))) (Or.inr (hw _ (List.mem_of_getElem? (i := 37) rfl))) (by decide) (t := (.array .int)) (t' := .boolean) (by decide) (by decide))))
  have f22 := (Fw14.other W17 (Or.inr (slot_ne (Or.inr (hw _ (List.mem_of_getElem? (i := 35) rfl))) (Or.inr (hw _ (List.mem_of_getElem? (i := 37) rfl))) (by decide) (t := (.array (.object "java/lang/String"))) (t' := .boolean) (by decide) (by decide))))
  obtain ⟨fs, hr, hrun, hended, hW, hsame⟩ := X17.leave (v := none) (fun _ => rfl)
  refine ⟨_, _, pre0 _ ?_, hrun, hended, _, _, rfl, ?_, ⟨_, rfl⟩, hW, hsame.mono (by decide) (by decide)⟩
  · show Steps p.tables e below (s₁.setTop (mkF m 0 #[.val (.ref p0), .val (.ref p1), .val (.ref p2), .val (.ref p3), .val (.ref p4), .val (.ref p5), .val (.int (0 : Int32))] [])) _
    refine XS.aloadN X0.here hx rfl (hb hby d3_0) rfl rfl ?_
    show Steps p.tables e below (s₁.setTop (mkF m 1 #[.val (.ref p0), .val (.ref p1), .val (.ref p2), .val (.ref p3), .val (.ref p4), .val (.ref p5), .val (.int (0 : Int32))] [(.ref p0)])) _
    refine st1 _ ?_
    show Steps p.tables e below (T1.setTop (mkF m 4 #[.val (.ref p0), .val (.ref p1), .val (.ref p2), .val (.ref p3), .val (.ref p4), .val (.ref p5), .val (.int (0 : Int32))] [])) _
    refine XS.aloadN X1.here hx rfl (hb hby d3_4) rfl rfl ?_
    show Steps p.tables e below (T1.setTop (mkF m 5 #[.val (.ref p0), .val (.ref p1), .val (.ref p2), .val (.ref p3), .val (.ref p4), .val (.ref p5), .val (.int (0 : Int32))] [(.ref p0)])) _
    refine XS.aloadN X1.here hx rfl (hb hby d3_5) rfl rfl ?_
    show Steps p.tables e below (T1.setTop (mkF m 6 #[.val (.ref p0), .val (.ref p1), .val (.ref p2), .val (.ref p3), .val (.ref p4), .val (.ref p5), .val (.int (0 : Int32))] [(.ref p1), (.ref p0)])) _
    refine st2 _ ?_
    show Steps p.tables e below (T2.setTop (mkF m 9 #[.val (.ref p0), .val (.ref p1), .val (.ref p2), .val (.ref p3), .val (.ref p4), .val (.ref p5), .val (.int (0 : Int32))] [])) _
    refine XS.aloadN X2.here hx rfl (hb hby d3_9) rfl rfl ?_
    show Steps p.tables e below (T2.setTop (mkF m 10 #[.val (.ref p0), .val (.ref p1), .val (.ref p2), .val (.ref p3), .val (.ref p4), .val (.ref p5), .val (.int (0 : Int32))] [(.ref p0)])) _
    refine XS.aloadN X2.here hx rfl (hb hby d3_10) rfl rfl ?_
    show Steps p.tables e below (T2.setTop (mkF m 11 #[.val (.ref p0), .val (.ref p1), .val (.ref p2), .val (.ref p3), .val (.ref p4), .val (.ref p5), .val (.int (0 : Int32))] [(.ref p2), (.ref p0)])) _
    refine st5 _ ?_
    show Steps p.tables e below (T5.setTop (mkF m 14 #[.val (.ref p0), .val (.ref p1), .val (.ref p2), .val (.ref p3), .val (.ref p4), .val (.ref p5), .val (.int (0 : Int32))] [])) _
    refine XS.aloadN X5.here hx rfl (hb hby d3_14) rfl rfl ?_
    show Steps p.tables e below (T5.setTop (mkF m 15 #[.val (.ref p0), .val (.ref p1), .val (.ref p2), .val (.ref p3), .val (.ref p4), .val (.ref p5), .val (.int (0 : Int32))] [(.ref p0)])) _
    refine XS.aloadN X5.here hx rfl (hb hby d3_15) rfl rfl ?_
    show Steps p.tables e below (T5.setTop (mkF m 16 #[.val (.ref p0), .val (.ref p1), .val (.ref p2), .val (.ref p3), .val (.ref p4), .val (.ref p5), .val (.int (0 : Int32))] [(.ref p3), (.ref p0)])) _
    refine st8 _ ?_
    show Steps p.tables e below (T8.setTop (mkF m 19 #[.val (.ref p0), .val (.ref p1), .val (.ref p2), .val (.ref p3), .val (.ref p4), .val (.ref p5), .val (.int (0 : Int32))] [])) _
    refine XS.aloadN X8.here hx rfl (hb hby d3_19) rfl rfl ?_
    show Steps p.tables e below (T8.setTop (mkF m 20 #[.val (.ref p0), .val (.ref p1), .val (.ref p2), .val (.ref p3), .val (.ref p4), .val (.ref p5), .val (.int (0 : Int32))] [(.ref p0)])) _
    refine XS.aload X8.here hx rfl (hb hby d3_20) rfl rfl ?_
    show Steps p.tables e below (T8.setTop (mkF m 22 #[.val (.ref p0), .val (.ref p1), .val (.ref p2), .val (.ref p3), .val (.ref p4), .val (.ref p5), .val (.int (0 : Int32))] [(.ref p4), (.ref p0)])) _
    refine st11 _ ?_
    show Steps p.tables e below (T11.setTop (mkF m 25 #[.val (.ref p0), .val (.ref p1), .val (.ref p2), .val (.ref p3), .val (.ref p4), .val (.ref p5), .val (.int (0 : Int32))] [])) _
    refine XS.aloadN X11.here hx rfl (hb hby d3_25) rfl rfl ?_
    show Steps p.tables e below (T11.setTop (mkF m 26 #[.val (.ref p0), .val (.ref p1), .val (.ref p2), .val (.ref p3), .val (.ref p4), .val (.ref p5), .val (.int (0 : Int32))] [(.ref p0)])) _
    refine XS.aload X11.here hx rfl (hb hby d3_26) rfl rfl ?_
    show Steps p.tables e below (T11.setTop (mkF m 28 #[.val (.ref p0), .val (.ref p1), .val (.ref p2), .val (.ref p3), .val (.ref p4), .val (.ref p5), .val (.int (0 : Int32))] [(.ref p5), (.ref p0)])) _
    refine st14 _ ?_
    show Steps p.tables e below (T14.setTop (mkF m 31 #[.val (.ref p0), .val (.ref p1), .val (.ref p2), .val (.ref p3), .val (.ref p4), .val (.ref p5), .val (.int (0 : Int32))] [])) _
    refine XS.aloadN X14.here hx rfl (hb hby d3_31) rfl rfl ?_
    show Steps p.tables e below (T14.setTop (mkF m 32 #[.val (.ref p0), .val (.ref p1), .val (.ref p2), .val (.ref p3), .val (.ref p4), .val (.ref p5), .val (.int (0 : Int32))] [(.ref p0)])) _
    refine XS.iload X14.here hx rfl (hb hby d3_32) rfl  ?_
    show Steps p.tables e below (T14.setTop (mkF m 34 #[.val (.ref p0), .val (.ref p1), .val (.ref p2), .val (.ref p3), .val (.ref p4), .val (.ref p5), .val (.int (0 : Int32))] [(.int (0 : Int32)), (.ref p0)])) _
    refine st17 _ ?_
    show Steps p.tables e below (T17.setTop (mkF m 37 #[.val (.ref p0), .val (.ref p1), .val (.ref p2), .val (.ref p3), .val (.ref p4), .val (.ref p5), .val (.int (0 : Int32))] [])) _
    exact X17.returnOut hx Bd.returns (hb hby d3_37) hr
  · show Q_rmInit2 Z p0 p1 p2 p3 p4 p5 h0 n0 _ T17.heap _
    rw [e17]
    exact ⟨rfl, N17, K17, f18, f19, f20, f21, f22⟩
theorem ef_rmInit (m : MethodId) (p0 : Addr) (p1 : Int32) : entryFrame m #[(.ref p0), (.int p1)] 2 = mkF m 0 #[.val (.ref p0), .val (.int p1)] [] := by first | (simp [entryFrame, mkF, argsToLocals, Value.category]; done) | rfl
theorem d2_0 : decode prog_64_method_1_code 0 = .ok (.aload_n 0, 1) := by decide +kernel
theorem d2_1 : decode prog_64_method_1_code 1 = .ok (.iload_n 1, 1) := by decide +kernel
theorem d2_2 : decode prog_64_method_1_code 2 = .ok (.anewarray 1, 3) := by decide +kernel
theorem d2_5 : decode prog_64_method_1_code 5 = .ok (.iload_n 1, 1) := by decide +kernel
theorem d2_6 : decode prog_64_method_1_code 6 = .ok (.newarray .int, 2) := by decide +kernel
theorem d2_8 : decode prog_64_method_1_code 8 = .ok (.iload_n 1, 1) := by decide +kernel
theorem d2_9 : decode prog_64_method_1_code 9 = .ok (.newarray .int, 2) := by decide +kernel
theorem d2_11 : decode prog_64_method_1_code 11 = .ok (.iload_n 1, 1) := by decide +kernel
theorem d2_12 : decode prog_64_method_1_code 12 = .ok (.newarray .int, 2) := by decide +kernel
theorem d2_14 : decode prog_64_method_1_code 14 = .ok (.iload_n 1, 1) := by decide +kernel
theorem d2_15 : decode prog_64_method_1_code 15 = .ok (.anewarray 3, 3) := by decide +kernel
theorem d2_18 : decode prog_64_method_1_code 18 = .ok (.iconst 0, 1) := by decide +kernel
theorem pd___Lcom_example_bytelens_bytelens_ConstantKind__I_I_I_Ljava_lang_String_Z_V : parseMethodDescriptor "([Lcom/example/bytelens/bytelens/ConstantKind;[I[I[I[Ljava/lang/String;Z)V" = some ⟨[(.array (.object "com/example/bytelens/bytelens/ConstantKind")), (.array .int), (.array .int), (.array .int), (.array (.object "java/lang/String")), .boolean], none⟩ := by decide +kernel
theorem d2_19 : decode prog_64_method_1_code 19 = .ok (.invokespecial 5, 3) := by decide +kernel
theorem d2_22 : decode prog_64_method_1_code 22 = .ok (.return_, 1) := by decide +kernel
def Q_rmInit (Z : State) (p0 : Addr) (p1 : Int32) (h0 : Heap) (n0 : Nat) (v : Option Value) (h : Heap) (L : List Loc) : Prop := v = none ∧ Fr n0 L ∧ Keep h0 h [p0] ∧ ∃ (wK wO wF wS wT : Addr) (k : ClassId), own_D p0 wK wO wF wS wT ∧ own_G n0 wK wO wF wS wT ∧ own_P Z h p0 wK wO wF wS wT k p1 []
set_option maxRecDepth 65536 in
set_option maxHeartbeats 40000000 in
theorem rmInit (l : Launch) (Z : State) (a0 : Array Value) (hw : ∀ d ∈ tables_1, d.before a0 Z = true) (ws : List Jvm.Cond) (p0 : Addr) (p1 : Int32) (h0 : Heap) (n0 : Nat) (Z0 : n0 ≤ h0.size) (hn : ¬ p1 < 0 ∧ p1.toNatClampNeg ≤ 15) (E0 : Exa Z h0 p0 "com/example/bytelens/bytelens/ConstantPool") (F_kinds : Fld Z h0 p0 "com/example/bytelens/bytelens/ConstantPool" "kinds" "[Lcom/example/bytelens/bytelens/ConstantKind;" .null) (F_offsets : Fld Z h0 p0 "com/example/bytelens/bytelens/ConstantPool" "offsets" "[I" .null) (F_firsts : Fld Z h0 p0 "com/example/bytelens/bytelens/ConstantPool" "firsts" "[I" .null) (F_seconds : Fld Z h0 p0 "com/example/bytelens/bytelens/ConstantPool" "seconds" "[I" .null) (F_texts : Fld Z h0 p0 "com/example/bytelens/bytelens/ConstantPool" "texts" "[Ljava/lang/String;" .null) (F_checked : Fld Z h0 p0 "com/example/bytelens/bytelens/ConstantPool" "checked" "Z" (.int (0 : Int32))) (g0 : n0 ≤ p0) :
    MetFree l (⟨"com/example/bytelens/bytelens/ConstantPool", "<init>", "(I)V"⟩ : MethodName) (head1 (Jvm.Cond.code (⟨"com/example/bytelens/bytelens/ConstantPool", "<init>", "(I)V"⟩ : MethodName) prog_64_method_1_code 2 none :: ws) ({ frames := 2, cells := 5, slots := 75, locals := 30 } : Room)) (fun a U => a = #[(.ref p0), (.int p1)] ∧ Z.Warmed39 U.vm ∧ U.heap = h0) (fun _ _ _ _ _ => True) (fun _ U o U' => ∃ v L, o = .returned v ∧ Q_rmInit Z p0 p1 h0 n0 v U'.heap L ∧ FrameEnd U o U' L ({ frames := 2, cells := 5, slots := 75, locals := 30 } : Room).cells ({ frames := 2, cells := 5, slots := 75, locals := 30 } : Room).slots) := by
  refine MetFree.of_bodySF (plainFor_of_name pn_com_example_bytelens_bytelens_ConstantPool) hisR ?_
  intro p e s m args below meth c s₁ Bd hml0 hP hK
  obtain ⟨rfl, hZ, hh⟩ := hP
  have hx := Bd.exec
  have hby := Bd.bytes
  have hml : c.maxLocals = 2 := hml0
  have hown : s.vm.findClass "com/example/bytelens/bytelens/ConstantPool" = some m.cls := findClass_of_methodNamed Bd.named
  have hnm := (name_of_methodNamed Bd.named Bd.method).1
  have X0 : Stand p l e ({ frames := 2, cells := 5, slots := 75, locals := 30 } : Room) s m #[(.ref p0), (.int p1)] below meth c s₁ [] 0 0 := Stand.of_body Bd
  have e0 : s₁.heap = h0 := by rw [← hh, Bd.state]; rfl
  have N0 := Fr.nil n0
  have pre0 : ∀ t, Steps p.tables e below (s₁.setTop (mkF m 0 #[.val (.ref p0), .val (.int p1)] [])) t → Steps p.tables e below (s₁.setTop (entryFrame m #[(.ref p0), (.int p1)] 2)) t := fun t k => castTop (ef_rmInit m p0 p1 ) k
  obtain ⟨T1, h1, k1, X1, e1, E1, A1, O1, st1⟩ := newR X0 hx hZ hown (hw _ (List.mem_of_getElem? (i := 15) rfl)) (hw _ (List.mem_of_getElem? (i := 16) rfl)) e0 (g := (mkF m 2 #[.val (.ref p0), .val (.int p1)] [(.int p1), (.ref p0)])) rfl (hb hby d2_2) rfl hn.1 (cap := 15) hn.2 (by decide) (by decide) (by decide)
  obtain ⟨b1, g1⟩ : ∃ z, z = h0.size := ⟨_, rfl⟩
  rw [← g1] at A1 st1
  have ne1_p0 : p0 ≠ b1 := Nat.ne_of_lt (Nat.lt_of_lt_of_le E0.lt (Nat.le_of_eq g1.symm))
  have ge1 : n0 ≤ b1 := Nat.le_trans Z0 (Nat.le_of_eq g1.symm)
  have sz1 : h0.size ≤ b1 := Nat.le_trans (Keep.refl h0 [p0]).1 (Nat.le_of_eq g1.symm)
  have K1 := (Keep.refl h0 [p0]).ext E1
  have V1 := Arv.new A1 hn.1
  have f2 := (E0.ext E1)
  obtain ⟨T3, h3, k3, X3, e3, E3, A3, st3⟩ := newP X1 hx hZ (hw _ (List.mem_of_getElem? (i := 17) rfl)) e1 (g := (mkF m 6 #[.val (.ref p0), .val (.int p1)] [(.int p1), (.ref b1), (.ref p0)])) rfl (hb hby d2_6) rfl hn.1 (cap := 15) hn.2 (by decide) (by decide) (by decide)
  obtain ⟨b3, g3⟩ : ∃ z, z = h1.size := ⟨_, rfl⟩
  rw [← g3] at A3 st3
  have ne3_p0 : p0 ≠ b3 := Nat.ne_of_lt (Nat.lt_of_lt_of_le f2.lt (Nat.le_of_eq g3.symm))
  have ne3_b1 : b1 ≠ b3 := Nat.ne_of_lt (Nat.lt_of_lt_of_le V1.lt (Nat.le_of_eq g3.symm))
  have f4 := (Nat.le_trans Z0 E1.1)
  have ge3 : n0 ≤ b3 := Nat.le_trans f4 (Nat.le_of_eq g3.symm)
  have sz3 : h0.size ≤ b3 := Nat.le_trans K1.1 (Nat.le_of_eq g3.symm)
  have K3 := K1.ext E3
  have V3 : Arv Z h3 b3 k3 .int p1 [] (.int (0 : Int32)) := Arv.new A3 hn.1
  have f5 := (f2.ext E3)
  have f6 := (V1.ext E3)
  obtain ⟨T7, h7, k7, X7, e7, E7, A7, st7⟩ := newP X3 hx hZ (hw _ (List.mem_of_getElem? (i := 17) rfl)) e3 (g := (mkF m 9 #[.val (.ref p0), .val (.int p1)] [(.int p1), (.ref b3), (.ref b1), (.ref p0)])) rfl (hb hby d2_9) rfl hn.1 (cap := 15) hn.2 (by decide) (by decide) (by decide)
  obtain ⟨b7, g7⟩ : ∃ z, z = h3.size := ⟨_, rfl⟩
  rw [← g7] at A7 st7
  have ne7_p0 : p0 ≠ b7 := Nat.ne_of_lt (Nat.lt_of_lt_of_le f5.lt (Nat.le_of_eq g7.symm))
  have ne7_b1 : b1 ≠ b7 := Nat.ne_of_lt (Nat.lt_of_lt_of_le f6.lt (Nat.le_of_eq g7.symm))
  have ne7_b3 : b3 ≠ b7 := Nat.ne_of_lt (Nat.lt_of_lt_of_le V3.lt (Nat.le_of_eq g7.symm))
  have f8 := (Nat.le_trans f4 E3.1)
  have ge7 : n0 ≤ b7 := Nat.le_trans f8 (Nat.le_of_eq g7.symm)
  have sz7 : h0.size ≤ b7 := Nat.le_trans K3.1 (Nat.le_of_eq g7.symm)
  have K7 := K3.ext E7
  have V7 : Arv Z h7 b7 k7 .int p1 [] (.int (0 : Int32)) := Arv.new A7 hn.1
  have f9 := (f5.ext E7)
  have f10 := (f6.ext E7)
  have f11 := (V3.ext E7)
  obtain ⟨T12, h12, k12, X12, e12, E12, A12, st12⟩ := newP X7 hx hZ (hw _ (List.mem_of_getElem? (i := 17) rfl)) e7 (g := (mkF m 12 #[.val (.ref p0), .val (.int p1)] [(.int p1), (.ref b7), (.ref b3), (.ref b1), (.ref p0)])) rfl (hb hby d2_12) rfl hn.1 (cap := 15) hn.2 (by decide) (by decide) (by decide)
  obtain ⟨b12, g12⟩ : ∃ z, z = h7.size := ⟨_, rfl⟩
  rw [← g12] at A12 st12
  have ne12_p0 : p0 ≠ b12 := Nat.ne_of_lt (Nat.lt_of_lt_of_le f9.lt (Nat.le_of_eq g12.symm))
  have ne12_b1 : b1 ≠ b12 := Nat.ne_of_lt (Nat.lt_of_lt_of_le f10.lt (Nat.le_of_eq g12.symm))
  have ne12_b3 : b3 ≠ b12 := Nat.ne_of_lt (Nat.lt_of_lt_of_le f11.lt (Nat.le_of_eq g12.symm))
  have ne12_b7 : b7 ≠ b12 := Nat.ne_of_lt (Nat.lt_of_lt_of_le V7.lt (Nat.le_of_eq g12.symm))
  have f13 := (Nat.le_trans f8 E7.1)
  have ge12 : n0 ≤ b12 := Nat.le_trans f13 (Nat.le_of_eq g12.symm)
  have sz12 : h0.size ≤ b12 := Nat.le_trans K7.1 (Nat.le_of_eq g12.symm)
  have K12 := K7.ext E12
  have V12 : Arv Z h12 b12 k12 .int p1 [] (.int (0 : Int32)) := Arv.new A12 hn.1
  have f14 := (f9.ext E12)
  have f15 := (f10.ext E12)
  have f16 := (f11.ext E12)
  have f17 := (V7.ext E12)
  obtain ⟨T18, h18, k18, X18, e18, E18, A18, O18, st18⟩ := newR X12 hx hZ hown (hw _ (List.mem_of_getElem? (i := 18) rfl)) (hw _ (List.mem_of_getElem? (i := 19) rfl)) e12 (g := (mkF m 15 #[.val (.ref p0), .val (.int p1)] [(.int p1), (.ref b12), (.ref b7), (.ref b3), (.ref b1), (.ref p0)])) rfl (hb hby d2_15) rfl hn.1 (cap := 15) hn.2 (by decide) (by decide) (by decide)
  obtain ⟨b18, g18⟩ : ∃ z, z = h12.size := ⟨_, rfl⟩
  rw [← g18] at A18 st18
  have ne18_p0 : p0 ≠ b18 := Nat.ne_of_lt (Nat.lt_of_lt_of_le f14.lt (Nat.le_of_eq g18.symm))
  have ne18_b1 : b1 ≠ b18 := Nat.ne_of_lt (Nat.lt_of_lt_of_le f15.lt (Nat.le_of_eq g18.symm))
  have ne18_b3 : b3 ≠ b18 := Nat.ne_of_lt (Nat.lt_of_lt_of_le f16.lt (Nat.le_of_eq g18.symm))
  have ne18_b7 : b7 ≠ b18 := Nat.ne_of_lt (Nat.lt_of_lt_of_le f17.lt (Nat.le_of_eq g18.symm))
  have ne18_b12 : b12 ≠ b18 := Nat.ne_of_lt (Nat.lt_of_lt_of_le V12.lt (Nat.le_of_eq g18.symm))
  have f19 := (Nat.le_trans f13 E12.1)
  have ge18 : n0 ≤ b18 := Nat.le_trans f19 (Nat.le_of_eq g18.symm)
  have sz18 : h0.size ≤ b18 := Nat.le_trans K12.1 (Nat.le_of_eq g18.symm)
  have K18 := K12.ext E18
  have V18 := Arv.new A18 hn.1
  have f20 := (Nat.le_trans f19 E18.1)
  have f21 := (f14.ext E18)
  have f22 := (((((F_kinds.ext E1).ext E3).ext E7).ext E12).ext E18)
  have f23 := (((((F_offsets.ext E1).ext E3).ext E7).ext E12).ext E18)
  have f24 := (((((F_firsts.ext E1).ext E3).ext E7).ext E12).ext E18)
  have f25 := (((((F_seconds.ext E1).ext E3).ext E7).ext E12).ext E18)
  have f26 := (((((F_texts.ext E1).ext E3).ext E7).ext E12).ext E18)
  have f27 := (((((F_checked.ext E1).ext E3).ext E7).ext E12).ext E18)
  obtain ⟨_, _, ⟨T28, L28, k28, n28⟩, -, X28, ⟨Lc28, hQ28, l28, y28, z28⟩, st28⟩ := X18.specialBack hx (y := (⟨"com/example/bytelens/bytelens/ConstantPool", "<init>", "([Lcom/example/bytelens/bytelens/ConstantKind;[I[I[I[Ljava/lang/String;Z)V"⟩ : MethodName)) rfl hown (mvT hZ (hw _ (List.mem_of_getElem? (i := 20) rfl))) (mvT hZ (hw _ (List.mem_of_getElem? (i := 21) rfl))) (mvT hZ (hw _ (List.mem_of_getElem? (i := 22) rfl))) (by decide) (backOf (W := 0) (rmInit2 l Z a0 hw [] p0 b1 b3 b7 b12 b18 h18 n0 f20 f21 f22 f23 f24 f25 f26 f27 g0) hZ (hw _ (List.mem_of_getElem? (i := 22) rfl)) (hw _ (List.mem_of_getElem? (i := 11) rfl)) (by decide) (by decide)) (g := (mkF m 19 #[.val (.ref p0), .val (.int p1)] [(.int (0 : Int32)), (.ref b18), (.ref b12), (.ref b7), (.ref b3), (.ref b1), (.ref p0)])) rfl (by rw [hml]; rfl) (Steps.refl _) (a := p0) (argsL := [(.ref b1), (.ref b3), (.ref b7), (.ref b12), (.ref b18), (.int (0 : Int32))]) (rest := []) (lenOf pd___Lcom_example_bytelens_bytelens_ConstantKind__I_I_I_Ljava_lang_String_Z_V rfl) rfl (by show 2 * 0 + _ ≤ _; exact Nat.le_of_eq rfl) (hb hby d2_19) (fun _ _ => ⟨rfl, e18, (by decide : 5 + 0 ≤ _), (by decide : 75 + 0 ≤ _)⟩)
  dsimp only [Pt.U, Pt.locs, Pt.cells, Pt.slots] at X28 l28 y28 z28 st28 hQ28
  subst l28 y28 z28
  obtain ⟨rfl, Nq28, K28, G28_kinds, G28_offsets, G28_firsts, G28_seconds, G28_texts⟩ := hQ28
  have N28 := Fr.app N0 Nq28
  have KK28 := K18.trans K28 (allS (Or.inl (List.mem_of_getElem? (i := 0) rfl)) all0)
  have f29 := ((f15.ext E18).keep K28 (ninS (Ne.symm ne1_p0) nin0))
  have f30 := (f21.keep K28)
  have f31 := ((f16.ext E18).keep K28 (ninS (Ne.symm ne3_p0) nin0))
  have f32 := ((f17.ext E18).keep K28 (ninS (Ne.symm ne7_p0) nin0))
  have f33 := ((V12.ext E18).keep K28 (ninS (Ne.symm ne12_p0) nin0))
  have f34 := (V18.keep K28 (ninS (Ne.symm ne18_p0) nin0))
  obtain ⟨fs, hr, hrun, hended, hW, hsame⟩ := X28.leave (v := none) (fun _ => rfl)
  refine ⟨_, _, pre0 _ ?_, hrun, hended, _, _, rfl, ?_, ⟨_, rfl⟩, hW, hsame.mono (by decide) (by decide)⟩
  · show Steps p.tables e below (s₁.setTop (mkF m 0 #[.val (.ref p0), .val (.int p1)] [])) _
    refine XS.aloadN X0.here hx rfl (hb hby d2_0) rfl rfl ?_
    show Steps p.tables e below (s₁.setTop (mkF m 1 #[.val (.ref p0), .val (.int p1)] [(.ref p0)])) _
    refine XS.iloadN X0.here hx rfl (hb hby d2_1) rfl  ?_
    show Steps p.tables e below (s₁.setTop (mkF m 2 #[.val (.ref p0), .val (.int p1)] [(.int p1), (.ref p0)])) _
    refine st1 _ ?_
    show Steps p.tables e below (T1.setTop (mkF m 5 #[.val (.ref p0), .val (.int p1)] [(.ref b1), (.ref p0)])) _
    refine XS.iloadN X1.here hx rfl (hb hby d2_5) rfl  ?_
    show Steps p.tables e below (T1.setTop (mkF m 6 #[.val (.ref p0), .val (.int p1)] [(.int p1), (.ref b1), (.ref p0)])) _
    refine st3 _ ?_
    show Steps p.tables e below (T3.setTop (mkF m 8 #[.val (.ref p0), .val (.int p1)] [(.ref b3), (.ref b1), (.ref p0)])) _
    refine XS.iloadN X3.here hx rfl (hb hby d2_8) rfl  ?_
    show Steps p.tables e below (T3.setTop (mkF m 9 #[.val (.ref p0), .val (.int p1)] [(.int p1), (.ref b3), (.ref b1), (.ref p0)])) _
    refine st7 _ ?_
    show Steps p.tables e below (T7.setTop (mkF m 11 #[.val (.ref p0), .val (.int p1)] [(.ref b7), (.ref b3), (.ref b1), (.ref p0)])) _
    refine XS.iloadN X7.here hx rfl (hb hby d2_11) rfl  ?_
    show Steps p.tables e below (T7.setTop (mkF m 12 #[.val (.ref p0), .val (.int p1)] [(.int p1), (.ref b7), (.ref b3), (.ref b1), (.ref p0)])) _
    refine st12 _ ?_
    show Steps p.tables e below (T12.setTop (mkF m 14 #[.val (.ref p0), .val (.int p1)] [(.ref b12), (.ref b7), (.ref b3), (.ref b1), (.ref p0)])) _
    refine XS.iloadN X12.here hx rfl (hb hby d2_14) rfl  ?_
    show Steps p.tables e below (T12.setTop (mkF m 15 #[.val (.ref p0), .val (.int p1)] [(.int p1), (.ref b12), (.ref b7), (.ref b3), (.ref b1), (.ref p0)])) _
    refine st18 _ ?_
    show Steps p.tables e below (T18.setTop (mkF m 18 #[.val (.ref p0), .val (.int p1)] [(.ref b18), (.ref b12), (.ref b7), (.ref b3), (.ref b1), (.ref p0)])) _
    refine XS.iconst X18.here hx rfl (hb hby d2_18) ?_
    show Steps p.tables e below (T18.setTop (mkF m 19 #[.val (.ref p0), .val (.int p1)] [(.int (0 : Int32)), (.ref b18), (.ref b12), (.ref b7), (.ref b3), (.ref b1), (.ref p0)])) _
    refine st28.trans ?_
    show Steps p.tables e below (T28.setTop (mkF m 22 #[.val (.ref p0), .val (.int p1)] [])) _
    exact X28.returnOut hx Bd.returns (hb hby d2_22) hr
  · show Q_rmInit Z p0 p1 h0 n0 _ T28.heap _
    exact ⟨rfl, N28, KK28, b1, b3, b7, b12, b18, k1, ⟨ne1_p0, ne3_p0, ne7_p0, ne12_p0, ne18_p0, ne3_b1, ne7_b1, ne12_b1, ne18_b1, ne7_b3, ne12_b3, ne18_b3, ne12_b7, ne18_b7, ne18_b12⟩, ⟨ge1, ge3, ge7, ge12, ge18⟩, ⟨f30, G28_kinds, G28_offsets, G28_firsts, G28_seconds, G28_texts, f29.arh, O1, own_A.of f31, own_A.of f32, own_A.of f33, own_A.of f34⟩⟩
theorem ef_rmAdd (m : MethodId) (p0 : Addr) (p1 : Int32) (p2 : Addr) (p3 : Int32) (p4 : Int32) (p5 : Int32) : entryFrame m #[(.ref p0), (.int p1), (.ref p2), (.int p3), (.int p4), (.int p5), .null] 7 = mkF m 0 #[.val (.ref p0), .val (.int p1), .val (.ref p2), .val (.int p3), .val (.int p4), .val (.int p5), .val .null] [] := by first | (simp [entryFrame, mkF, argsToLocals, Value.category]; done) | rfl
theorem d7_0 : decode prog_64_method_3_code 0 = .ok (.aload_n 0, 1) := by decide +kernel
theorem d7_1 : decode prog_64_method_3_code 1 = .ok (.getfield 16, 3) := by decide +kernel
theorem d7_4 : decode prog_64_method_3_code 4 = .ok (.iload_n 1, 1) := by decide +kernel
theorem d7_5 : decode prog_64_method_3_code 5 = .ok (.aload_n 2, 1) := by decide +kernel
theorem d7_6 : decode prog_64_method_3_code 6 = .ok (.aastore, 1) := by decide +kernel
theorem d7_7 : decode prog_64_method_3_code 7 = .ok (.aload_n 0, 1) := by decide +kernel
theorem d7_8 : decode prog_64_method_3_code 8 = .ok (.getfield 20, 3) := by decide +kernel
theorem d7_11 : decode prog_64_method_3_code 11 = .ok (.iload_n 1, 1) := by decide +kernel
theorem d7_12 : decode prog_64_method_3_code 12 = .ok (.iload_n 3, 1) := by decide +kernel
theorem d7_13 : decode prog_64_method_3_code 13 = .ok (.iastore, 1) := by decide +kernel
theorem d7_14 : decode prog_64_method_3_code 14 = .ok (.aload_n 0, 1) := by decide +kernel
theorem d7_15 : decode prog_64_method_3_code 15 = .ok (.getfield 24, 3) := by decide +kernel
theorem d7_18 : decode prog_64_method_3_code 18 = .ok (.iload_n 1, 1) := by decide +kernel
theorem d7_19 : decode prog_64_method_3_code 19 = .ok (.iload 4, 2) := by decide +kernel
theorem d7_21 : decode prog_64_method_3_code 21 = .ok (.iastore, 1) := by decide +kernel
theorem d7_22 : decode prog_64_method_3_code 22 = .ok (.aload_n 0, 1) := by decide +kernel
theorem d7_23 : decode prog_64_method_3_code 23 = .ok (.getfield 27, 3) := by decide +kernel
theorem d7_26 : decode prog_64_method_3_code 26 = .ok (.iload_n 1, 1) := by decide +kernel
theorem d7_27 : decode prog_64_method_3_code 27 = .ok (.iload 5, 2) := by decide +kernel
theorem d7_29 : decode prog_64_method_3_code 29 = .ok (.iastore, 1) := by decide +kernel
theorem d7_30 : decode prog_64_method_3_code 30 = .ok (.aload_n 0, 1) := by decide +kernel
theorem d7_31 : decode prog_64_method_3_code 31 = .ok (.getfield 30, 3) := by decide +kernel
theorem d7_34 : decode prog_64_method_3_code 34 = .ok (.iload_n 1, 1) := by decide +kernel
theorem d7_35 : decode prog_64_method_3_code 35 = .ok (.aload 6, 2) := by decide +kernel
theorem d7_37 : decode prog_64_method_3_code 37 = .ok (.aastore, 1) := by decide +kernel
theorem d7_38 : decode prog_64_method_3_code 38 = .ok (.return_, 1) := by decide +kernel
def Q_rmAdd (Z : State) (p0 : Addr) (p1 : Int32) (p2 : Addr) (p3 : Int32) (p4 : Int32) (p5 : Int32) (wK : Addr) (wO : Addr) (wF : Addr) (wS : Addr) (wT : Addr) (k : ClassId) (n : Int32) (hs : List (Int32 × Value)) (h0 : Heap) (n0 : Nat) (v : Option Value) (h : Heap) (L : List Loc) : Prop := v = none ∧ Fr n0 L ∧ Keep h0 h [wK, wO, wF, wS, wT] ∧ own_P Z h p0 wK wO wF wS wT k n ((p1, .ref p2) :: hs)
set_option maxRecDepth 65536 in
set_option maxHeartbeats 40000000 in
theorem rmAdd (l : Launch) (Z : State) (a0 : Array Value) (hw : ∀ d ∈ tables_1, d.before a0 Z = true) (ws : List Jvm.Cond) (p0 : Addr) (p1 : Int32) (p2 : Addr) (p3 : Int32) (p4 : Int32) (p5 : Int32) (wK : Addr) (wO : Addr) (wF : Addr) (wS : Addr) (wT : Addr) (k : ClassId) (n : Int32) (hs : List (Int32 × Value)) (h0 : Heap) (n0 : Nat) (Z0 : n0 ≤ h0.size) (hD : own_D p0 wK wO wF wS wT) (hG : own_G n0 wK wO wF wS wT) (hP : own_P Z h0 p0 wK wO wF wS wT k n hs) (hi : ¬ p1 < 0 ∧ p1 < n) (hI : Ins Z h0 p2 "com/example/bytelens/bytelens/ConstantKind" true) :
    MetFree l (⟨"com/example/bytelens/bytelens/ConstantPool", "add", "(ILcom/example/bytelens/bytelens/ConstantKind;IIILjava/lang/String;)V"⟩ : MethodName) (head1 (Jvm.Cond.code (⟨"com/example/bytelens/bytelens/ConstantPool", "add", "(ILcom/example/bytelens/bytelens/ConstantKind;IIILjava/lang/String;)V"⟩ : MethodName) prog_64_method_3_code 7 none :: ws) ({ frames := 0, cells := 0, slots := 0, locals := 0 } : Room)) (fun a U => a = #[(.ref p0), (.int p1), (.ref p2), (.int p3), (.int p4), (.int p5), .null] ∧ Z.Warmed39 U.vm ∧ U.heap = h0) (fun _ _ _ _ _ => True) (fun _ U o U' => ∃ v L, o = .returned v ∧ Q_rmAdd Z p0 p1 p2 p3 p4 p5 wK wO wF wS wT k n hs h0 n0 v U'.heap L ∧ FrameEnd U o U' L ({ frames := 0, cells := 0, slots := 0, locals := 0 } : Room).cells ({ frames := 0, cells := 0, slots := 0, locals := 0 } : Room).slots) := by
  refine MetFree.of_bodySF (plainFor_of_name pn_com_example_bytelens_bytelens_ConstantPool) hisR ?_
  intro p e s m args below meth c s₁ Bd hml0 hP hK
  obtain ⟨rfl, hZ, hh⟩ := hP
  have hx := Bd.exec
  have hby := Bd.bytes
  have hml : c.maxLocals = 7 := hml0
  have hown : s.vm.findClass "com/example/bytelens/bytelens/ConstantPool" = some m.cls := findClass_of_methodNamed Bd.named
  have hnm := (name_of_methodNamed Bd.named Bd.method).1
  have X0 : Stand p l e ({ frames := 0, cells := 0, slots := 0, locals := 0 } : Room) s m #[(.ref p0), (.int p1), (.ref p2), (.int p3), (.int p4), (.int p5), .null] below meth c s₁ [] 0 0 := Stand.of_body Bd
  have e0 : s₁.heap = h0 := by rw [← hh, Bd.state]; rfl
  have N0 := Fr.nil n0
  have pre0 : ∀ t, Steps p.tables e below (s₁.setTop (mkF m 0 #[.val (.ref p0), .val (.int p1), .val (.ref p2), .val (.int p3), .val (.int p4), .val (.int p5), .val .null] [])) t → Steps p.tables e below (s₁.setTop (entryFrame m #[(.ref p0), (.int p1), (.ref p2), (.int p3), (.int p4), (.int p5), .null] 7)) t := fun t k => castTop (ef_rmAdd m p0 p1 p2 p3 p4 p5 ) k
  obtain ⟨E0, F_kinds, F_offsets, F_firsts, F_seconds, F_texts, AK, OV, AwO, AwF, AwS, AwT⟩ := hP
  obtain ⟨d_p_wK, d_p_wO, d_p_wF, d_p_wS, d_p_wT, d_wK_wO, d_wK_wF, d_wK_wS, d_wK_wT, d_wO_wF, d_wO_wS, d_wO_wT, d_wF_wS, d_wF_wT, d_wS_wT⟩ := hD
  obtain ⟨ge_wK, ge_wO, ge_wF, ge_wS, ge_wT⟩ := hG
  obtain ⟨T1, X1, e1, st1⟩ := getF X0 hx hZ hown (host := "") (Or.inl (hw _ (List.mem_of_getElem? (i := 26) rfl))) Via.refl e0 F_kinds (g := (mkF m 1 #[.val (.ref p0), .val (.int p1), .val (.ref p2), .val (.int p3), .val (.int p4), .val (.int p5), .val .null] [(.ref p0)])) rfl rfl (hb hby d7_1)
  obtain ⟨c2, A2, q2, S2, N2, H2, G2⟩ := AK
  have hin2 := inb_of (j := p1) S2 ⟨hi.1, hi.2⟩
  obtain ⟨T3, h3, X3, e3, W3, st3⟩ := stR X1 hx hZ e1 A2 (j := p1) hin2 rfl (Sto.ofV A2 q2 OV hI) (g := (mkF m 6 #[.val (.ref p0), .val (.int p1), .val (.ref p2), .val (.int p3), .val (.int p4), .val (.int p5), .val .null] [(.ref p2), (.int p1), (.ref wK)])) rfl rfl (hb hby d7_6)
  have N3 := Fr.snoc X3 N0 ge_wK
  have K3 := (Keep.refl h0 [wK, wO, wF, wS, wT]).wr W3 (Or.inl (List.mem_of_getElem? (i := 0) rfl))
  have V3 := Arh.push A2 q2 S2 N2 H2 G2 (v := .ref p2) rfl W3 hin2
  have f4 := (F_offsets.other W3 (Or.inl d_p_wK))
  obtain ⟨T5, X5, e5, st5⟩ := getF X3 hx hZ hown (host := "") (Or.inl (hw _ (List.mem_of_getElem? (i := 28) rfl))) Via.refl e3 f4 (g := (mkF m 8 #[.val (.ref p0), .val (.int p1), .val (.ref p2), .val (.int p3), .val (.int p4), .val (.int p5), .val .null] [(.ref p0)])) rfl rfl (hb hby d7_8)
  have f6 := (AwO.other W3 (Ne.symm d_wK_wO))
  obtain ⟨c7, A7, S7⟩ := f6
  have hin7 := inb_of (j := p1) S7 ⟨hi.1, hi.2⟩
  obtain ⟨T8, h8, X8, e8, W8, st8⟩ := stI X5 hx hZ e5 A7 (j := p1) hin7 (g := (mkF m 13 #[.val (.ref p0), .val (.int p1), .val (.ref p2), .val (.int p3), .val (.int p4), .val (.int p5), .val .null] [(.int p3), (.int p1), (.ref wO)])) rfl rfl (hb hby d7_13)
  have N8 := Fr.snoc X8 N3 ge_wO
  have K8 := K3.wr W8 (Or.inl (List.mem_of_getElem? (i := 1) rfl))
  have V8 := own_A.upd A7 S7 W8
  have f9 := ((F_firsts.other W3 (Or.inl d_p_wK)).other W8 (Or.inl d_p_wO))
  obtain ⟨T10, X10, e10, st10⟩ := getF X8 hx hZ hown (host := "") (Or.inl (hw _ (List.mem_of_getElem? (i := 30) rfl))) Via.refl e8 f9 (g := (mkF m 15 #[.val (.ref p0), .val (.int p1), .val (.ref p2), .val (.int p3), .val (.int p4), .val (.int p5), .val .null] [(.ref p0)])) rfl rfl (hb hby d7_15)
  have f11 := ((AwF.other W3 (Ne.symm d_wK_wF)).other W8 (Ne.symm d_wO_wF))
  obtain ⟨c12, A12, S12⟩ := f11
  have hin12 := inb_of (j := p1) S12 ⟨hi.1, hi.2⟩
  obtain ⟨T13, h13, X13, e13, W13, st13⟩ := stI X10 hx hZ e10 A12 (j := p1) hin12 (g := (mkF m 21 #[.val (.ref p0), .val (.int p1), .val (.ref p2), .val (.int p3), .val (.int p4), .val (.int p5), .val .null] [(.int p4), (.int p1), (.ref wF)])) rfl rfl (hb hby d7_21)
  have N13 := Fr.snoc X13 N8 ge_wF
  have K13 := K8.wr W13 (Or.inl (List.mem_of_getElem? (i := 2) rfl))
  have V13 := own_A.upd A12 S12 W13
  have f14 := (((F_seconds.other W3 (Or.inl d_p_wK)).other W8 (Or.inl d_p_wO)).other W13 (Or.inl d_p_wF))
  obtain ⟨T15, X15, e15, st15⟩ := getF X13 hx hZ hown (host := "") (Or.inl (hw _ (List.mem_of_getElem? (i := 32) rfl))) Via.refl e13 f14 (g := (mkF m 23 #[.val (.ref p0), .val (.int p1), .val (.ref p2), .val (.int p3), .val (.int p4), .val (.int p5), .val .null] [(.ref p0)])) rfl rfl (hb hby d7_23)
  have f16 := (((AwS.other W3 (Ne.symm d_wK_wS)).other W8 (Ne.symm d_wO_wS)).other W13 (Ne.symm d_wF_wS))
  obtain ⟨c17, A17, S17⟩ := f16
  have hin17 := inb_of (j := p1) S17 ⟨hi.1, hi.2⟩
  obtain ⟨T18, h18, X18, e18, W18, st18⟩ := stI X15 hx hZ e15 A17 (j := p1) hin17 (g := (mkF m 29 #[.val (.ref p0), .val (.int p1), .val (.ref p2), .val (.int p3), .val (.int p4), .val (.int p5), .val .null] [(.int p5), (.int p1), (.ref wS)])) rfl rfl (hb hby d7_29)
  have N18 := Fr.snoc X18 N13 ge_wS
  have K18 := K13.wr W18 (Or.inl (List.mem_of_getElem? (i := 3) rfl))
  have V18 := own_A.upd A17 S17 W18
  have f19 := ((((F_texts.other W3 (Or.inl d_p_wK)).other W8 (Or.inl d_p_wO)).other W13 (Or.inl d_p_wF)).other W18 (Or.inl d_p_wS))
  obtain ⟨T20, X20, e20, st20⟩ := getF X18 hx hZ hown (host := "") (Or.inl (hw _ (List.mem_of_getElem? (i := 34) rfl))) Via.refl e18 f19 (g := (mkF m 31 #[.val (.ref p0), .val (.int p1), .val (.ref p2), .val (.int p3), .val (.int p4), .val (.int p5), .val .null] [(.ref p0)])) rfl rfl (hb hby d7_31)
  have f21 := ((((AwT.other W3 (Ne.symm d_wK_wT)).other W8 (Ne.symm d_wO_wT)).other W13 (Ne.symm d_wF_wT)).other W18 (Ne.symm d_wS_wT))
  obtain ⟨c22, A22, S22⟩ := f21
  have hin22 := inb_of (j := p1) S22 ⟨hi.1, hi.2⟩
  obtain ⟨T23, h23, X23, e23, W23, st23⟩ := stR X20 hx hZ e20 A22 (j := p1) (v := .null) hin22 rfl (Or.inl rfl) (g := (mkF m 37 #[.val (.ref p0), .val (.int p1), .val (.ref p2), .val (.int p3), .val (.int p4), .val (.int p5), .val .null] [.null, (.int p1), (.ref wT)])) rfl rfl (hb hby d7_37)
  have N23 := Fr.snoc X23 N18 ge_wT
  have K23 := K18.wr W23 (Or.inl (List.mem_of_getElem? (i := 4) rfl))
  have V23 := own_A.upd A22 S22 W23
  have f24 := (((((E0.wr W3).wr W8).wr W13).wr W18).wr W23)
  have f25 := (((((F_kinds.other W3 (Or.inl d_p_wK)).other W8 (Or.inl d_p_wO)).other W13 (Or.inl d_p_wF)).other W18 (Or.inl d_p_wS)).other W23 (Or.inl d_p_wT))
  have f26 := ((((f4.other W8 (Or.inl d_p_wO)).other W13 (Or.inl d_p_wF)).other W18 (Or.inl d_p_wS)).other W23 (Or.inl d_p_wT))
  have f27 := (((f9.other W13 (Or.inl d_p_wF)).other W18 (Or.inl d_p_wS)).other W23 (Or.inl d_p_wT))
  have f28 := ((f14.other W18 (Or.inl d_p_wS)).other W23 (Or.inl d_p_wT))
  have f29 := (f19.other W23 (Or.inl d_p_wT))
  have f30 := ((((V3.other W8 d_wK_wO).other W13 d_wK_wF).other W18 d_wK_wS).other W23 d_wK_wT)
  have f31 := (((V8.other W13 d_wO_wF).other W18 d_wO_wS).other W23 d_wO_wT)
  have f32 := ((V13.other W18 d_wF_wS).other W23 d_wF_wT)
  have f33 := (V18.other W23 d_wS_wT)
  obtain ⟨fs, hr, hrun, hended, hW, hsame⟩ := X23.leave (v := none) (fun _ => rfl)
  refine ⟨_, _, pre0 _ ?_, hrun, hended, _, _, rfl, ?_, ⟨_, rfl⟩, hW, hsame.mono (by decide) (by decide)⟩
  · show Steps p.tables e below (s₁.setTop (mkF m 0 #[.val (.ref p0), .val (.int p1), .val (.ref p2), .val (.int p3), .val (.int p4), .val (.int p5), .val .null] [])) _
    refine XS.aloadN X0.here hx rfl (hb hby d7_0) rfl rfl ?_
    show Steps p.tables e below (s₁.setTop (mkF m 1 #[.val (.ref p0), .val (.int p1), .val (.ref p2), .val (.int p3), .val (.int p4), .val (.int p5), .val .null] [(.ref p0)])) _
    refine st1 _ ?_
    show Steps p.tables e below (T1.setTop (mkF m 4 #[.val (.ref p0), .val (.int p1), .val (.ref p2), .val (.int p3), .val (.int p4), .val (.int p5), .val .null] [(.ref wK)])) _
    refine XS.iloadN X1.here hx rfl (hb hby d7_4) rfl  ?_
    show Steps p.tables e below (T1.setTop (mkF m 5 #[.val (.ref p0), .val (.int p1), .val (.ref p2), .val (.int p3), .val (.int p4), .val (.int p5), .val .null] [(.int p1), (.ref wK)])) _
    refine XS.aloadN X1.here hx rfl (hb hby d7_5) rfl rfl ?_
    show Steps p.tables e below (T1.setTop (mkF m 6 #[.val (.ref p0), .val (.int p1), .val (.ref p2), .val (.int p3), .val (.int p4), .val (.int p5), .val .null] [(.ref p2), (.int p1), (.ref wK)])) _
    refine st3 _ ?_
    show Steps p.tables e below (T3.setTop (mkF m 7 #[.val (.ref p0), .val (.int p1), .val (.ref p2), .val (.int p3), .val (.int p4), .val (.int p5), .val .null] [])) _
    refine XS.aloadN X3.here hx rfl (hb hby d7_7) rfl rfl ?_
    show Steps p.tables e below (T3.setTop (mkF m 8 #[.val (.ref p0), .val (.int p1), .val (.ref p2), .val (.int p3), .val (.int p4), .val (.int p5), .val .null] [(.ref p0)])) _
    refine st5 _ ?_
    show Steps p.tables e below (T5.setTop (mkF m 11 #[.val (.ref p0), .val (.int p1), .val (.ref p2), .val (.int p3), .val (.int p4), .val (.int p5), .val .null] [(.ref wO)])) _
    refine XS.iloadN X5.here hx rfl (hb hby d7_11) rfl  ?_
    show Steps p.tables e below (T5.setTop (mkF m 12 #[.val (.ref p0), .val (.int p1), .val (.ref p2), .val (.int p3), .val (.int p4), .val (.int p5), .val .null] [(.int p1), (.ref wO)])) _
    refine XS.iloadN X5.here hx rfl (hb hby d7_12) rfl  ?_
    show Steps p.tables e below (T5.setTop (mkF m 13 #[.val (.ref p0), .val (.int p1), .val (.ref p2), .val (.int p3), .val (.int p4), .val (.int p5), .val .null] [(.int p3), (.int p1), (.ref wO)])) _
    refine st8 _ ?_
    show Steps p.tables e below (T8.setTop (mkF m 14 #[.val (.ref p0), .val (.int p1), .val (.ref p2), .val (.int p3), .val (.int p4), .val (.int p5), .val .null] [])) _
    refine XS.aloadN X8.here hx rfl (hb hby d7_14) rfl rfl ?_
    show Steps p.tables e below (T8.setTop (mkF m 15 #[.val (.ref p0), .val (.int p1), .val (.ref p2), .val (.int p3), .val (.int p4), .val (.int p5), .val .null] [(.ref p0)])) _
    refine st10 _ ?_
    show Steps p.tables e below (T10.setTop (mkF m 18 #[.val (.ref p0), .val (.int p1), .val (.ref p2), .val (.int p3), .val (.int p4), .val (.int p5), .val .null] [(.ref wF)])) _
    refine XS.iloadN X10.here hx rfl (hb hby d7_18) rfl  ?_
    show Steps p.tables e below (T10.setTop (mkF m 19 #[.val (.ref p0), .val (.int p1), .val (.ref p2), .val (.int p3), .val (.int p4), .val (.int p5), .val .null] [(.int p1), (.ref wF)])) _
    refine XS.iload X10.here hx rfl (hb hby d7_19) rfl  ?_
    show Steps p.tables e below (T10.setTop (mkF m 21 #[.val (.ref p0), .val (.int p1), .val (.ref p2), .val (.int p3), .val (.int p4), .val (.int p5), .val .null] [(.int p4), (.int p1), (.ref wF)])) _
    refine st13 _ ?_
    show Steps p.tables e below (T13.setTop (mkF m 22 #[.val (.ref p0), .val (.int p1), .val (.ref p2), .val (.int p3), .val (.int p4), .val (.int p5), .val .null] [])) _
    refine XS.aloadN X13.here hx rfl (hb hby d7_22) rfl rfl ?_
    show Steps p.tables e below (T13.setTop (mkF m 23 #[.val (.ref p0), .val (.int p1), .val (.ref p2), .val (.int p3), .val (.int p4), .val (.int p5), .val .null] [(.ref p0)])) _
    refine st15 _ ?_
    show Steps p.tables e below (T15.setTop (mkF m 26 #[.val (.ref p0), .val (.int p1), .val (.ref p2), .val (.int p3), .val (.int p4), .val (.int p5), .val .null] [(.ref wS)])) _
    refine XS.iloadN X15.here hx rfl (hb hby d7_26) rfl  ?_
    show Steps p.tables e below (T15.setTop (mkF m 27 #[.val (.ref p0), .val (.int p1), .val (.ref p2), .val (.int p3), .val (.int p4), .val (.int p5), .val .null] [(.int p1), (.ref wS)])) _
    refine XS.iload X15.here hx rfl (hb hby d7_27) rfl  ?_
    show Steps p.tables e below (T15.setTop (mkF m 29 #[.val (.ref p0), .val (.int p1), .val (.ref p2), .val (.int p3), .val (.int p4), .val (.int p5), .val .null] [(.int p5), (.int p1), (.ref wS)])) _
    refine st18 _ ?_
    show Steps p.tables e below (T18.setTop (mkF m 30 #[.val (.ref p0), .val (.int p1), .val (.ref p2), .val (.int p3), .val (.int p4), .val (.int p5), .val .null] [])) _
    refine XS.aloadN X18.here hx rfl (hb hby d7_30) rfl rfl ?_
    show Steps p.tables e below (T18.setTop (mkF m 31 #[.val (.ref p0), .val (.int p1), .val (.ref p2), .val (.int p3), .val (.int p4), .val (.int p5), .val .null] [(.ref p0)])) _
    refine st20 _ ?_
    show Steps p.tables e below (T20.setTop (mkF m 34 #[.val (.ref p0), .val (.int p1), .val (.ref p2), .val (.int p3), .val (.int p4), .val (.int p5), .val .null] [(.ref wT)])) _
    refine XS.iloadN X20.here hx rfl (hb hby d7_34) rfl  ?_
    show Steps p.tables e below (T20.setTop (mkF m 35 #[.val (.ref p0), .val (.int p1), .val (.ref p2), .val (.int p3), .val (.int p4), .val (.int p5), .val .null] [(.int p1), (.ref wT)])) _
    refine XS.aload X20.here hx rfl (hb hby d7_35) rfl rfl ?_
    show Steps p.tables e below (T20.setTop (mkF m 37 #[.val (.ref p0), .val (.int p1), .val (.ref p2), .val (.int p3), .val (.int p4), .val (.int p5), .val .null] [.null, (.int p1), (.ref wT)])) _
    refine st23 _ ?_
    show Steps p.tables e below (T23.setTop (mkF m 38 #[.val (.ref p0), .val (.int p1), .val (.ref p2), .val (.int p3), .val (.int p4), .val (.int p5), .val .null] [])) _
    exact X23.returnOut hx Bd.returns (hb hby d7_38) hr
  · show Q_rmAdd Z p0 p1 p2 p3 p4 p5 wK wO wF wS wT k n hs h0 n0 _ T23.heap _
    rw [e23]
    exact ⟨rfl, N23, K23, f24, f25, f26, f27, f28, f29, f30, OV, f31, f32, f33, V23⟩
theorem ef_rmKind (m : MethodId) (p0 : Addr) (p1 : Int32) : entryFrame m #[(.ref p0), (.int p1)] 2 = mkF m 0 #[.val (.ref p0), .val (.int p1)] [] := by first | (simp [entryFrame, mkF, argsToLocals, Value.category]; done) | rfl
theorem d5_0 : decode prog_64_method_10_code 0 = .ok (.iload_n 1, 1) := by decide +kernel
theorem d5_1 : decode prog_64_method_10_code 1 = .ok (.ifCond .lt 21, 3) := by decide +kernel
theorem d5_22 : decode prog_64_method_10_code 22 = .ok (.aconst_null, 1) := by decide +kernel
theorem d5_23 : decode prog_64_method_10_code 23 = .ok (.areturn, 1) := by decide +kernel
theorem d5_4 : decode prog_64_method_10_code 4 = .ok (.iload_n 1, 1) := by decide +kernel
theorem d5_5 : decode prog_64_method_10_code 5 = .ok (.aload_n 0, 1) := by decide +kernel
theorem d5_6 : decode prog_64_method_10_code 6 = .ok (.getfield 16, 3) := by decide +kernel
theorem d5_9 : decode prog_64_method_10_code 9 = .ok (.arraylength, 1) := by decide +kernel
theorem d5_10 : decode prog_64_method_10_code 10 = .ok (.if_icmp .ge 12, 3) := by decide +kernel
theorem d5_13 : decode prog_64_method_10_code 13 = .ok (.aload_n 0, 1) := by decide +kernel
theorem d5_14 : decode prog_64_method_10_code 14 = .ok (.getfield 16, 3) := by decide +kernel
theorem d5_17 : decode prog_64_method_10_code 17 = .ok (.iload_n 1, 1) := by decide +kernel
theorem d5_18 : decode prog_64_method_10_code 18 = .ok (.aaload, 1) := by decide +kernel
theorem d5_19 : decode prog_64_method_10_code 19 = .ok (.goto 4, 3) := by decide +kernel
def Q_rmKind (Z : State) (p0 : Addr) (p1 : Int32) (wK : Addr) (wO : Addr) (wF : Addr) (wS : Addr) (wT : Addr) (k : ClassId) (n : Int32) (hs : List (Int32 × Value)) (r : Value) (h0 : Heap) (n0 : Nat) (v : Option Value) (h : Heap) (L : List Loc) : Prop := v = some r ∧ Fr n0 L ∧ h = h0
set_option maxRecDepth 65536 in
set_option maxHeartbeats 40000000 in
theorem rmKind (l : Launch) (Z : State) (a0 : Array Value) (hw : ∀ d ∈ tables_1, d.before a0 Z = true) (ws : List Jvm.Cond) (p0 : Addr) (p1 : Int32) (wK : Addr) (wO : Addr) (wF : Addr) (wS : Addr) (wT : Addr) (k : ClassId) (n : Int32) (hs : List (Int32 × Value)) (r : Value) (h0 : Heap) (n0 : Nat) (Z0 : n0 ≤ h0.size) (hP : own_P Z h0 p0 wK wO wF wS wT k n hs) (hres : r = own_kv n hs p1) :
    MetFree l (⟨"com/example/bytelens/bytelens/ConstantPool", "kind", "(I)Lcom/example/bytelens/bytelens/ConstantKind;"⟩ : MethodName) (head1 (Jvm.Cond.code (⟨"com/example/bytelens/bytelens/ConstantPool", "kind", "(I)Lcom/example/bytelens/bytelens/ConstantKind;"⟩ : MethodName) prog_64_method_10_code 2 (some (.object "com/example/bytelens/bytelens/ConstantKind")) :: ws) ({ frames := 0, cells := 0, slots := 0, locals := 0 } : Room)) (fun a U => a = #[(.ref p0), (.int p1)] ∧ Z.Warmed39 U.vm ∧ U.heap = h0) (fun _ _ _ _ _ => True) (fun _ U o U' => ∃ v L, o = .returned v ∧ Q_rmKind Z p0 p1 wK wO wF wS wT k n hs r h0 n0 v U'.heap L ∧ FrameEnd U o U' L ({ frames := 0, cells := 0, slots := 0, locals := 0 } : Room).cells ({ frames := 0, cells := 0, slots := 0, locals := 0 } : Room).slots) := by
  refine MetFree.of_bodySF (plainFor_of_name pn_com_example_bytelens_bytelens_ConstantPool) hisR ?_
  intro p e s m args below meth c s₁ Bd hml0 hP hK
  obtain ⟨rfl, hZ, hh⟩ := hP
  have hx := Bd.exec
  have hby := Bd.bytes
  have hml : c.maxLocals = 2 := hml0
  have hown : s.vm.findClass "com/example/bytelens/bytelens/ConstantPool" = some m.cls := findClass_of_methodNamed Bd.named
  have hnm := (name_of_methodNamed Bd.named Bd.method).1
  have X0 : Stand p l e ({ frames := 0, cells := 0, slots := 0, locals := 0 } : Room) s m #[(.ref p0), (.int p1)] below meth c s₁ [] 0 0 := Stand.of_body Bd
  have e0 : s₁.heap = h0 := by rw [← hh, Bd.state]; rfl
  have N0 := Fr.nil n0
  have pre0 : ∀ t, Steps p.tables e below (s₁.setTop (mkF m 0 #[.val (.ref p0), .val (.int p1)] [])) t → Steps p.tables e below (s₁.setTop (entryFrame m #[(.ref p0), (.int p1)] 2)) t := fun t k => castTop (ef_rmKind m p0 p1 ) k
  obtain ⟨E0, F_kinds, F_offsets, F_firsts, F_seconds, F_texts, AK, OV, AwO, AwF, AwS, AwT⟩ := hP
  have pre2 : ∀ t, Steps p.tables e below (s₁.setTop (mkF m 1 #[.val (.ref p0), .val (.int p1)] [(.int p1)])) t → Steps p.tables e below (s₁.setTop (entryFrame m #[(.ref p0), (.int p1)] 2)) t := fun t kt => pre0 t (by
    show Steps p.tables e below (s₁.setTop (mkF m 0 #[.val (.ref p0), .val (.int p1)] [])) _
    refine XS.iloadN X0.here hx rfl (hb hby d5_0) rfl  ?_
    exact kt)
  by_cases hc1_1 : p1 < (0 : Int32)
  · obtain ⟨fs, hr, hrun, hended, hW, hsame⟩ := X0.leave (v := some .null) (fun h => by rw [Bd.returns] at h; cases h)
    refine ⟨_, _, pre2 _ ?_, hrun, hended, _, _, rfl, ?_, ⟨_, rfl⟩, hW, hsame.mono (by decide) (by decide)⟩
    · show Steps p.tables e below (s₁.setTop (mkF m 1 #[.val (.ref p0), .val (.int p1)] [(.int p1)])) _
      refine XS.ifYes X0.here hx rfl (pc0 := 1) (pc' := 22) rfl (hb hby d5_1) rfl ((if0 _ _).trans (tlt hc1_1).1) (by decide) (by decide) ?_
      show Steps p.tables e below (s₁.setTop (mkF m 22 #[.val (.ref p0), .val (.int p1)] [])) _
      refine XS.aconstNull X0.here hx rfl (hb hby d5_22) ?_
      show Steps p.tables e below (s₁.setTop (mkF m 23 #[.val (.ref p0), .val (.int p1)] [.null])) _
      jvm_step X0.here [X0.here.top, hx, (hb hby d5_23), X0.method', Bd.returns, Value.isRef, FieldType.isReference]
      first | (intro acts; rw [hr _ acts rfl rfl rfl]) | rw [hr _ _ rfl rfl rfl]
      exact Steps.refl _
    · show Q_rmKind Z p0 p1 wK wO wF wS wT k n hs r h0 n0 _ s₁.heap _
      rw [e0]
      exact ⟨by rw [hres]; unfold own_kv; rw [if_pos hc1_1], N0, rfl⟩
  · obtain ⟨T3, X3, e3, st3⟩ := getF X0 hx hZ hown (host := "") (Or.inl (hw _ (List.mem_of_getElem? (i := 26) rfl))) Via.refl e0 F_kinds (g := (mkF m 6 #[.val (.ref p0), .val (.int p1)] [(.ref p0), (.int p1)])) rfl rfl (hb hby d5_6)
    obtain ⟨cl4, Ar4, -, S4, N4, -, -⟩ := id AK
    have pre6 : ∀ t, Steps p.tables e below (T3.setTop (mkF m 10 #[.val (.ref p0), .val (.int p1)] [(.int n), (.int p1)])) t → Steps p.tables e below (s₁.setTop (entryFrame m #[(.ref p0), (.int p1)] 2)) t := fun t kt => pre2 t (by
      show Steps p.tables e below (s₁.setTop (mkF m 1 #[.val (.ref p0), .val (.int p1)] [(.int p1)])) _
      refine XS.ifNo X0.here hx rfl (hb hby d5_1) rfl ((if0 _ _).trans (flt hc1_1).1) ?_
      show Steps p.tables e below (s₁.setTop (mkF m 4 #[.val (.ref p0), .val (.int p1)] [])) _
      refine XS.iloadN X0.here hx rfl (hb hby d5_4) rfl  ?_
      show Steps p.tables e below (s₁.setTop (mkF m 5 #[.val (.ref p0), .val (.int p1)] [(.int p1)])) _
      refine XS.aloadN X0.here hx rfl (hb hby d5_5) rfl rfl ?_
      show Steps p.tables e below (s₁.setTop (mkF m 6 #[.val (.ref p0), .val (.int p1)] [(.ref p0), (.int p1)])) _
      refine st3 _ ?_
      show Steps p.tables e below (T3.setTop (mkF m 9 #[.val (.ref p0), .val (.int p1)] [(.ref wK), (.int p1)])) _
      refine X3.arraylength hx (by rw [e3]; exact Ar4.1) (State.isArrayOf_alike hZ.alike Ar4.2.1) (g := (mkF m 9 #[.val (.ref p0), .val (.int p1)] [(.ref wK), (.int p1)])) rfl rfl (hb hby d5_9) _ ?_
      rw [len_of S4 N4]
      exact kt)
    by_cases hc10_5 : p1 < n
    · obtain ⟨T7, X7, e7, st7⟩ := getF X3 hx hZ hown (host := "") (Or.inl (hw _ (List.mem_of_getElem? (i := 26) rfl))) Via.refl e3 F_kinds (g := (mkF m 14 #[.val (.ref p0), .val (.int p1)] [(.ref p0)])) rfl rfl (hb hby d5_14)
      obtain ⟨cl8, Ar8, q8, S8, N8, H8, G8⟩ := id AK
      have hin8 := inb_of (j := p1) S8 ⟨hc1_1, hc10_5⟩
      have hat8 := atH H8 hin8 rfl
      have hrf8 := own_fr (fitH G8 hin8 rfl)
      obtain ⟨fs, hr, hrun, hended, hW, hsame⟩ := X7.leave (v := some (getH hs [] .null p1.toNatClampNeg)) (fun h => by rw [Bd.returns] at h; cases h)
      refine ⟨_, _, pre6 _ ?_, hrun, hended, _, _, rfl, ?_, ⟨_, rfl⟩, hW, hsame.mono (by decide) (by decide)⟩
      · show Steps p.tables e below (T3.setTop (mkF m 10 #[.val (.ref p0), .val (.int p1)] [(.int n), (.int p1)])) _
        refine XS.icmpNo X3.here hx rfl (hb hby d5_10) rfl (tlt hc10_5).2.1 ?_
        show Steps p.tables e below (T3.setTop (mkF m 13 #[.val (.ref p0), .val (.int p1)] [])) _
        refine XS.aloadN X3.here hx rfl (hb hby d5_13) rfl rfl ?_
        show Steps p.tables e below (T3.setTop (mkF m 14 #[.val (.ref p0), .val (.int p1)] [(.ref p0)])) _
        refine st7 _ ?_
        show Steps p.tables e below (T7.setTop (mkF m 17 #[.val (.ref p0), .val (.int p1)] [(.ref wK)])) _
        refine XS.iloadN X7.here hx rfl (hb hby d5_17) rfl  ?_
        show Steps p.tables e below (T7.setTop (mkF m 18 #[.val (.ref p0), .val (.int p1)] [(.int p1), (.ref wK)])) _
        refine X7.aaload hx (j := p1) (v := (getH hs [] .null p1.toNatClampNeg)) (by rw [e7]; exact Ar8.1) (State.isArrayOf_alike hZ.alike Ar8.2.1) rfl Ar8.2.2 hin8 hat8 (g := (mkF m 18 #[.val (.ref p0), .val (.int p1)] [(.int p1), (.ref wK)])) rfl rfl (hb hby d5_18) _ ?_
        show Steps p.tables e below (T7.setTop (mkF m 19 #[.val (.ref p0), .val (.int p1)] [(getH hs [] .null p1.toNatClampNeg)])) _
        refine XS.goto X7.here hx rfl (pc0 := 19) (pc' := 23) rfl (hb hby d5_19) (by decide) (by decide) ?_
        show Steps p.tables e below (T7.setTop (mkF m 23 #[.val (.ref p0), .val (.int p1)] [(getH hs [] .null p1.toNatClampNeg)])) _
        exact retOut X7 hx Bd.returns rfl (Or.inr (Or.inr (Or.inr (Or.inr ⟨rfl, rfl, hrf8⟩)))) (hb hby d5_23) hr
      · show Q_rmKind Z p0 p1 wK wO wF wS wT k n hs r h0 n0 _ T7.heap _
        rw [e7]
        exact ⟨by rw [hres]; unfold own_kv; rw [if_neg hc1_1, if_pos hc10_5], N0, rfl⟩
    · obtain ⟨fs, hr, hrun, hended, hW, hsame⟩ := X3.leave (v := some .null) (fun h => by rw [Bd.returns] at h; cases h)
      refine ⟨_, _, pre6 _ ?_, hrun, hended, _, _, rfl, ?_, ⟨_, rfl⟩, hW, hsame.mono (by decide) (by decide)⟩
      · show Steps p.tables e below (T3.setTop (mkF m 10 #[.val (.ref p0), .val (.int p1)] [(.int n), (.int p1)])) _
        refine XS.icmpYes X3.here hx rfl (pc0 := 10) (pc' := 22) rfl (hb hby d5_10) rfl (flt hc10_5).2.1 (by decide) (by decide) ?_
        show Steps p.tables e below (T3.setTop (mkF m 22 #[.val (.ref p0), .val (.int p1)] [])) _
        refine XS.aconstNull X3.here hx rfl (hb hby d5_22) ?_
        show Steps p.tables e below (T3.setTop (mkF m 23 #[.val (.ref p0), .val (.int p1)] [.null])) _
        jvm_step X3.here [X3.here.top, hx, (hb hby d5_23), X3.method', Bd.returns, Value.isRef, FieldType.isReference]
        first | (intro acts; rw [hr _ acts rfl rfl rfl]) | rw [hr _ _ rfl rfl rfl]
        exact Steps.refl _
      · show Q_rmKind Z p0 p1 wK wO wF wS wT k n hs r h0 n0 _ T3.heap _
        rw [e3]
        exact ⟨by rw [hres]; unfold own_kv; rw [if_neg hc1_1, if_neg hc10_5], N0, rfl⟩
theorem ef_rm0 (m : MethodId) (p0 : Int32) (p1 : Int32) (p2 : Int32) (p3 : Int32) (p4 : Int32) (p5 : Int32) : entryFrame m #[(.int p0), (.int p1), (.int p2), (.int p3), (.int p4), (.int p5)] maxLocals = mkF m 0 #[.val (.int p0), .val (.int p1), .val (.int p2), .val (.int p3), .val (.int p4), .val (.int p5), .unset, .unset, .unset, .unset, .unset, .unset, .unset, .unset, .unset, .unset] [] := by first | (simp [entryFrame, mkF, argsToLocals, Value.category, maxLocals]; done) | rfl
theorem pd__I_Lcom_example_bytelens_bytelens_ConstantKind_ : parseMethodDescriptor "(I)Lcom/example/bytelens/bytelens/ConstantKind;" = some ⟨[.int], some (.object "com/example/bytelens/bytelens/ConstantKind")⟩ := by decide +kernel
theorem pd__I_V : parseMethodDescriptor "(I)V" = some ⟨[.int], none⟩ := by decide +kernel
theorem pd__ILcom_example_bytelens_bytelens_ConstantKind_IIILjava_lang_String__V : parseMethodDescriptor "(ILcom/example/bytelens/bytelens/ConstantKind;IIILjava/lang/String;)V" = some ⟨[.int, (.object "com/example/bytelens/bytelens/ConstantKind"), .int, .int, .int, (.object "java/lang/String")], none⟩ := by decide +kernel
theorem pd__IILcom_example_bytelens_bytelens_ConstantKind_ILcom_example_bytelens_bytelens_ConstantKind_I_Lcom_example_bytelens_bytelens_ConstantKind_ : parseMethodDescriptor "(IILcom/example/bytelens/bytelens/ConstantKind;ILcom/example/bytelens/bytelens/ConstantKind;I)Lcom/example/bytelens/bytelens/ConstantKind;" = some ⟨[.int, .int, (.object "com/example/bytelens/bytelens/ConstantKind"), .int, (.object "com/example/bytelens/bytelens/ConstantKind"), .int], some (.object "com/example/bytelens/bytelens/ConstantKind")⟩ := by decide +kernel
def Q_rm0 (Z : State) (p0 : Int32) (p1 : Int32) (p2 : Int32) (p3 : Int32) (p4 : Int32) (p5 : Int32) (w0 : Addr) (w1 : Addr) (w2 : Addr) (w3 : Addr) (h0 : Heap) (n0 : Nat) (v : Option Value) (h : Heap) (L : List Loc) : Prop := v = some (.int (1 : Int32)) ∧ Fr n0 L
set_option maxRecDepth 65536 in
set_option maxHeartbeats 40000000 in
theorem rm0 (l : Launch) (Z : State) (a0 : Array Value) (hw : ∀ d ∈ tables_1, d.before a0 Z = true) (ws : List Jvm.Cond) (p0 : Int32) (p1 : Int32) (p2 : Int32) (p3 : Int32) (p4 : Int32) (p5 : Int32) (w0 : Addr) (w1 : Addr) (w2 : Addr) (w3 : Addr) (h0 : Heap) (n0 : Nat) (Z0 : n0 ≤ h0.size) (S_UTF8 : Sta Z h0 "com/example/bytelens/bytelens/ConstantKind" "UTF8" "Lcom/example/bytelens/bytelens/ConstantKind;" (.ref w0)) (S_LONG : Sta Z h0 "com/example/bytelens/bytelens/ConstantKind" "LONG" "Lcom/example/bytelens/bytelens/ConstantKind;" (.ref w1)) (S_CLASS : Sta Z h0 "com/example/bytelens/bytelens/ConstantKind" "CLASS" "Lcom/example/bytelens/bytelens/ConstantKind;" (.ref w2)) (S_PACKAGE : Sta Z h0 "com/example/bytelens/bytelens/ConstantKind" "PACKAGE" "Lcom/example/bytelens/bytelens/ConstantKind;" (.ref w3)) (E_UTF8 : Exa Z h0 w0 "com/example/bytelens/bytelens/ConstantKind") (E_LONG : Exa Z h0 w1 "com/example/bytelens/bytelens/ConstantKind") (E_CLASS : Exa Z h0 w2 "com/example/bytelens/bytelens/ConstantKind") (E_PACKAGE : Exa Z h0 w3 "com/example/bytelens/bytelens/ConstantKind") :
    MetFree l x (head1 (Jvm.Cond.code x code maxLocals ret :: ws) room_1) (fun a U => a = #[(.int p0), (.int p1), (.int p2), (.int p3), (.int p4), (.int p5)] ∧ Z.Warmed39 U.vm ∧ U.heap = h0) (fun _ _ _ _ _ => True) (fun _ U o U' => ∃ v L, o = .returned v ∧ Q_rm0 Z p0 p1 p2 p3 p4 p5 w0 w1 w2 w3 h0 n0 v U'.heap L ∧ FrameEnd U o U' L room_1.cells room_1.slots) := by
  refine MetFree.of_bodySF (plainFor_of_name pn_com_example_bytelens_bytelens_ConstantPoolKindPinLaw) hisR ?_
  intro p e s m args below meth c s₁ Bd hml0 hP hK
  obtain ⟨rfl, hZ, hh⟩ := hP
  have hx := Bd.exec
  have hby := Bd.bytes
  have hml : c.maxLocals = 16 := hml0
  have hown : s.vm.findClass "com/example/bytelens/bytelens/ConstantPoolKindPinLaw" = some m.cls := findClass_of_methodNamed Bd.named
  have hnm := (name_of_methodNamed Bd.named Bd.method).1
  have X0 : Stand p l e room_1 s m #[(.int p0), (.int p1), (.int p2), (.int p3), (.int p4), (.int p5)] below meth c s₁ [] 0 0 := Stand.of_body Bd
  have e0 : s₁.heap = h0 := by rw [← hh, Bd.state]; rfl
  have N0 := Fr.nil n0
  have pre0 : ∀ t, Steps p.tables e below (s₁.setTop (mkF m 0 #[.val (.int p0), .val (.int p1), .val (.int p2), .val (.int p3), .val (.int p4), .val (.int p5), .unset, .unset, .unset, .unset, .unset, .unset, .unset, .unset, .unset, .unset] [])) t → Steps p.tables e below (s₁.setTop (entryFrame m #[(.int p0), (.int p1), (.int p2), (.int p3), (.int p4), (.int p5)] maxLocals)) t := fun t k => castTop (ef_rm0 m p0 p1 p2 p3 p4 p5 ) k
  have pre1 : ∀ t, Steps p.tables e below (s₁.setTop (mkF m 6 #[.val (.int p0), .val (.int p1), .val (.int p2), .val (.int p3), .val (.int p4), .val (.int p5), .val (.int (p0 &&& (15 : Int32))), .unset, .unset, .unset, .unset, .unset, .unset, .unset, .unset, .unset] [])) t → Steps p.tables e below (s₁.setTop (entryFrame m #[(.int p0), (.int p1), (.int p2), (.int p3), (.int p4), (.int p5)] maxLocals)) t := fun t kt => pre0 t (by
    show Steps p.tables e below (s₁.setTop (mkF m 0 #[.val (.int p0), .val (.int p1), .val (.int p2), .val (.int p3), .val (.int p4), .val (.int p5), .unset, .unset, .unset, .unset, .unset, .unset, .unset, .unset, .unset, .unset] [])) _
    refine XS.iloadN X0.here hx rfl (hb hby at_0) rfl  ?_
    show Steps p.tables e below (s₁.setTop (mkF m 1 #[.val (.int p0), .val (.int p1), .val (.int p2), .val (.int p3), .val (.int p4), .val (.int p5), .unset, .unset, .unset, .unset, .unset, .unset, .unset, .unset, .unset, .unset] [(.int p0)])) _
    refine XS.bipush X0.here hx rfl (hb hby at_1) ?_
    show Steps p.tables e below (s₁.setTop (mkF m 3 #[.val (.int p0), .val (.int p1), .val (.int p2), .val (.int p3), .val (.int p4), .val (.int p5), .unset, .unset, .unset, .unset, .unset, .unset, .unset, .unset, .unset, .unset] [(.int (15 : Int32)), (.int p0)])) _
    refine XS.iand X0.here hx rfl (hb hby at_3) rfl ?_
    show Steps p.tables e below (s₁.setTop (mkF m 4 #[.val (.int p0), .val (.int p1), .val (.int p2), .val (.int p3), .val (.int p4), .val (.int p5), .unset, .unset, .unset, .unset, .unset, .unset, .unset, .unset, .unset, .unset] [(.int (p0 &&& (15 : Int32)))])) _
    refine XS.istore X0.here hx rfl (hb hby at_4) rfl (l' := #[.val (.int p0), .val (.int p1), .val (.int p2), .val (.int p3), .val (.int p4), .val (.int p5), .val (.int (p0 &&& (15 : Int32))), .unset, .unset, .unset, .unset, .unset, .unset, .unset, .unset, .unset]) rfl ?_
    exact kt)
  obtain ⟨n, hn⟩ : ∃ z, z = (p0 &&& (15 : Int32)) := ⟨_, rfl⟩
  rw [← hn] at pre1
  have pre2 : ∀ t, Steps p.tables e below (s₁.setTop (mkF m 14 #[.val (.int p0), .val (.int p1), .val (.int p2), .val (.int p3), .val (.int p4), .val (.int p5), .val (.int n), .val (.int ((p1 &&& (7 : Int32)) + (1 : Int32))), .unset, .unset, .unset, .unset, .unset, .unset, .unset, .unset] [])) t → Steps p.tables e below (s₁.setTop (entryFrame m #[(.int p0), (.int p1), (.int p2), (.int p3), (.int p4), (.int p5)] maxLocals)) t := fun t kt => pre1 t (by
    show Steps p.tables e below (s₁.setTop (mkF m 6 #[.val (.int p0), .val (.int p1), .val (.int p2), .val (.int p3), .val (.int p4), .val (.int p5), .val (.int n), .unset, .unset, .unset, .unset, .unset, .unset, .unset, .unset, .unset] [])) _
    refine XS.iloadN X0.here hx rfl (hb hby at_6) rfl  ?_
    show Steps p.tables e below (s₁.setTop (mkF m 7 #[.val (.int p0), .val (.int p1), .val (.int p2), .val (.int p3), .val (.int p4), .val (.int p5), .val (.int n), .unset, .unset, .unset, .unset, .unset, .unset, .unset, .unset, .unset] [(.int p1)])) _
    refine XS.bipush X0.here hx rfl (hb hby at_7) ?_
    show Steps p.tables e below (s₁.setTop (mkF m 9 #[.val (.int p0), .val (.int p1), .val (.int p2), .val (.int p3), .val (.int p4), .val (.int p5), .val (.int n), .unset, .unset, .unset, .unset, .unset, .unset, .unset, .unset, .unset] [(.int (7 : Int32)), (.int p1)])) _
    refine XS.iand X0.here hx rfl (hb hby at_9) rfl ?_
    show Steps p.tables e below (s₁.setTop (mkF m 10 #[.val (.int p0), .val (.int p1), .val (.int p2), .val (.int p3), .val (.int p4), .val (.int p5), .val (.int n), .unset, .unset, .unset, .unset, .unset, .unset, .unset, .unset, .unset] [(.int (p1 &&& (7 : Int32)))])) _
    refine XS.iconst X0.here hx rfl (hb hby at_10) ?_
    show Steps p.tables e below (s₁.setTop (mkF m 11 #[.val (.int p0), .val (.int p1), .val (.int p2), .val (.int p3), .val (.int p4), .val (.int p5), .val (.int n), .unset, .unset, .unset, .unset, .unset, .unset, .unset, .unset, .unset] [(.int (1 : Int32)), (.int (p1 &&& (7 : Int32)))])) _
    refine XS.iadd X0.here hx rfl (hb hby at_11) rfl ?_
    show Steps p.tables e below (s₁.setTop (mkF m 12 #[.val (.int p0), .val (.int p1), .val (.int p2), .val (.int p3), .val (.int p4), .val (.int p5), .val (.int n), .unset, .unset, .unset, .unset, .unset, .unset, .unset, .unset, .unset] [(.int ((p1 &&& (7 : Int32)) + (1 : Int32)))])) _
    refine XS.istore X0.here hx rfl (hb hby at_12) rfl (l' := #[.val (.int p0), .val (.int p1), .val (.int p2), .val (.int p3), .val (.int p4), .val (.int p5), .val (.int n), .val (.int ((p1 &&& (7 : Int32)) + (1 : Int32))), .unset, .unset, .unset, .unset, .unset, .unset, .unset, .unset]) rfl ?_
    exact kt)
  obtain ⟨a, ha⟩ : ∃ z, z = ((p1 &&& (7 : Int32)) + (1 : Int32)) := ⟨_, rfl⟩
  rw [← ha] at pre2
  have pre3 : ∀ t, Steps p.tables e below (s₁.setTop (mkF m 22 #[.val (.int p0), .val (.int p1), .val (.int p2), .val (.int p3), .val (.int p4), .val (.int p5), .val (.int n), .val (.int a), .val (.int ((p3 &&& (7 : Int32)) + (1 : Int32))), .unset, .unset, .unset, .unset, .unset, .unset, .unset] [])) t → Steps p.tables e below (s₁.setTop (entryFrame m #[(.int p0), (.int p1), (.int p2), (.int p3), (.int p4), (.int p5)] maxLocals)) t := fun t kt => pre2 t (by
    show Steps p.tables e below (s₁.setTop (mkF m 14 #[.val (.int p0), .val (.int p1), .val (.int p2), .val (.int p3), .val (.int p4), .val (.int p5), .val (.int n), .val (.int a), .unset, .unset, .unset, .unset, .unset, .unset, .unset, .unset] [])) _
    refine XS.iloadN X0.here hx rfl (hb hby at_14) rfl  ?_
    show Steps p.tables e below (s₁.setTop (mkF m 15 #[.val (.int p0), .val (.int p1), .val (.int p2), .val (.int p3), .val (.int p4), .val (.int p5), .val (.int n), .val (.int a), .unset, .unset, .unset, .unset, .unset, .unset, .unset, .unset] [(.int p3)])) _
    refine XS.bipush X0.here hx rfl (hb hby at_15) ?_
    show Steps p.tables e below (s₁.setTop (mkF m 17 #[.val (.int p0), .val (.int p1), .val (.int p2), .val (.int p3), .val (.int p4), .val (.int p5), .val (.int n), .val (.int a), .unset, .unset, .unset, .unset, .unset, .unset, .unset, .unset] [(.int (7 : Int32)), (.int p3)])) _
    refine XS.iand X0.here hx rfl (hb hby at_17) rfl ?_
    show Steps p.tables e below (s₁.setTop (mkF m 18 #[.val (.int p0), .val (.int p1), .val (.int p2), .val (.int p3), .val (.int p4), .val (.int p5), .val (.int n), .val (.int a), .unset, .unset, .unset, .unset, .unset, .unset, .unset, .unset] [(.int (p3 &&& (7 : Int32)))])) _
    refine XS.iconst X0.here hx rfl (hb hby at_18) ?_
    show Steps p.tables e below (s₁.setTop (mkF m 19 #[.val (.int p0), .val (.int p1), .val (.int p2), .val (.int p3), .val (.int p4), .val (.int p5), .val (.int n), .val (.int a), .unset, .unset, .unset, .unset, .unset, .unset, .unset, .unset] [(.int (1 : Int32)), (.int (p3 &&& (7 : Int32)))])) _
    refine XS.iadd X0.here hx rfl (hb hby at_19) rfl ?_
    show Steps p.tables e below (s₁.setTop (mkF m 20 #[.val (.int p0), .val (.int p1), .val (.int p2), .val (.int p3), .val (.int p4), .val (.int p5), .val (.int n), .val (.int a), .unset, .unset, .unset, .unset, .unset, .unset, .unset, .unset] [(.int ((p3 &&& (7 : Int32)) + (1 : Int32)))])) _
    refine XS.istore X0.here hx rfl (hb hby at_20) rfl (l' := #[.val (.int p0), .val (.int p1), .val (.int p2), .val (.int p3), .val (.int p4), .val (.int p5), .val (.int n), .val (.int a), .val (.int ((p3 &&& (7 : Int32)) + (1 : Int32))), .unset, .unset, .unset, .unset, .unset, .unset, .unset]) rfl ?_
    exact kt)
  obtain ⟨b, hb'⟩ : ∃ z, z = ((p3 &&& (7 : Int32)) + (1 : Int32)) := ⟨_, rfl⟩
  rw [← hb'] at pre3
  obtain ⟨ka, hka⟩ : ∃ z, z = own_ko p2 w0 w1 w2 w3 := ⟨_, rfl⟩
  have E_ka : Exa Z h0 ka "com/example/bytelens/bytelens/ConstantKind" := hka ▸ own_koE E_UTF8 E_LONG E_CLASS E_PACKAGE
  obtain ⟨_, _, ⟨T4, L4, k4, n4⟩, -, X4, ⟨Lc4, hQ4, l4, y4, z4⟩, st4⟩ := Jvm.LawKit.callS X0 hx (y := (⟨"com/example/bytelens/bytelens/ConstantPoolKindPinLaw", "kindOf", "(I)Lcom/example/bytelens/bytelens/ConstantKind;"⟩ : MethodName)) hown (mvT hZ (hw _ (List.mem_of_getElem? (i := 0) rfl))) (mvT hZ (hw _ (List.mem_of_getElem? (i := 1) rfl))) (mvT hZ (hw _ (List.mem_of_getElem? (i := 2) rfl))) (mvT hZ (hw _ (List.mem_of_getElem? (i := 3) rfl))) (by decide) (backOf (W := 0) (rmKindOf l Z a0 hw [] p2 w0 w1 w2 w3 ka h0 n0 Z0 S_UTF8 S_LONG S_CLASS S_PACKAGE hka) hZ (hw _ (List.mem_of_getElem? (i := 3) rfl)) (hw _ (List.mem_of_getElem? (i := 2) rfl)) (by decide) (by decide)) (g := (mkF m 23 #[.val (.int p0), .val (.int p1), .val (.int p2), .val (.int p3), .val (.int p4), .val (.int p5), .val (.int n), .val (.int a), .val (.int b), .unset, .unset, .unset, .unset, .unset, .unset, .unset] [(.int p2)])) rfl (by rw [hml]; rfl) (argsL := [(.int p2)]) (rest := []) (lenOf pd__I_Lcom_example_bytelens_bytelens_ConstantKind_ rfl) rfl (by show 2 * 0 + _ ≤ _; exact Nat.le_of_eq rfl) (hb hby at_23) (fun _ _ => ⟨rfl, e0, (by decide : 0 + 0 ≤ _), (by decide : 0 + 0 ≤ _)⟩)
  dsimp only [Pt.U, Pt.locs, Pt.cells, Pt.slots] at X4 l4 y4 z4 st4 hQ4
  subst l4 y4 z4
  obtain ⟨rfl, Nq4, e4⟩ := hQ4
  have N4 := Fr.app N0 Nq4
  obtain ⟨kb, hkb⟩ : ∃ z, z = own_ko p4 w0 w1 w2 w3 := ⟨_, rfl⟩
  have E_kb : Exa Z h0 kb "com/example/bytelens/bytelens/ConstantKind" := hkb ▸ own_koE E_UTF8 E_LONG E_CLASS E_PACKAGE
  obtain ⟨_, _, ⟨T5, L5, k5, n5⟩, -, X5, ⟨Lc5, hQ5, l5, y5, z5⟩, st5⟩ := Jvm.LawKit.callS X4 hx (y := (⟨"com/example/bytelens/bytelens/ConstantPoolKindPinLaw", "kindOf", "(I)Lcom/example/bytelens/bytelens/ConstantKind;"⟩ : MethodName)) hown (mvT hZ (hw _ (List.mem_of_getElem? (i := 0) rfl))) (mvT hZ (hw _ (List.mem_of_getElem? (i := 1) rfl))) (mvT hZ (hw _ (List.mem_of_getElem? (i := 2) rfl))) (mvT hZ (hw _ (List.mem_of_getElem? (i := 3) rfl))) (by decide) (backOf (W := 0) (rmKindOf l Z a0 hw [] p4 w0 w1 w2 w3 kb h0 n0 Z0 S_UTF8 S_LONG S_CLASS S_PACKAGE hkb) hZ (hw _ (List.mem_of_getElem? (i := 3) rfl)) (hw _ (List.mem_of_getElem? (i := 2) rfl)) (by decide) (by decide)) (g := (mkF m 30 #[.val (.int p0), .val (.int p1), .val (.int p2), .val (.int p3), .val (.int p4), .val (.int p5), .val (.int n), .val (.int a), .val (.int b), .val (.ref ka), .unset, .unset, .unset, .unset, .unset, .unset] [(.int p4)])) rfl (by rw [hml]; rfl) (argsL := [(.int p4)]) (rest := []) (lenOf pd__I_Lcom_example_bytelens_bytelens_ConstantKind_ rfl) rfl (by show 2 * 0 + _ ≤ _; exact Nat.le_of_eq rfl) (hb hby at_30) (fun _ _ => ⟨rfl, e4, (by decide : 0 + 0 ≤ _), (by decide : 0 + 0 ≤ _)⟩)
  dsimp only [Pt.U, Pt.locs, Pt.cells, Pt.slots] at X5 l5 y5 z5 st5 hQ5
  subst l5 y5 z5
  obtain ⟨rfl, Nq5, e5⟩ := hQ5
  have N5 := Fr.app N4 Nq5
  have pre6 : ∀ t, Steps p.tables e below (T5.setTop (mkF m 45 #[.val (.int p0), .val (.int p1), .val (.int p2), .val (.int p3), .val (.int p4), .val (.int p5), .val (.int n), .val (.int a), .val (.int b), .val (.ref ka), .val (.ref kb), .val (.int ((p5 &&& (31 : Int32)) - (8 : Int32))), .unset, .unset, .unset, .unset] [])) t → Steps p.tables e below (s₁.setTop (entryFrame m #[(.int p0), (.int p1), (.int p2), (.int p3), (.int p4), (.int p5)] maxLocals)) t := fun t kt => pre3 t (by
    show Steps p.tables e below (s₁.setTop (mkF m 22 #[.val (.int p0), .val (.int p1), .val (.int p2), .val (.int p3), .val (.int p4), .val (.int p5), .val (.int n), .val (.int a), .val (.int b), .unset, .unset, .unset, .unset, .unset, .unset, .unset] [])) _
    refine XS.iloadN X0.here hx rfl (hb hby at_22) rfl  ?_
    show Steps p.tables e below (s₁.setTop (mkF m 23 #[.val (.int p0), .val (.int p1), .val (.int p2), .val (.int p3), .val (.int p4), .val (.int p5), .val (.int n), .val (.int a), .val (.int b), .unset, .unset, .unset, .unset, .unset, .unset, .unset] [(.int p2)])) _
    refine st4 _ ?_
    show Steps p.tables e below (T4.setTop (mkF m 26 #[.val (.int p0), .val (.int p1), .val (.int p2), .val (.int p3), .val (.int p4), .val (.int p5), .val (.int n), .val (.int a), .val (.int b), .unset, .unset, .unset, .unset, .unset, .unset, .unset] [(.ref ka)])) _
    refine XS.astore X4.here hx rfl (hb hby at_26) rfl rfl (l' := #[.val (.int p0), .val (.int p1), .val (.int p2), .val (.int p3), .val (.int p4), .val (.int p5), .val (.int n), .val (.int a), .val (.int b), .val (.ref ka), .unset, .unset, .unset, .unset, .unset, .unset]) rfl ?_
    show Steps p.tables e below (T4.setTop (mkF m 28 #[.val (.int p0), .val (.int p1), .val (.int p2), .val (.int p3), .val (.int p4), .val (.int p5), .val (.int n), .val (.int a), .val (.int b), .val (.ref ka), .unset, .unset, .unset, .unset, .unset, .unset] [])) _
    refine XS.iload X4.here hx rfl (hb hby at_28) rfl  ?_
    show Steps p.tables e below (T4.setTop (mkF m 30 #[.val (.int p0), .val (.int p1), .val (.int p2), .val (.int p3), .val (.int p4), .val (.int p5), .val (.int n), .val (.int a), .val (.int b), .val (.ref ka), .unset, .unset, .unset, .unset, .unset, .unset] [(.int p4)])) _
    refine st5 _ ?_
    show Steps p.tables e below (T5.setTop (mkF m 33 #[.val (.int p0), .val (.int p1), .val (.int p2), .val (.int p3), .val (.int p4), .val (.int p5), .val (.int n), .val (.int a), .val (.int b), .val (.ref ka), .unset, .unset, .unset, .unset, .unset, .unset] [(.ref kb)])) _
    refine XS.astore X5.here hx rfl (hb hby at_33) rfl rfl (l' := #[.val (.int p0), .val (.int p1), .val (.int p2), .val (.int p3), .val (.int p4), .val (.int p5), .val (.int n), .val (.int a), .val (.int b), .val (.ref ka), .val (.ref kb), .unset, .unset, .unset, .unset, .unset]) rfl ?_
    show Steps p.tables e below (T5.setTop (mkF m 35 #[.val (.int p0), .val (.int p1), .val (.int p2), .val (.int p3), .val (.int p4), .val (.int p5), .val (.int n), .val (.int a), .val (.int b), .val (.ref ka), .val (.ref kb), .unset, .unset, .unset, .unset, .unset] [])) _
    refine XS.iload X5.here hx rfl (hb hby at_35) rfl  ?_
    show Steps p.tables e below (T5.setTop (mkF m 37 #[.val (.int p0), .val (.int p1), .val (.int p2), .val (.int p3), .val (.int p4), .val (.int p5), .val (.int n), .val (.int a), .val (.int b), .val (.ref ka), .val (.ref kb), .unset, .unset, .unset, .unset, .unset] [(.int p5)])) _
    refine XS.bipush X5.here hx rfl (hb hby at_37) ?_
    show Steps p.tables e below (T5.setTop (mkF m 39 #[.val (.int p0), .val (.int p1), .val (.int p2), .val (.int p3), .val (.int p4), .val (.int p5), .val (.int n), .val (.int a), .val (.int b), .val (.ref ka), .val (.ref kb), .unset, .unset, .unset, .unset, .unset] [(.int (31 : Int32)), (.int p5)])) _
    refine XS.iand X5.here hx rfl (hb hby at_39) rfl ?_
    show Steps p.tables e below (T5.setTop (mkF m 40 #[.val (.int p0), .val (.int p1), .val (.int p2), .val (.int p3), .val (.int p4), .val (.int p5), .val (.int n), .val (.int a), .val (.int b), .val (.ref ka), .val (.ref kb), .unset, .unset, .unset, .unset, .unset] [(.int (p5 &&& (31 : Int32)))])) _
    refine XS.bipush X5.here hx rfl (hb hby at_40) ?_
    show Steps p.tables e below (T5.setTop (mkF m 42 #[.val (.int p0), .val (.int p1), .val (.int p2), .val (.int p3), .val (.int p4), .val (.int p5), .val (.int n), .val (.int a), .val (.int b), .val (.ref ka), .val (.ref kb), .unset, .unset, .unset, .unset, .unset] [(.int (8 : Int32)), (.int (p5 &&& (31 : Int32)))])) _
    refine XS.isub X5.here hx rfl (hb hby at_42) rfl ?_
    show Steps p.tables e below (T5.setTop (mkF m 43 #[.val (.int p0), .val (.int p1), .val (.int p2), .val (.int p3), .val (.int p4), .val (.int p5), .val (.int n), .val (.int a), .val (.int b), .val (.ref ka), .val (.ref kb), .unset, .unset, .unset, .unset, .unset] [(.int ((p5 &&& (31 : Int32)) - (8 : Int32)))])) _
    refine XS.istore X5.here hx rfl (hb hby at_43) rfl (l' := #[.val (.int p0), .val (.int p1), .val (.int p2), .val (.int p3), .val (.int p4), .val (.int p5), .val (.int n), .val (.int a), .val (.int b), .val (.ref ka), .val (.ref kb), .val (.int ((p5 &&& (31 : Int32)) - (8 : Int32))), .unset, .unset, .unset, .unset]) rfl ?_
    exact kt)
  obtain ⟨y, hy⟩ : ∃ z, z = ((p5 &&& (31 : Int32)) - (8 : Int32)) := ⟨_, rfl⟩
  rw [← hy] at pre6
  obtain ⟨T7, h7, X7, e7, E7, A7, D7, -, st7⟩ := newO X5 hx hZ hown (hw _ (List.mem_of_getElem? (i := 9) rfl)) (hw _ (List.mem_of_getElem? (i := 10) rfl)) (hw _ (List.mem_of_getElem? (i := 11) rfl)) e5 (g := (mkF m 45 #[.val (.int p0), .val (.int p1), .val (.int p2), .val (.int p3), .val (.int p4), .val (.int p5), .val (.int n), .val (.int a), .val (.int b), .val (.ref ka), .val (.ref kb), .val (.int y), .unset, .unset, .unset, .unset] [])) rfl (hb hby at_45) (by decide) (by decide)
  obtain ⟨b7, g7⟩ : ∃ z, z = h0.size := ⟨_, rfl⟩
  rw [← g7] at A7 D7 st7
  have ne7_w0 : w0 ≠ b7 := Nat.ne_of_lt (Nat.lt_of_lt_of_le E_UTF8.lt (Nat.le_of_eq g7.symm))
  have ne7_w1 : w1 ≠ b7 := Nat.ne_of_lt (Nat.lt_of_lt_of_le E_LONG.lt (Nat.le_of_eq g7.symm))
  have ne7_w2 : w2 ≠ b7 := Nat.ne_of_lt (Nat.lt_of_lt_of_le E_CLASS.lt (Nat.le_of_eq g7.symm))
  have ne7_w3 : w3 ≠ b7 := Nat.ne_of_lt (Nat.lt_of_lt_of_le E_PACKAGE.lt (Nat.le_of_eq g7.symm))
  have ne7_ka : ka ≠ b7 := Nat.ne_of_lt (Nat.lt_of_lt_of_le E_ka.lt (Nat.le_of_eq g7.symm))
  have ne7_kb : kb ≠ b7 := Nat.ne_of_lt (Nat.lt_of_lt_of_le E_kb.lt (Nat.le_of_eq g7.symm))
  have ge7 : n0 ≤ b7 := Nat.le_trans Z0 (Nat.le_of_eq g7.symm)
  have F7_kinds : Fld Z h7 b7 "com/example/bytelens/bytelens/ConstantPool" "kinds" "[Lcom/example/bytelens/bytelens/ConstantKind;" .null := D7 (Or.inr (hw _ (List.mem_of_getElem? (i := 27) rfl))) (ty := (.array (.object "com/example/bytelens/bytelens/ConstantKind"))) (by decide)
  have F7_offsets : Fld Z h7 b7 "com/example/bytelens/bytelens/ConstantPool" "offsets" "[I" .null := D7 (Or.inr (hw _ (List.mem_of_getElem? (i := 29) rfl))) (ty := (.array .int)) (by decide)
  have F7_firsts : Fld Z h7 b7 "com/example/bytelens/bytelens/ConstantPool" "firsts" "[I" .null := D7 (Or.inr (hw _ (List.mem_of_getElem? (i := 31) rfl))) (ty := (.array .int)) (by decide)
  have F7_seconds : Fld Z h7 b7 "com/example/bytelens/bytelens/ConstantPool" "seconds" "[I" .null := D7 (Or.inr (hw _ (List.mem_of_getElem? (i := 33) rfl))) (ty := (.array .int)) (by decide)
  have F7_texts : Fld Z h7 b7 "com/example/bytelens/bytelens/ConstantPool" "texts" "[Ljava/lang/String;" .null := D7 (Or.inr (hw _ (List.mem_of_getElem? (i := 35) rfl))) (ty := (.array (.object "java/lang/String"))) (by decide)
  have F7_checked : Fld Z h7 b7 "com/example/bytelens/bytelens/ConstantPool" "checked" "Z" (.int (0 : Int32)) := D7 (Or.inr (hw _ (List.mem_of_getElem? (i := 37) rfl))) (ty := .boolean) (by decide)
  have f8 := (Nat.le_trans Z0 E7.1)
  obtain ⟨_, _, ⟨T9, L9, k9, n9⟩, -, X9, ⟨Lc9, hQ9, l9, y9, z9⟩, st9⟩ := X7.specialBack hx (y := (⟨"com/example/bytelens/bytelens/ConstantPool", "<init>", "(I)V"⟩ : MethodName)) rfl hown (mvT hZ (hw _ (List.mem_of_getElem? (i := 12) rfl))) (mvT hZ (hw _ (List.mem_of_getElem? (i := 13) rfl))) (mvT hZ (hw _ (List.mem_of_getElem? (i := 14) rfl))) (by decide) (backOf (W := 1) (rmInit l Z a0 hw [] b7 n h7 n0 f8 (hn ▸ own_n p0) A7 F7_kinds F7_offsets F7_firsts F7_seconds F7_texts F7_checked ge7) hZ (hw _ (List.mem_of_getElem? (i := 14) rfl)) (hw _ (List.mem_of_getElem? (i := 11) rfl)) (by decide) (by decide)) (g := (mkF m 51 #[.val (.int p0), .val (.int p1), .val (.int p2), .val (.int p3), .val (.int p4), .val (.int p5), .val (.int n), .val (.int a), .val (.int b), .val (.ref ka), .val (.ref kb), .val (.int y), .unset, .unset, .unset, .unset] [(.int n), (.ref b7), (.ref b7)])) rfl (by rw [hml]; rfl) (Steps.refl _) (a := b7) (argsL := [(.int n)]) (rest := [(.ref b7)]) (lenOf pd__I_V rfl) rfl (by show 2 * 0 + _ ≤ _; exact Nat.le_of_eq rfl) (hb hby at_51) (fun _ _ => ⟨rfl, e7, (by decide : 1 + 5 ≤ _), (by decide : 6 + 75 ≤ _)⟩)
  dsimp only [Pt.U, Pt.locs, Pt.cells, Pt.slots] at X9 l9 y9 z9 st9 hQ9
  subst l9 y9 z9
  obtain ⟨rfl, Nq9, K9, wK, wO, wF, wS, wT, k, hD, hG, hP9⟩ := hQ9
  have N9 := Fr.app N5 Nq9
  have pre11 : ∀ t, Steps p.tables e below (T9.setTop (mkF m 60 #[.val (.int p0), .val (.int p1), .val (.int p2), .val (.int p3), .val (.int p4), .val (.int p5), .val (.int n), .val (.int a), .val (.int b), .val (.ref ka), .val (.ref kb), .val (.int y), .val (.ref b7), .unset, .unset, .unset] [(.int n), (.int a)])) t → Steps p.tables e below (s₁.setTop (entryFrame m #[(.int p0), (.int p1), (.int p2), (.int p3), (.int p4), (.int p5)] maxLocals)) t := fun t kt => pre6 t (by
    show Steps p.tables e below (T5.setTop (mkF m 45 #[.val (.int p0), .val (.int p1), .val (.int p2), .val (.int p3), .val (.int p4), .val (.int p5), .val (.int n), .val (.int a), .val (.int b), .val (.ref ka), .val (.ref kb), .val (.int y), .unset, .unset, .unset, .unset] [])) _
    refine st7 _ ?_
    show Steps p.tables e below (T7.setTop (mkF m 48 #[.val (.int p0), .val (.int p1), .val (.int p2), .val (.int p3), .val (.int p4), .val (.int p5), .val (.int n), .val (.int a), .val (.int b), .val (.ref ka), .val (.ref kb), .val (.int y), .unset, .unset, .unset, .unset] [(.ref b7)])) _
    refine XS.dup X7.here hx rfl (hb hby at_48) rfl rfl ?_
    show Steps p.tables e below (T7.setTop (mkF m 49 #[.val (.int p0), .val (.int p1), .val (.int p2), .val (.int p3), .val (.int p4), .val (.int p5), .val (.int n), .val (.int a), .val (.int b), .val (.ref ka), .val (.ref kb), .val (.int y), .unset, .unset, .unset, .unset] [(.ref b7), (.ref b7)])) _
    refine XS.iload X7.here hx rfl (hb hby at_49) rfl  ?_
    show Steps p.tables e below (T7.setTop (mkF m 51 #[.val (.int p0), .val (.int p1), .val (.int p2), .val (.int p3), .val (.int p4), .val (.int p5), .val (.int n), .val (.int a), .val (.int b), .val (.ref ka), .val (.ref kb), .val (.int y), .unset, .unset, .unset, .unset] [(.int n), (.ref b7), (.ref b7)])) _
    refine st9.trans ?_
    show Steps p.tables e below (T9.setTop (mkF m 54 #[.val (.int p0), .val (.int p1), .val (.int p2), .val (.int p3), .val (.int p4), .val (.int p5), .val (.int n), .val (.int a), .val (.int b), .val (.ref ka), .val (.ref kb), .val (.int y), .unset, .unset, .unset, .unset] [(.ref b7)])) _
    refine XS.astore X9.here hx rfl (hb hby at_54) rfl rfl (l' := #[.val (.int p0), .val (.int p1), .val (.int p2), .val (.int p3), .val (.int p4), .val (.int p5), .val (.int n), .val (.int a), .val (.int b), .val (.ref ka), .val (.ref kb), .val (.int y), .val (.ref b7), .unset, .unset, .unset]) rfl ?_
    show Steps p.tables e below (T9.setTop (mkF m 56 #[.val (.int p0), .val (.int p1), .val (.int p2), .val (.int p3), .val (.int p4), .val (.int p5), .val (.int n), .val (.int a), .val (.int b), .val (.ref ka), .val (.ref kb), .val (.int y), .val (.ref b7), .unset, .unset, .unset] [])) _
    refine XS.iload X9.here hx rfl (hb hby at_56) rfl  ?_
    show Steps p.tables e below (T9.setTop (mkF m 58 #[.val (.int p0), .val (.int p1), .val (.int p2), .val (.int p3), .val (.int p4), .val (.int p5), .val (.int n), .val (.int a), .val (.int b), .val (.ref ka), .val (.ref kb), .val (.int y), .val (.ref b7), .unset, .unset, .unset] [(.int a)])) _
    refine XS.iload X9.here hx rfl (hb hby at_58) rfl  ?_
    exact kt)
  by_cases hc60_10 : a < n
  · have f12 := (Nat.le_trans f8 K9.1)
    have f13 := ((E_ka.ext E7).keep K9)
    obtain ⟨cq14, kq14, q14a, q14b, q14c⟩ := isOf hZ rfl hP9.1
    obtain ⟨_, _, ⟨T14, L14, k14, n14⟩, -, X14, ⟨Lc14, hQ14, l14, y14, z14⟩, st14⟩ := X9.virtualBack hx (y := (⟨"com/example/bytelens/bytelens/ConstantPool", "add", "(ILcom/example/bytelens/bytelens/ConstantKind;IIILjava/lang/String;)V"⟩ : MethodName)) (z := (⟨"com/example/bytelens/bytelens/ConstantPool", "add", "(ILcom/example/bytelens/bytelens/ConstantKind;IIILjava/lang/String;)V"⟩ : MethodName)) hown (mvT hZ (hw _ (List.mem_of_getElem? (i := 48) rfl))) (mvT hZ (hw _ (List.mem_of_getElem? (i := 49) rfl))) (notFace_of_selects (args := #[]) (mvT hZ (hw _ (List.mem_of_getElem? (i := 51) rfl)))) (mvT hZ (hw _ (List.mem_of_getElem? (i := 51) rfl))) (mvT hZ (hw _ (List.mem_of_getElem? (i := 50) rfl))) (by decide) (backOf (W := 0) (rmAdd l Z a0 hw [] b7 a ka p0 p1 p2 wK wO wF wS wT k n [] T9.heap n0 f12 hD hG hP9 ⟨ha ▸ own_a p1, hc60_10⟩ (Ins.self f13)) hZ (hw _ (List.mem_of_getElem? (i := 52) rfl)) (hw _ (List.mem_of_getElem? (i := 11) rfl)) (by decide) (by decide)) q14a q14c (g := (mkF m 73 #[.val (.int p0), .val (.int p1), .val (.int p2), .val (.int p3), .val (.int p4), .val (.int p5), .val (.int n), .val (.int a), .val (.int b), .val (.ref ka), .val (.ref kb), .val (.int y), .val (.ref b7), .unset, .unset, .unset] [.null, (.int p2), (.int p1), (.int p0), (.ref ka), (.int a), (.ref b7)])) rfl (by rw [hml]; rfl) (Steps.refl _) (argsL := [(.int a), (.ref ka), (.int p0), (.int p1), (.int p2), .null]) (rest := []) (lenOf pd__ILcom_example_bytelens_bytelens_ConstantKind_IIILjava_lang_String__V rfl) rfl (by show 2 * 0 + _ ≤ _; exact Nat.le_of_eq rfl) (hb hby at_73) (fun _ _ => ⟨rfl, rfl, (by decide : 6 + 0 ≤ _), (by decide : 81 + 0 ≤ _)⟩)
    dsimp only [Pt.U, Pt.locs, Pt.cells, Pt.slots] at X14 l14 y14 z14 st14 hQ14
    subst l14 y14 z14
    obtain ⟨rfl, Nq14, K14, hP14⟩ := hQ14
    have N14 := Fr.app N9 Nq14
    have pre16 : ∀ t, Steps p.tables e below (T14.setTop (mkF m 80 #[.val (.int p0), .val (.int p1), .val (.int p2), .val (.int p3), .val (.int p4), .val (.int p5), .val (.int n), .val (.int a), .val (.int b), .val (.ref ka), .val (.ref kb), .val (.int y), .val (.ref b7), .unset, .unset, .unset] [(.int n), (.int b)])) t → Steps p.tables e below (s₁.setTop (entryFrame m #[(.int p0), (.int p1), (.int p2), (.int p3), (.int p4), (.int p5)] maxLocals)) t := fun t kt => pre11 t (by
      show Steps p.tables e below (T9.setTop (mkF m 60 #[.val (.int p0), .val (.int p1), .val (.int p2), .val (.int p3), .val (.int p4), .val (.int p5), .val (.int n), .val (.int a), .val (.int b), .val (.ref ka), .val (.ref kb), .val (.int y), .val (.ref b7), .unset, .unset, .unset] [(.int n), (.int a)])) _
      refine XS.icmpNo X9.here hx rfl (hb hby at_60) rfl (tlt hc60_10).2.1 ?_
      show Steps p.tables e below (T9.setTop (mkF m 63 #[.val (.int p0), .val (.int p1), .val (.int p2), .val (.int p3), .val (.int p4), .val (.int p5), .val (.int n), .val (.int a), .val (.int b), .val (.ref ka), .val (.ref kb), .val (.int y), .val (.ref b7), .unset, .unset, .unset] [])) _
      refine XS.aload X9.here hx rfl (hb hby at_63) rfl rfl ?_
      show Steps p.tables e below (T9.setTop (mkF m 65 #[.val (.int p0), .val (.int p1), .val (.int p2), .val (.int p3), .val (.int p4), .val (.int p5), .val (.int n), .val (.int a), .val (.int b), .val (.ref ka), .val (.ref kb), .val (.int y), .val (.ref b7), .unset, .unset, .unset] [(.ref b7)])) _
      refine XS.iload X9.here hx rfl (hb hby at_65) rfl  ?_
      show Steps p.tables e below (T9.setTop (mkF m 67 #[.val (.int p0), .val (.int p1), .val (.int p2), .val (.int p3), .val (.int p4), .val (.int p5), .val (.int n), .val (.int a), .val (.int b), .val (.ref ka), .val (.ref kb), .val (.int y), .val (.ref b7), .unset, .unset, .unset] [(.int a), (.ref b7)])) _
      refine XS.aload X9.here hx rfl (hb hby at_67) rfl rfl ?_
      show Steps p.tables e below (T9.setTop (mkF m 69 #[.val (.int p0), .val (.int p1), .val (.int p2), .val (.int p3), .val (.int p4), .val (.int p5), .val (.int n), .val (.int a), .val (.int b), .val (.ref ka), .val (.ref kb), .val (.int y), .val (.ref b7), .unset, .unset, .unset] [(.ref ka), (.int a), (.ref b7)])) _
      refine XS.iloadN X9.here hx rfl (hb hby at_69) rfl  ?_
      show Steps p.tables e below (T9.setTop (mkF m 70 #[.val (.int p0), .val (.int p1), .val (.int p2), .val (.int p3), .val (.int p4), .val (.int p5), .val (.int n), .val (.int a), .val (.int b), .val (.ref ka), .val (.ref kb), .val (.int y), .val (.ref b7), .unset, .unset, .unset] [(.int p0), (.ref ka), (.int a), (.ref b7)])) _
      refine XS.iloadN X9.here hx rfl (hb hby at_70) rfl  ?_
      show Steps p.tables e below (T9.setTop (mkF m 71 #[.val (.int p0), .val (.int p1), .val (.int p2), .val (.int p3), .val (.int p4), .val (.int p5), .val (.int n), .val (.int a), .val (.int b), .val (.ref ka), .val (.ref kb), .val (.int y), .val (.ref b7), .unset, .unset, .unset] [(.int p1), (.int p0), (.ref ka), (.int a), (.ref b7)])) _
      refine XS.iloadN X9.here hx rfl (hb hby at_71) rfl  ?_
      show Steps p.tables e below (T9.setTop (mkF m 72 #[.val (.int p0), .val (.int p1), .val (.int p2), .val (.int p3), .val (.int p4), .val (.int p5), .val (.int n), .val (.int a), .val (.int b), .val (.ref ka), .val (.ref kb), .val (.int y), .val (.ref b7), .unset, .unset, .unset] [(.int p2), (.int p1), (.int p0), (.ref ka), (.int a), (.ref b7)])) _
      refine XS.aconstNull X9.here hx rfl (hb hby at_72) ?_
      show Steps p.tables e below (T9.setTop (mkF m 73 #[.val (.int p0), .val (.int p1), .val (.int p2), .val (.int p3), .val (.int p4), .val (.int p5), .val (.int n), .val (.int a), .val (.int b), .val (.ref ka), .val (.ref kb), .val (.int y), .val (.ref b7), .unset, .unset, .unset] [.null, (.int p2), (.int p1), (.int p0), (.ref ka), (.int a), (.ref b7)])) _
      refine st14.trans ?_
      show Steps p.tables e below (T14.setTop (mkF m 76 #[.val (.int p0), .val (.int p1), .val (.int p2), .val (.int p3), .val (.int p4), .val (.int p5), .val (.int n), .val (.int a), .val (.int b), .val (.ref ka), .val (.ref kb), .val (.int y), .val (.ref b7), .unset, .unset, .unset] [])) _
      refine XS.iload X14.here hx rfl (hb hby at_76) rfl  ?_
      show Steps p.tables e below (T14.setTop (mkF m 78 #[.val (.int p0), .val (.int p1), .val (.int p2), .val (.int p3), .val (.int p4), .val (.int p5), .val (.int n), .val (.int a), .val (.int b), .val (.ref ka), .val (.ref kb), .val (.int y), .val (.ref b7), .unset, .unset, .unset] [(.int b)])) _
      refine XS.iload X14.here hx rfl (hb hby at_78) rfl  ?_
      exact kt)
    by_cases hc80_15 : b < n
    · have f17 := (Nat.le_trans f12 K14.1)
      have f18 := (((E_kb.ext E7).keep K9).keep K14)
      obtain ⟨cq19, kq19, q19a, q19b, q19c⟩ := isOf hZ rfl hP14.1
      obtain ⟨_, _, ⟨T19, L19, k19, n19⟩, -, X19, ⟨Lc19, hQ19, l19, y19, z19⟩, st19⟩ := X14.virtualBack hx (y := (⟨"com/example/bytelens/bytelens/ConstantPool", "add", "(ILcom/example/bytelens/bytelens/ConstantKind;IIILjava/lang/String;)V"⟩ : MethodName)) (z := (⟨"com/example/bytelens/bytelens/ConstantPool", "add", "(ILcom/example/bytelens/bytelens/ConstantKind;IIILjava/lang/String;)V"⟩ : MethodName)) hown (mvT hZ (hw _ (List.mem_of_getElem? (i := 48) rfl))) (mvT hZ (hw _ (List.mem_of_getElem? (i := 49) rfl))) (notFace_of_selects (args := #[]) (mvT hZ (hw _ (List.mem_of_getElem? (i := 51) rfl)))) (mvT hZ (hw _ (List.mem_of_getElem? (i := 51) rfl))) (mvT hZ (hw _ (List.mem_of_getElem? (i := 50) rfl))) (by decide) (backOf (W := 0) (rmAdd l Z a0 hw [] b7 b kb p0 p3 p4 wK wO wF wS wT k n [(a, .ref ka)] T14.heap n0 f17 hD hG hP14 ⟨hb' ▸ own_a p3, hc80_15⟩ (Ins.self f18)) hZ (hw _ (List.mem_of_getElem? (i := 52) rfl)) (hw _ (List.mem_of_getElem? (i := 11) rfl)) (by decide) (by decide)) q19a q19c (g := (mkF m 94 #[.val (.int p0), .val (.int p1), .val (.int p2), .val (.int p3), .val (.int p4), .val (.int p5), .val (.int n), .val (.int a), .val (.int b), .val (.ref ka), .val (.ref kb), .val (.int y), .val (.ref b7), .unset, .unset, .unset] [.null, (.int p4), (.int p3), (.int p0), (.ref kb), (.int b), (.ref b7)])) rfl (by rw [hml]; rfl) (Steps.refl _) (argsL := [(.int b), (.ref kb), (.int p0), (.int p3), (.int p4), .null]) (rest := []) (lenOf pd__ILcom_example_bytelens_bytelens_ConstantKind_IIILjava_lang_String__V rfl) rfl (by show 2 * 0 + _ ≤ _; exact Nat.le_of_eq rfl) (hb hby at_94) (fun _ _ => ⟨rfl, rfl, (by decide : 6 + 0 ≤ _), (by decide : 81 + 0 ≤ _)⟩)
      dsimp only [Pt.U, Pt.locs, Pt.cells, Pt.slots] at X19 l19 y19 z19 st19 hQ19
      subst l19 y19 z19
      obtain ⟨rfl, Nq19, K19, hP19⟩ := hQ19
      have N19 := Fr.app N14 Nq19
      have f20 := (Nat.le_trans f17 K19.1)
      obtain ⟨cq21, kq21, q21a, q21b, q21c⟩ := isOf hZ rfl hP19.1
      obtain ⟨_, _, ⟨T21, L21, k21, n21⟩, -, X21, ⟨Lc21, hQ21, l21, y21, z21⟩, st21⟩ := X19.virtualBack hx (y := (⟨"com/example/bytelens/bytelens/ConstantPool", "kind", "(I)Lcom/example/bytelens/bytelens/ConstantKind;"⟩ : MethodName)) (z := (⟨"com/example/bytelens/bytelens/ConstantPool", "kind", "(I)Lcom/example/bytelens/bytelens/ConstantKind;"⟩ : MethodName)) hown (mvT hZ (hw _ (List.mem_of_getElem? (i := 38) rfl))) (mvT hZ (hw _ (List.mem_of_getElem? (i := 39) rfl))) (notFace_of_selects (args := #[]) (mvT hZ (hw _ (List.mem_of_getElem? (i := 41) rfl)))) (mvT hZ (hw _ (List.mem_of_getElem? (i := 41) rfl))) (mvT hZ (hw _ (List.mem_of_getElem? (i := 40) rfl))) (by decide) (backOf (W := 0) (rmKind l Z a0 hw [] b7 p5 wK wO wF wS wT k n [(b, .ref kb), (a, .ref ka)] (own_kv n [(b, .ref kb), (a, .ref ka)] p5) T19.heap n0 f20 hP19 rfl) hZ (hw _ (List.mem_of_getElem? (i := 42) rfl)) (hw _ (List.mem_of_getElem? (i := 11) rfl)) (by decide) (by decide)) q21a q21c (g := (mkF m 101 #[.val (.int p0), .val (.int p1), .val (.int p2), .val (.int p3), .val (.int p4), .val (.int p5), .val (.int n), .val (.int a), .val (.int b), .val (.ref ka), .val (.ref kb), .val (.int y), .val (.ref b7), .unset, .unset, .unset] [(.int p5), (.ref b7)])) rfl (by rw [hml]; rfl) (Steps.refl _) (argsL := [(.int p5)]) (rest := []) (lenOf pd__I_Lcom_example_bytelens_bytelens_ConstantKind_ rfl) rfl (by show 2 * 0 + _ ≤ _; exact Nat.le_of_eq rfl) (hb hby at_101) (fun _ _ => ⟨rfl, rfl, (by decide : 6 + 0 ≤ _), (by decide : 81 + 0 ≤ _)⟩)
      dsimp only [Pt.U, Pt.locs, Pt.cells, Pt.slots] at X21 l21 y21 z21 st21 hQ21
      subst l21 y21 z21
      obtain ⟨rfl, Nq21, e21⟩ := hQ21
      have N21 := Fr.app N19 Nq21
      obtain ⟨_, _, ⟨T22, L22, k22, n22⟩, -, X22, ⟨Lc22, hQ22, l22, y22, z22⟩, st22⟩ := Jvm.LawKit.callS X21 hx (y := (⟨"com/example/bytelens/bytelens/ConstantPoolKindPinLaw", "expected", "(IILcom/example/bytelens/bytelens/ConstantKind;ILcom/example/bytelens/bytelens/ConstantKind;I)Lcom/example/bytelens/bytelens/ConstantKind;"⟩ : MethodName)) hown (mvT hZ (hw _ (List.mem_of_getElem? (i := 43) rfl))) (mvT hZ (hw _ (List.mem_of_getElem? (i := 44) rfl))) (mvT hZ (hw _ (List.mem_of_getElem? (i := 2) rfl))) (mvT hZ (hw _ (List.mem_of_getElem? (i := 45) rfl))) (by decide) (backOf (W := 1) (rmExpected l Z a0 hw [] n a ka b kb p5 (own_kv n [(b, .ref kb), (a, .ref ka)] p5) T19.heap n0 f20 (own_q11 hc60_10 hc80_15)) hZ (hw _ (List.mem_of_getElem? (i := 45) rfl)) (hw _ (List.mem_of_getElem? (i := 2) rfl)) (by decide) (by decide)) (g := (mkF m 116 #[.val (.int p0), .val (.int p1), .val (.int p2), .val (.int p3), .val (.int p4), .val (.int p5), .val (.int n), .val (.int a), .val (.int b), .val (.ref ka), .val (.ref kb), .val (.int y), .val (.ref b7), .unset, .unset, .unset] [(.int p5), (.ref kb), (.int b), (.ref ka), (.int a), (.int n), (own_kv n [(b, .ref kb), (a, .ref ka)] p5)])) rfl (by rw [hml]; rfl) (argsL := [(.int n), (.int a), (.ref ka), (.int b), (.ref kb), (.int p5)]) (rest := [(own_kv n [(b, .ref kb), (a, .ref ka)] p5)]) (lenOf pd__IILcom_example_bytelens_bytelens_ConstantKind_ILcom_example_bytelens_bytelens_ConstantKind_I_Lcom_example_bytelens_bytelens_ConstantKind_ rfl) rfl (by show 2 * 0 + _ ≤ _; simp [own_cat (own_kvr (own_rS (own_rS own_r0)))]) (hb hby at_116) (fun _ _ => ⟨rfl, e21, (by decide : 6 + 0 ≤ _), (by decide : 81 + 0 ≤ _)⟩)
      dsimp only [Pt.U, Pt.locs, Pt.cells, Pt.slots] at X22 l22 y22 z22 st22 hQ22
      subst l22 y22 z22
      obtain ⟨rfl, Nq22, e22⟩ := hQ22
      have N22 := Fr.app N21 Nq22
      obtain ⟨cq23, kq23, q23a, q23b, q23c⟩ := isOf hZ e22 hP19.1
      obtain ⟨_, _, ⟨T23, L23, k23, n23⟩, -, X23, ⟨Lc23, hQ23, l23, y23, z23⟩, st23⟩ := X22.virtualBack hx (y := (⟨"com/example/bytelens/bytelens/ConstantPool", "kind", "(I)Lcom/example/bytelens/bytelens/ConstantKind;"⟩ : MethodName)) (z := (⟨"com/example/bytelens/bytelens/ConstantPool", "kind", "(I)Lcom/example/bytelens/bytelens/ConstantKind;"⟩ : MethodName)) hown (mvT hZ (hw _ (List.mem_of_getElem? (i := 38) rfl))) (mvT hZ (hw _ (List.mem_of_getElem? (i := 39) rfl))) (notFace_of_selects (args := #[]) (mvT hZ (hw _ (List.mem_of_getElem? (i := 41) rfl)))) (mvT hZ (hw _ (List.mem_of_getElem? (i := 41) rfl))) (mvT hZ (hw _ (List.mem_of_getElem? (i := 40) rfl))) (by decide) (backOf (W := 0) (rmKind l Z a0 hw [] b7 y wK wO wF wS wT k n [(b, .ref kb), (a, .ref ka)] (own_kv n [(b, .ref kb), (a, .ref ka)] y) T19.heap n0 f20 hP19 rfl) hZ (hw _ (List.mem_of_getElem? (i := 42) rfl)) (hw _ (List.mem_of_getElem? (i := 11) rfl)) (by decide) (by decide)) q23a q23c (g := (mkF m 133 #[.val (.int p0), .val (.int p1), .val (.int p2), .val (.int p3), .val (.int p4), .val (.int p5), .val (.int n), .val (.int a), .val (.int b), .val (.ref ka), .val (.ref kb), .val (.int y), .val (.ref b7), .val (.int (1 : Int32)), .unset, .unset] [(.int y), (.ref b7)])) rfl (by rw [hml]; rfl) (Steps.refl _) (argsL := [(.int y)]) (rest := []) (lenOf pd__I_Lcom_example_bytelens_bytelens_ConstantKind_ rfl) rfl (by show 2 * 0 + _ ≤ _; exact Nat.le_of_eq rfl) (hb hby at_133) (fun _ _ => ⟨rfl, e22, (by decide : 6 + 0 ≤ _), (by decide : 81 + 0 ≤ _)⟩)
      dsimp only [Pt.U, Pt.locs, Pt.cells, Pt.slots] at X23 l23 y23 z23 st23 hQ23
      subst l23 y23 z23
      obtain ⟨rfl, Nq23, e23⟩ := hQ23
      have N23 := Fr.app N22 Nq23
      obtain ⟨_, _, ⟨T24, L24, k24, n24⟩, -, X24, ⟨Lc24, hQ24, l24, y24, z24⟩, st24⟩ := Jvm.LawKit.callS X23 hx (y := (⟨"com/example/bytelens/bytelens/ConstantPoolKindPinLaw", "expected", "(IILcom/example/bytelens/bytelens/ConstantKind;ILcom/example/bytelens/bytelens/ConstantKind;I)Lcom/example/bytelens/bytelens/ConstantKind;"⟩ : MethodName)) hown (mvT hZ (hw _ (List.mem_of_getElem? (i := 43) rfl))) (mvT hZ (hw _ (List.mem_of_getElem? (i := 44) rfl))) (mvT hZ (hw _ (List.mem_of_getElem? (i := 2) rfl))) (mvT hZ (hw _ (List.mem_of_getElem? (i := 45) rfl))) (by decide) (backOf (W := 1) (rmExpected l Z a0 hw [] n a ka b kb y (own_kv n [(b, .ref kb), (a, .ref ka)] y) T19.heap n0 f20 (own_q11 hc60_10 hc80_15)) hZ (hw _ (List.mem_of_getElem? (i := 45) rfl)) (hw _ (List.mem_of_getElem? (i := 2) rfl)) (by decide) (by decide)) (g := (mkF m 148 #[.val (.int p0), .val (.int p1), .val (.int p2), .val (.int p3), .val (.int p4), .val (.int p5), .val (.int n), .val (.int a), .val (.int b), .val (.ref ka), .val (.ref kb), .val (.int y), .val (.ref b7), .val (.int (1 : Int32)), .unset, .unset] [(.int y), (.ref kb), (.int b), (.ref ka), (.int a), (.int n), (own_kv n [(b, .ref kb), (a, .ref ka)] y)])) rfl (by rw [hml]; rfl) (argsL := [(.int n), (.int a), (.ref ka), (.int b), (.ref kb), (.int y)]) (rest := [(own_kv n [(b, .ref kb), (a, .ref ka)] y)]) (lenOf pd__IILcom_example_bytelens_bytelens_ConstantKind_ILcom_example_bytelens_bytelens_ConstantKind_I_Lcom_example_bytelens_bytelens_ConstantKind_ rfl) rfl (by show 2 * 0 + _ ≤ _; simp [own_cat (own_kvr (own_rS (own_rS own_r0)))]) (hb hby at_148) (fun _ _ => ⟨rfl, e23, (by decide : 6 + 0 ≤ _), (by decide : 81 + 0 ≤ _)⟩)
      dsimp only [Pt.U, Pt.locs, Pt.cells, Pt.slots] at X24 l24 y24 z24 st24 hQ24
      subst l24 y24 z24
      obtain ⟨rfl, Nq24, e24⟩ := hQ24
      have N24 := Fr.app N23 Nq24
      obtain ⟨cq25, kq25, q25a, q25b, q25c⟩ := isOf hZ e24 hP19.1
      obtain ⟨_, _, ⟨T25, L25, k25, n25⟩, -, X25, ⟨Lc25, hQ25, l25, y25, z25⟩, st25⟩ := X24.virtualBack hx (y := (⟨"com/example/bytelens/bytelens/ConstantPool", "kind", "(I)Lcom/example/bytelens/bytelens/ConstantKind;"⟩ : MethodName)) (z := (⟨"com/example/bytelens/bytelens/ConstantPool", "kind", "(I)Lcom/example/bytelens/bytelens/ConstantKind;"⟩ : MethodName)) hown (mvT hZ (hw _ (List.mem_of_getElem? (i := 38) rfl))) (mvT hZ (hw _ (List.mem_of_getElem? (i := 39) rfl))) (notFace_of_selects (args := #[]) (mvT hZ (hw _ (List.mem_of_getElem? (i := 41) rfl)))) (mvT hZ (hw _ (List.mem_of_getElem? (i := 41) rfl))) (mvT hZ (hw _ (List.mem_of_getElem? (i := 40) rfl))) (by decide) (backOf (W := 0) (rmKind l Z a0 hw [] b7 a wK wO wF wS wT k n [(b, .ref kb), (a, .ref ka)] (own_kv n [(b, .ref kb), (a, .ref ka)] a) T19.heap n0 f20 hP19 rfl) hZ (hw _ (List.mem_of_getElem? (i := 42) rfl)) (hw _ (List.mem_of_getElem? (i := 11) rfl)) (by decide) (by decide)) q25a q25c (g := (mkF m 165 #[.val (.int p0), .val (.int p1), .val (.int p2), .val (.int p3), .val (.int p4), .val (.int p5), .val (.int n), .val (.int a), .val (.int b), .val (.ref ka), .val (.ref kb), .val (.int y), .val (.ref b7), .val (.int (1 : Int32)), .val (.int (1 : Int32)), .unset] [(.int a), (.ref b7)])) rfl (by rw [hml]; rfl) (Steps.refl _) (argsL := [(.int a)]) (rest := []) (lenOf pd__I_Lcom_example_bytelens_bytelens_ConstantKind_ rfl) rfl (by show 2 * 0 + _ ≤ _; exact Nat.le_of_eq rfl) (hb hby at_165) (fun _ _ => ⟨rfl, e24, (by decide : 6 + 0 ≤ _), (by decide : 81 + 0 ≤ _)⟩)
      dsimp only [Pt.U, Pt.locs, Pt.cells, Pt.slots] at X25 l25 y25 z25 st25 hQ25
      subst l25 y25 z25
      obtain ⟨rfl, Nq25, e25⟩ := hQ25
      have N25 := Fr.app N24 Nq25
      obtain ⟨_, _, ⟨T26, L26, k26, n26⟩, -, X26, ⟨Lc26, hQ26, l26, y26, z26⟩, st26⟩ := Jvm.LawKit.callS X25 hx (y := (⟨"com/example/bytelens/bytelens/ConstantPoolKindPinLaw", "expected", "(IILcom/example/bytelens/bytelens/ConstantKind;ILcom/example/bytelens/bytelens/ConstantKind;I)Lcom/example/bytelens/bytelens/ConstantKind;"⟩ : MethodName)) hown (mvT hZ (hw _ (List.mem_of_getElem? (i := 43) rfl))) (mvT hZ (hw _ (List.mem_of_getElem? (i := 44) rfl))) (mvT hZ (hw _ (List.mem_of_getElem? (i := 2) rfl))) (mvT hZ (hw _ (List.mem_of_getElem? (i := 45) rfl))) (by decide) (backOf (W := 1) (rmExpected l Z a0 hw [] n a ka b kb a (own_kv n [(b, .ref kb), (a, .ref ka)] a) T19.heap n0 f20 (own_q11 hc60_10 hc80_15)) hZ (hw _ (List.mem_of_getElem? (i := 45) rfl)) (hw _ (List.mem_of_getElem? (i := 2) rfl)) (by decide) (by decide)) (g := (mkF m 180 #[.val (.int p0), .val (.int p1), .val (.int p2), .val (.int p3), .val (.int p4), .val (.int p5), .val (.int n), .val (.int a), .val (.int b), .val (.ref ka), .val (.ref kb), .val (.int y), .val (.ref b7), .val (.int (1 : Int32)), .val (.int (1 : Int32)), .unset] [(.int a), (.ref kb), (.int b), (.ref ka), (.int a), (.int n), (own_kv n [(b, .ref kb), (a, .ref ka)] a)])) rfl (by rw [hml]; rfl) (argsL := [(.int n), (.int a), (.ref ka), (.int b), (.ref kb), (.int a)]) (rest := [(own_kv n [(b, .ref kb), (a, .ref ka)] a)]) (lenOf pd__IILcom_example_bytelens_bytelens_ConstantKind_ILcom_example_bytelens_bytelens_ConstantKind_I_Lcom_example_bytelens_bytelens_ConstantKind_ rfl) rfl (by show 2 * 0 + _ ≤ _; simp [own_cat (own_kvr (own_rS (own_rS own_r0)))]) (hb hby at_180) (fun _ _ => ⟨rfl, e25, (by decide : 6 + 0 ≤ _), (by decide : 81 + 0 ≤ _)⟩)
      dsimp only [Pt.U, Pt.locs, Pt.cells, Pt.slots] at X26 l26 y26 z26 st26 hQ26
      subst l26 y26 z26
      obtain ⟨rfl, Nq26, e26⟩ := hQ26
      have N26 := Fr.app N25 Nq26
      obtain ⟨fs, hr, hrun, hended, hW, hsame⟩ := X26.leave (v := some (.int (1 : Int32))) (fun h => by rw [Bd.returns] at h; cases h)
      refine ⟨_, _, pre16 _ ?_, hrun, hended, _, _, rfl, ?_, ⟨_, rfl⟩, hW, hsame.mono (by decide) (by decide)⟩
      · show Steps p.tables e below (T14.setTop (mkF m 80 #[.val (.int p0), .val (.int p1), .val (.int p2), .val (.int p3), .val (.int p4), .val (.int p5), .val (.int n), .val (.int a), .val (.int b), .val (.ref ka), .val (.ref kb), .val (.int y), .val (.ref b7), .unset, .unset, .unset] [(.int n), (.int b)])) _
        refine XS.icmpNo X14.here hx rfl (hb hby at_80) rfl (tlt hc80_15).2.1 ?_
        show Steps p.tables e below (T14.setTop (mkF m 83 #[.val (.int p0), .val (.int p1), .val (.int p2), .val (.int p3), .val (.int p4), .val (.int p5), .val (.int n), .val (.int a), .val (.int b), .val (.ref ka), .val (.ref kb), .val (.int y), .val (.ref b7), .unset, .unset, .unset] [])) _
        refine XS.aload X14.here hx rfl (hb hby at_83) rfl rfl ?_
        show Steps p.tables e below (T14.setTop (mkF m 85 #[.val (.int p0), .val (.int p1), .val (.int p2), .val (.int p3), .val (.int p4), .val (.int p5), .val (.int n), .val (.int a), .val (.int b), .val (.ref ka), .val (.ref kb), .val (.int y), .val (.ref b7), .unset, .unset, .unset] [(.ref b7)])) _
        refine XS.iload X14.here hx rfl (hb hby at_85) rfl  ?_
        show Steps p.tables e below (T14.setTop (mkF m 87 #[.val (.int p0), .val (.int p1), .val (.int p2), .val (.int p3), .val (.int p4), .val (.int p5), .val (.int n), .val (.int a), .val (.int b), .val (.ref ka), .val (.ref kb), .val (.int y), .val (.ref b7), .unset, .unset, .unset] [(.int b), (.ref b7)])) _
        refine XS.aload X14.here hx rfl (hb hby at_87) rfl rfl ?_
        show Steps p.tables e below (T14.setTop (mkF m 89 #[.val (.int p0), .val (.int p1), .val (.int p2), .val (.int p3), .val (.int p4), .val (.int p5), .val (.int n), .val (.int a), .val (.int b), .val (.ref ka), .val (.ref kb), .val (.int y), .val (.ref b7), .unset, .unset, .unset] [(.ref kb), (.int b), (.ref b7)])) _
        refine XS.iloadN X14.here hx rfl (hb hby at_89) rfl  ?_
        show Steps p.tables e below (T14.setTop (mkF m 90 #[.val (.int p0), .val (.int p1), .val (.int p2), .val (.int p3), .val (.int p4), .val (.int p5), .val (.int n), .val (.int a), .val (.int b), .val (.ref ka), .val (.ref kb), .val (.int y), .val (.ref b7), .unset, .unset, .unset] [(.int p0), (.ref kb), (.int b), (.ref b7)])) _
        refine XS.iloadN X14.here hx rfl (hb hby at_90) rfl  ?_
        show Steps p.tables e below (T14.setTop (mkF m 91 #[.val (.int p0), .val (.int p1), .val (.int p2), .val (.int p3), .val (.int p4), .val (.int p5), .val (.int n), .val (.int a), .val (.int b), .val (.ref ka), .val (.ref kb), .val (.int y), .val (.ref b7), .unset, .unset, .unset] [(.int p3), (.int p0), (.ref kb), (.int b), (.ref b7)])) _
        refine XS.iload X14.here hx rfl (hb hby at_91) rfl  ?_
        show Steps p.tables e below (T14.setTop (mkF m 93 #[.val (.int p0), .val (.int p1), .val (.int p2), .val (.int p3), .val (.int p4), .val (.int p5), .val (.int n), .val (.int a), .val (.int b), .val (.ref ka), .val (.ref kb), .val (.int y), .val (.ref b7), .unset, .unset, .unset] [(.int p4), (.int p3), (.int p0), (.ref kb), (.int b), (.ref b7)])) _
        refine XS.aconstNull X14.here hx rfl (hb hby at_93) ?_
        show Steps p.tables e below (T14.setTop (mkF m 94 #[.val (.int p0), .val (.int p1), .val (.int p2), .val (.int p3), .val (.int p4), .val (.int p5), .val (.int n), .val (.int a), .val (.int b), .val (.ref ka), .val (.ref kb), .val (.int y), .val (.ref b7), .unset, .unset, .unset] [.null, (.int p4), (.int p3), (.int p0), (.ref kb), (.int b), (.ref b7)])) _
        refine st19.trans ?_
        show Steps p.tables e below (T19.setTop (mkF m 97 #[.val (.int p0), .val (.int p1), .val (.int p2), .val (.int p3), .val (.int p4), .val (.int p5), .val (.int n), .val (.int a), .val (.int b), .val (.ref ka), .val (.ref kb), .val (.int y), .val (.ref b7), .unset, .unset, .unset] [])) _
        refine XS.aload X19.here hx rfl (hb hby at_97) rfl rfl ?_
        show Steps p.tables e below (T19.setTop (mkF m 99 #[.val (.int p0), .val (.int p1), .val (.int p2), .val (.int p3), .val (.int p4), .val (.int p5), .val (.int n), .val (.int a), .val (.int b), .val (.ref ka), .val (.ref kb), .val (.int y), .val (.ref b7), .unset, .unset, .unset] [(.ref b7)])) _
        refine XS.iload X19.here hx rfl (hb hby at_99) rfl  ?_
        show Steps p.tables e below (T19.setTop (mkF m 101 #[.val (.int p0), .val (.int p1), .val (.int p2), .val (.int p3), .val (.int p4), .val (.int p5), .val (.int n), .val (.int a), .val (.int b), .val (.ref ka), .val (.ref kb), .val (.int y), .val (.ref b7), .unset, .unset, .unset] [(.int p5), (.ref b7)])) _
        refine st21.trans ?_
        show Steps p.tables e below (T21.setTop (mkF m 104 #[.val (.int p0), .val (.int p1), .val (.int p2), .val (.int p3), .val (.int p4), .val (.int p5), .val (.int n), .val (.int a), .val (.int b), .val (.ref ka), .val (.ref kb), .val (.int y), .val (.ref b7), .unset, .unset, .unset] [(own_kv n [(b, .ref kb), (a, .ref ka)] p5)])) _
        refine XS.iload X21.here hx rfl (hb hby at_104) rfl  ?_
        show Steps p.tables e below (T21.setTop (mkF m 106 #[.val (.int p0), .val (.int p1), .val (.int p2), .val (.int p3), .val (.int p4), .val (.int p5), .val (.int n), .val (.int a), .val (.int b), .val (.ref ka), .val (.ref kb), .val (.int y), .val (.ref b7), .unset, .unset, .unset] [(.int n), (own_kv n [(b, .ref kb), (a, .ref ka)] p5)])) _
        refine XS.iload X21.here hx rfl (hb hby at_106) rfl  ?_
        show Steps p.tables e below (T21.setTop (mkF m 108 #[.val (.int p0), .val (.int p1), .val (.int p2), .val (.int p3), .val (.int p4), .val (.int p5), .val (.int n), .val (.int a), .val (.int b), .val (.ref ka), .val (.ref kb), .val (.int y), .val (.ref b7), .unset, .unset, .unset] [(.int a), (.int n), (own_kv n [(b, .ref kb), (a, .ref ka)] p5)])) _
        refine XS.aload X21.here hx rfl (hb hby at_108) rfl rfl ?_
        show Steps p.tables e below (T21.setTop (mkF m 110 #[.val (.int p0), .val (.int p1), .val (.int p2), .val (.int p3), .val (.int p4), .val (.int p5), .val (.int n), .val (.int a), .val (.int b), .val (.ref ka), .val (.ref kb), .val (.int y), .val (.ref b7), .unset, .unset, .unset] [(.ref ka), (.int a), (.int n), (own_kv n [(b, .ref kb), (a, .ref ka)] p5)])) _
        refine XS.iload X21.here hx rfl (hb hby at_110) rfl  ?_
        show Steps p.tables e below (T21.setTop (mkF m 112 #[.val (.int p0), .val (.int p1), .val (.int p2), .val (.int p3), .val (.int p4), .val (.int p5), .val (.int n), .val (.int a), .val (.int b), .val (.ref ka), .val (.ref kb), .val (.int y), .val (.ref b7), .unset, .unset, .unset] [(.int b), (.ref ka), (.int a), (.int n), (own_kv n [(b, .ref kb), (a, .ref ka)] p5)])) _
        refine XS.aload X21.here hx rfl (hb hby at_112) rfl rfl ?_
        show Steps p.tables e below (T21.setTop (mkF m 114 #[.val (.int p0), .val (.int p1), .val (.int p2), .val (.int p3), .val (.int p4), .val (.int p5), .val (.int n), .val (.int a), .val (.int b), .val (.ref ka), .val (.ref kb), .val (.int y), .val (.ref b7), .unset, .unset, .unset] [(.ref kb), (.int b), (.ref ka), (.int a), (.int n), (own_kv n [(b, .ref kb), (a, .ref ka)] p5)])) _
        refine XS.iload X21.here hx rfl (hb hby at_114) rfl  ?_
        show Steps p.tables e below (T21.setTop (mkF m 116 #[.val (.int p0), .val (.int p1), .val (.int p2), .val (.int p3), .val (.int p4), .val (.int p5), .val (.int n), .val (.int a), .val (.int b), .val (.ref ka), .val (.ref kb), .val (.int y), .val (.ref b7), .unset, .unset, .unset] [(.int p5), (.ref kb), (.int b), (.ref ka), (.int a), (.int n), (own_kv n [(b, .ref kb), (a, .ref ka)] p5)])) _
        refine st22 _ ?_
        show Steps p.tables e below (T22.setTop (mkF m 119 #[.val (.int p0), .val (.int p1), .val (.int p2), .val (.int p3), .val (.int p4), .val (.int p5), .val (.int n), .val (.int a), .val (.int b), .val (.ref ka), .val (.ref kb), .val (.int y), .val (.ref b7), .unset, .unset, .unset] [(own_kv n [(b, .ref kb), (a, .ref ka)] p5), (own_kv n [(b, .ref kb), (a, .ref ka)] p5)])) _
        refine Jvm.RoadKit.acmp (g := (mkF m 119 #[.val (.int p0), .val (.int p1), .val (.int p2), .val (.int p3), .val (.int p4), .val (.int p5), .val (.int n), .val (.int a), .val (.int b), .val (.ref ka), .val (.ref kb), .val (.int y), .val (.ref b7), .unset, .unset, .unset] [(own_kv n [(b, .ref kb), (a, .ref ka)] p5), (own_kv n [(b, .ref kb), (a, .ref ka)] p5)])) X22 hx rfl (own_kvr (own_rS (own_rS own_r0))) (own_kvr (own_rS (own_rS own_r0))) (pc0 := 119) (pc' := 122) (same := true) rfl (hb hby at_119) rfl (decide_eq_true rfl) (by decide) (by decide) ?_
        show Steps p.tables e below (T22.setTop (mkF m 122 #[.val (.int p0), .val (.int p1), .val (.int p2), .val (.int p3), .val (.int p4), .val (.int p5), .val (.int n), .val (.int a), .val (.int b), .val (.ref ka), .val (.ref kb), .val (.int y), .val (.ref b7), .unset, .unset, .unset] [])) _
        refine XS.iconst X22.here hx rfl (hb hby at_122) ?_
        show Steps p.tables e below (T22.setTop (mkF m 123 #[.val (.int p0), .val (.int p1), .val (.int p2), .val (.int p3), .val (.int p4), .val (.int p5), .val (.int n), .val (.int a), .val (.int b), .val (.ref ka), .val (.ref kb), .val (.int y), .val (.ref b7), .unset, .unset, .unset] [(.int (1 : Int32))])) _
        refine XS.goto X22.here hx rfl (pc0 := 123) (pc' := 127) rfl (hb hby at_123) (by decide) (by decide) ?_
        show Steps p.tables e below (T22.setTop (mkF m 127 #[.val (.int p0), .val (.int p1), .val (.int p2), .val (.int p3), .val (.int p4), .val (.int p5), .val (.int n), .val (.int a), .val (.int b), .val (.ref ka), .val (.ref kb), .val (.int y), .val (.ref b7), .unset, .unset, .unset] [(.int (1 : Int32))])) _
        refine XS.istore X22.here hx rfl (hb hby at_127) rfl (l' := #[.val (.int p0), .val (.int p1), .val (.int p2), .val (.int p3), .val (.int p4), .val (.int p5), .val (.int n), .val (.int a), .val (.int b), .val (.ref ka), .val (.ref kb), .val (.int y), .val (.ref b7), .val (.int (1 : Int32)), .unset, .unset]) rfl ?_
        show Steps p.tables e below (T22.setTop (mkF m 129 #[.val (.int p0), .val (.int p1), .val (.int p2), .val (.int p3), .val (.int p4), .val (.int p5), .val (.int n), .val (.int a), .val (.int b), .val (.ref ka), .val (.ref kb), .val (.int y), .val (.ref b7), .val (.int (1 : Int32)), .unset, .unset] [])) _
        refine XS.aload X22.here hx rfl (hb hby at_129) rfl rfl ?_
        show Steps p.tables e below (T22.setTop (mkF m 131 #[.val (.int p0), .val (.int p1), .val (.int p2), .val (.int p3), .val (.int p4), .val (.int p5), .val (.int n), .val (.int a), .val (.int b), .val (.ref ka), .val (.ref kb), .val (.int y), .val (.ref b7), .val (.int (1 : Int32)), .unset, .unset] [(.ref b7)])) _
        refine XS.iload X22.here hx rfl (hb hby at_131) rfl  ?_
        show Steps p.tables e below (T22.setTop (mkF m 133 #[.val (.int p0), .val (.int p1), .val (.int p2), .val (.int p3), .val (.int p4), .val (.int p5), .val (.int n), .val (.int a), .val (.int b), .val (.ref ka), .val (.ref kb), .val (.int y), .val (.ref b7), .val (.int (1 : Int32)), .unset, .unset] [(.int y), (.ref b7)])) _
        refine st23.trans ?_
        show Steps p.tables e below (T23.setTop (mkF m 136 #[.val (.int p0), .val (.int p1), .val (.int p2), .val (.int p3), .val (.int p4), .val (.int p5), .val (.int n), .val (.int a), .val (.int b), .val (.ref ka), .val (.ref kb), .val (.int y), .val (.ref b7), .val (.int (1 : Int32)), .unset, .unset] [(own_kv n [(b, .ref kb), (a, .ref ka)] y)])) _
        refine XS.iload X23.here hx rfl (hb hby at_136) rfl  ?_
        show Steps p.tables e below (T23.setTop (mkF m 138 #[.val (.int p0), .val (.int p1), .val (.int p2), .val (.int p3), .val (.int p4), .val (.int p5), .val (.int n), .val (.int a), .val (.int b), .val (.ref ka), .val (.ref kb), .val (.int y), .val (.ref b7), .val (.int (1 : Int32)), .unset, .unset] [(.int n), (own_kv n [(b, .ref kb), (a, .ref ka)] y)])) _
        refine XS.iload X23.here hx rfl (hb hby at_138) rfl  ?_
        show Steps p.tables e below (T23.setTop (mkF m 140 #[.val (.int p0), .val (.int p1), .val (.int p2), .val (.int p3), .val (.int p4), .val (.int p5), .val (.int n), .val (.int a), .val (.int b), .val (.ref ka), .val (.ref kb), .val (.int y), .val (.ref b7), .val (.int (1 : Int32)), .unset, .unset] [(.int a), (.int n), (own_kv n [(b, .ref kb), (a, .ref ka)] y)])) _
        refine XS.aload X23.here hx rfl (hb hby at_140) rfl rfl ?_
        show Steps p.tables e below (T23.setTop (mkF m 142 #[.val (.int p0), .val (.int p1), .val (.int p2), .val (.int p3), .val (.int p4), .val (.int p5), .val (.int n), .val (.int a), .val (.int b), .val (.ref ka), .val (.ref kb), .val (.int y), .val (.ref b7), .val (.int (1 : Int32)), .unset, .unset] [(.ref ka), (.int a), (.int n), (own_kv n [(b, .ref kb), (a, .ref ka)] y)])) _
        refine XS.iload X23.here hx rfl (hb hby at_142) rfl  ?_
        show Steps p.tables e below (T23.setTop (mkF m 144 #[.val (.int p0), .val (.int p1), .val (.int p2), .val (.int p3), .val (.int p4), .val (.int p5), .val (.int n), .val (.int a), .val (.int b), .val (.ref ka), .val (.ref kb), .val (.int y), .val (.ref b7), .val (.int (1 : Int32)), .unset, .unset] [(.int b), (.ref ka), (.int a), (.int n), (own_kv n [(b, .ref kb), (a, .ref ka)] y)])) _
        refine XS.aload X23.here hx rfl (hb hby at_144) rfl rfl ?_
        show Steps p.tables e below (T23.setTop (mkF m 146 #[.val (.int p0), .val (.int p1), .val (.int p2), .val (.int p3), .val (.int p4), .val (.int p5), .val (.int n), .val (.int a), .val (.int b), .val (.ref ka), .val (.ref kb), .val (.int y), .val (.ref b7), .val (.int (1 : Int32)), .unset, .unset] [(.ref kb), (.int b), (.ref ka), (.int a), (.int n), (own_kv n [(b, .ref kb), (a, .ref ka)] y)])) _
        refine XS.iload X23.here hx rfl (hb hby at_146) rfl  ?_
        show Steps p.tables e below (T23.setTop (mkF m 148 #[.val (.int p0), .val (.int p1), .val (.int p2), .val (.int p3), .val (.int p4), .val (.int p5), .val (.int n), .val (.int a), .val (.int b), .val (.ref ka), .val (.ref kb), .val (.int y), .val (.ref b7), .val (.int (1 : Int32)), .unset, .unset] [(.int y), (.ref kb), (.int b), (.ref ka), (.int a), (.int n), (own_kv n [(b, .ref kb), (a, .ref ka)] y)])) _
        refine st24 _ ?_
        show Steps p.tables e below (T24.setTop (mkF m 151 #[.val (.int p0), .val (.int p1), .val (.int p2), .val (.int p3), .val (.int p4), .val (.int p5), .val (.int n), .val (.int a), .val (.int b), .val (.ref ka), .val (.ref kb), .val (.int y), .val (.ref b7), .val (.int (1 : Int32)), .unset, .unset] [(own_kv n [(b, .ref kb), (a, .ref ka)] y), (own_kv n [(b, .ref kb), (a, .ref ka)] y)])) _
        refine Jvm.RoadKit.acmp (g := (mkF m 151 #[.val (.int p0), .val (.int p1), .val (.int p2), .val (.int p3), .val (.int p4), .val (.int p5), .val (.int n), .val (.int a), .val (.int b), .val (.ref ka), .val (.ref kb), .val (.int y), .val (.ref b7), .val (.int (1 : Int32)), .unset, .unset] [(own_kv n [(b, .ref kb), (a, .ref ka)] y), (own_kv n [(b, .ref kb), (a, .ref ka)] y)])) X24 hx rfl (own_kvr (own_rS (own_rS own_r0))) (own_kvr (own_rS (own_rS own_r0))) (pc0 := 151) (pc' := 154) (same := true) rfl (hb hby at_151) rfl (decide_eq_true rfl) (by decide) (by decide) ?_
        show Steps p.tables e below (T24.setTop (mkF m 154 #[.val (.int p0), .val (.int p1), .val (.int p2), .val (.int p3), .val (.int p4), .val (.int p5), .val (.int n), .val (.int a), .val (.int b), .val (.ref ka), .val (.ref kb), .val (.int y), .val (.ref b7), .val (.int (1 : Int32)), .unset, .unset] [])) _
        refine XS.iconst X24.here hx rfl (hb hby at_154) ?_
        show Steps p.tables e below (T24.setTop (mkF m 155 #[.val (.int p0), .val (.int p1), .val (.int p2), .val (.int p3), .val (.int p4), .val (.int p5), .val (.int n), .val (.int a), .val (.int b), .val (.ref ka), .val (.ref kb), .val (.int y), .val (.ref b7), .val (.int (1 : Int32)), .unset, .unset] [(.int (1 : Int32))])) _
        refine XS.goto X24.here hx rfl (pc0 := 155) (pc' := 159) rfl (hb hby at_155) (by decide) (by decide) ?_
        show Steps p.tables e below (T24.setTop (mkF m 159 #[.val (.int p0), .val (.int p1), .val (.int p2), .val (.int p3), .val (.int p4), .val (.int p5), .val (.int n), .val (.int a), .val (.int b), .val (.ref ka), .val (.ref kb), .val (.int y), .val (.ref b7), .val (.int (1 : Int32)), .unset, .unset] [(.int (1 : Int32))])) _
        refine XS.istore X24.here hx rfl (hb hby at_159) rfl (l' := #[.val (.int p0), .val (.int p1), .val (.int p2), .val (.int p3), .val (.int p4), .val (.int p5), .val (.int n), .val (.int a), .val (.int b), .val (.ref ka), .val (.ref kb), .val (.int y), .val (.ref b7), .val (.int (1 : Int32)), .val (.int (1 : Int32)), .unset]) rfl ?_
        show Steps p.tables e below (T24.setTop (mkF m 161 #[.val (.int p0), .val (.int p1), .val (.int p2), .val (.int p3), .val (.int p4), .val (.int p5), .val (.int n), .val (.int a), .val (.int b), .val (.ref ka), .val (.ref kb), .val (.int y), .val (.ref b7), .val (.int (1 : Int32)), .val (.int (1 : Int32)), .unset] [])) _
        refine XS.aload X24.here hx rfl (hb hby at_161) rfl rfl ?_
        show Steps p.tables e below (T24.setTop (mkF m 163 #[.val (.int p0), .val (.int p1), .val (.int p2), .val (.int p3), .val (.int p4), .val (.int p5), .val (.int n), .val (.int a), .val (.int b), .val (.ref ka), .val (.ref kb), .val (.int y), .val (.ref b7), .val (.int (1 : Int32)), .val (.int (1 : Int32)), .unset] [(.ref b7)])) _
        refine XS.iload X24.here hx rfl (hb hby at_163) rfl  ?_
        show Steps p.tables e below (T24.setTop (mkF m 165 #[.val (.int p0), .val (.int p1), .val (.int p2), .val (.int p3), .val (.int p4), .val (.int p5), .val (.int n), .val (.int a), .val (.int b), .val (.ref ka), .val (.ref kb), .val (.int y), .val (.ref b7), .val (.int (1 : Int32)), .val (.int (1 : Int32)), .unset] [(.int a), (.ref b7)])) _
        refine st25.trans ?_
        show Steps p.tables e below (T25.setTop (mkF m 168 #[.val (.int p0), .val (.int p1), .val (.int p2), .val (.int p3), .val (.int p4), .val (.int p5), .val (.int n), .val (.int a), .val (.int b), .val (.ref ka), .val (.ref kb), .val (.int y), .val (.ref b7), .val (.int (1 : Int32)), .val (.int (1 : Int32)), .unset] [(own_kv n [(b, .ref kb), (a, .ref ka)] a)])) _
        refine XS.iload X25.here hx rfl (hb hby at_168) rfl  ?_
        show Steps p.tables e below (T25.setTop (mkF m 170 #[.val (.int p0), .val (.int p1), .val (.int p2), .val (.int p3), .val (.int p4), .val (.int p5), .val (.int n), .val (.int a), .val (.int b), .val (.ref ka), .val (.ref kb), .val (.int y), .val (.ref b7), .val (.int (1 : Int32)), .val (.int (1 : Int32)), .unset] [(.int n), (own_kv n [(b, .ref kb), (a, .ref ka)] a)])) _
        refine XS.iload X25.here hx rfl (hb hby at_170) rfl  ?_
        show Steps p.tables e below (T25.setTop (mkF m 172 #[.val (.int p0), .val (.int p1), .val (.int p2), .val (.int p3), .val (.int p4), .val (.int p5), .val (.int n), .val (.int a), .val (.int b), .val (.ref ka), .val (.ref kb), .val (.int y), .val (.ref b7), .val (.int (1 : Int32)), .val (.int (1 : Int32)), .unset] [(.int a), (.int n), (own_kv n [(b, .ref kb), (a, .ref ka)] a)])) _
        refine XS.aload X25.here hx rfl (hb hby at_172) rfl rfl ?_
        show Steps p.tables e below (T25.setTop (mkF m 174 #[.val (.int p0), .val (.int p1), .val (.int p2), .val (.int p3), .val (.int p4), .val (.int p5), .val (.int n), .val (.int a), .val (.int b), .val (.ref ka), .val (.ref kb), .val (.int y), .val (.ref b7), .val (.int (1 : Int32)), .val (.int (1 : Int32)), .unset] [(.ref ka), (.int a), (.int n), (own_kv n [(b, .ref kb), (a, .ref ka)] a)])) _
        refine XS.iload X25.here hx rfl (hb hby at_174) rfl  ?_
        show Steps p.tables e below (T25.setTop (mkF m 176 #[.val (.int p0), .val (.int p1), .val (.int p2), .val (.int p3), .val (.int p4), .val (.int p5), .val (.int n), .val (.int a), .val (.int b), .val (.ref ka), .val (.ref kb), .val (.int y), .val (.ref b7), .val (.int (1 : Int32)), .val (.int (1 : Int32)), .unset] [(.int b), (.ref ka), (.int a), (.int n), (own_kv n [(b, .ref kb), (a, .ref ka)] a)])) _
        refine XS.aload X25.here hx rfl (hb hby at_176) rfl rfl ?_
        show Steps p.tables e below (T25.setTop (mkF m 178 #[.val (.int p0), .val (.int p1), .val (.int p2), .val (.int p3), .val (.int p4), .val (.int p5), .val (.int n), .val (.int a), .val (.int b), .val (.ref ka), .val (.ref kb), .val (.int y), .val (.ref b7), .val (.int (1 : Int32)), .val (.int (1 : Int32)), .unset] [(.ref kb), (.int b), (.ref ka), (.int a), (.int n), (own_kv n [(b, .ref kb), (a, .ref ka)] a)])) _
        refine XS.iload X25.here hx rfl (hb hby at_178) rfl  ?_
        show Steps p.tables e below (T25.setTop (mkF m 180 #[.val (.int p0), .val (.int p1), .val (.int p2), .val (.int p3), .val (.int p4), .val (.int p5), .val (.int n), .val (.int a), .val (.int b), .val (.ref ka), .val (.ref kb), .val (.int y), .val (.ref b7), .val (.int (1 : Int32)), .val (.int (1 : Int32)), .unset] [(.int a), (.ref kb), (.int b), (.ref ka), (.int a), (.int n), (own_kv n [(b, .ref kb), (a, .ref ka)] a)])) _
        refine st26 _ ?_
        show Steps p.tables e below (T26.setTop (mkF m 183 #[.val (.int p0), .val (.int p1), .val (.int p2), .val (.int p3), .val (.int p4), .val (.int p5), .val (.int n), .val (.int a), .val (.int b), .val (.ref ka), .val (.ref kb), .val (.int y), .val (.ref b7), .val (.int (1 : Int32)), .val (.int (1 : Int32)), .unset] [(own_kv n [(b, .ref kb), (a, .ref ka)] a), (own_kv n [(b, .ref kb), (a, .ref ka)] a)])) _
        refine Jvm.RoadKit.acmp (g := (mkF m 183 #[.val (.int p0), .val (.int p1), .val (.int p2), .val (.int p3), .val (.int p4), .val (.int p5), .val (.int n), .val (.int a), .val (.int b), .val (.ref ka), .val (.ref kb), .val (.int y), .val (.ref b7), .val (.int (1 : Int32)), .val (.int (1 : Int32)), .unset] [(own_kv n [(b, .ref kb), (a, .ref ka)] a), (own_kv n [(b, .ref kb), (a, .ref ka)] a)])) X26 hx rfl (own_kvr (own_rS (own_rS own_r0))) (own_kvr (own_rS (own_rS own_r0))) (pc0 := 183) (pc' := 186) (same := true) rfl (hb hby at_183) rfl (decide_eq_true rfl) (by decide) (by decide) ?_
        show Steps p.tables e below (T26.setTop (mkF m 186 #[.val (.int p0), .val (.int p1), .val (.int p2), .val (.int p3), .val (.int p4), .val (.int p5), .val (.int n), .val (.int a), .val (.int b), .val (.ref ka), .val (.ref kb), .val (.int y), .val (.ref b7), .val (.int (1 : Int32)), .val (.int (1 : Int32)), .unset] [])) _
        refine XS.iconst X26.here hx rfl (hb hby at_186) ?_
        show Steps p.tables e below (T26.setTop (mkF m 187 #[.val (.int p0), .val (.int p1), .val (.int p2), .val (.int p3), .val (.int p4), .val (.int p5), .val (.int n), .val (.int a), .val (.int b), .val (.ref ka), .val (.ref kb), .val (.int y), .val (.ref b7), .val (.int (1 : Int32)), .val (.int (1 : Int32)), .unset] [(.int (1 : Int32))])) _
        refine XS.goto X26.here hx rfl (pc0 := 187) (pc' := 191) rfl (hb hby at_187) (by decide) (by decide) ?_
        show Steps p.tables e below (T26.setTop (mkF m 191 #[.val (.int p0), .val (.int p1), .val (.int p2), .val (.int p3), .val (.int p4), .val (.int p5), .val (.int n), .val (.int a), .val (.int b), .val (.ref ka), .val (.ref kb), .val (.int y), .val (.ref b7), .val (.int (1 : Int32)), .val (.int (1 : Int32)), .unset] [(.int (1 : Int32))])) _
        refine XS.istore X26.here hx rfl (hb hby at_191) rfl (l' := #[.val (.int p0), .val (.int p1), .val (.int p2), .val (.int p3), .val (.int p4), .val (.int p5), .val (.int n), .val (.int a), .val (.int b), .val (.ref ka), .val (.ref kb), .val (.int y), .val (.ref b7), .val (.int (1 : Int32)), .val (.int (1 : Int32)), .val (.int (1 : Int32))]) rfl ?_
        show Steps p.tables e below (T26.setTop (mkF m 193 #[.val (.int p0), .val (.int p1), .val (.int p2), .val (.int p3), .val (.int p4), .val (.int p5), .val (.int n), .val (.int a), .val (.int b), .val (.ref ka), .val (.ref kb), .val (.int y), .val (.ref b7), .val (.int (1 : Int32)), .val (.int (1 : Int32)), .val (.int (1 : Int32))] [])) _
        refine XS.iload X26.here hx rfl (hb hby at_193) rfl  ?_
        show Steps p.tables e below (T26.setTop (mkF m 195 #[.val (.int p0), .val (.int p1), .val (.int p2), .val (.int p3), .val (.int p4), .val (.int p5), .val (.int n), .val (.int a), .val (.int b), .val (.ref ka), .val (.ref kb), .val (.int y), .val (.ref b7), .val (.int (1 : Int32)), .val (.int (1 : Int32)), .val (.int (1 : Int32))] [(.int (1 : Int32))])) _
        refine XS.ifNo X26.here hx rfl (hb hby at_195) rfl ((if0 _ _).trans (feq (by decide : ¬ ((1 : Int32) = (0 : Int32)))).1) ?_
        show Steps p.tables e below (T26.setTop (mkF m 198 #[.val (.int p0), .val (.int p1), .val (.int p2), .val (.int p3), .val (.int p4), .val (.int p5), .val (.int n), .val (.int a), .val (.int b), .val (.ref ka), .val (.ref kb), .val (.int y), .val (.ref b7), .val (.int (1 : Int32)), .val (.int (1 : Int32)), .val (.int (1 : Int32))] [])) _
        refine XS.iload X26.here hx rfl (hb hby at_198) rfl  ?_
        show Steps p.tables e below (T26.setTop (mkF m 200 #[.val (.int p0), .val (.int p1), .val (.int p2), .val (.int p3), .val (.int p4), .val (.int p5), .val (.int n), .val (.int a), .val (.int b), .val (.ref ka), .val (.ref kb), .val (.int y), .val (.ref b7), .val (.int (1 : Int32)), .val (.int (1 : Int32)), .val (.int (1 : Int32))] [(.int (1 : Int32))])) _
        refine XS.ifNo X26.here hx rfl (hb hby at_200) rfl ((if0 _ _).trans (feq (by decide : ¬ ((1 : Int32) = (0 : Int32)))).1) ?_
        show Steps p.tables e below (T26.setTop (mkF m 203 #[.val (.int p0), .val (.int p1), .val (.int p2), .val (.int p3), .val (.int p4), .val (.int p5), .val (.int n), .val (.int a), .val (.int b), .val (.ref ka), .val (.ref kb), .val (.int y), .val (.ref b7), .val (.int (1 : Int32)), .val (.int (1 : Int32)), .val (.int (1 : Int32))] [])) _
        refine XS.iload X26.here hx rfl (hb hby at_203) rfl  ?_
        show Steps p.tables e below (T26.setTop (mkF m 205 #[.val (.int p0), .val (.int p1), .val (.int p2), .val (.int p3), .val (.int p4), .val (.int p5), .val (.int n), .val (.int a), .val (.int b), .val (.ref ka), .val (.ref kb), .val (.int y), .val (.ref b7), .val (.int (1 : Int32)), .val (.int (1 : Int32)), .val (.int (1 : Int32))] [(.int (1 : Int32))])) _
        refine XS.ifNo X26.here hx rfl (hb hby at_205) rfl ((if0 _ _).trans (feq (by decide : ¬ ((1 : Int32) = (0 : Int32)))).1) ?_
        show Steps p.tables e below (T26.setTop (mkF m 208 #[.val (.int p0), .val (.int p1), .val (.int p2), .val (.int p3), .val (.int p4), .val (.int p5), .val (.int n), .val (.int a), .val (.int b), .val (.ref ka), .val (.ref kb), .val (.int y), .val (.ref b7), .val (.int (1 : Int32)), .val (.int (1 : Int32)), .val (.int (1 : Int32))] [])) _
        refine XS.iconst X26.here hx rfl (hb hby at_208) ?_
        show Steps p.tables e below (T26.setTop (mkF m 209 #[.val (.int p0), .val (.int p1), .val (.int p2), .val (.int p3), .val (.int p4), .val (.int p5), .val (.int n), .val (.int a), .val (.int b), .val (.ref ka), .val (.ref kb), .val (.int y), .val (.ref b7), .val (.int (1 : Int32)), .val (.int (1 : Int32)), .val (.int (1 : Int32))] [(.int (1 : Int32))])) _
        refine XS.goto X26.here hx rfl (pc0 := 209) (pc' := 213) rfl (hb hby at_209) (by decide) (by decide) ?_
        show Steps p.tables e below (T26.setTop (mkF m 213 #[.val (.int p0), .val (.int p1), .val (.int p2), .val (.int p3), .val (.int p4), .val (.int p5), .val (.int n), .val (.int a), .val (.int b), .val (.ref ka), .val (.ref kb), .val (.int y), .val (.ref b7), .val (.int (1 : Int32)), .val (.int (1 : Int32)), .val (.int (1 : Int32))] [(.int (1 : Int32))])) _
        exact retN X26 hx (t := .boolean) Bd.returns (by simp) (hb hby at_213) hr
      · show Q_rm0 Z p0 p1 p2 p3 p4 p5 w0 w1 w2 w3 h0 n0 _ T26.heap _
        rw [e26]
        exact ⟨rfl, N26⟩
    · have f27 := (Nat.le_trans f12 K14.1)
      obtain ⟨cq28, kq28, q28a, q28b, q28c⟩ := isOf hZ rfl hP14.1
      obtain ⟨_, _, ⟨T28, L28, k28, n28⟩, -, X28, ⟨Lc28, hQ28, l28, y28, z28⟩, st28⟩ := X14.virtualBack hx (y := (⟨"com/example/bytelens/bytelens/ConstantPool", "kind", "(I)Lcom/example/bytelens/bytelens/ConstantKind;"⟩ : MethodName)) (z := (⟨"com/example/bytelens/bytelens/ConstantPool", "kind", "(I)Lcom/example/bytelens/bytelens/ConstantKind;"⟩ : MethodName)) hown (mvT hZ (hw _ (List.mem_of_getElem? (i := 38) rfl))) (mvT hZ (hw _ (List.mem_of_getElem? (i := 39) rfl))) (notFace_of_selects (args := #[]) (mvT hZ (hw _ (List.mem_of_getElem? (i := 41) rfl)))) (mvT hZ (hw _ (List.mem_of_getElem? (i := 41) rfl))) (mvT hZ (hw _ (List.mem_of_getElem? (i := 40) rfl))) (by decide) (backOf (W := 0) (rmKind l Z a0 hw [] b7 p5 wK wO wF wS wT k n [(a, .ref ka)] (own_kv n [(a, .ref ka)] p5) T14.heap n0 f27 hP14 rfl) hZ (hw _ (List.mem_of_getElem? (i := 42) rfl)) (hw _ (List.mem_of_getElem? (i := 11) rfl)) (by decide) (by decide)) q28a q28c (g := (mkF m 101 #[.val (.int p0), .val (.int p1), .val (.int p2), .val (.int p3), .val (.int p4), .val (.int p5), .val (.int n), .val (.int a), .val (.int b), .val (.ref ka), .val (.ref kb), .val (.int y), .val (.ref b7), .unset, .unset, .unset] [(.int p5), (.ref b7)])) rfl (by rw [hml]; rfl) (Steps.refl _) (argsL := [(.int p5)]) (rest := []) (lenOf pd__I_Lcom_example_bytelens_bytelens_ConstantKind_ rfl) rfl (by show 2 * 0 + _ ≤ _; exact Nat.le_of_eq rfl) (hb hby at_101) (fun _ _ => ⟨rfl, rfl, (by decide : 6 + 0 ≤ _), (by decide : 81 + 0 ≤ _)⟩)
      dsimp only [Pt.U, Pt.locs, Pt.cells, Pt.slots] at X28 l28 y28 z28 st28 hQ28
      subst l28 y28 z28
      obtain ⟨rfl, Nq28, e28⟩ := hQ28
      have N28 := Fr.app N14 Nq28
      obtain ⟨_, _, ⟨T29, L29, k29, n29⟩, -, X29, ⟨Lc29, hQ29, l29, y29, z29⟩, st29⟩ := Jvm.LawKit.callS X28 hx (y := (⟨"com/example/bytelens/bytelens/ConstantPoolKindPinLaw", "expected", "(IILcom/example/bytelens/bytelens/ConstantKind;ILcom/example/bytelens/bytelens/ConstantKind;I)Lcom/example/bytelens/bytelens/ConstantKind;"⟩ : MethodName)) hown (mvT hZ (hw _ (List.mem_of_getElem? (i := 43) rfl))) (mvT hZ (hw _ (List.mem_of_getElem? (i := 44) rfl))) (mvT hZ (hw _ (List.mem_of_getElem? (i := 2) rfl))) (mvT hZ (hw _ (List.mem_of_getElem? (i := 45) rfl))) (by decide) (backOf (W := 1) (rmExpected l Z a0 hw [] n a ka b kb p5 (own_kv n [(a, .ref ka)] p5) T14.heap n0 f27 (own_q10 hc60_10 hc80_15)) hZ (hw _ (List.mem_of_getElem? (i := 45) rfl)) (hw _ (List.mem_of_getElem? (i := 2) rfl)) (by decide) (by decide)) (g := (mkF m 116 #[.val (.int p0), .val (.int p1), .val (.int p2), .val (.int p3), .val (.int p4), .val (.int p5), .val (.int n), .val (.int a), .val (.int b), .val (.ref ka), .val (.ref kb), .val (.int y), .val (.ref b7), .unset, .unset, .unset] [(.int p5), (.ref kb), (.int b), (.ref ka), (.int a), (.int n), (own_kv n [(a, .ref ka)] p5)])) rfl (by rw [hml]; rfl) (argsL := [(.int n), (.int a), (.ref ka), (.int b), (.ref kb), (.int p5)]) (rest := [(own_kv n [(a, .ref ka)] p5)]) (lenOf pd__IILcom_example_bytelens_bytelens_ConstantKind_ILcom_example_bytelens_bytelens_ConstantKind_I_Lcom_example_bytelens_bytelens_ConstantKind_ rfl) rfl (by show 2 * 0 + _ ≤ _; simp [own_cat (own_kvr (own_rS own_r0))]) (hb hby at_116) (fun _ _ => ⟨rfl, e28, (by decide : 6 + 0 ≤ _), (by decide : 81 + 0 ≤ _)⟩)
      dsimp only [Pt.U, Pt.locs, Pt.cells, Pt.slots] at X29 l29 y29 z29 st29 hQ29
      subst l29 y29 z29
      obtain ⟨rfl, Nq29, e29⟩ := hQ29
      have N29 := Fr.app N28 Nq29
      obtain ⟨cq30, kq30, q30a, q30b, q30c⟩ := isOf hZ e29 hP14.1
      obtain ⟨_, _, ⟨T30, L30, k30, n30⟩, -, X30, ⟨Lc30, hQ30, l30, y30, z30⟩, st30⟩ := X29.virtualBack hx (y := (⟨"com/example/bytelens/bytelens/ConstantPool", "kind", "(I)Lcom/example/bytelens/bytelens/ConstantKind;"⟩ : MethodName)) (z := (⟨"com/example/bytelens/bytelens/ConstantPool", "kind", "(I)Lcom/example/bytelens/bytelens/ConstantKind;"⟩ : MethodName)) hown (mvT hZ (hw _ (List.mem_of_getElem? (i := 38) rfl))) (mvT hZ (hw _ (List.mem_of_getElem? (i := 39) rfl))) (notFace_of_selects (args := #[]) (mvT hZ (hw _ (List.mem_of_getElem? (i := 41) rfl)))) (mvT hZ (hw _ (List.mem_of_getElem? (i := 41) rfl))) (mvT hZ (hw _ (List.mem_of_getElem? (i := 40) rfl))) (by decide) (backOf (W := 0) (rmKind l Z a0 hw [] b7 y wK wO wF wS wT k n [(a, .ref ka)] (own_kv n [(a, .ref ka)] y) T14.heap n0 f27 hP14 rfl) hZ (hw _ (List.mem_of_getElem? (i := 42) rfl)) (hw _ (List.mem_of_getElem? (i := 11) rfl)) (by decide) (by decide)) q30a q30c (g := (mkF m 133 #[.val (.int p0), .val (.int p1), .val (.int p2), .val (.int p3), .val (.int p4), .val (.int p5), .val (.int n), .val (.int a), .val (.int b), .val (.ref ka), .val (.ref kb), .val (.int y), .val (.ref b7), .val (.int (1 : Int32)), .unset, .unset] [(.int y), (.ref b7)])) rfl (by rw [hml]; rfl) (Steps.refl _) (argsL := [(.int y)]) (rest := []) (lenOf pd__I_Lcom_example_bytelens_bytelens_ConstantKind_ rfl) rfl (by show 2 * 0 + _ ≤ _; exact Nat.le_of_eq rfl) (hb hby at_133) (fun _ _ => ⟨rfl, e29, (by decide : 6 + 0 ≤ _), (by decide : 81 + 0 ≤ _)⟩)
      dsimp only [Pt.U, Pt.locs, Pt.cells, Pt.slots] at X30 l30 y30 z30 st30 hQ30
      subst l30 y30 z30
      obtain ⟨rfl, Nq30, e30⟩ := hQ30
      have N30 := Fr.app N29 Nq30
      obtain ⟨_, _, ⟨T31, L31, k31, n31⟩, -, X31, ⟨Lc31, hQ31, l31, y31, z31⟩, st31⟩ := Jvm.LawKit.callS X30 hx (y := (⟨"com/example/bytelens/bytelens/ConstantPoolKindPinLaw", "expected", "(IILcom/example/bytelens/bytelens/ConstantKind;ILcom/example/bytelens/bytelens/ConstantKind;I)Lcom/example/bytelens/bytelens/ConstantKind;"⟩ : MethodName)) hown (mvT hZ (hw _ (List.mem_of_getElem? (i := 43) rfl))) (mvT hZ (hw _ (List.mem_of_getElem? (i := 44) rfl))) (mvT hZ (hw _ (List.mem_of_getElem? (i := 2) rfl))) (mvT hZ (hw _ (List.mem_of_getElem? (i := 45) rfl))) (by decide) (backOf (W := 1) (rmExpected l Z a0 hw [] n a ka b kb y (own_kv n [(a, .ref ka)] y) T14.heap n0 f27 (own_q10 hc60_10 hc80_15)) hZ (hw _ (List.mem_of_getElem? (i := 45) rfl)) (hw _ (List.mem_of_getElem? (i := 2) rfl)) (by decide) (by decide)) (g := (mkF m 148 #[.val (.int p0), .val (.int p1), .val (.int p2), .val (.int p3), .val (.int p4), .val (.int p5), .val (.int n), .val (.int a), .val (.int b), .val (.ref ka), .val (.ref kb), .val (.int y), .val (.ref b7), .val (.int (1 : Int32)), .unset, .unset] [(.int y), (.ref kb), (.int b), (.ref ka), (.int a), (.int n), (own_kv n [(a, .ref ka)] y)])) rfl (by rw [hml]; rfl) (argsL := [(.int n), (.int a), (.ref ka), (.int b), (.ref kb), (.int y)]) (rest := [(own_kv n [(a, .ref ka)] y)]) (lenOf pd__IILcom_example_bytelens_bytelens_ConstantKind_ILcom_example_bytelens_bytelens_ConstantKind_I_Lcom_example_bytelens_bytelens_ConstantKind_ rfl) rfl (by show 2 * 0 + _ ≤ _; simp [own_cat (own_kvr (own_rS own_r0))]) (hb hby at_148) (fun _ _ => ⟨rfl, e30, (by decide : 6 + 0 ≤ _), (by decide : 81 + 0 ≤ _)⟩)
      dsimp only [Pt.U, Pt.locs, Pt.cells, Pt.slots] at X31 l31 y31 z31 st31 hQ31
      subst l31 y31 z31
      obtain ⟨rfl, Nq31, e31⟩ := hQ31
      have N31 := Fr.app N30 Nq31
      obtain ⟨cq32, kq32, q32a, q32b, q32c⟩ := isOf hZ e31 hP14.1
      obtain ⟨_, _, ⟨T32, L32, k32, n32⟩, -, X32, ⟨Lc32, hQ32, l32, y32, z32⟩, st32⟩ := X31.virtualBack hx (y := (⟨"com/example/bytelens/bytelens/ConstantPool", "kind", "(I)Lcom/example/bytelens/bytelens/ConstantKind;"⟩ : MethodName)) (z := (⟨"com/example/bytelens/bytelens/ConstantPool", "kind", "(I)Lcom/example/bytelens/bytelens/ConstantKind;"⟩ : MethodName)) hown (mvT hZ (hw _ (List.mem_of_getElem? (i := 38) rfl))) (mvT hZ (hw _ (List.mem_of_getElem? (i := 39) rfl))) (notFace_of_selects (args := #[]) (mvT hZ (hw _ (List.mem_of_getElem? (i := 41) rfl)))) (mvT hZ (hw _ (List.mem_of_getElem? (i := 41) rfl))) (mvT hZ (hw _ (List.mem_of_getElem? (i := 40) rfl))) (by decide) (backOf (W := 0) (rmKind l Z a0 hw [] b7 a wK wO wF wS wT k n [(a, .ref ka)] (own_kv n [(a, .ref ka)] a) T14.heap n0 f27 hP14 rfl) hZ (hw _ (List.mem_of_getElem? (i := 42) rfl)) (hw _ (List.mem_of_getElem? (i := 11) rfl)) (by decide) (by decide)) q32a q32c (g := (mkF m 165 #[.val (.int p0), .val (.int p1), .val (.int p2), .val (.int p3), .val (.int p4), .val (.int p5), .val (.int n), .val (.int a), .val (.int b), .val (.ref ka), .val (.ref kb), .val (.int y), .val (.ref b7), .val (.int (1 : Int32)), .val (.int (1 : Int32)), .unset] [(.int a), (.ref b7)])) rfl (by rw [hml]; rfl) (Steps.refl _) (argsL := [(.int a)]) (rest := []) (lenOf pd__I_Lcom_example_bytelens_bytelens_ConstantKind_ rfl) rfl (by show 2 * 0 + _ ≤ _; exact Nat.le_of_eq rfl) (hb hby at_165) (fun _ _ => ⟨rfl, e31, (by decide : 6 + 0 ≤ _), (by decide : 81 + 0 ≤ _)⟩)
      dsimp only [Pt.U, Pt.locs, Pt.cells, Pt.slots] at X32 l32 y32 z32 st32 hQ32
      subst l32 y32 z32
      obtain ⟨rfl, Nq32, e32⟩ := hQ32
      have N32 := Fr.app N31 Nq32
      obtain ⟨_, _, ⟨T33, L33, k33, n33⟩, -, X33, ⟨Lc33, hQ33, l33, y33, z33⟩, st33⟩ := Jvm.LawKit.callS X32 hx (y := (⟨"com/example/bytelens/bytelens/ConstantPoolKindPinLaw", "expected", "(IILcom/example/bytelens/bytelens/ConstantKind;ILcom/example/bytelens/bytelens/ConstantKind;I)Lcom/example/bytelens/bytelens/ConstantKind;"⟩ : MethodName)) hown (mvT hZ (hw _ (List.mem_of_getElem? (i := 43) rfl))) (mvT hZ (hw _ (List.mem_of_getElem? (i := 44) rfl))) (mvT hZ (hw _ (List.mem_of_getElem? (i := 2) rfl))) (mvT hZ (hw _ (List.mem_of_getElem? (i := 45) rfl))) (by decide) (backOf (W := 1) (rmExpected l Z a0 hw [] n a ka b kb a (own_kv n [(a, .ref ka)] a) T14.heap n0 f27 (own_q10 hc60_10 hc80_15)) hZ (hw _ (List.mem_of_getElem? (i := 45) rfl)) (hw _ (List.mem_of_getElem? (i := 2) rfl)) (by decide) (by decide)) (g := (mkF m 180 #[.val (.int p0), .val (.int p1), .val (.int p2), .val (.int p3), .val (.int p4), .val (.int p5), .val (.int n), .val (.int a), .val (.int b), .val (.ref ka), .val (.ref kb), .val (.int y), .val (.ref b7), .val (.int (1 : Int32)), .val (.int (1 : Int32)), .unset] [(.int a), (.ref kb), (.int b), (.ref ka), (.int a), (.int n), (own_kv n [(a, .ref ka)] a)])) rfl (by rw [hml]; rfl) (argsL := [(.int n), (.int a), (.ref ka), (.int b), (.ref kb), (.int a)]) (rest := [(own_kv n [(a, .ref ka)] a)]) (lenOf pd__IILcom_example_bytelens_bytelens_ConstantKind_ILcom_example_bytelens_bytelens_ConstantKind_I_Lcom_example_bytelens_bytelens_ConstantKind_ rfl) rfl (by show 2 * 0 + _ ≤ _; simp [own_cat (own_kvr (own_rS own_r0))]) (hb hby at_180) (fun _ _ => ⟨rfl, e32, (by decide : 6 + 0 ≤ _), (by decide : 81 + 0 ≤ _)⟩)
      dsimp only [Pt.U, Pt.locs, Pt.cells, Pt.slots] at X33 l33 y33 z33 st33 hQ33
      subst l33 y33 z33
      obtain ⟨rfl, Nq33, e33⟩ := hQ33
      have N33 := Fr.app N32 Nq33
      obtain ⟨fs, hr, hrun, hended, hW, hsame⟩ := X33.leave (v := some (.int (1 : Int32))) (fun h => by rw [Bd.returns] at h; cases h)
      refine ⟨_, _, pre16 _ ?_, hrun, hended, _, _, rfl, ?_, ⟨_, rfl⟩, hW, hsame.mono (by decide) (by decide)⟩
      · show Steps p.tables e below (T14.setTop (mkF m 80 #[.val (.int p0), .val (.int p1), .val (.int p2), .val (.int p3), .val (.int p4), .val (.int p5), .val (.int n), .val (.int a), .val (.int b), .val (.ref ka), .val (.ref kb), .val (.int y), .val (.ref b7), .unset, .unset, .unset] [(.int n), (.int b)])) _
        refine XS.icmpYes X14.here hx rfl (pc0 := 80) (pc' := 97) rfl (hb hby at_80) rfl (flt hc80_15).2.1 (by decide) (by decide) ?_
        show Steps p.tables e below (T14.setTop (mkF m 97 #[.val (.int p0), .val (.int p1), .val (.int p2), .val (.int p3), .val (.int p4), .val (.int p5), .val (.int n), .val (.int a), .val (.int b), .val (.ref ka), .val (.ref kb), .val (.int y), .val (.ref b7), .unset, .unset, .unset] [])) _
        refine XS.aload X14.here hx rfl (hb hby at_97) rfl rfl ?_
        show Steps p.tables e below (T14.setTop (mkF m 99 #[.val (.int p0), .val (.int p1), .val (.int p2), .val (.int p3), .val (.int p4), .val (.int p5), .val (.int n), .val (.int a), .val (.int b), .val (.ref ka), .val (.ref kb), .val (.int y), .val (.ref b7), .unset, .unset, .unset] [(.ref b7)])) _
        refine XS.iload X14.here hx rfl (hb hby at_99) rfl  ?_
        show Steps p.tables e below (T14.setTop (mkF m 101 #[.val (.int p0), .val (.int p1), .val (.int p2), .val (.int p3), .val (.int p4), .val (.int p5), .val (.int n), .val (.int a), .val (.int b), .val (.ref ka), .val (.ref kb), .val (.int y), .val (.ref b7), .unset, .unset, .unset] [(.int p5), (.ref b7)])) _
        refine st28.trans ?_
        show Steps p.tables e below (T28.setTop (mkF m 104 #[.val (.int p0), .val (.int p1), .val (.int p2), .val (.int p3), .val (.int p4), .val (.int p5), .val (.int n), .val (.int a), .val (.int b), .val (.ref ka), .val (.ref kb), .val (.int y), .val (.ref b7), .unset, .unset, .unset] [(own_kv n [(a, .ref ka)] p5)])) _
        refine XS.iload X28.here hx rfl (hb hby at_104) rfl  ?_
        show Steps p.tables e below (T28.setTop (mkF m 106 #[.val (.int p0), .val (.int p1), .val (.int p2), .val (.int p3), .val (.int p4), .val (.int p5), .val (.int n), .val (.int a), .val (.int b), .val (.ref ka), .val (.ref kb), .val (.int y), .val (.ref b7), .unset, .unset, .unset] [(.int n), (own_kv n [(a, .ref ka)] p5)])) _
        refine XS.iload X28.here hx rfl (hb hby at_106) rfl  ?_
        show Steps p.tables e below (T28.setTop (mkF m 108 #[.val (.int p0), .val (.int p1), .val (.int p2), .val (.int p3), .val (.int p4), .val (.int p5), .val (.int n), .val (.int a), .val (.int b), .val (.ref ka), .val (.ref kb), .val (.int y), .val (.ref b7), .unset, .unset, .unset] [(.int a), (.int n), (own_kv n [(a, .ref ka)] p5)])) _
        refine XS.aload X28.here hx rfl (hb hby at_108) rfl rfl ?_
        show Steps p.tables e below (T28.setTop (mkF m 110 #[.val (.int p0), .val (.int p1), .val (.int p2), .val (.int p3), .val (.int p4), .val (.int p5), .val (.int n), .val (.int a), .val (.int b), .val (.ref ka), .val (.ref kb), .val (.int y), .val (.ref b7), .unset, .unset, .unset] [(.ref ka), (.int a), (.int n), (own_kv n [(a, .ref ka)] p5)])) _
        refine XS.iload X28.here hx rfl (hb hby at_110) rfl  ?_
        show Steps p.tables e below (T28.setTop (mkF m 112 #[.val (.int p0), .val (.int p1), .val (.int p2), .val (.int p3), .val (.int p4), .val (.int p5), .val (.int n), .val (.int a), .val (.int b), .val (.ref ka), .val (.ref kb), .val (.int y), .val (.ref b7), .unset, .unset, .unset] [(.int b), (.ref ka), (.int a), (.int n), (own_kv n [(a, .ref ka)] p5)])) _
        refine XS.aload X28.here hx rfl (hb hby at_112) rfl rfl ?_
        show Steps p.tables e below (T28.setTop (mkF m 114 #[.val (.int p0), .val (.int p1), .val (.int p2), .val (.int p3), .val (.int p4), .val (.int p5), .val (.int n), .val (.int a), .val (.int b), .val (.ref ka), .val (.ref kb), .val (.int y), .val (.ref b7), .unset, .unset, .unset] [(.ref kb), (.int b), (.ref ka), (.int a), (.int n), (own_kv n [(a, .ref ka)] p5)])) _
        refine XS.iload X28.here hx rfl (hb hby at_114) rfl  ?_
        show Steps p.tables e below (T28.setTop (mkF m 116 #[.val (.int p0), .val (.int p1), .val (.int p2), .val (.int p3), .val (.int p4), .val (.int p5), .val (.int n), .val (.int a), .val (.int b), .val (.ref ka), .val (.ref kb), .val (.int y), .val (.ref b7), .unset, .unset, .unset] [(.int p5), (.ref kb), (.int b), (.ref ka), (.int a), (.int n), (own_kv n [(a, .ref ka)] p5)])) _
        refine st29 _ ?_
        show Steps p.tables e below (T29.setTop (mkF m 119 #[.val (.int p0), .val (.int p1), .val (.int p2), .val (.int p3), .val (.int p4), .val (.int p5), .val (.int n), .val (.int a), .val (.int b), .val (.ref ka), .val (.ref kb), .val (.int y), .val (.ref b7), .unset, .unset, .unset] [(own_kv n [(a, .ref ka)] p5), (own_kv n [(a, .ref ka)] p5)])) _
        refine Jvm.RoadKit.acmp (g := (mkF m 119 #[.val (.int p0), .val (.int p1), .val (.int p2), .val (.int p3), .val (.int p4), .val (.int p5), .val (.int n), .val (.int a), .val (.int b), .val (.ref ka), .val (.ref kb), .val (.int y), .val (.ref b7), .unset, .unset, .unset] [(own_kv n [(a, .ref ka)] p5), (own_kv n [(a, .ref ka)] p5)])) X29 hx rfl (own_kvr (own_rS own_r0)) (own_kvr (own_rS own_r0)) (pc0 := 119) (pc' := 122) (same := true) rfl (hb hby at_119) rfl (decide_eq_true rfl) (by decide) (by decide) ?_
        show Steps p.tables e below (T29.setTop (mkF m 122 #[.val (.int p0), .val (.int p1), .val (.int p2), .val (.int p3), .val (.int p4), .val (.int p5), .val (.int n), .val (.int a), .val (.int b), .val (.ref ka), .val (.ref kb), .val (.int y), .val (.ref b7), .unset, .unset, .unset] [])) _
        refine XS.iconst X29.here hx rfl (hb hby at_122) ?_
        show Steps p.tables e below (T29.setTop (mkF m 123 #[.val (.int p0), .val (.int p1), .val (.int p2), .val (.int p3), .val (.int p4), .val (.int p5), .val (.int n), .val (.int a), .val (.int b), .val (.ref ka), .val (.ref kb), .val (.int y), .val (.ref b7), .unset, .unset, .unset] [(.int (1 : Int32))])) _
        refine XS.goto X29.here hx rfl (pc0 := 123) (pc' := 127) rfl (hb hby at_123) (by decide) (by decide) ?_
        show Steps p.tables e below (T29.setTop (mkF m 127 #[.val (.int p0), .val (.int p1), .val (.int p2), .val (.int p3), .val (.int p4), .val (.int p5), .val (.int n), .val (.int a), .val (.int b), .val (.ref ka), .val (.ref kb), .val (.int y), .val (.ref b7), .unset, .unset, .unset] [(.int (1 : Int32))])) _
        refine XS.istore X29.here hx rfl (hb hby at_127) rfl (l' := #[.val (.int p0), .val (.int p1), .val (.int p2), .val (.int p3), .val (.int p4), .val (.int p5), .val (.int n), .val (.int a), .val (.int b), .val (.ref ka), .val (.ref kb), .val (.int y), .val (.ref b7), .val (.int (1 : Int32)), .unset, .unset]) rfl ?_
        show Steps p.tables e below (T29.setTop (mkF m 129 #[.val (.int p0), .val (.int p1), .val (.int p2), .val (.int p3), .val (.int p4), .val (.int p5), .val (.int n), .val (.int a), .val (.int b), .val (.ref ka), .val (.ref kb), .val (.int y), .val (.ref b7), .val (.int (1 : Int32)), .unset, .unset] [])) _
        refine XS.aload X29.here hx rfl (hb hby at_129) rfl rfl ?_
        show Steps p.tables e below (T29.setTop (mkF m 131 #[.val (.int p0), .val (.int p1), .val (.int p2), .val (.int p3), .val (.int p4), .val (.int p5), .val (.int n), .val (.int a), .val (.int b), .val (.ref ka), .val (.ref kb), .val (.int y), .val (.ref b7), .val (.int (1 : Int32)), .unset, .unset] [(.ref b7)])) _
        refine XS.iload X29.here hx rfl (hb hby at_131) rfl  ?_
        show Steps p.tables e below (T29.setTop (mkF m 133 #[.val (.int p0), .val (.int p1), .val (.int p2), .val (.int p3), .val (.int p4), .val (.int p5), .val (.int n), .val (.int a), .val (.int b), .val (.ref ka), .val (.ref kb), .val (.int y), .val (.ref b7), .val (.int (1 : Int32)), .unset, .unset] [(.int y), (.ref b7)])) _
        refine st30.trans ?_
        show Steps p.tables e below (T30.setTop (mkF m 136 #[.val (.int p0), .val (.int p1), .val (.int p2), .val (.int p3), .val (.int p4), .val (.int p5), .val (.int n), .val (.int a), .val (.int b), .val (.ref ka), .val (.ref kb), .val (.int y), .val (.ref b7), .val (.int (1 : Int32)), .unset, .unset] [(own_kv n [(a, .ref ka)] y)])) _
        refine XS.iload X30.here hx rfl (hb hby at_136) rfl  ?_
        show Steps p.tables e below (T30.setTop (mkF m 138 #[.val (.int p0), .val (.int p1), .val (.int p2), .val (.int p3), .val (.int p4), .val (.int p5), .val (.int n), .val (.int a), .val (.int b), .val (.ref ka), .val (.ref kb), .val (.int y), .val (.ref b7), .val (.int (1 : Int32)), .unset, .unset] [(.int n), (own_kv n [(a, .ref ka)] y)])) _
        refine XS.iload X30.here hx rfl (hb hby at_138) rfl  ?_
        show Steps p.tables e below (T30.setTop (mkF m 140 #[.val (.int p0), .val (.int p1), .val (.int p2), .val (.int p3), .val (.int p4), .val (.int p5), .val (.int n), .val (.int a), .val (.int b), .val (.ref ka), .val (.ref kb), .val (.int y), .val (.ref b7), .val (.int (1 : Int32)), .unset, .unset] [(.int a), (.int n), (own_kv n [(a, .ref ka)] y)])) _
        refine XS.aload X30.here hx rfl (hb hby at_140) rfl rfl ?_
        show Steps p.tables e below (T30.setTop (mkF m 142 #[.val (.int p0), .val (.int p1), .val (.int p2), .val (.int p3), .val (.int p4), .val (.int p5), .val (.int n), .val (.int a), .val (.int b), .val (.ref ka), .val (.ref kb), .val (.int y), .val (.ref b7), .val (.int (1 : Int32)), .unset, .unset] [(.ref ka), (.int a), (.int n), (own_kv n [(a, .ref ka)] y)])) _
        refine XS.iload X30.here hx rfl (hb hby at_142) rfl  ?_
        show Steps p.tables e below (T30.setTop (mkF m 144 #[.val (.int p0), .val (.int p1), .val (.int p2), .val (.int p3), .val (.int p4), .val (.int p5), .val (.int n), .val (.int a), .val (.int b), .val (.ref ka), .val (.ref kb), .val (.int y), .val (.ref b7), .val (.int (1 : Int32)), .unset, .unset] [(.int b), (.ref ka), (.int a), (.int n), (own_kv n [(a, .ref ka)] y)])) _
        refine XS.aload X30.here hx rfl (hb hby at_144) rfl rfl ?_
        show Steps p.tables e below (T30.setTop (mkF m 146 #[.val (.int p0), .val (.int p1), .val (.int p2), .val (.int p3), .val (.int p4), .val (.int p5), .val (.int n), .val (.int a), .val (.int b), .val (.ref ka), .val (.ref kb), .val (.int y), .val (.ref b7), .val (.int (1 : Int32)), .unset, .unset] [(.ref kb), (.int b), (.ref ka), (.int a), (.int n), (own_kv n [(a, .ref ka)] y)])) _
        refine XS.iload X30.here hx rfl (hb hby at_146) rfl  ?_
        show Steps p.tables e below (T30.setTop (mkF m 148 #[.val (.int p0), .val (.int p1), .val (.int p2), .val (.int p3), .val (.int p4), .val (.int p5), .val (.int n), .val (.int a), .val (.int b), .val (.ref ka), .val (.ref kb), .val (.int y), .val (.ref b7), .val (.int (1 : Int32)), .unset, .unset] [(.int y), (.ref kb), (.int b), (.ref ka), (.int a), (.int n), (own_kv n [(a, .ref ka)] y)])) _
        refine st31 _ ?_
        show Steps p.tables e below (T31.setTop (mkF m 151 #[.val (.int p0), .val (.int p1), .val (.int p2), .val (.int p3), .val (.int p4), .val (.int p5), .val (.int n), .val (.int a), .val (.int b), .val (.ref ka), .val (.ref kb), .val (.int y), .val (.ref b7), .val (.int (1 : Int32)), .unset, .unset] [(own_kv n [(a, .ref ka)] y), (own_kv n [(a, .ref ka)] y)])) _
        refine Jvm.RoadKit.acmp (g := (mkF m 151 #[.val (.int p0), .val (.int p1), .val (.int p2), .val (.int p3), .val (.int p4), .val (.int p5), .val (.int n), .val (.int a), .val (.int b), .val (.ref ka), .val (.ref kb), .val (.int y), .val (.ref b7), .val (.int (1 : Int32)), .unset, .unset] [(own_kv n [(a, .ref ka)] y), (own_kv n [(a, .ref ka)] y)])) X31 hx rfl (own_kvr (own_rS own_r0)) (own_kvr (own_rS own_r0)) (pc0 := 151) (pc' := 154) (same := true) rfl (hb hby at_151) rfl (decide_eq_true rfl) (by decide) (by decide) ?_
        show Steps p.tables e below (T31.setTop (mkF m 154 #[.val (.int p0), .val (.int p1), .val (.int p2), .val (.int p3), .val (.int p4), .val (.int p5), .val (.int n), .val (.int a), .val (.int b), .val (.ref ka), .val (.ref kb), .val (.int y), .val (.ref b7), .val (.int (1 : Int32)), .unset, .unset] [])) _
        refine XS.iconst X31.here hx rfl (hb hby at_154) ?_
        show Steps p.tables e below (T31.setTop (mkF m 155 #[.val (.int p0), .val (.int p1), .val (.int p2), .val (.int p3), .val (.int p4), .val (.int p5), .val (.int n), .val (.int a), .val (.int b), .val (.ref ka), .val (.ref kb), .val (.int y), .val (.ref b7), .val (.int (1 : Int32)), .unset, .unset] [(.int (1 : Int32))])) _
        refine XS.goto X31.here hx rfl (pc0 := 155) (pc' := 159) rfl (hb hby at_155) (by decide) (by decide) ?_
        show Steps p.tables e below (T31.setTop (mkF m 159 #[.val (.int p0), .val (.int p1), .val (.int p2), .val (.int p3), .val (.int p4), .val (.int p5), .val (.int n), .val (.int a), .val (.int b), .val (.ref ka), .val (.ref kb), .val (.int y), .val (.ref b7), .val (.int (1 : Int32)), .unset, .unset] [(.int (1 : Int32))])) _
        refine XS.istore X31.here hx rfl (hb hby at_159) rfl (l' := #[.val (.int p0), .val (.int p1), .val (.int p2), .val (.int p3), .val (.int p4), .val (.int p5), .val (.int n), .val (.int a), .val (.int b), .val (.ref ka), .val (.ref kb), .val (.int y), .val (.ref b7), .val (.int (1 : Int32)), .val (.int (1 : Int32)), .unset]) rfl ?_
        show Steps p.tables e below (T31.setTop (mkF m 161 #[.val (.int p0), .val (.int p1), .val (.int p2), .val (.int p3), .val (.int p4), .val (.int p5), .val (.int n), .val (.int a), .val (.int b), .val (.ref ka), .val (.ref kb), .val (.int y), .val (.ref b7), .val (.int (1 : Int32)), .val (.int (1 : Int32)), .unset] [])) _
        refine XS.aload X31.here hx rfl (hb hby at_161) rfl rfl ?_
        show Steps p.tables e below (T31.setTop (mkF m 163 #[.val (.int p0), .val (.int p1), .val (.int p2), .val (.int p3), .val (.int p4), .val (.int p5), .val (.int n), .val (.int a), .val (.int b), .val (.ref ka), .val (.ref kb), .val (.int y), .val (.ref b7), .val (.int (1 : Int32)), .val (.int (1 : Int32)), .unset] [(.ref b7)])) _
        refine XS.iload X31.here hx rfl (hb hby at_163) rfl  ?_
        show Steps p.tables e below (T31.setTop (mkF m 165 #[.val (.int p0), .val (.int p1), .val (.int p2), .val (.int p3), .val (.int p4), .val (.int p5), .val (.int n), .val (.int a), .val (.int b), .val (.ref ka), .val (.ref kb), .val (.int y), .val (.ref b7), .val (.int (1 : Int32)), .val (.int (1 : Int32)), .unset] [(.int a), (.ref b7)])) _
        refine st32.trans ?_
        show Steps p.tables e below (T32.setTop (mkF m 168 #[.val (.int p0), .val (.int p1), .val (.int p2), .val (.int p3), .val (.int p4), .val (.int p5), .val (.int n), .val (.int a), .val (.int b), .val (.ref ka), .val (.ref kb), .val (.int y), .val (.ref b7), .val (.int (1 : Int32)), .val (.int (1 : Int32)), .unset] [(own_kv n [(a, .ref ka)] a)])) _
        refine XS.iload X32.here hx rfl (hb hby at_168) rfl  ?_
        show Steps p.tables e below (T32.setTop (mkF m 170 #[.val (.int p0), .val (.int p1), .val (.int p2), .val (.int p3), .val (.int p4), .val (.int p5), .val (.int n), .val (.int a), .val (.int b), .val (.ref ka), .val (.ref kb), .val (.int y), .val (.ref b7), .val (.int (1 : Int32)), .val (.int (1 : Int32)), .unset] [(.int n), (own_kv n [(a, .ref ka)] a)])) _
        refine XS.iload X32.here hx rfl (hb hby at_170) rfl  ?_
        show Steps p.tables e below (T32.setTop (mkF m 172 #[.val (.int p0), .val (.int p1), .val (.int p2), .val (.int p3), .val (.int p4), .val (.int p5), .val (.int n), .val (.int a), .val (.int b), .val (.ref ka), .val (.ref kb), .val (.int y), .val (.ref b7), .val (.int (1 : Int32)), .val (.int (1 : Int32)), .unset] [(.int a), (.int n), (own_kv n [(a, .ref ka)] a)])) _
        refine XS.aload X32.here hx rfl (hb hby at_172) rfl rfl ?_
        show Steps p.tables e below (T32.setTop (mkF m 174 #[.val (.int p0), .val (.int p1), .val (.int p2), .val (.int p3), .val (.int p4), .val (.int p5), .val (.int n), .val (.int a), .val (.int b), .val (.ref ka), .val (.ref kb), .val (.int y), .val (.ref b7), .val (.int (1 : Int32)), .val (.int (1 : Int32)), .unset] [(.ref ka), (.int a), (.int n), (own_kv n [(a, .ref ka)] a)])) _
        refine XS.iload X32.here hx rfl (hb hby at_174) rfl  ?_
        show Steps p.tables e below (T32.setTop (mkF m 176 #[.val (.int p0), .val (.int p1), .val (.int p2), .val (.int p3), .val (.int p4), .val (.int p5), .val (.int n), .val (.int a), .val (.int b), .val (.ref ka), .val (.ref kb), .val (.int y), .val (.ref b7), .val (.int (1 : Int32)), .val (.int (1 : Int32)), .unset] [(.int b), (.ref ka), (.int a), (.int n), (own_kv n [(a, .ref ka)] a)])) _
        refine XS.aload X32.here hx rfl (hb hby at_176) rfl rfl ?_
        show Steps p.tables e below (T32.setTop (mkF m 178 #[.val (.int p0), .val (.int p1), .val (.int p2), .val (.int p3), .val (.int p4), .val (.int p5), .val (.int n), .val (.int a), .val (.int b), .val (.ref ka), .val (.ref kb), .val (.int y), .val (.ref b7), .val (.int (1 : Int32)), .val (.int (1 : Int32)), .unset] [(.ref kb), (.int b), (.ref ka), (.int a), (.int n), (own_kv n [(a, .ref ka)] a)])) _
        refine XS.iload X32.here hx rfl (hb hby at_178) rfl  ?_
        show Steps p.tables e below (T32.setTop (mkF m 180 #[.val (.int p0), .val (.int p1), .val (.int p2), .val (.int p3), .val (.int p4), .val (.int p5), .val (.int n), .val (.int a), .val (.int b), .val (.ref ka), .val (.ref kb), .val (.int y), .val (.ref b7), .val (.int (1 : Int32)), .val (.int (1 : Int32)), .unset] [(.int a), (.ref kb), (.int b), (.ref ka), (.int a), (.int n), (own_kv n [(a, .ref ka)] a)])) _
        refine st33 _ ?_
        show Steps p.tables e below (T33.setTop (mkF m 183 #[.val (.int p0), .val (.int p1), .val (.int p2), .val (.int p3), .val (.int p4), .val (.int p5), .val (.int n), .val (.int a), .val (.int b), .val (.ref ka), .val (.ref kb), .val (.int y), .val (.ref b7), .val (.int (1 : Int32)), .val (.int (1 : Int32)), .unset] [(own_kv n [(a, .ref ka)] a), (own_kv n [(a, .ref ka)] a)])) _
        refine Jvm.RoadKit.acmp (g := (mkF m 183 #[.val (.int p0), .val (.int p1), .val (.int p2), .val (.int p3), .val (.int p4), .val (.int p5), .val (.int n), .val (.int a), .val (.int b), .val (.ref ka), .val (.ref kb), .val (.int y), .val (.ref b7), .val (.int (1 : Int32)), .val (.int (1 : Int32)), .unset] [(own_kv n [(a, .ref ka)] a), (own_kv n [(a, .ref ka)] a)])) X33 hx rfl (own_kvr (own_rS own_r0)) (own_kvr (own_rS own_r0)) (pc0 := 183) (pc' := 186) (same := true) rfl (hb hby at_183) rfl (decide_eq_true rfl) (by decide) (by decide) ?_
        show Steps p.tables e below (T33.setTop (mkF m 186 #[.val (.int p0), .val (.int p1), .val (.int p2), .val (.int p3), .val (.int p4), .val (.int p5), .val (.int n), .val (.int a), .val (.int b), .val (.ref ka), .val (.ref kb), .val (.int y), .val (.ref b7), .val (.int (1 : Int32)), .val (.int (1 : Int32)), .unset] [])) _
        refine XS.iconst X33.here hx rfl (hb hby at_186) ?_
        show Steps p.tables e below (T33.setTop (mkF m 187 #[.val (.int p0), .val (.int p1), .val (.int p2), .val (.int p3), .val (.int p4), .val (.int p5), .val (.int n), .val (.int a), .val (.int b), .val (.ref ka), .val (.ref kb), .val (.int y), .val (.ref b7), .val (.int (1 : Int32)), .val (.int (1 : Int32)), .unset] [(.int (1 : Int32))])) _
        refine XS.goto X33.here hx rfl (pc0 := 187) (pc' := 191) rfl (hb hby at_187) (by decide) (by decide) ?_
        show Steps p.tables e below (T33.setTop (mkF m 191 #[.val (.int p0), .val (.int p1), .val (.int p2), .val (.int p3), .val (.int p4), .val (.int p5), .val (.int n), .val (.int a), .val (.int b), .val (.ref ka), .val (.ref kb), .val (.int y), .val (.ref b7), .val (.int (1 : Int32)), .val (.int (1 : Int32)), .unset] [(.int (1 : Int32))])) _
        refine XS.istore X33.here hx rfl (hb hby at_191) rfl (l' := #[.val (.int p0), .val (.int p1), .val (.int p2), .val (.int p3), .val (.int p4), .val (.int p5), .val (.int n), .val (.int a), .val (.int b), .val (.ref ka), .val (.ref kb), .val (.int y), .val (.ref b7), .val (.int (1 : Int32)), .val (.int (1 : Int32)), .val (.int (1 : Int32))]) rfl ?_
        show Steps p.tables e below (T33.setTop (mkF m 193 #[.val (.int p0), .val (.int p1), .val (.int p2), .val (.int p3), .val (.int p4), .val (.int p5), .val (.int n), .val (.int a), .val (.int b), .val (.ref ka), .val (.ref kb), .val (.int y), .val (.ref b7), .val (.int (1 : Int32)), .val (.int (1 : Int32)), .val (.int (1 : Int32))] [])) _
        refine XS.iload X33.here hx rfl (hb hby at_193) rfl  ?_
        show Steps p.tables e below (T33.setTop (mkF m 195 #[.val (.int p0), .val (.int p1), .val (.int p2), .val (.int p3), .val (.int p4), .val (.int p5), .val (.int n), .val (.int a), .val (.int b), .val (.ref ka), .val (.ref kb), .val (.int y), .val (.ref b7), .val (.int (1 : Int32)), .val (.int (1 : Int32)), .val (.int (1 : Int32))] [(.int (1 : Int32))])) _
        refine XS.ifNo X33.here hx rfl (hb hby at_195) rfl ((if0 _ _).trans (feq (by decide : ¬ ((1 : Int32) = (0 : Int32)))).1) ?_
        show Steps p.tables e below (T33.setTop (mkF m 198 #[.val (.int p0), .val (.int p1), .val (.int p2), .val (.int p3), .val (.int p4), .val (.int p5), .val (.int n), .val (.int a), .val (.int b), .val (.ref ka), .val (.ref kb), .val (.int y), .val (.ref b7), .val (.int (1 : Int32)), .val (.int (1 : Int32)), .val (.int (1 : Int32))] [])) _
        refine XS.iload X33.here hx rfl (hb hby at_198) rfl  ?_
        show Steps p.tables e below (T33.setTop (mkF m 200 #[.val (.int p0), .val (.int p1), .val (.int p2), .val (.int p3), .val (.int p4), .val (.int p5), .val (.int n), .val (.int a), .val (.int b), .val (.ref ka), .val (.ref kb), .val (.int y), .val (.ref b7), .val (.int (1 : Int32)), .val (.int (1 : Int32)), .val (.int (1 : Int32))] [(.int (1 : Int32))])) _
        refine XS.ifNo X33.here hx rfl (hb hby at_200) rfl ((if0 _ _).trans (feq (by decide : ¬ ((1 : Int32) = (0 : Int32)))).1) ?_
        show Steps p.tables e below (T33.setTop (mkF m 203 #[.val (.int p0), .val (.int p1), .val (.int p2), .val (.int p3), .val (.int p4), .val (.int p5), .val (.int n), .val (.int a), .val (.int b), .val (.ref ka), .val (.ref kb), .val (.int y), .val (.ref b7), .val (.int (1 : Int32)), .val (.int (1 : Int32)), .val (.int (1 : Int32))] [])) _
        refine XS.iload X33.here hx rfl (hb hby at_203) rfl  ?_
        show Steps p.tables e below (T33.setTop (mkF m 205 #[.val (.int p0), .val (.int p1), .val (.int p2), .val (.int p3), .val (.int p4), .val (.int p5), .val (.int n), .val (.int a), .val (.int b), .val (.ref ka), .val (.ref kb), .val (.int y), .val (.ref b7), .val (.int (1 : Int32)), .val (.int (1 : Int32)), .val (.int (1 : Int32))] [(.int (1 : Int32))])) _
        refine XS.ifNo X33.here hx rfl (hb hby at_205) rfl ((if0 _ _).trans (feq (by decide : ¬ ((1 : Int32) = (0 : Int32)))).1) ?_
        show Steps p.tables e below (T33.setTop (mkF m 208 #[.val (.int p0), .val (.int p1), .val (.int p2), .val (.int p3), .val (.int p4), .val (.int p5), .val (.int n), .val (.int a), .val (.int b), .val (.ref ka), .val (.ref kb), .val (.int y), .val (.ref b7), .val (.int (1 : Int32)), .val (.int (1 : Int32)), .val (.int (1 : Int32))] [])) _
        refine XS.iconst X33.here hx rfl (hb hby at_208) ?_
        show Steps p.tables e below (T33.setTop (mkF m 209 #[.val (.int p0), .val (.int p1), .val (.int p2), .val (.int p3), .val (.int p4), .val (.int p5), .val (.int n), .val (.int a), .val (.int b), .val (.ref ka), .val (.ref kb), .val (.int y), .val (.ref b7), .val (.int (1 : Int32)), .val (.int (1 : Int32)), .val (.int (1 : Int32))] [(.int (1 : Int32))])) _
        refine XS.goto X33.here hx rfl (pc0 := 209) (pc' := 213) rfl (hb hby at_209) (by decide) (by decide) ?_
        show Steps p.tables e below (T33.setTop (mkF m 213 #[.val (.int p0), .val (.int p1), .val (.int p2), .val (.int p3), .val (.int p4), .val (.int p5), .val (.int n), .val (.int a), .val (.int b), .val (.ref ka), .val (.ref kb), .val (.int y), .val (.ref b7), .val (.int (1 : Int32)), .val (.int (1 : Int32)), .val (.int (1 : Int32))] [(.int (1 : Int32))])) _
        exact retN X33 hx (t := .boolean) Bd.returns (by simp) (hb hby at_213) hr
      · show Q_rm0 Z p0 p1 p2 p3 p4 p5 w0 w1 w2 w3 h0 n0 _ T33.heap _
        rw [e33]
        exact ⟨rfl, N33⟩
  · have pre35 : ∀ t, Steps p.tables e below (T9.setTop (mkF m 80 #[.val (.int p0), .val (.int p1), .val (.int p2), .val (.int p3), .val (.int p4), .val (.int p5), .val (.int n), .val (.int a), .val (.int b), .val (.ref ka), .val (.ref kb), .val (.int y), .val (.ref b7), .unset, .unset, .unset] [(.int n), (.int b)])) t → Steps p.tables e below (s₁.setTop (entryFrame m #[(.int p0), (.int p1), (.int p2), (.int p3), (.int p4), (.int p5)] maxLocals)) t := fun t kt => pre11 t (by
      show Steps p.tables e below (T9.setTop (mkF m 60 #[.val (.int p0), .val (.int p1), .val (.int p2), .val (.int p3), .val (.int p4), .val (.int p5), .val (.int n), .val (.int a), .val (.int b), .val (.ref ka), .val (.ref kb), .val (.int y), .val (.ref b7), .unset, .unset, .unset] [(.int n), (.int a)])) _
      refine XS.icmpYes X9.here hx rfl (pc0 := 60) (pc' := 76) rfl (hb hby at_60) rfl (flt hc60_10).2.1 (by decide) (by decide) ?_
      show Steps p.tables e below (T9.setTop (mkF m 76 #[.val (.int p0), .val (.int p1), .val (.int p2), .val (.int p3), .val (.int p4), .val (.int p5), .val (.int n), .val (.int a), .val (.int b), .val (.ref ka), .val (.ref kb), .val (.int y), .val (.ref b7), .unset, .unset, .unset] [])) _
      refine XS.iload X9.here hx rfl (hb hby at_76) rfl  ?_
      show Steps p.tables e below (T9.setTop (mkF m 78 #[.val (.int p0), .val (.int p1), .val (.int p2), .val (.int p3), .val (.int p4), .val (.int p5), .val (.int n), .val (.int a), .val (.int b), .val (.ref ka), .val (.ref kb), .val (.int y), .val (.ref b7), .unset, .unset, .unset] [(.int b)])) _
      refine XS.iload X9.here hx rfl (hb hby at_78) rfl  ?_
      exact kt)
    by_cases hc80_34 : b < n
    · have f36 := (Nat.le_trans f8 K9.1)
      have f37 := ((E_kb.ext E7).keep K9)
      obtain ⟨cq38, kq38, q38a, q38b, q38c⟩ := isOf hZ rfl hP9.1
      obtain ⟨_, _, ⟨T38, L38, k38, n38⟩, -, X38, ⟨Lc38, hQ38, l38, y38, z38⟩, st38⟩ := X9.virtualBack hx (y := (⟨"com/example/bytelens/bytelens/ConstantPool", "add", "(ILcom/example/bytelens/bytelens/ConstantKind;IIILjava/lang/String;)V"⟩ : MethodName)) (z := (⟨"com/example/bytelens/bytelens/ConstantPool", "add", "(ILcom/example/bytelens/bytelens/ConstantKind;IIILjava/lang/String;)V"⟩ : MethodName)) hown (mvT hZ (hw _ (List.mem_of_getElem? (i := 48) rfl))) (mvT hZ (hw _ (List.mem_of_getElem? (i := 49) rfl))) (notFace_of_selects (args := #[]) (mvT hZ (hw _ (List.mem_of_getElem? (i := 51) rfl)))) (mvT hZ (hw _ (List.mem_of_getElem? (i := 51) rfl))) (mvT hZ (hw _ (List.mem_of_getElem? (i := 50) rfl))) (by decide) (backOf (W := 0) (rmAdd l Z a0 hw [] b7 b kb p0 p3 p4 wK wO wF wS wT k n [] T9.heap n0 f36 hD hG hP9 ⟨hb' ▸ own_a p3, hc80_34⟩ (Ins.self f37)) hZ (hw _ (List.mem_of_getElem? (i := 52) rfl)) (hw _ (List.mem_of_getElem? (i := 11) rfl)) (by decide) (by decide)) q38a q38c (g := (mkF m 94 #[.val (.int p0), .val (.int p1), .val (.int p2), .val (.int p3), .val (.int p4), .val (.int p5), .val (.int n), .val (.int a), .val (.int b), .val (.ref ka), .val (.ref kb), .val (.int y), .val (.ref b7), .unset, .unset, .unset] [.null, (.int p4), (.int p3), (.int p0), (.ref kb), (.int b), (.ref b7)])) rfl (by rw [hml]; rfl) (Steps.refl _) (argsL := [(.int b), (.ref kb), (.int p0), (.int p3), (.int p4), .null]) (rest := []) (lenOf pd__ILcom_example_bytelens_bytelens_ConstantKind_IIILjava_lang_String__V rfl) rfl (by show 2 * 0 + _ ≤ _; exact Nat.le_of_eq rfl) (hb hby at_94) (fun _ _ => ⟨rfl, rfl, (by decide : 6 + 0 ≤ _), (by decide : 81 + 0 ≤ _)⟩)
      dsimp only [Pt.U, Pt.locs, Pt.cells, Pt.slots] at X38 l38 y38 z38 st38 hQ38
      subst l38 y38 z38
      obtain ⟨rfl, Nq38, K38, hP38⟩ := hQ38
      have N38 := Fr.app N9 Nq38
      have f39 := (Nat.le_trans f36 K38.1)
      obtain ⟨cq40, kq40, q40a, q40b, q40c⟩ := isOf hZ rfl hP38.1
      obtain ⟨_, _, ⟨T40, L40, k40, n40⟩, -, X40, ⟨Lc40, hQ40, l40, y40, z40⟩, st40⟩ := X38.virtualBack hx (y := (⟨"com/example/bytelens/bytelens/ConstantPool", "kind", "(I)Lcom/example/bytelens/bytelens/ConstantKind;"⟩ : MethodName)) (z := (⟨"com/example/bytelens/bytelens/ConstantPool", "kind", "(I)Lcom/example/bytelens/bytelens/ConstantKind;"⟩ : MethodName)) hown (mvT hZ (hw _ (List.mem_of_getElem? (i := 38) rfl))) (mvT hZ (hw _ (List.mem_of_getElem? (i := 39) rfl))) (notFace_of_selects (args := #[]) (mvT hZ (hw _ (List.mem_of_getElem? (i := 41) rfl)))) (mvT hZ (hw _ (List.mem_of_getElem? (i := 41) rfl))) (mvT hZ (hw _ (List.mem_of_getElem? (i := 40) rfl))) (by decide) (backOf (W := 0) (rmKind l Z a0 hw [] b7 p5 wK wO wF wS wT k n [(b, .ref kb)] (own_kv n [(b, .ref kb)] p5) T38.heap n0 f39 hP38 rfl) hZ (hw _ (List.mem_of_getElem? (i := 42) rfl)) (hw _ (List.mem_of_getElem? (i := 11) rfl)) (by decide) (by decide)) q40a q40c (g := (mkF m 101 #[.val (.int p0), .val (.int p1), .val (.int p2), .val (.int p3), .val (.int p4), .val (.int p5), .val (.int n), .val (.int a), .val (.int b), .val (.ref ka), .val (.ref kb), .val (.int y), .val (.ref b7), .unset, .unset, .unset] [(.int p5), (.ref b7)])) rfl (by rw [hml]; rfl) (Steps.refl _) (argsL := [(.int p5)]) (rest := []) (lenOf pd__I_Lcom_example_bytelens_bytelens_ConstantKind_ rfl) rfl (by show 2 * 0 + _ ≤ _; exact Nat.le_of_eq rfl) (hb hby at_101) (fun _ _ => ⟨rfl, rfl, (by decide : 6 + 0 ≤ _), (by decide : 81 + 0 ≤ _)⟩)
      dsimp only [Pt.U, Pt.locs, Pt.cells, Pt.slots] at X40 l40 y40 z40 st40 hQ40
      subst l40 y40 z40
      obtain ⟨rfl, Nq40, e40⟩ := hQ40
      have N40 := Fr.app N38 Nq40
      obtain ⟨_, _, ⟨T41, L41, k41, n41⟩, -, X41, ⟨Lc41, hQ41, l41, y41, z41⟩, st41⟩ := Jvm.LawKit.callS X40 hx (y := (⟨"com/example/bytelens/bytelens/ConstantPoolKindPinLaw", "expected", "(IILcom/example/bytelens/bytelens/ConstantKind;ILcom/example/bytelens/bytelens/ConstantKind;I)Lcom/example/bytelens/bytelens/ConstantKind;"⟩ : MethodName)) hown (mvT hZ (hw _ (List.mem_of_getElem? (i := 43) rfl))) (mvT hZ (hw _ (List.mem_of_getElem? (i := 44) rfl))) (mvT hZ (hw _ (List.mem_of_getElem? (i := 2) rfl))) (mvT hZ (hw _ (List.mem_of_getElem? (i := 45) rfl))) (by decide) (backOf (W := 1) (rmExpected l Z a0 hw [] n a ka b kb p5 (own_kv n [(b, .ref kb)] p5) T38.heap n0 f39 (own_q01 hc60_10 hc80_34)) hZ (hw _ (List.mem_of_getElem? (i := 45) rfl)) (hw _ (List.mem_of_getElem? (i := 2) rfl)) (by decide) (by decide)) (g := (mkF m 116 #[.val (.int p0), .val (.int p1), .val (.int p2), .val (.int p3), .val (.int p4), .val (.int p5), .val (.int n), .val (.int a), .val (.int b), .val (.ref ka), .val (.ref kb), .val (.int y), .val (.ref b7), .unset, .unset, .unset] [(.int p5), (.ref kb), (.int b), (.ref ka), (.int a), (.int n), (own_kv n [(b, .ref kb)] p5)])) rfl (by rw [hml]; rfl) (argsL := [(.int n), (.int a), (.ref ka), (.int b), (.ref kb), (.int p5)]) (rest := [(own_kv n [(b, .ref kb)] p5)]) (lenOf pd__IILcom_example_bytelens_bytelens_ConstantKind_ILcom_example_bytelens_bytelens_ConstantKind_I_Lcom_example_bytelens_bytelens_ConstantKind_ rfl) rfl (by show 2 * 0 + _ ≤ _; simp [own_cat (own_kvr (own_rS own_r0))]) (hb hby at_116) (fun _ _ => ⟨rfl, e40, (by decide : 6 + 0 ≤ _), (by decide : 81 + 0 ≤ _)⟩)
      dsimp only [Pt.U, Pt.locs, Pt.cells, Pt.slots] at X41 l41 y41 z41 st41 hQ41
      subst l41 y41 z41
      obtain ⟨rfl, Nq41, e41⟩ := hQ41
      have N41 := Fr.app N40 Nq41
      obtain ⟨cq42, kq42, q42a, q42b, q42c⟩ := isOf hZ e41 hP38.1
      obtain ⟨_, _, ⟨T42, L42, k42, n42⟩, -, X42, ⟨Lc42, hQ42, l42, y42, z42⟩, st42⟩ := X41.virtualBack hx (y := (⟨"com/example/bytelens/bytelens/ConstantPool", "kind", "(I)Lcom/example/bytelens/bytelens/ConstantKind;"⟩ : MethodName)) (z := (⟨"com/example/bytelens/bytelens/ConstantPool", "kind", "(I)Lcom/example/bytelens/bytelens/ConstantKind;"⟩ : MethodName)) hown (mvT hZ (hw _ (List.mem_of_getElem? (i := 38) rfl))) (mvT hZ (hw _ (List.mem_of_getElem? (i := 39) rfl))) (notFace_of_selects (args := #[]) (mvT hZ (hw _ (List.mem_of_getElem? (i := 41) rfl)))) (mvT hZ (hw _ (List.mem_of_getElem? (i := 41) rfl))) (mvT hZ (hw _ (List.mem_of_getElem? (i := 40) rfl))) (by decide) (backOf (W := 0) (rmKind l Z a0 hw [] b7 y wK wO wF wS wT k n [(b, .ref kb)] (own_kv n [(b, .ref kb)] y) T38.heap n0 f39 hP38 rfl) hZ (hw _ (List.mem_of_getElem? (i := 42) rfl)) (hw _ (List.mem_of_getElem? (i := 11) rfl)) (by decide) (by decide)) q42a q42c (g := (mkF m 133 #[.val (.int p0), .val (.int p1), .val (.int p2), .val (.int p3), .val (.int p4), .val (.int p5), .val (.int n), .val (.int a), .val (.int b), .val (.ref ka), .val (.ref kb), .val (.int y), .val (.ref b7), .val (.int (1 : Int32)), .unset, .unset] [(.int y), (.ref b7)])) rfl (by rw [hml]; rfl) (Steps.refl _) (argsL := [(.int y)]) (rest := []) (lenOf pd__I_Lcom_example_bytelens_bytelens_ConstantKind_ rfl) rfl (by show 2 * 0 + _ ≤ _; exact Nat.le_of_eq rfl) (hb hby at_133) (fun _ _ => ⟨rfl, e41, (by decide : 6 + 0 ≤ _), (by decide : 81 + 0 ≤ _)⟩)
      dsimp only [Pt.U, Pt.locs, Pt.cells, Pt.slots] at X42 l42 y42 z42 st42 hQ42
      subst l42 y42 z42
      obtain ⟨rfl, Nq42, e42⟩ := hQ42
      have N42 := Fr.app N41 Nq42
      obtain ⟨_, _, ⟨T43, L43, k43, n43⟩, -, X43, ⟨Lc43, hQ43, l43, y43, z43⟩, st43⟩ := Jvm.LawKit.callS X42 hx (y := (⟨"com/example/bytelens/bytelens/ConstantPoolKindPinLaw", "expected", "(IILcom/example/bytelens/bytelens/ConstantKind;ILcom/example/bytelens/bytelens/ConstantKind;I)Lcom/example/bytelens/bytelens/ConstantKind;"⟩ : MethodName)) hown (mvT hZ (hw _ (List.mem_of_getElem? (i := 43) rfl))) (mvT hZ (hw _ (List.mem_of_getElem? (i := 44) rfl))) (mvT hZ (hw _ (List.mem_of_getElem? (i := 2) rfl))) (mvT hZ (hw _ (List.mem_of_getElem? (i := 45) rfl))) (by decide) (backOf (W := 1) (rmExpected l Z a0 hw [] n a ka b kb y (own_kv n [(b, .ref kb)] y) T38.heap n0 f39 (own_q01 hc60_10 hc80_34)) hZ (hw _ (List.mem_of_getElem? (i := 45) rfl)) (hw _ (List.mem_of_getElem? (i := 2) rfl)) (by decide) (by decide)) (g := (mkF m 148 #[.val (.int p0), .val (.int p1), .val (.int p2), .val (.int p3), .val (.int p4), .val (.int p5), .val (.int n), .val (.int a), .val (.int b), .val (.ref ka), .val (.ref kb), .val (.int y), .val (.ref b7), .val (.int (1 : Int32)), .unset, .unset] [(.int y), (.ref kb), (.int b), (.ref ka), (.int a), (.int n), (own_kv n [(b, .ref kb)] y)])) rfl (by rw [hml]; rfl) (argsL := [(.int n), (.int a), (.ref ka), (.int b), (.ref kb), (.int y)]) (rest := [(own_kv n [(b, .ref kb)] y)]) (lenOf pd__IILcom_example_bytelens_bytelens_ConstantKind_ILcom_example_bytelens_bytelens_ConstantKind_I_Lcom_example_bytelens_bytelens_ConstantKind_ rfl) rfl (by show 2 * 0 + _ ≤ _; simp [own_cat (own_kvr (own_rS own_r0))]) (hb hby at_148) (fun _ _ => ⟨rfl, e42, (by decide : 6 + 0 ≤ _), (by decide : 81 + 0 ≤ _)⟩)
      dsimp only [Pt.U, Pt.locs, Pt.cells, Pt.slots] at X43 l43 y43 z43 st43 hQ43
      subst l43 y43 z43
      obtain ⟨rfl, Nq43, e43⟩ := hQ43
      have N43 := Fr.app N42 Nq43
      obtain ⟨cq44, kq44, q44a, q44b, q44c⟩ := isOf hZ e43 hP38.1
      obtain ⟨_, _, ⟨T44, L44, k44, n44⟩, -, X44, ⟨Lc44, hQ44, l44, y44, z44⟩, st44⟩ := X43.virtualBack hx (y := (⟨"com/example/bytelens/bytelens/ConstantPool", "kind", "(I)Lcom/example/bytelens/bytelens/ConstantKind;"⟩ : MethodName)) (z := (⟨"com/example/bytelens/bytelens/ConstantPool", "kind", "(I)Lcom/example/bytelens/bytelens/ConstantKind;"⟩ : MethodName)) hown (mvT hZ (hw _ (List.mem_of_getElem? (i := 38) rfl))) (mvT hZ (hw _ (List.mem_of_getElem? (i := 39) rfl))) (notFace_of_selects (args := #[]) (mvT hZ (hw _ (List.mem_of_getElem? (i := 41) rfl)))) (mvT hZ (hw _ (List.mem_of_getElem? (i := 41) rfl))) (mvT hZ (hw _ (List.mem_of_getElem? (i := 40) rfl))) (by decide) (backOf (W := 0) (rmKind l Z a0 hw [] b7 a wK wO wF wS wT k n [(b, .ref kb)] (own_kv n [(b, .ref kb)] a) T38.heap n0 f39 hP38 rfl) hZ (hw _ (List.mem_of_getElem? (i := 42) rfl)) (hw _ (List.mem_of_getElem? (i := 11) rfl)) (by decide) (by decide)) q44a q44c (g := (mkF m 165 #[.val (.int p0), .val (.int p1), .val (.int p2), .val (.int p3), .val (.int p4), .val (.int p5), .val (.int n), .val (.int a), .val (.int b), .val (.ref ka), .val (.ref kb), .val (.int y), .val (.ref b7), .val (.int (1 : Int32)), .val (.int (1 : Int32)), .unset] [(.int a), (.ref b7)])) rfl (by rw [hml]; rfl) (Steps.refl _) (argsL := [(.int a)]) (rest := []) (lenOf pd__I_Lcom_example_bytelens_bytelens_ConstantKind_ rfl) rfl (by show 2 * 0 + _ ≤ _; exact Nat.le_of_eq rfl) (hb hby at_165) (fun _ _ => ⟨rfl, e43, (by decide : 6 + 0 ≤ _), (by decide : 81 + 0 ≤ _)⟩)
      dsimp only [Pt.U, Pt.locs, Pt.cells, Pt.slots] at X44 l44 y44 z44 st44 hQ44
      subst l44 y44 z44
      obtain ⟨rfl, Nq44, e44⟩ := hQ44
      have N44 := Fr.app N43 Nq44
      obtain ⟨_, _, ⟨T45, L45, k45, n45⟩, -, X45, ⟨Lc45, hQ45, l45, y45, z45⟩, st45⟩ := Jvm.LawKit.callS X44 hx (y := (⟨"com/example/bytelens/bytelens/ConstantPoolKindPinLaw", "expected", "(IILcom/example/bytelens/bytelens/ConstantKind;ILcom/example/bytelens/bytelens/ConstantKind;I)Lcom/example/bytelens/bytelens/ConstantKind;"⟩ : MethodName)) hown (mvT hZ (hw _ (List.mem_of_getElem? (i := 43) rfl))) (mvT hZ (hw _ (List.mem_of_getElem? (i := 44) rfl))) (mvT hZ (hw _ (List.mem_of_getElem? (i := 2) rfl))) (mvT hZ (hw _ (List.mem_of_getElem? (i := 45) rfl))) (by decide) (backOf (W := 1) (rmExpected l Z a0 hw [] n a ka b kb a (own_kv n [(b, .ref kb)] a) T38.heap n0 f39 (own_q01 hc60_10 hc80_34)) hZ (hw _ (List.mem_of_getElem? (i := 45) rfl)) (hw _ (List.mem_of_getElem? (i := 2) rfl)) (by decide) (by decide)) (g := (mkF m 180 #[.val (.int p0), .val (.int p1), .val (.int p2), .val (.int p3), .val (.int p4), .val (.int p5), .val (.int n), .val (.int a), .val (.int b), .val (.ref ka), .val (.ref kb), .val (.int y), .val (.ref b7), .val (.int (1 : Int32)), .val (.int (1 : Int32)), .unset] [(.int a), (.ref kb), (.int b), (.ref ka), (.int a), (.int n), (own_kv n [(b, .ref kb)] a)])) rfl (by rw [hml]; rfl) (argsL := [(.int n), (.int a), (.ref ka), (.int b), (.ref kb), (.int a)]) (rest := [(own_kv n [(b, .ref kb)] a)]) (lenOf pd__IILcom_example_bytelens_bytelens_ConstantKind_ILcom_example_bytelens_bytelens_ConstantKind_I_Lcom_example_bytelens_bytelens_ConstantKind_ rfl) rfl (by show 2 * 0 + _ ≤ _; simp [own_cat (own_kvr (own_rS own_r0))]) (hb hby at_180) (fun _ _ => ⟨rfl, e44, (by decide : 6 + 0 ≤ _), (by decide : 81 + 0 ≤ _)⟩)
      dsimp only [Pt.U, Pt.locs, Pt.cells, Pt.slots] at X45 l45 y45 z45 st45 hQ45
      subst l45 y45 z45
      obtain ⟨rfl, Nq45, e45⟩ := hQ45
      have N45 := Fr.app N44 Nq45
      obtain ⟨fs, hr, hrun, hended, hW, hsame⟩ := X45.leave (v := some (.int (1 : Int32))) (fun h => by rw [Bd.returns] at h; cases h)
      refine ⟨_, _, pre35 _ ?_, hrun, hended, _, _, rfl, ?_, ⟨_, rfl⟩, hW, hsame.mono (by decide) (by decide)⟩
      · show Steps p.tables e below (T9.setTop (mkF m 80 #[.val (.int p0), .val (.int p1), .val (.int p2), .val (.int p3), .val (.int p4), .val (.int p5), .val (.int n), .val (.int a), .val (.int b), .val (.ref ka), .val (.ref kb), .val (.int y), .val (.ref b7), .unset, .unset, .unset] [(.int n), (.int b)])) _
        refine XS.icmpNo X9.here hx rfl (hb hby at_80) rfl (tlt hc80_34).2.1 ?_
        show Steps p.tables e below (T9.setTop (mkF m 83 #[.val (.int p0), .val (.int p1), .val (.int p2), .val (.int p3), .val (.int p4), .val (.int p5), .val (.int n), .val (.int a), .val (.int b), .val (.ref ka), .val (.ref kb), .val (.int y), .val (.ref b7), .unset, .unset, .unset] [])) _
        refine XS.aload X9.here hx rfl (hb hby at_83) rfl rfl ?_
        show Steps p.tables e below (T9.setTop (mkF m 85 #[.val (.int p0), .val (.int p1), .val (.int p2), .val (.int p3), .val (.int p4), .val (.int p5), .val (.int n), .val (.int a), .val (.int b), .val (.ref ka), .val (.ref kb), .val (.int y), .val (.ref b7), .unset, .unset, .unset] [(.ref b7)])) _
        refine XS.iload X9.here hx rfl (hb hby at_85) rfl  ?_
        show Steps p.tables e below (T9.setTop (mkF m 87 #[.val (.int p0), .val (.int p1), .val (.int p2), .val (.int p3), .val (.int p4), .val (.int p5), .val (.int n), .val (.int a), .val (.int b), .val (.ref ka), .val (.ref kb), .val (.int y), .val (.ref b7), .unset, .unset, .unset] [(.int b), (.ref b7)])) _
        refine XS.aload X9.here hx rfl (hb hby at_87) rfl rfl ?_
        show Steps p.tables e below (T9.setTop (mkF m 89 #[.val (.int p0), .val (.int p1), .val (.int p2), .val (.int p3), .val (.int p4), .val (.int p5), .val (.int n), .val (.int a), .val (.int b), .val (.ref ka), .val (.ref kb), .val (.int y), .val (.ref b7), .unset, .unset, .unset] [(.ref kb), (.int b), (.ref b7)])) _
        refine XS.iloadN X9.here hx rfl (hb hby at_89) rfl  ?_
        show Steps p.tables e below (T9.setTop (mkF m 90 #[.val (.int p0), .val (.int p1), .val (.int p2), .val (.int p3), .val (.int p4), .val (.int p5), .val (.int n), .val (.int a), .val (.int b), .val (.ref ka), .val (.ref kb), .val (.int y), .val (.ref b7), .unset, .unset, .unset] [(.int p0), (.ref kb), (.int b), (.ref b7)])) _
        refine XS.iloadN X9.here hx rfl (hb hby at_90) rfl  ?_
        show Steps p.tables e below (T9.setTop (mkF m 91 #[.val (.int p0), .val (.int p1), .val (.int p2), .val (.int p3), .val (.int p4), .val (.int p5), .val (.int n), .val (.int a), .val (.int b), .val (.ref ka), .val (.ref kb), .val (.int y), .val (.ref b7), .unset, .unset, .unset] [(.int p3), (.int p0), (.ref kb), (.int b), (.ref b7)])) _
        refine XS.iload X9.here hx rfl (hb hby at_91) rfl  ?_
        show Steps p.tables e below (T9.setTop (mkF m 93 #[.val (.int p0), .val (.int p1), .val (.int p2), .val (.int p3), .val (.int p4), .val (.int p5), .val (.int n), .val (.int a), .val (.int b), .val (.ref ka), .val (.ref kb), .val (.int y), .val (.ref b7), .unset, .unset, .unset] [(.int p4), (.int p3), (.int p0), (.ref kb), (.int b), (.ref b7)])) _
        refine XS.aconstNull X9.here hx rfl (hb hby at_93) ?_
        show Steps p.tables e below (T9.setTop (mkF m 94 #[.val (.int p0), .val (.int p1), .val (.int p2), .val (.int p3), .val (.int p4), .val (.int p5), .val (.int n), .val (.int a), .val (.int b), .val (.ref ka), .val (.ref kb), .val (.int y), .val (.ref b7), .unset, .unset, .unset] [.null, (.int p4), (.int p3), (.int p0), (.ref kb), (.int b), (.ref b7)])) _
        refine st38.trans ?_
        show Steps p.tables e below (T38.setTop (mkF m 97 #[.val (.int p0), .val (.int p1), .val (.int p2), .val (.int p3), .val (.int p4), .val (.int p5), .val (.int n), .val (.int a), .val (.int b), .val (.ref ka), .val (.ref kb), .val (.int y), .val (.ref b7), .unset, .unset, .unset] [])) _
        refine XS.aload X38.here hx rfl (hb hby at_97) rfl rfl ?_
        show Steps p.tables e below (T38.setTop (mkF m 99 #[.val (.int p0), .val (.int p1), .val (.int p2), .val (.int p3), .val (.int p4), .val (.int p5), .val (.int n), .val (.int a), .val (.int b), .val (.ref ka), .val (.ref kb), .val (.int y), .val (.ref b7), .unset, .unset, .unset] [(.ref b7)])) _
        refine XS.iload X38.here hx rfl (hb hby at_99) rfl  ?_
        show Steps p.tables e below (T38.setTop (mkF m 101 #[.val (.int p0), .val (.int p1), .val (.int p2), .val (.int p3), .val (.int p4), .val (.int p5), .val (.int n), .val (.int a), .val (.int b), .val (.ref ka), .val (.ref kb), .val (.int y), .val (.ref b7), .unset, .unset, .unset] [(.int p5), (.ref b7)])) _
        refine st40.trans ?_
        show Steps p.tables e below (T40.setTop (mkF m 104 #[.val (.int p0), .val (.int p1), .val (.int p2), .val (.int p3), .val (.int p4), .val (.int p5), .val (.int n), .val (.int a), .val (.int b), .val (.ref ka), .val (.ref kb), .val (.int y), .val (.ref b7), .unset, .unset, .unset] [(own_kv n [(b, .ref kb)] p5)])) _
        refine XS.iload X40.here hx rfl (hb hby at_104) rfl  ?_
        show Steps p.tables e below (T40.setTop (mkF m 106 #[.val (.int p0), .val (.int p1), .val (.int p2), .val (.int p3), .val (.int p4), .val (.int p5), .val (.int n), .val (.int a), .val (.int b), .val (.ref ka), .val (.ref kb), .val (.int y), .val (.ref b7), .unset, .unset, .unset] [(.int n), (own_kv n [(b, .ref kb)] p5)])) _
        refine XS.iload X40.here hx rfl (hb hby at_106) rfl  ?_
        show Steps p.tables e below (T40.setTop (mkF m 108 #[.val (.int p0), .val (.int p1), .val (.int p2), .val (.int p3), .val (.int p4), .val (.int p5), .val (.int n), .val (.int a), .val (.int b), .val (.ref ka), .val (.ref kb), .val (.int y), .val (.ref b7), .unset, .unset, .unset] [(.int a), (.int n), (own_kv n [(b, .ref kb)] p5)])) _
        refine XS.aload X40.here hx rfl (hb hby at_108) rfl rfl ?_
        show Steps p.tables e below (T40.setTop (mkF m 110 #[.val (.int p0), .val (.int p1), .val (.int p2), .val (.int p3), .val (.int p4), .val (.int p5), .val (.int n), .val (.int a), .val (.int b), .val (.ref ka), .val (.ref kb), .val (.int y), .val (.ref b7), .unset, .unset, .unset] [(.ref ka), (.int a), (.int n), (own_kv n [(b, .ref kb)] p5)])) _
        refine XS.iload X40.here hx rfl (hb hby at_110) rfl  ?_
        show Steps p.tables e below (T40.setTop (mkF m 112 #[.val (.int p0), .val (.int p1), .val (.int p2), .val (.int p3), .val (.int p4), .val (.int p5), .val (.int n), .val (.int a), .val (.int b), .val (.ref ka), .val (.ref kb), .val (.int y), .val (.ref b7), .unset, .unset, .unset] [(.int b), (.ref ka), (.int a), (.int n), (own_kv n [(b, .ref kb)] p5)])) _
        refine XS.aload X40.here hx rfl (hb hby at_112) rfl rfl ?_
        show Steps p.tables e below (T40.setTop (mkF m 114 #[.val (.int p0), .val (.int p1), .val (.int p2), .val (.int p3), .val (.int p4), .val (.int p5), .val (.int n), .val (.int a), .val (.int b), .val (.ref ka), .val (.ref kb), .val (.int y), .val (.ref b7), .unset, .unset, .unset] [(.ref kb), (.int b), (.ref ka), (.int a), (.int n), (own_kv n [(b, .ref kb)] p5)])) _
        refine XS.iload X40.here hx rfl (hb hby at_114) rfl  ?_
        show Steps p.tables e below (T40.setTop (mkF m 116 #[.val (.int p0), .val (.int p1), .val (.int p2), .val (.int p3), .val (.int p4), .val (.int p5), .val (.int n), .val (.int a), .val (.int b), .val (.ref ka), .val (.ref kb), .val (.int y), .val (.ref b7), .unset, .unset, .unset] [(.int p5), (.ref kb), (.int b), (.ref ka), (.int a), (.int n), (own_kv n [(b, .ref kb)] p5)])) _
        refine st41 _ ?_
        show Steps p.tables e below (T41.setTop (mkF m 119 #[.val (.int p0), .val (.int p1), .val (.int p2), .val (.int p3), .val (.int p4), .val (.int p5), .val (.int n), .val (.int a), .val (.int b), .val (.ref ka), .val (.ref kb), .val (.int y), .val (.ref b7), .unset, .unset, .unset] [(own_kv n [(b, .ref kb)] p5), (own_kv n [(b, .ref kb)] p5)])) _
        refine Jvm.RoadKit.acmp (g := (mkF m 119 #[.val (.int p0), .val (.int p1), .val (.int p2), .val (.int p3), .val (.int p4), .val (.int p5), .val (.int n), .val (.int a), .val (.int b), .val (.ref ka), .val (.ref kb), .val (.int y), .val (.ref b7), .unset, .unset, .unset] [(own_kv n [(b, .ref kb)] p5), (own_kv n [(b, .ref kb)] p5)])) X41 hx rfl (own_kvr (own_rS own_r0)) (own_kvr (own_rS own_r0)) (pc0 := 119) (pc' := 122) (same := true) rfl (hb hby at_119) rfl (decide_eq_true rfl) (by decide) (by decide) ?_
        show Steps p.tables e below (T41.setTop (mkF m 122 #[.val (.int p0), .val (.int p1), .val (.int p2), .val (.int p3), .val (.int p4), .val (.int p5), .val (.int n), .val (.int a), .val (.int b), .val (.ref ka), .val (.ref kb), .val (.int y), .val (.ref b7), .unset, .unset, .unset] [])) _
        refine XS.iconst X41.here hx rfl (hb hby at_122) ?_
        show Steps p.tables e below (T41.setTop (mkF m 123 #[.val (.int p0), .val (.int p1), .val (.int p2), .val (.int p3), .val (.int p4), .val (.int p5), .val (.int n), .val (.int a), .val (.int b), .val (.ref ka), .val (.ref kb), .val (.int y), .val (.ref b7), .unset, .unset, .unset] [(.int (1 : Int32))])) _
        refine XS.goto X41.here hx rfl (pc0 := 123) (pc' := 127) rfl (hb hby at_123) (by decide) (by decide) ?_
        show Steps p.tables e below (T41.setTop (mkF m 127 #[.val (.int p0), .val (.int p1), .val (.int p2), .val (.int p3), .val (.int p4), .val (.int p5), .val (.int n), .val (.int a), .val (.int b), .val (.ref ka), .val (.ref kb), .val (.int y), .val (.ref b7), .unset, .unset, .unset] [(.int (1 : Int32))])) _
        refine XS.istore X41.here hx rfl (hb hby at_127) rfl (l' := #[.val (.int p0), .val (.int p1), .val (.int p2), .val (.int p3), .val (.int p4), .val (.int p5), .val (.int n), .val (.int a), .val (.int b), .val (.ref ka), .val (.ref kb), .val (.int y), .val (.ref b7), .val (.int (1 : Int32)), .unset, .unset]) rfl ?_
        show Steps p.tables e below (T41.setTop (mkF m 129 #[.val (.int p0), .val (.int p1), .val (.int p2), .val (.int p3), .val (.int p4), .val (.int p5), .val (.int n), .val (.int a), .val (.int b), .val (.ref ka), .val (.ref kb), .val (.int y), .val (.ref b7), .val (.int (1 : Int32)), .unset, .unset] [])) _
        refine XS.aload X41.here hx rfl (hb hby at_129) rfl rfl ?_
        show Steps p.tables e below (T41.setTop (mkF m 131 #[.val (.int p0), .val (.int p1), .val (.int p2), .val (.int p3), .val (.int p4), .val (.int p5), .val (.int n), .val (.int a), .val (.int b), .val (.ref ka), .val (.ref kb), .val (.int y), .val (.ref b7), .val (.int (1 : Int32)), .unset, .unset] [(.ref b7)])) _
        refine XS.iload X41.here hx rfl (hb hby at_131) rfl  ?_
        show Steps p.tables e below (T41.setTop (mkF m 133 #[.val (.int p0), .val (.int p1), .val (.int p2), .val (.int p3), .val (.int p4), .val (.int p5), .val (.int n), .val (.int a), .val (.int b), .val (.ref ka), .val (.ref kb), .val (.int y), .val (.ref b7), .val (.int (1 : Int32)), .unset, .unset] [(.int y), (.ref b7)])) _
        refine st42.trans ?_
        show Steps p.tables e below (T42.setTop (mkF m 136 #[.val (.int p0), .val (.int p1), .val (.int p2), .val (.int p3), .val (.int p4), .val (.int p5), .val (.int n), .val (.int a), .val (.int b), .val (.ref ka), .val (.ref kb), .val (.int y), .val (.ref b7), .val (.int (1 : Int32)), .unset, .unset] [(own_kv n [(b, .ref kb)] y)])) _
        refine XS.iload X42.here hx rfl (hb hby at_136) rfl  ?_
        show Steps p.tables e below (T42.setTop (mkF m 138 #[.val (.int p0), .val (.int p1), .val (.int p2), .val (.int p3), .val (.int p4), .val (.int p5), .val (.int n), .val (.int a), .val (.int b), .val (.ref ka), .val (.ref kb), .val (.int y), .val (.ref b7), .val (.int (1 : Int32)), .unset, .unset] [(.int n), (own_kv n [(b, .ref kb)] y)])) _
        refine XS.iload X42.here hx rfl (hb hby at_138) rfl  ?_
        show Steps p.tables e below (T42.setTop (mkF m 140 #[.val (.int p0), .val (.int p1), .val (.int p2), .val (.int p3), .val (.int p4), .val (.int p5), .val (.int n), .val (.int a), .val (.int b), .val (.ref ka), .val (.ref kb), .val (.int y), .val (.ref b7), .val (.int (1 : Int32)), .unset, .unset] [(.int a), (.int n), (own_kv n [(b, .ref kb)] y)])) _
        refine XS.aload X42.here hx rfl (hb hby at_140) rfl rfl ?_
        show Steps p.tables e below (T42.setTop (mkF m 142 #[.val (.int p0), .val (.int p1), .val (.int p2), .val (.int p3), .val (.int p4), .val (.int p5), .val (.int n), .val (.int a), .val (.int b), .val (.ref ka), .val (.ref kb), .val (.int y), .val (.ref b7), .val (.int (1 : Int32)), .unset, .unset] [(.ref ka), (.int a), (.int n), (own_kv n [(b, .ref kb)] y)])) _
        refine XS.iload X42.here hx rfl (hb hby at_142) rfl  ?_
        show Steps p.tables e below (T42.setTop (mkF m 144 #[.val (.int p0), .val (.int p1), .val (.int p2), .val (.int p3), .val (.int p4), .val (.int p5), .val (.int n), .val (.int a), .val (.int b), .val (.ref ka), .val (.ref kb), .val (.int y), .val (.ref b7), .val (.int (1 : Int32)), .unset, .unset] [(.int b), (.ref ka), (.int a), (.int n), (own_kv n [(b, .ref kb)] y)])) _
        refine XS.aload X42.here hx rfl (hb hby at_144) rfl rfl ?_
        show Steps p.tables e below (T42.setTop (mkF m 146 #[.val (.int p0), .val (.int p1), .val (.int p2), .val (.int p3), .val (.int p4), .val (.int p5), .val (.int n), .val (.int a), .val (.int b), .val (.ref ka), .val (.ref kb), .val (.int y), .val (.ref b7), .val (.int (1 : Int32)), .unset, .unset] [(.ref kb), (.int b), (.ref ka), (.int a), (.int n), (own_kv n [(b, .ref kb)] y)])) _
        refine XS.iload X42.here hx rfl (hb hby at_146) rfl  ?_
        show Steps p.tables e below (T42.setTop (mkF m 148 #[.val (.int p0), .val (.int p1), .val (.int p2), .val (.int p3), .val (.int p4), .val (.int p5), .val (.int n), .val (.int a), .val (.int b), .val (.ref ka), .val (.ref kb), .val (.int y), .val (.ref b7), .val (.int (1 : Int32)), .unset, .unset] [(.int y), (.ref kb), (.int b), (.ref ka), (.int a), (.int n), (own_kv n [(b, .ref kb)] y)])) _
        refine st43 _ ?_
        show Steps p.tables e below (T43.setTop (mkF m 151 #[.val (.int p0), .val (.int p1), .val (.int p2), .val (.int p3), .val (.int p4), .val (.int p5), .val (.int n), .val (.int a), .val (.int b), .val (.ref ka), .val (.ref kb), .val (.int y), .val (.ref b7), .val (.int (1 : Int32)), .unset, .unset] [(own_kv n [(b, .ref kb)] y), (own_kv n [(b, .ref kb)] y)])) _
        refine Jvm.RoadKit.acmp (g := (mkF m 151 #[.val (.int p0), .val (.int p1), .val (.int p2), .val (.int p3), .val (.int p4), .val (.int p5), .val (.int n), .val (.int a), .val (.int b), .val (.ref ka), .val (.ref kb), .val (.int y), .val (.ref b7), .val (.int (1 : Int32)), .unset, .unset] [(own_kv n [(b, .ref kb)] y), (own_kv n [(b, .ref kb)] y)])) X43 hx rfl (own_kvr (own_rS own_r0)) (own_kvr (own_rS own_r0)) (pc0 := 151) (pc' := 154) (same := true) rfl (hb hby at_151) rfl (decide_eq_true rfl) (by decide) (by decide) ?_
        show Steps p.tables e below (T43.setTop (mkF m 154 #[.val (.int p0), .val (.int p1), .val (.int p2), .val (.int p3), .val (.int p4), .val (.int p5), .val (.int n), .val (.int a), .val (.int b), .val (.ref ka), .val (.ref kb), .val (.int y), .val (.ref b7), .val (.int (1 : Int32)), .unset, .unset] [])) _
        refine XS.iconst X43.here hx rfl (hb hby at_154) ?_
        show Steps p.tables e below (T43.setTop (mkF m 155 #[.val (.int p0), .val (.int p1), .val (.int p2), .val (.int p3), .val (.int p4), .val (.int p5), .val (.int n), .val (.int a), .val (.int b), .val (.ref ka), .val (.ref kb), .val (.int y), .val (.ref b7), .val (.int (1 : Int32)), .unset, .unset] [(.int (1 : Int32))])) _
        refine XS.goto X43.here hx rfl (pc0 := 155) (pc' := 159) rfl (hb hby at_155) (by decide) (by decide) ?_
        show Steps p.tables e below (T43.setTop (mkF m 159 #[.val (.int p0), .val (.int p1), .val (.int p2), .val (.int p3), .val (.int p4), .val (.int p5), .val (.int n), .val (.int a), .val (.int b), .val (.ref ka), .val (.ref kb), .val (.int y), .val (.ref b7), .val (.int (1 : Int32)), .unset, .unset] [(.int (1 : Int32))])) _
        refine XS.istore X43.here hx rfl (hb hby at_159) rfl (l' := #[.val (.int p0), .val (.int p1), .val (.int p2), .val (.int p3), .val (.int p4), .val (.int p5), .val (.int n), .val (.int a), .val (.int b), .val (.ref ka), .val (.ref kb), .val (.int y), .val (.ref b7), .val (.int (1 : Int32)), .val (.int (1 : Int32)), .unset]) rfl ?_
        show Steps p.tables e below (T43.setTop (mkF m 161 #[.val (.int p0), .val (.int p1), .val (.int p2), .val (.int p3), .val (.int p4), .val (.int p5), .val (.int n), .val (.int a), .val (.int b), .val (.ref ka), .val (.ref kb), .val (.int y), .val (.ref b7), .val (.int (1 : Int32)), .val (.int (1 : Int32)), .unset] [])) _
        refine XS.aload X43.here hx rfl (hb hby at_161) rfl rfl ?_
        show Steps p.tables e below (T43.setTop (mkF m 163 #[.val (.int p0), .val (.int p1), .val (.int p2), .val (.int p3), .val (.int p4), .val (.int p5), .val (.int n), .val (.int a), .val (.int b), .val (.ref ka), .val (.ref kb), .val (.int y), .val (.ref b7), .val (.int (1 : Int32)), .val (.int (1 : Int32)), .unset] [(.ref b7)])) _
        refine XS.iload X43.here hx rfl (hb hby at_163) rfl  ?_
        show Steps p.tables e below (T43.setTop (mkF m 165 #[.val (.int p0), .val (.int p1), .val (.int p2), .val (.int p3), .val (.int p4), .val (.int p5), .val (.int n), .val (.int a), .val (.int b), .val (.ref ka), .val (.ref kb), .val (.int y), .val (.ref b7), .val (.int (1 : Int32)), .val (.int (1 : Int32)), .unset] [(.int a), (.ref b7)])) _
        refine st44.trans ?_
        show Steps p.tables e below (T44.setTop (mkF m 168 #[.val (.int p0), .val (.int p1), .val (.int p2), .val (.int p3), .val (.int p4), .val (.int p5), .val (.int n), .val (.int a), .val (.int b), .val (.ref ka), .val (.ref kb), .val (.int y), .val (.ref b7), .val (.int (1 : Int32)), .val (.int (1 : Int32)), .unset] [(own_kv n [(b, .ref kb)] a)])) _
        refine XS.iload X44.here hx rfl (hb hby at_168) rfl  ?_
        show Steps p.tables e below (T44.setTop (mkF m 170 #[.val (.int p0), .val (.int p1), .val (.int p2), .val (.int p3), .val (.int p4), .val (.int p5), .val (.int n), .val (.int a), .val (.int b), .val (.ref ka), .val (.ref kb), .val (.int y), .val (.ref b7), .val (.int (1 : Int32)), .val (.int (1 : Int32)), .unset] [(.int n), (own_kv n [(b, .ref kb)] a)])) _
        refine XS.iload X44.here hx rfl (hb hby at_170) rfl  ?_
        show Steps p.tables e below (T44.setTop (mkF m 172 #[.val (.int p0), .val (.int p1), .val (.int p2), .val (.int p3), .val (.int p4), .val (.int p5), .val (.int n), .val (.int a), .val (.int b), .val (.ref ka), .val (.ref kb), .val (.int y), .val (.ref b7), .val (.int (1 : Int32)), .val (.int (1 : Int32)), .unset] [(.int a), (.int n), (own_kv n [(b, .ref kb)] a)])) _
        refine XS.aload X44.here hx rfl (hb hby at_172) rfl rfl ?_
        show Steps p.tables e below (T44.setTop (mkF m 174 #[.val (.int p0), .val (.int p1), .val (.int p2), .val (.int p3), .val (.int p4), .val (.int p5), .val (.int n), .val (.int a), .val (.int b), .val (.ref ka), .val (.ref kb), .val (.int y), .val (.ref b7), .val (.int (1 : Int32)), .val (.int (1 : Int32)), .unset] [(.ref ka), (.int a), (.int n), (own_kv n [(b, .ref kb)] a)])) _
        refine XS.iload X44.here hx rfl (hb hby at_174) rfl  ?_
        show Steps p.tables e below (T44.setTop (mkF m 176 #[.val (.int p0), .val (.int p1), .val (.int p2), .val (.int p3), .val (.int p4), .val (.int p5), .val (.int n), .val (.int a), .val (.int b), .val (.ref ka), .val (.ref kb), .val (.int y), .val (.ref b7), .val (.int (1 : Int32)), .val (.int (1 : Int32)), .unset] [(.int b), (.ref ka), (.int a), (.int n), (own_kv n [(b, .ref kb)] a)])) _
        refine XS.aload X44.here hx rfl (hb hby at_176) rfl rfl ?_
        show Steps p.tables e below (T44.setTop (mkF m 178 #[.val (.int p0), .val (.int p1), .val (.int p2), .val (.int p3), .val (.int p4), .val (.int p5), .val (.int n), .val (.int a), .val (.int b), .val (.ref ka), .val (.ref kb), .val (.int y), .val (.ref b7), .val (.int (1 : Int32)), .val (.int (1 : Int32)), .unset] [(.ref kb), (.int b), (.ref ka), (.int a), (.int n), (own_kv n [(b, .ref kb)] a)])) _
        refine XS.iload X44.here hx rfl (hb hby at_178) rfl  ?_
        show Steps p.tables e below (T44.setTop (mkF m 180 #[.val (.int p0), .val (.int p1), .val (.int p2), .val (.int p3), .val (.int p4), .val (.int p5), .val (.int n), .val (.int a), .val (.int b), .val (.ref ka), .val (.ref kb), .val (.int y), .val (.ref b7), .val (.int (1 : Int32)), .val (.int (1 : Int32)), .unset] [(.int a), (.ref kb), (.int b), (.ref ka), (.int a), (.int n), (own_kv n [(b, .ref kb)] a)])) _
        refine st45 _ ?_
        show Steps p.tables e below (T45.setTop (mkF m 183 #[.val (.int p0), .val (.int p1), .val (.int p2), .val (.int p3), .val (.int p4), .val (.int p5), .val (.int n), .val (.int a), .val (.int b), .val (.ref ka), .val (.ref kb), .val (.int y), .val (.ref b7), .val (.int (1 : Int32)), .val (.int (1 : Int32)), .unset] [(own_kv n [(b, .ref kb)] a), (own_kv n [(b, .ref kb)] a)])) _
        refine Jvm.RoadKit.acmp (g := (mkF m 183 #[.val (.int p0), .val (.int p1), .val (.int p2), .val (.int p3), .val (.int p4), .val (.int p5), .val (.int n), .val (.int a), .val (.int b), .val (.ref ka), .val (.ref kb), .val (.int y), .val (.ref b7), .val (.int (1 : Int32)), .val (.int (1 : Int32)), .unset] [(own_kv n [(b, .ref kb)] a), (own_kv n [(b, .ref kb)] a)])) X45 hx rfl (own_kvr (own_rS own_r0)) (own_kvr (own_rS own_r0)) (pc0 := 183) (pc' := 186) (same := true) rfl (hb hby at_183) rfl (decide_eq_true rfl) (by decide) (by decide) ?_
        show Steps p.tables e below (T45.setTop (mkF m 186 #[.val (.int p0), .val (.int p1), .val (.int p2), .val (.int p3), .val (.int p4), .val (.int p5), .val (.int n), .val (.int a), .val (.int b), .val (.ref ka), .val (.ref kb), .val (.int y), .val (.ref b7), .val (.int (1 : Int32)), .val (.int (1 : Int32)), .unset] [])) _
        refine XS.iconst X45.here hx rfl (hb hby at_186) ?_
        show Steps p.tables e below (T45.setTop (mkF m 187 #[.val (.int p0), .val (.int p1), .val (.int p2), .val (.int p3), .val (.int p4), .val (.int p5), .val (.int n), .val (.int a), .val (.int b), .val (.ref ka), .val (.ref kb), .val (.int y), .val (.ref b7), .val (.int (1 : Int32)), .val (.int (1 : Int32)), .unset] [(.int (1 : Int32))])) _
        refine XS.goto X45.here hx rfl (pc0 := 187) (pc' := 191) rfl (hb hby at_187) (by decide) (by decide) ?_
        show Steps p.tables e below (T45.setTop (mkF m 191 #[.val (.int p0), .val (.int p1), .val (.int p2), .val (.int p3), .val (.int p4), .val (.int p5), .val (.int n), .val (.int a), .val (.int b), .val (.ref ka), .val (.ref kb), .val (.int y), .val (.ref b7), .val (.int (1 : Int32)), .val (.int (1 : Int32)), .unset] [(.int (1 : Int32))])) _
        refine XS.istore X45.here hx rfl (hb hby at_191) rfl (l' := #[.val (.int p0), .val (.int p1), .val (.int p2), .val (.int p3), .val (.int p4), .val (.int p5), .val (.int n), .val (.int a), .val (.int b), .val (.ref ka), .val (.ref kb), .val (.int y), .val (.ref b7), .val (.int (1 : Int32)), .val (.int (1 : Int32)), .val (.int (1 : Int32))]) rfl ?_
        show Steps p.tables e below (T45.setTop (mkF m 193 #[.val (.int p0), .val (.int p1), .val (.int p2), .val (.int p3), .val (.int p4), .val (.int p5), .val (.int n), .val (.int a), .val (.int b), .val (.ref ka), .val (.ref kb), .val (.int y), .val (.ref b7), .val (.int (1 : Int32)), .val (.int (1 : Int32)), .val (.int (1 : Int32))] [])) _
        refine XS.iload X45.here hx rfl (hb hby at_193) rfl  ?_
        show Steps p.tables e below (T45.setTop (mkF m 195 #[.val (.int p0), .val (.int p1), .val (.int p2), .val (.int p3), .val (.int p4), .val (.int p5), .val (.int n), .val (.int a), .val (.int b), .val (.ref ka), .val (.ref kb), .val (.int y), .val (.ref b7), .val (.int (1 : Int32)), .val (.int (1 : Int32)), .val (.int (1 : Int32))] [(.int (1 : Int32))])) _
        refine XS.ifNo X45.here hx rfl (hb hby at_195) rfl ((if0 _ _).trans (feq (by decide : ¬ ((1 : Int32) = (0 : Int32)))).1) ?_
        show Steps p.tables e below (T45.setTop (mkF m 198 #[.val (.int p0), .val (.int p1), .val (.int p2), .val (.int p3), .val (.int p4), .val (.int p5), .val (.int n), .val (.int a), .val (.int b), .val (.ref ka), .val (.ref kb), .val (.int y), .val (.ref b7), .val (.int (1 : Int32)), .val (.int (1 : Int32)), .val (.int (1 : Int32))] [])) _
        refine XS.iload X45.here hx rfl (hb hby at_198) rfl  ?_
        show Steps p.tables e below (T45.setTop (mkF m 200 #[.val (.int p0), .val (.int p1), .val (.int p2), .val (.int p3), .val (.int p4), .val (.int p5), .val (.int n), .val (.int a), .val (.int b), .val (.ref ka), .val (.ref kb), .val (.int y), .val (.ref b7), .val (.int (1 : Int32)), .val (.int (1 : Int32)), .val (.int (1 : Int32))] [(.int (1 : Int32))])) _
        refine XS.ifNo X45.here hx rfl (hb hby at_200) rfl ((if0 _ _).trans (feq (by decide : ¬ ((1 : Int32) = (0 : Int32)))).1) ?_
        show Steps p.tables e below (T45.setTop (mkF m 203 #[.val (.int p0), .val (.int p1), .val (.int p2), .val (.int p3), .val (.int p4), .val (.int p5), .val (.int n), .val (.int a), .val (.int b), .val (.ref ka), .val (.ref kb), .val (.int y), .val (.ref b7), .val (.int (1 : Int32)), .val (.int (1 : Int32)), .val (.int (1 : Int32))] [])) _
        refine XS.iload X45.here hx rfl (hb hby at_203) rfl  ?_
        show Steps p.tables e below (T45.setTop (mkF m 205 #[.val (.int p0), .val (.int p1), .val (.int p2), .val (.int p3), .val (.int p4), .val (.int p5), .val (.int n), .val (.int a), .val (.int b), .val (.ref ka), .val (.ref kb), .val (.int y), .val (.ref b7), .val (.int (1 : Int32)), .val (.int (1 : Int32)), .val (.int (1 : Int32))] [(.int (1 : Int32))])) _
        refine XS.ifNo X45.here hx rfl (hb hby at_205) rfl ((if0 _ _).trans (feq (by decide : ¬ ((1 : Int32) = (0 : Int32)))).1) ?_
        show Steps p.tables e below (T45.setTop (mkF m 208 #[.val (.int p0), .val (.int p1), .val (.int p2), .val (.int p3), .val (.int p4), .val (.int p5), .val (.int n), .val (.int a), .val (.int b), .val (.ref ka), .val (.ref kb), .val (.int y), .val (.ref b7), .val (.int (1 : Int32)), .val (.int (1 : Int32)), .val (.int (1 : Int32))] [])) _
        refine XS.iconst X45.here hx rfl (hb hby at_208) ?_
        show Steps p.tables e below (T45.setTop (mkF m 209 #[.val (.int p0), .val (.int p1), .val (.int p2), .val (.int p3), .val (.int p4), .val (.int p5), .val (.int n), .val (.int a), .val (.int b), .val (.ref ka), .val (.ref kb), .val (.int y), .val (.ref b7), .val (.int (1 : Int32)), .val (.int (1 : Int32)), .val (.int (1 : Int32))] [(.int (1 : Int32))])) _
        refine XS.goto X45.here hx rfl (pc0 := 209) (pc' := 213) rfl (hb hby at_209) (by decide) (by decide) ?_
        show Steps p.tables e below (T45.setTop (mkF m 213 #[.val (.int p0), .val (.int p1), .val (.int p2), .val (.int p3), .val (.int p4), .val (.int p5), .val (.int n), .val (.int a), .val (.int b), .val (.ref ka), .val (.ref kb), .val (.int y), .val (.ref b7), .val (.int (1 : Int32)), .val (.int (1 : Int32)), .val (.int (1 : Int32))] [(.int (1 : Int32))])) _
        exact retN X45 hx (t := .boolean) Bd.returns (by simp) (hb hby at_213) hr
      · show Q_rm0 Z p0 p1 p2 p3 p4 p5 w0 w1 w2 w3 h0 n0 _ T45.heap _
        rw [e45]
        exact ⟨rfl, N45⟩
    · have f46 := (Nat.le_trans f8 K9.1)
      obtain ⟨cq47, kq47, q47a, q47b, q47c⟩ := isOf hZ rfl hP9.1
      obtain ⟨_, _, ⟨T47, L47, k47, n47⟩, -, X47, ⟨Lc47, hQ47, l47, y47, z47⟩, st47⟩ := X9.virtualBack hx (y := (⟨"com/example/bytelens/bytelens/ConstantPool", "kind", "(I)Lcom/example/bytelens/bytelens/ConstantKind;"⟩ : MethodName)) (z := (⟨"com/example/bytelens/bytelens/ConstantPool", "kind", "(I)Lcom/example/bytelens/bytelens/ConstantKind;"⟩ : MethodName)) hown (mvT hZ (hw _ (List.mem_of_getElem? (i := 38) rfl))) (mvT hZ (hw _ (List.mem_of_getElem? (i := 39) rfl))) (notFace_of_selects (args := #[]) (mvT hZ (hw _ (List.mem_of_getElem? (i := 41) rfl)))) (mvT hZ (hw _ (List.mem_of_getElem? (i := 41) rfl))) (mvT hZ (hw _ (List.mem_of_getElem? (i := 40) rfl))) (by decide) (backOf (W := 0) (rmKind l Z a0 hw [] b7 p5 wK wO wF wS wT k n [] (own_kv n [] p5) T9.heap n0 f46 hP9 rfl) hZ (hw _ (List.mem_of_getElem? (i := 42) rfl)) (hw _ (List.mem_of_getElem? (i := 11) rfl)) (by decide) (by decide)) q47a q47c (g := (mkF m 101 #[.val (.int p0), .val (.int p1), .val (.int p2), .val (.int p3), .val (.int p4), .val (.int p5), .val (.int n), .val (.int a), .val (.int b), .val (.ref ka), .val (.ref kb), .val (.int y), .val (.ref b7), .unset, .unset, .unset] [(.int p5), (.ref b7)])) rfl (by rw [hml]; rfl) (Steps.refl _) (argsL := [(.int p5)]) (rest := []) (lenOf pd__I_Lcom_example_bytelens_bytelens_ConstantKind_ rfl) rfl (by show 2 * 0 + _ ≤ _; exact Nat.le_of_eq rfl) (hb hby at_101) (fun _ _ => ⟨rfl, rfl, (by decide : 6 + 0 ≤ _), (by decide : 81 + 0 ≤ _)⟩)
      dsimp only [Pt.U, Pt.locs, Pt.cells, Pt.slots] at X47 l47 y47 z47 st47 hQ47
      subst l47 y47 z47
      obtain ⟨rfl, Nq47, e47⟩ := hQ47
      have N47 := Fr.app N9 Nq47
      obtain ⟨_, _, ⟨T48, L48, k48, n48⟩, -, X48, ⟨Lc48, hQ48, l48, y48, z48⟩, st48⟩ := Jvm.LawKit.callS X47 hx (y := (⟨"com/example/bytelens/bytelens/ConstantPoolKindPinLaw", "expected", "(IILcom/example/bytelens/bytelens/ConstantKind;ILcom/example/bytelens/bytelens/ConstantKind;I)Lcom/example/bytelens/bytelens/ConstantKind;"⟩ : MethodName)) hown (mvT hZ (hw _ (List.mem_of_getElem? (i := 43) rfl))) (mvT hZ (hw _ (List.mem_of_getElem? (i := 44) rfl))) (mvT hZ (hw _ (List.mem_of_getElem? (i := 2) rfl))) (mvT hZ (hw _ (List.mem_of_getElem? (i := 45) rfl))) (by decide) (backOf (W := 1) (rmExpected l Z a0 hw [] n a ka b kb p5 (own_kv n [] p5) T9.heap n0 f46 (own_q00 hc60_10 hc80_34)) hZ (hw _ (List.mem_of_getElem? (i := 45) rfl)) (hw _ (List.mem_of_getElem? (i := 2) rfl)) (by decide) (by decide)) (g := (mkF m 116 #[.val (.int p0), .val (.int p1), .val (.int p2), .val (.int p3), .val (.int p4), .val (.int p5), .val (.int n), .val (.int a), .val (.int b), .val (.ref ka), .val (.ref kb), .val (.int y), .val (.ref b7), .unset, .unset, .unset] [(.int p5), (.ref kb), (.int b), (.ref ka), (.int a), (.int n), (own_kv n [] p5)])) rfl (by rw [hml]; rfl) (argsL := [(.int n), (.int a), (.ref ka), (.int b), (.ref kb), (.int p5)]) (rest := [(own_kv n [] p5)]) (lenOf pd__IILcom_example_bytelens_bytelens_ConstantKind_ILcom_example_bytelens_bytelens_ConstantKind_I_Lcom_example_bytelens_bytelens_ConstantKind_ rfl) rfl (by show 2 * 0 + _ ≤ _; simp [own_cat (own_kvr own_r0)]) (hb hby at_116) (fun _ _ => ⟨rfl, e47, (by decide : 6 + 0 ≤ _), (by decide : 81 + 0 ≤ _)⟩)
      dsimp only [Pt.U, Pt.locs, Pt.cells, Pt.slots] at X48 l48 y48 z48 st48 hQ48
      subst l48 y48 z48
      obtain ⟨rfl, Nq48, e48⟩ := hQ48
      have N48 := Fr.app N47 Nq48
      obtain ⟨cq49, kq49, q49a, q49b, q49c⟩ := isOf hZ e48 hP9.1
      obtain ⟨_, _, ⟨T49, L49, k49, n49⟩, -, X49, ⟨Lc49, hQ49, l49, y49, z49⟩, st49⟩ := X48.virtualBack hx (y := (⟨"com/example/bytelens/bytelens/ConstantPool", "kind", "(I)Lcom/example/bytelens/bytelens/ConstantKind;"⟩ : MethodName)) (z := (⟨"com/example/bytelens/bytelens/ConstantPool", "kind", "(I)Lcom/example/bytelens/bytelens/ConstantKind;"⟩ : MethodName)) hown (mvT hZ (hw _ (List.mem_of_getElem? (i := 38) rfl))) (mvT hZ (hw _ (List.mem_of_getElem? (i := 39) rfl))) (notFace_of_selects (args := #[]) (mvT hZ (hw _ (List.mem_of_getElem? (i := 41) rfl)))) (mvT hZ (hw _ (List.mem_of_getElem? (i := 41) rfl))) (mvT hZ (hw _ (List.mem_of_getElem? (i := 40) rfl))) (by decide) (backOf (W := 0) (rmKind l Z a0 hw [] b7 y wK wO wF wS wT k n [] (own_kv n [] y) T9.heap n0 f46 hP9 rfl) hZ (hw _ (List.mem_of_getElem? (i := 42) rfl)) (hw _ (List.mem_of_getElem? (i := 11) rfl)) (by decide) (by decide)) q49a q49c (g := (mkF m 133 #[.val (.int p0), .val (.int p1), .val (.int p2), .val (.int p3), .val (.int p4), .val (.int p5), .val (.int n), .val (.int a), .val (.int b), .val (.ref ka), .val (.ref kb), .val (.int y), .val (.ref b7), .val (.int (1 : Int32)), .unset, .unset] [(.int y), (.ref b7)])) rfl (by rw [hml]; rfl) (Steps.refl _) (argsL := [(.int y)]) (rest := []) (lenOf pd__I_Lcom_example_bytelens_bytelens_ConstantKind_ rfl) rfl (by show 2 * 0 + _ ≤ _; exact Nat.le_of_eq rfl) (hb hby at_133) (fun _ _ => ⟨rfl, e48, (by decide : 6 + 0 ≤ _), (by decide : 81 + 0 ≤ _)⟩)
      dsimp only [Pt.U, Pt.locs, Pt.cells, Pt.slots] at X49 l49 y49 z49 st49 hQ49
      subst l49 y49 z49
      obtain ⟨rfl, Nq49, e49⟩ := hQ49
      have N49 := Fr.app N48 Nq49
      obtain ⟨_, _, ⟨T50, L50, k50, n50⟩, -, X50, ⟨Lc50, hQ50, l50, y50, z50⟩, st50⟩ := Jvm.LawKit.callS X49 hx (y := (⟨"com/example/bytelens/bytelens/ConstantPoolKindPinLaw", "expected", "(IILcom/example/bytelens/bytelens/ConstantKind;ILcom/example/bytelens/bytelens/ConstantKind;I)Lcom/example/bytelens/bytelens/ConstantKind;"⟩ : MethodName)) hown (mvT hZ (hw _ (List.mem_of_getElem? (i := 43) rfl))) (mvT hZ (hw _ (List.mem_of_getElem? (i := 44) rfl))) (mvT hZ (hw _ (List.mem_of_getElem? (i := 2) rfl))) (mvT hZ (hw _ (List.mem_of_getElem? (i := 45) rfl))) (by decide) (backOf (W := 1) (rmExpected l Z a0 hw [] n a ka b kb y (own_kv n [] y) T9.heap n0 f46 (own_q00 hc60_10 hc80_34)) hZ (hw _ (List.mem_of_getElem? (i := 45) rfl)) (hw _ (List.mem_of_getElem? (i := 2) rfl)) (by decide) (by decide)) (g := (mkF m 148 #[.val (.int p0), .val (.int p1), .val (.int p2), .val (.int p3), .val (.int p4), .val (.int p5), .val (.int n), .val (.int a), .val (.int b), .val (.ref ka), .val (.ref kb), .val (.int y), .val (.ref b7), .val (.int (1 : Int32)), .unset, .unset] [(.int y), (.ref kb), (.int b), (.ref ka), (.int a), (.int n), (own_kv n [] y)])) rfl (by rw [hml]; rfl) (argsL := [(.int n), (.int a), (.ref ka), (.int b), (.ref kb), (.int y)]) (rest := [(own_kv n [] y)]) (lenOf pd__IILcom_example_bytelens_bytelens_ConstantKind_ILcom_example_bytelens_bytelens_ConstantKind_I_Lcom_example_bytelens_bytelens_ConstantKind_ rfl) rfl (by show 2 * 0 + _ ≤ _; simp [own_cat (own_kvr own_r0)]) (hb hby at_148) (fun _ _ => ⟨rfl, e49, (by decide : 6 + 0 ≤ _), (by decide : 81 + 0 ≤ _)⟩)
      dsimp only [Pt.U, Pt.locs, Pt.cells, Pt.slots] at X50 l50 y50 z50 st50 hQ50
      subst l50 y50 z50
      obtain ⟨rfl, Nq50, e50⟩ := hQ50
      have N50 := Fr.app N49 Nq50
      obtain ⟨cq51, kq51, q51a, q51b, q51c⟩ := isOf hZ e50 hP9.1
      obtain ⟨_, _, ⟨T51, L51, k51, n51⟩, -, X51, ⟨Lc51, hQ51, l51, y51, z51⟩, st51⟩ := X50.virtualBack hx (y := (⟨"com/example/bytelens/bytelens/ConstantPool", "kind", "(I)Lcom/example/bytelens/bytelens/ConstantKind;"⟩ : MethodName)) (z := (⟨"com/example/bytelens/bytelens/ConstantPool", "kind", "(I)Lcom/example/bytelens/bytelens/ConstantKind;"⟩ : MethodName)) hown (mvT hZ (hw _ (List.mem_of_getElem? (i := 38) rfl))) (mvT hZ (hw _ (List.mem_of_getElem? (i := 39) rfl))) (notFace_of_selects (args := #[]) (mvT hZ (hw _ (List.mem_of_getElem? (i := 41) rfl)))) (mvT hZ (hw _ (List.mem_of_getElem? (i := 41) rfl))) (mvT hZ (hw _ (List.mem_of_getElem? (i := 40) rfl))) (by decide) (backOf (W := 0) (rmKind l Z a0 hw [] b7 a wK wO wF wS wT k n [] (own_kv n [] a) T9.heap n0 f46 hP9 rfl) hZ (hw _ (List.mem_of_getElem? (i := 42) rfl)) (hw _ (List.mem_of_getElem? (i := 11) rfl)) (by decide) (by decide)) q51a q51c (g := (mkF m 165 #[.val (.int p0), .val (.int p1), .val (.int p2), .val (.int p3), .val (.int p4), .val (.int p5), .val (.int n), .val (.int a), .val (.int b), .val (.ref ka), .val (.ref kb), .val (.int y), .val (.ref b7), .val (.int (1 : Int32)), .val (.int (1 : Int32)), .unset] [(.int a), (.ref b7)])) rfl (by rw [hml]; rfl) (Steps.refl _) (argsL := [(.int a)]) (rest := []) (lenOf pd__I_Lcom_example_bytelens_bytelens_ConstantKind_ rfl) rfl (by show 2 * 0 + _ ≤ _; exact Nat.le_of_eq rfl) (hb hby at_165) (fun _ _ => ⟨rfl, e50, (by decide : 6 + 0 ≤ _), (by decide : 81 + 0 ≤ _)⟩)
      dsimp only [Pt.U, Pt.locs, Pt.cells, Pt.slots] at X51 l51 y51 z51 st51 hQ51
      subst l51 y51 z51
      obtain ⟨rfl, Nq51, e51⟩ := hQ51
      have N51 := Fr.app N50 Nq51
      obtain ⟨_, _, ⟨T52, L52, k52, n52⟩, -, X52, ⟨Lc52, hQ52, l52, y52, z52⟩, st52⟩ := Jvm.LawKit.callS X51 hx (y := (⟨"com/example/bytelens/bytelens/ConstantPoolKindPinLaw", "expected", "(IILcom/example/bytelens/bytelens/ConstantKind;ILcom/example/bytelens/bytelens/ConstantKind;I)Lcom/example/bytelens/bytelens/ConstantKind;"⟩ : MethodName)) hown (mvT hZ (hw _ (List.mem_of_getElem? (i := 43) rfl))) (mvT hZ (hw _ (List.mem_of_getElem? (i := 44) rfl))) (mvT hZ (hw _ (List.mem_of_getElem? (i := 2) rfl))) (mvT hZ (hw _ (List.mem_of_getElem? (i := 45) rfl))) (by decide) (backOf (W := 1) (rmExpected l Z a0 hw [] n a ka b kb a (own_kv n [] a) T9.heap n0 f46 (own_q00 hc60_10 hc80_34)) hZ (hw _ (List.mem_of_getElem? (i := 45) rfl)) (hw _ (List.mem_of_getElem? (i := 2) rfl)) (by decide) (by decide)) (g := (mkF m 180 #[.val (.int p0), .val (.int p1), .val (.int p2), .val (.int p3), .val (.int p4), .val (.int p5), .val (.int n), .val (.int a), .val (.int b), .val (.ref ka), .val (.ref kb), .val (.int y), .val (.ref b7), .val (.int (1 : Int32)), .val (.int (1 : Int32)), .unset] [(.int a), (.ref kb), (.int b), (.ref ka), (.int a), (.int n), (own_kv n [] a)])) rfl (by rw [hml]; rfl) (argsL := [(.int n), (.int a), (.ref ka), (.int b), (.ref kb), (.int a)]) (rest := [(own_kv n [] a)]) (lenOf pd__IILcom_example_bytelens_bytelens_ConstantKind_ILcom_example_bytelens_bytelens_ConstantKind_I_Lcom_example_bytelens_bytelens_ConstantKind_ rfl) rfl (by show 2 * 0 + _ ≤ _; simp [own_cat (own_kvr own_r0)]) (hb hby at_180) (fun _ _ => ⟨rfl, e51, (by decide : 6 + 0 ≤ _), (by decide : 81 + 0 ≤ _)⟩)
      dsimp only [Pt.U, Pt.locs, Pt.cells, Pt.slots] at X52 l52 y52 z52 st52 hQ52
      subst l52 y52 z52
      obtain ⟨rfl, Nq52, e52⟩ := hQ52
      have N52 := Fr.app N51 Nq52
      obtain ⟨fs, hr, hrun, hended, hW, hsame⟩ := X52.leave (v := some (.int (1 : Int32))) (fun h => by rw [Bd.returns] at h; cases h)
      refine ⟨_, _, pre35 _ ?_, hrun, hended, _, _, rfl, ?_, ⟨_, rfl⟩, hW, hsame.mono (by decide) (by decide)⟩
      · show Steps p.tables e below (T9.setTop (mkF m 80 #[.val (.int p0), .val (.int p1), .val (.int p2), .val (.int p3), .val (.int p4), .val (.int p5), .val (.int n), .val (.int a), .val (.int b), .val (.ref ka), .val (.ref kb), .val (.int y), .val (.ref b7), .unset, .unset, .unset] [(.int n), (.int b)])) _
        refine XS.icmpYes X9.here hx rfl (pc0 := 80) (pc' := 97) rfl (hb hby at_80) rfl (flt hc80_34).2.1 (by decide) (by decide) ?_
        show Steps p.tables e below (T9.setTop (mkF m 97 #[.val (.int p0), .val (.int p1), .val (.int p2), .val (.int p3), .val (.int p4), .val (.int p5), .val (.int n), .val (.int a), .val (.int b), .val (.ref ka), .val (.ref kb), .val (.int y), .val (.ref b7), .unset, .unset, .unset] [])) _
        refine XS.aload X9.here hx rfl (hb hby at_97) rfl rfl ?_
        show Steps p.tables e below (T9.setTop (mkF m 99 #[.val (.int p0), .val (.int p1), .val (.int p2), .val (.int p3), .val (.int p4), .val (.int p5), .val (.int n), .val (.int a), .val (.int b), .val (.ref ka), .val (.ref kb), .val (.int y), .val (.ref b7), .unset, .unset, .unset] [(.ref b7)])) _
        refine XS.iload X9.here hx rfl (hb hby at_99) rfl  ?_
        show Steps p.tables e below (T9.setTop (mkF m 101 #[.val (.int p0), .val (.int p1), .val (.int p2), .val (.int p3), .val (.int p4), .val (.int p5), .val (.int n), .val (.int a), .val (.int b), .val (.ref ka), .val (.ref kb), .val (.int y), .val (.ref b7), .unset, .unset, .unset] [(.int p5), (.ref b7)])) _
        refine st47.trans ?_
        show Steps p.tables e below (T47.setTop (mkF m 104 #[.val (.int p0), .val (.int p1), .val (.int p2), .val (.int p3), .val (.int p4), .val (.int p5), .val (.int n), .val (.int a), .val (.int b), .val (.ref ka), .val (.ref kb), .val (.int y), .val (.ref b7), .unset, .unset, .unset] [(own_kv n [] p5)])) _
        refine XS.iload X47.here hx rfl (hb hby at_104) rfl  ?_
        show Steps p.tables e below (T47.setTop (mkF m 106 #[.val (.int p0), .val (.int p1), .val (.int p2), .val (.int p3), .val (.int p4), .val (.int p5), .val (.int n), .val (.int a), .val (.int b), .val (.ref ka), .val (.ref kb), .val (.int y), .val (.ref b7), .unset, .unset, .unset] [(.int n), (own_kv n [] p5)])) _
        refine XS.iload X47.here hx rfl (hb hby at_106) rfl  ?_
        show Steps p.tables e below (T47.setTop (mkF m 108 #[.val (.int p0), .val (.int p1), .val (.int p2), .val (.int p3), .val (.int p4), .val (.int p5), .val (.int n), .val (.int a), .val (.int b), .val (.ref ka), .val (.ref kb), .val (.int y), .val (.ref b7), .unset, .unset, .unset] [(.int a), (.int n), (own_kv n [] p5)])) _
        refine XS.aload X47.here hx rfl (hb hby at_108) rfl rfl ?_
        show Steps p.tables e below (T47.setTop (mkF m 110 #[.val (.int p0), .val (.int p1), .val (.int p2), .val (.int p3), .val (.int p4), .val (.int p5), .val (.int n), .val (.int a), .val (.int b), .val (.ref ka), .val (.ref kb), .val (.int y), .val (.ref b7), .unset, .unset, .unset] [(.ref ka), (.int a), (.int n), (own_kv n [] p5)])) _
        refine XS.iload X47.here hx rfl (hb hby at_110) rfl  ?_
        show Steps p.tables e below (T47.setTop (mkF m 112 #[.val (.int p0), .val (.int p1), .val (.int p2), .val (.int p3), .val (.int p4), .val (.int p5), .val (.int n), .val (.int a), .val (.int b), .val (.ref ka), .val (.ref kb), .val (.int y), .val (.ref b7), .unset, .unset, .unset] [(.int b), (.ref ka), (.int a), (.int n), (own_kv n [] p5)])) _
        refine XS.aload X47.here hx rfl (hb hby at_112) rfl rfl ?_
        show Steps p.tables e below (T47.setTop (mkF m 114 #[.val (.int p0), .val (.int p1), .val (.int p2), .val (.int p3), .val (.int p4), .val (.int p5), .val (.int n), .val (.int a), .val (.int b), .val (.ref ka), .val (.ref kb), .val (.int y), .val (.ref b7), .unset, .unset, .unset] [(.ref kb), (.int b), (.ref ka), (.int a), (.int n), (own_kv n [] p5)])) _
        refine XS.iload X47.here hx rfl (hb hby at_114) rfl  ?_
        show Steps p.tables e below (T47.setTop (mkF m 116 #[.val (.int p0), .val (.int p1), .val (.int p2), .val (.int p3), .val (.int p4), .val (.int p5), .val (.int n), .val (.int a), .val (.int b), .val (.ref ka), .val (.ref kb), .val (.int y), .val (.ref b7), .unset, .unset, .unset] [(.int p5), (.ref kb), (.int b), (.ref ka), (.int a), (.int n), (own_kv n [] p5)])) _
        refine st48 _ ?_
        show Steps p.tables e below (T48.setTop (mkF m 119 #[.val (.int p0), .val (.int p1), .val (.int p2), .val (.int p3), .val (.int p4), .val (.int p5), .val (.int n), .val (.int a), .val (.int b), .val (.ref ka), .val (.ref kb), .val (.int y), .val (.ref b7), .unset, .unset, .unset] [(own_kv n [] p5), (own_kv n [] p5)])) _
        refine Jvm.RoadKit.acmp (g := (mkF m 119 #[.val (.int p0), .val (.int p1), .val (.int p2), .val (.int p3), .val (.int p4), .val (.int p5), .val (.int n), .val (.int a), .val (.int b), .val (.ref ka), .val (.ref kb), .val (.int y), .val (.ref b7), .unset, .unset, .unset] [(own_kv n [] p5), (own_kv n [] p5)])) X48 hx rfl (own_kvr own_r0) (own_kvr own_r0) (pc0 := 119) (pc' := 122) (same := true) rfl (hb hby at_119) rfl (decide_eq_true rfl) (by decide) (by decide) ?_
        show Steps p.tables e below (T48.setTop (mkF m 122 #[.val (.int p0), .val (.int p1), .val (.int p2), .val (.int p3), .val (.int p4), .val (.int p5), .val (.int n), .val (.int a), .val (.int b), .val (.ref ka), .val (.ref kb), .val (.int y), .val (.ref b7), .unset, .unset, .unset] [])) _
        refine XS.iconst X48.here hx rfl (hb hby at_122) ?_
        show Steps p.tables e below (T48.setTop (mkF m 123 #[.val (.int p0), .val (.int p1), .val (.int p2), .val (.int p3), .val (.int p4), .val (.int p5), .val (.int n), .val (.int a), .val (.int b), .val (.ref ka), .val (.ref kb), .val (.int y), .val (.ref b7), .unset, .unset, .unset] [(.int (1 : Int32))])) _
        refine XS.goto X48.here hx rfl (pc0 := 123) (pc' := 127) rfl (hb hby at_123) (by decide) (by decide) ?_
        show Steps p.tables e below (T48.setTop (mkF m 127 #[.val (.int p0), .val (.int p1), .val (.int p2), .val (.int p3), .val (.int p4), .val (.int p5), .val (.int n), .val (.int a), .val (.int b), .val (.ref ka), .val (.ref kb), .val (.int y), .val (.ref b7), .unset, .unset, .unset] [(.int (1 : Int32))])) _
        refine XS.istore X48.here hx rfl (hb hby at_127) rfl (l' := #[.val (.int p0), .val (.int p1), .val (.int p2), .val (.int p3), .val (.int p4), .val (.int p5), .val (.int n), .val (.int a), .val (.int b), .val (.ref ka), .val (.ref kb), .val (.int y), .val (.ref b7), .val (.int (1 : Int32)), .unset, .unset]) rfl ?_
        show Steps p.tables e below (T48.setTop (mkF m 129 #[.val (.int p0), .val (.int p1), .val (.int p2), .val (.int p3), .val (.int p4), .val (.int p5), .val (.int n), .val (.int a), .val (.int b), .val (.ref ka), .val (.ref kb), .val (.int y), .val (.ref b7), .val (.int (1 : Int32)), .unset, .unset] [])) _
        refine XS.aload X48.here hx rfl (hb hby at_129) rfl rfl ?_
        show Steps p.tables e below (T48.setTop (mkF m 131 #[.val (.int p0), .val (.int p1), .val (.int p2), .val (.int p3), .val (.int p4), .val (.int p5), .val (.int n), .val (.int a), .val (.int b), .val (.ref ka), .val (.ref kb), .val (.int y), .val (.ref b7), .val (.int (1 : Int32)), .unset, .unset] [(.ref b7)])) _
        refine XS.iload X48.here hx rfl (hb hby at_131) rfl  ?_
        show Steps p.tables e below (T48.setTop (mkF m 133 #[.val (.int p0), .val (.int p1), .val (.int p2), .val (.int p3), .val (.int p4), .val (.int p5), .val (.int n), .val (.int a), .val (.int b), .val (.ref ka), .val (.ref kb), .val (.int y), .val (.ref b7), .val (.int (1 : Int32)), .unset, .unset] [(.int y), (.ref b7)])) _
        refine st49.trans ?_
        show Steps p.tables e below (T49.setTop (mkF m 136 #[.val (.int p0), .val (.int p1), .val (.int p2), .val (.int p3), .val (.int p4), .val (.int p5), .val (.int n), .val (.int a), .val (.int b), .val (.ref ka), .val (.ref kb), .val (.int y), .val (.ref b7), .val (.int (1 : Int32)), .unset, .unset] [(own_kv n [] y)])) _
        refine XS.iload X49.here hx rfl (hb hby at_136) rfl  ?_
        show Steps p.tables e below (T49.setTop (mkF m 138 #[.val (.int p0), .val (.int p1), .val (.int p2), .val (.int p3), .val (.int p4), .val (.int p5), .val (.int n), .val (.int a), .val (.int b), .val (.ref ka), .val (.ref kb), .val (.int y), .val (.ref b7), .val (.int (1 : Int32)), .unset, .unset] [(.int n), (own_kv n [] y)])) _
        refine XS.iload X49.here hx rfl (hb hby at_138) rfl  ?_
        show Steps p.tables e below (T49.setTop (mkF m 140 #[.val (.int p0), .val (.int p1), .val (.int p2), .val (.int p3), .val (.int p4), .val (.int p5), .val (.int n), .val (.int a), .val (.int b), .val (.ref ka), .val (.ref kb), .val (.int y), .val (.ref b7), .val (.int (1 : Int32)), .unset, .unset] [(.int a), (.int n), (own_kv n [] y)])) _
        refine XS.aload X49.here hx rfl (hb hby at_140) rfl rfl ?_
        show Steps p.tables e below (T49.setTop (mkF m 142 #[.val (.int p0), .val (.int p1), .val (.int p2), .val (.int p3), .val (.int p4), .val (.int p5), .val (.int n), .val (.int a), .val (.int b), .val (.ref ka), .val (.ref kb), .val (.int y), .val (.ref b7), .val (.int (1 : Int32)), .unset, .unset] [(.ref ka), (.int a), (.int n), (own_kv n [] y)])) _
        refine XS.iload X49.here hx rfl (hb hby at_142) rfl  ?_
        show Steps p.tables e below (T49.setTop (mkF m 144 #[.val (.int p0), .val (.int p1), .val (.int p2), .val (.int p3), .val (.int p4), .val (.int p5), .val (.int n), .val (.int a), .val (.int b), .val (.ref ka), .val (.ref kb), .val (.int y), .val (.ref b7), .val (.int (1 : Int32)), .unset, .unset] [(.int b), (.ref ka), (.int a), (.int n), (own_kv n [] y)])) _
        refine XS.aload X49.here hx rfl (hb hby at_144) rfl rfl ?_
        show Steps p.tables e below (T49.setTop (mkF m 146 #[.val (.int p0), .val (.int p1), .val (.int p2), .val (.int p3), .val (.int p4), .val (.int p5), .val (.int n), .val (.int a), .val (.int b), .val (.ref ka), .val (.ref kb), .val (.int y), .val (.ref b7), .val (.int (1 : Int32)), .unset, .unset] [(.ref kb), (.int b), (.ref ka), (.int a), (.int n), (own_kv n [] y)])) _
        refine XS.iload X49.here hx rfl (hb hby at_146) rfl  ?_
        show Steps p.tables e below (T49.setTop (mkF m 148 #[.val (.int p0), .val (.int p1), .val (.int p2), .val (.int p3), .val (.int p4), .val (.int p5), .val (.int n), .val (.int a), .val (.int b), .val (.ref ka), .val (.ref kb), .val (.int y), .val (.ref b7), .val (.int (1 : Int32)), .unset, .unset] [(.int y), (.ref kb), (.int b), (.ref ka), (.int a), (.int n), (own_kv n [] y)])) _
        refine st50 _ ?_
        show Steps p.tables e below (T50.setTop (mkF m 151 #[.val (.int p0), .val (.int p1), .val (.int p2), .val (.int p3), .val (.int p4), .val (.int p5), .val (.int n), .val (.int a), .val (.int b), .val (.ref ka), .val (.ref kb), .val (.int y), .val (.ref b7), .val (.int (1 : Int32)), .unset, .unset] [(own_kv n [] y), (own_kv n [] y)])) _
        refine Jvm.RoadKit.acmp (g := (mkF m 151 #[.val (.int p0), .val (.int p1), .val (.int p2), .val (.int p3), .val (.int p4), .val (.int p5), .val (.int n), .val (.int a), .val (.int b), .val (.ref ka), .val (.ref kb), .val (.int y), .val (.ref b7), .val (.int (1 : Int32)), .unset, .unset] [(own_kv n [] y), (own_kv n [] y)])) X50 hx rfl (own_kvr own_r0) (own_kvr own_r0) (pc0 := 151) (pc' := 154) (same := true) rfl (hb hby at_151) rfl (decide_eq_true rfl) (by decide) (by decide) ?_
        show Steps p.tables e below (T50.setTop (mkF m 154 #[.val (.int p0), .val (.int p1), .val (.int p2), .val (.int p3), .val (.int p4), .val (.int p5), .val (.int n), .val (.int a), .val (.int b), .val (.ref ka), .val (.ref kb), .val (.int y), .val (.ref b7), .val (.int (1 : Int32)), .unset, .unset] [])) _
        refine XS.iconst X50.here hx rfl (hb hby at_154) ?_
        show Steps p.tables e below (T50.setTop (mkF m 155 #[.val (.int p0), .val (.int p1), .val (.int p2), .val (.int p3), .val (.int p4), .val (.int p5), .val (.int n), .val (.int a), .val (.int b), .val (.ref ka), .val (.ref kb), .val (.int y), .val (.ref b7), .val (.int (1 : Int32)), .unset, .unset] [(.int (1 : Int32))])) _
        refine XS.goto X50.here hx rfl (pc0 := 155) (pc' := 159) rfl (hb hby at_155) (by decide) (by decide) ?_
        show Steps p.tables e below (T50.setTop (mkF m 159 #[.val (.int p0), .val (.int p1), .val (.int p2), .val (.int p3), .val (.int p4), .val (.int p5), .val (.int n), .val (.int a), .val (.int b), .val (.ref ka), .val (.ref kb), .val (.int y), .val (.ref b7), .val (.int (1 : Int32)), .unset, .unset] [(.int (1 : Int32))])) _
        refine XS.istore X50.here hx rfl (hb hby at_159) rfl (l' := #[.val (.int p0), .val (.int p1), .val (.int p2), .val (.int p3), .val (.int p4), .val (.int p5), .val (.int n), .val (.int a), .val (.int b), .val (.ref ka), .val (.ref kb), .val (.int y), .val (.ref b7), .val (.int (1 : Int32)), .val (.int (1 : Int32)), .unset]) rfl ?_
        show Steps p.tables e below (T50.setTop (mkF m 161 #[.val (.int p0), .val (.int p1), .val (.int p2), .val (.int p3), .val (.int p4), .val (.int p5), .val (.int n), .val (.int a), .val (.int b), .val (.ref ka), .val (.ref kb), .val (.int y), .val (.ref b7), .val (.int (1 : Int32)), .val (.int (1 : Int32)), .unset] [])) _
        refine XS.aload X50.here hx rfl (hb hby at_161) rfl rfl ?_
        show Steps p.tables e below (T50.setTop (mkF m 163 #[.val (.int p0), .val (.int p1), .val (.int p2), .val (.int p3), .val (.int p4), .val (.int p5), .val (.int n), .val (.int a), .val (.int b), .val (.ref ka), .val (.ref kb), .val (.int y), .val (.ref b7), .val (.int (1 : Int32)), .val (.int (1 : Int32)), .unset] [(.ref b7)])) _
        refine XS.iload X50.here hx rfl (hb hby at_163) rfl  ?_
        show Steps p.tables e below (T50.setTop (mkF m 165 #[.val (.int p0), .val (.int p1), .val (.int p2), .val (.int p3), .val (.int p4), .val (.int p5), .val (.int n), .val (.int a), .val (.int b), .val (.ref ka), .val (.ref kb), .val (.int y), .val (.ref b7), .val (.int (1 : Int32)), .val (.int (1 : Int32)), .unset] [(.int a), (.ref b7)])) _
        refine st51.trans ?_
        show Steps p.tables e below (T51.setTop (mkF m 168 #[.val (.int p0), .val (.int p1), .val (.int p2), .val (.int p3), .val (.int p4), .val (.int p5), .val (.int n), .val (.int a), .val (.int b), .val (.ref ka), .val (.ref kb), .val (.int y), .val (.ref b7), .val (.int (1 : Int32)), .val (.int (1 : Int32)), .unset] [(own_kv n [] a)])) _
        refine XS.iload X51.here hx rfl (hb hby at_168) rfl  ?_
        show Steps p.tables e below (T51.setTop (mkF m 170 #[.val (.int p0), .val (.int p1), .val (.int p2), .val (.int p3), .val (.int p4), .val (.int p5), .val (.int n), .val (.int a), .val (.int b), .val (.ref ka), .val (.ref kb), .val (.int y), .val (.ref b7), .val (.int (1 : Int32)), .val (.int (1 : Int32)), .unset] [(.int n), (own_kv n [] a)])) _
        refine XS.iload X51.here hx rfl (hb hby at_170) rfl  ?_
        show Steps p.tables e below (T51.setTop (mkF m 172 #[.val (.int p0), .val (.int p1), .val (.int p2), .val (.int p3), .val (.int p4), .val (.int p5), .val (.int n), .val (.int a), .val (.int b), .val (.ref ka), .val (.ref kb), .val (.int y), .val (.ref b7), .val (.int (1 : Int32)), .val (.int (1 : Int32)), .unset] [(.int a), (.int n), (own_kv n [] a)])) _
        refine XS.aload X51.here hx rfl (hb hby at_172) rfl rfl ?_
        show Steps p.tables e below (T51.setTop (mkF m 174 #[.val (.int p0), .val (.int p1), .val (.int p2), .val (.int p3), .val (.int p4), .val (.int p5), .val (.int n), .val (.int a), .val (.int b), .val (.ref ka), .val (.ref kb), .val (.int y), .val (.ref b7), .val (.int (1 : Int32)), .val (.int (1 : Int32)), .unset] [(.ref ka), (.int a), (.int n), (own_kv n [] a)])) _
        refine XS.iload X51.here hx rfl (hb hby at_174) rfl  ?_
        show Steps p.tables e below (T51.setTop (mkF m 176 #[.val (.int p0), .val (.int p1), .val (.int p2), .val (.int p3), .val (.int p4), .val (.int p5), .val (.int n), .val (.int a), .val (.int b), .val (.ref ka), .val (.ref kb), .val (.int y), .val (.ref b7), .val (.int (1 : Int32)), .val (.int (1 : Int32)), .unset] [(.int b), (.ref ka), (.int a), (.int n), (own_kv n [] a)])) _
        refine XS.aload X51.here hx rfl (hb hby at_176) rfl rfl ?_
        show Steps p.tables e below (T51.setTop (mkF m 178 #[.val (.int p0), .val (.int p1), .val (.int p2), .val (.int p3), .val (.int p4), .val (.int p5), .val (.int n), .val (.int a), .val (.int b), .val (.ref ka), .val (.ref kb), .val (.int y), .val (.ref b7), .val (.int (1 : Int32)), .val (.int (1 : Int32)), .unset] [(.ref kb), (.int b), (.ref ka), (.int a), (.int n), (own_kv n [] a)])) _
        refine XS.iload X51.here hx rfl (hb hby at_178) rfl  ?_
        show Steps p.tables e below (T51.setTop (mkF m 180 #[.val (.int p0), .val (.int p1), .val (.int p2), .val (.int p3), .val (.int p4), .val (.int p5), .val (.int n), .val (.int a), .val (.int b), .val (.ref ka), .val (.ref kb), .val (.int y), .val (.ref b7), .val (.int (1 : Int32)), .val (.int (1 : Int32)), .unset] [(.int a), (.ref kb), (.int b), (.ref ka), (.int a), (.int n), (own_kv n [] a)])) _
        refine st52 _ ?_
        show Steps p.tables e below (T52.setTop (mkF m 183 #[.val (.int p0), .val (.int p1), .val (.int p2), .val (.int p3), .val (.int p4), .val (.int p5), .val (.int n), .val (.int a), .val (.int b), .val (.ref ka), .val (.ref kb), .val (.int y), .val (.ref b7), .val (.int (1 : Int32)), .val (.int (1 : Int32)), .unset] [(own_kv n [] a), (own_kv n [] a)])) _
        refine Jvm.RoadKit.acmp (g := (mkF m 183 #[.val (.int p0), .val (.int p1), .val (.int p2), .val (.int p3), .val (.int p4), .val (.int p5), .val (.int n), .val (.int a), .val (.int b), .val (.ref ka), .val (.ref kb), .val (.int y), .val (.ref b7), .val (.int (1 : Int32)), .val (.int (1 : Int32)), .unset] [(own_kv n [] a), (own_kv n [] a)])) X52 hx rfl (own_kvr own_r0) (own_kvr own_r0) (pc0 := 183) (pc' := 186) (same := true) rfl (hb hby at_183) rfl (decide_eq_true rfl) (by decide) (by decide) ?_
        show Steps p.tables e below (T52.setTop (mkF m 186 #[.val (.int p0), .val (.int p1), .val (.int p2), .val (.int p3), .val (.int p4), .val (.int p5), .val (.int n), .val (.int a), .val (.int b), .val (.ref ka), .val (.ref kb), .val (.int y), .val (.ref b7), .val (.int (1 : Int32)), .val (.int (1 : Int32)), .unset] [])) _
        refine XS.iconst X52.here hx rfl (hb hby at_186) ?_
        show Steps p.tables e below (T52.setTop (mkF m 187 #[.val (.int p0), .val (.int p1), .val (.int p2), .val (.int p3), .val (.int p4), .val (.int p5), .val (.int n), .val (.int a), .val (.int b), .val (.ref ka), .val (.ref kb), .val (.int y), .val (.ref b7), .val (.int (1 : Int32)), .val (.int (1 : Int32)), .unset] [(.int (1 : Int32))])) _
        refine XS.goto X52.here hx rfl (pc0 := 187) (pc' := 191) rfl (hb hby at_187) (by decide) (by decide) ?_
        show Steps p.tables e below (T52.setTop (mkF m 191 #[.val (.int p0), .val (.int p1), .val (.int p2), .val (.int p3), .val (.int p4), .val (.int p5), .val (.int n), .val (.int a), .val (.int b), .val (.ref ka), .val (.ref kb), .val (.int y), .val (.ref b7), .val (.int (1 : Int32)), .val (.int (1 : Int32)), .unset] [(.int (1 : Int32))])) _
        refine XS.istore X52.here hx rfl (hb hby at_191) rfl (l' := #[.val (.int p0), .val (.int p1), .val (.int p2), .val (.int p3), .val (.int p4), .val (.int p5), .val (.int n), .val (.int a), .val (.int b), .val (.ref ka), .val (.ref kb), .val (.int y), .val (.ref b7), .val (.int (1 : Int32)), .val (.int (1 : Int32)), .val (.int (1 : Int32))]) rfl ?_
        show Steps p.tables e below (T52.setTop (mkF m 193 #[.val (.int p0), .val (.int p1), .val (.int p2), .val (.int p3), .val (.int p4), .val (.int p5), .val (.int n), .val (.int a), .val (.int b), .val (.ref ka), .val (.ref kb), .val (.int y), .val (.ref b7), .val (.int (1 : Int32)), .val (.int (1 : Int32)), .val (.int (1 : Int32))] [])) _
        refine XS.iload X52.here hx rfl (hb hby at_193) rfl  ?_
        show Steps p.tables e below (T52.setTop (mkF m 195 #[.val (.int p0), .val (.int p1), .val (.int p2), .val (.int p3), .val (.int p4), .val (.int p5), .val (.int n), .val (.int a), .val (.int b), .val (.ref ka), .val (.ref kb), .val (.int y), .val (.ref b7), .val (.int (1 : Int32)), .val (.int (1 : Int32)), .val (.int (1 : Int32))] [(.int (1 : Int32))])) _
        refine XS.ifNo X52.here hx rfl (hb hby at_195) rfl ((if0 _ _).trans (feq (by decide : ¬ ((1 : Int32) = (0 : Int32)))).1) ?_
        show Steps p.tables e below (T52.setTop (mkF m 198 #[.val (.int p0), .val (.int p1), .val (.int p2), .val (.int p3), .val (.int p4), .val (.int p5), .val (.int n), .val (.int a), .val (.int b), .val (.ref ka), .val (.ref kb), .val (.int y), .val (.ref b7), .val (.int (1 : Int32)), .val (.int (1 : Int32)), .val (.int (1 : Int32))] [])) _
        refine XS.iload X52.here hx rfl (hb hby at_198) rfl  ?_
        show Steps p.tables e below (T52.setTop (mkF m 200 #[.val (.int p0), .val (.int p1), .val (.int p2), .val (.int p3), .val (.int p4), .val (.int p5), .val (.int n), .val (.int a), .val (.int b), .val (.ref ka), .val (.ref kb), .val (.int y), .val (.ref b7), .val (.int (1 : Int32)), .val (.int (1 : Int32)), .val (.int (1 : Int32))] [(.int (1 : Int32))])) _
        refine XS.ifNo X52.here hx rfl (hb hby at_200) rfl ((if0 _ _).trans (feq (by decide : ¬ ((1 : Int32) = (0 : Int32)))).1) ?_
        show Steps p.tables e below (T52.setTop (mkF m 203 #[.val (.int p0), .val (.int p1), .val (.int p2), .val (.int p3), .val (.int p4), .val (.int p5), .val (.int n), .val (.int a), .val (.int b), .val (.ref ka), .val (.ref kb), .val (.int y), .val (.ref b7), .val (.int (1 : Int32)), .val (.int (1 : Int32)), .val (.int (1 : Int32))] [])) _
        refine XS.iload X52.here hx rfl (hb hby at_203) rfl  ?_
        show Steps p.tables e below (T52.setTop (mkF m 205 #[.val (.int p0), .val (.int p1), .val (.int p2), .val (.int p3), .val (.int p4), .val (.int p5), .val (.int n), .val (.int a), .val (.int b), .val (.ref ka), .val (.ref kb), .val (.int y), .val (.ref b7), .val (.int (1 : Int32)), .val (.int (1 : Int32)), .val (.int (1 : Int32))] [(.int (1 : Int32))])) _
        refine XS.ifNo X52.here hx rfl (hb hby at_205) rfl ((if0 _ _).trans (feq (by decide : ¬ ((1 : Int32) = (0 : Int32)))).1) ?_
        show Steps p.tables e below (T52.setTop (mkF m 208 #[.val (.int p0), .val (.int p1), .val (.int p2), .val (.int p3), .val (.int p4), .val (.int p5), .val (.int n), .val (.int a), .val (.int b), .val (.ref ka), .val (.ref kb), .val (.int y), .val (.ref b7), .val (.int (1 : Int32)), .val (.int (1 : Int32)), .val (.int (1 : Int32))] [])) _
        refine XS.iconst X52.here hx rfl (hb hby at_208) ?_
        show Steps p.tables e below (T52.setTop (mkF m 209 #[.val (.int p0), .val (.int p1), .val (.int p2), .val (.int p3), .val (.int p4), .val (.int p5), .val (.int n), .val (.int a), .val (.int b), .val (.ref ka), .val (.ref kb), .val (.int y), .val (.ref b7), .val (.int (1 : Int32)), .val (.int (1 : Int32)), .val (.int (1 : Int32))] [(.int (1 : Int32))])) _
        refine XS.goto X52.here hx rfl (pc0 := 209) (pc' := 213) rfl (hb hby at_209) (by decide) (by decide) ?_
        show Steps p.tables e below (T52.setTop (mkF m 213 #[.val (.int p0), .val (.int p1), .val (.int p2), .val (.int p3), .val (.int p4), .val (.int p5), .val (.int n), .val (.int a), .val (.int b), .val (.ref ka), .val (.ref kb), .val (.int y), .val (.ref b7), .val (.int (1 : Int32)), .val (.int (1 : Int32)), .val (.int (1 : Int32))] [(.int (1 : Int32))])) _
        exact retN X52 hx (t := .boolean) Bd.returns (by simp) (hb hby at_213) hr
      · show Q_rm0 Z p0 p1 p2 p3 p4 p5 w0 w1 w2 w3 h0 n0 _ T52.heap _
        rw [e52]
        exact ⟨rfl, N52⟩
set_option maxRecDepth 65536 in
set_option maxHeartbeats 40000000 in
theorem comes_1 {Post : Tables → Env → Array Value → State → Outcome → State → Prop} (hpost : ∀ tb e args s v u, (limb_1_1.after args s (.returned v) u = true ∧ limb_1_2.after args s (.returned v) u = true ∧ True) → FrameEnd s (.returned v) u (Jvm.fieldLocs frame_1_writes args s ++ Jvm.arrayLocs frame_1_arrays args s ++ Jvm.staticLocs frame_1_statics s) 24 256 → Post tb e args s (.returned v) u) :
    ArmFor flags0 classFile x code maxLocals ret World_1 tables_1 room_1 Calls_1 rest_1 Pre_1 Post := by
  intro l hfl _ _ p e ha hc hk s m args below hf hA hF happ hP
  obtain ⟨hcalls, hrest, hpre⟩ := hP
  obtain ⟨-, -, -, hnamed, -, -, -, hat⟩ := (Spec.applies_iff hf).mp happ
  obtain ⟨hg, hn⟩ := and_e (Cond.before_iff.mp (show (Jvm.Cond.and given_1 narrow_1).before args s = true from hpre))
  obtain ⟨gc, gr0⟩ := and_e hg
  obtain ⟨ga0, gr1⟩ := and_e gr0
  obtain ⟨ga1, gr2⟩ := and_e gr1
  obtain ⟨ga2, gr3⟩ := and_e gr2
  obtain ⟨ga3, gr4⟩ := and_e gr3
  obtain ⟨ga4, gr5⟩ := and_e gr4
  obtain ⟨w0, w1, w2, w3, w4, w5, rfl⟩ : ∃ w0 w1 w2 w3 w4 w5 : Value, args = #[w0, w1, w2, w3, w4, w5] := by
    have hs : args.size = 6 := by simpa [Cond.value, given_1] using gc
    obtain ⟨L⟩ := args
    match L, hs with
    | [w0, w1, w2, w3, w4, w5], _ => exact ⟨w0, w1, w2, w3, w4, w5, rfl⟩
  have hw := fun d (hd : d ∈ tables_1) => atoms_spec (ws := Jvm.Cond.code x code maxLocals ret :: tables_1) hat d (List.mem_cons_of_mem _ hd)
  have hfit : Fit s := fun {y c} hc i hi => by
    obtain ⟨ha, rfl⟩ := Array.getElem?_eq_some_iff.mp hc
    have q := List.all_eq_true.mp ((Array.all_eq_true_iff_forall_mem.mp hF) _ (Array.getElem_mem ha)) i (List.mem_range.mpr hi)
    simpa [Array.getElem?_eq_getElem hi] using q
  obtain ⟨i0, ei0⟩ := is_v ga0
  obtain rfl : w0 = (.int i0) := Option.some.inj ei0
  obtain ⟨i1, ei1⟩ := is_v ga1
  obtain rfl : w1 = (.int i1) := Option.some.inj ei1
  obtain ⟨i2, ei2⟩ := is_v ga2
  obtain rfl : w2 = (.int i2) := Option.some.inj ei2
  obtain ⟨i3, ei3⟩ := is_v ga3
  obtain rfl : w3 = (.int i3) := Option.some.inj ei3
  obtain ⟨i4, ei4⟩ := is_v ga4
  obtain rfl : w4 = (.int i4) := Option.some.inj ei4
  obtain ⟨i5, ei5⟩ := is_v gr5
  obtain rfl : w5 = (.int i5) := Option.some.inj ei5
  obtain ⟨nn0, nr⟩ := and_e hn
  obtain ⟨nn1, nr⟩ := and_e nr
  obtain ⟨nn2, nn3⟩ := and_e nr
  obtain ⟨w2, ev_CLASS⟩ := exa_v nn0
  have E_CLASS := Exa.start ev_CLASS nn0
  have S_CLASS := Sta.start ev_CLASS (Or.inr ⟨(hw _ (List.mem_of_getElem? (i := 5) rfl)), (hw _ (List.mem_of_getElem? (i := 6) rfl))⟩)
  obtain ⟨w0, ev_UTF8⟩ := exa_v nn1
  have E_UTF8 := Exa.start ev_UTF8 nn1
  have S_UTF8 := Sta.start ev_UTF8 (Or.inr ⟨(hw _ (List.mem_of_getElem? (i := 5) rfl)), (hw _ (List.mem_of_getElem? (i := 8) rfl))⟩)
  obtain ⟨w3, ev_PACKAGE⟩ := exa_v nn2
  have E_PACKAGE := Exa.start ev_PACKAGE nn2
  have S_PACKAGE := Sta.start ev_PACKAGE (Or.inr ⟨(hw _ (List.mem_of_getElem? (i := 5) rfl)), (hw _ (List.mem_of_getElem? (i := 47) rfl))⟩)
  obtain ⟨w1, ev_LONG⟩ := exa_v nn3
  have E_LONG := Exa.start ev_LONG nn3
  have S_LONG := Sta.start ev_LONG (Or.inr ⟨(hw _ (List.mem_of_getElem? (i := 5) rfl)), (hw _ (List.mem_of_getElem? (i := 55) rfl))⟩)
  obtain ⟨n, o, h1, h2, h3, _, L, rfl, ⟨rfl, N⟩, hq⟩ := rm0 l s _ hw tables_1 i0 i1 i2 i3 i4 i5 w0 w1 w2 w3 s.heap s.heap.size (Nat.le_refl _) S_UTF8 S_LONG S_CLASS S_PACKAGE E_UTF8 E_LONG E_CLASS E_PACKAGE p e ha hc hk s m _ below hf ((Spec.applies_iff_loose hf).mp happ).1 ⟨rfl, State.Warmed39.refl s, rfl⟩ trivial
  refine ⟨n, _, h1, h2, h3, hpost _ _ _ _ _ _ ⟨Cond.after_iff.mpr rfl, Cond.after_iff.mpr (eq_i res_at (Term.int_eval (1)) rfl), trivial⟩ ⟨hq.1, hq.2.1, (hq.2.2.sift fun y hy => Or.inr (N y hy)).mono (by decide) (by decide)⟩⟩
theorem main_1_1 : Claimed_1_1 := comes_1 fun _ _ _ _ _ _ h hF => ⟨h.1, hF⟩
theorem main_1_2 : Claimed_1_2 := comes_1 fun _ _ _ _ _ _ h hF => ⟨h.2.1, hF⟩
end Jvm.Pilot.@@N@@
namespace Jvm.Pilot.@@N@@
open Jvm Jvm.ClassFile Sem Op Lib Jvm.Free Jvm.Stand Jvm.Pilot.@@N@@.Jvm.D
/-! MADE BY PROGRAM (witnessworld.py) out of the Statement's table words and the real class files: 18 classes; the members and pool entries that the words name. The judged class is class 1, her method 1. -/
namespace start1
open Jvm.ClassFile
def u (s : String) : CpInfo := .utf8 (stringToUtf16 s)
/-- a pool by its gaps: so many unusable entries, then the entry; so many at the end -/
def gap : Nat → List CpInfo → List CpInfo
  | 0, r => r
  | n + 1, r => .unusable :: gap n r
def poolList (es : List (Nat × CpInfo)) (last : Nat) : List CpInfo := es.foldr (fun e r => gap e.1 (e.2 :: r)) (gap last [])
def pool (es : List (Nat × CpInfo)) (last : Nat) : Array CpInfo := ⟨poolList es last⟩
def fileOf (pool : Array CpInfo) (this : Nat) (attrs : Array Attribute := #[]) (ms : Array MethodInfo := #[]) (fl : Nat := 33) (sup : Nat := 0) (ifs : Array Nat := #[]) (fds : Array FieldInfo := #[]) : ClassFile where
  minorVersion := 0
  majorVersion := 65
  constantPool := pool
  accessFlags := fl
  thisClass := this
  superClass := sup
  interfaces := ifs
  fields := fds
  methods := ms
  attributes := attrs
def plain (name : String) (sup : Option ClassId) : Class where
  name := name
  kind := .ordinary
  loader := none
  accessFlags := 33
  super := sup
  interfaces := #[]
  cf := none
  fields := #[]
  methods := #[]
  instanceTypes := #[]
  staticTypes := #[]
  resolved := #[]
  callSites := []
  init := .initialized
  statics := none
  mirror := none

def pool0 : Array CpInfo := pool [(5, u "<init>"), (0, u "()V"), (1, .class_ 10), (1, u "java/lang/Object")] 113

def k0c0 : Code := { maxStack := 0, maxLocals := 1, code := object_method_1_code, exceptionTable := #[], attributes := #[] }
def k0m0 : Method := { name := "<init>", desc := "()V", sig := { parameters := [], returnType := none }, accessFlags := 1, code := some k0c0 }
/-- java/lang/Object -/
def k0 : Class := { plain "java/lang/Object" none with
  accessFlags := 33
  interfaces := #[]
  cf := some (fileOf pool0 8 #[] #[{ accessFlags := 1, nameIndex := 5, descriptorIndex := 6, attributes := #[] }] 33 0 #[] #[])
  fields := #[]
  methods := #[k0m0]
  instanceTypes := #[]
  staticTypes := #[]
  resolved := Array.replicate 124 none
  statics := none }

def pool1 : Array CpInfo := pool [(2, .class_ 4), (1, u "java/lang/Object"), (0, u "<init>"), (0, u "()V"), (0, .methodref 8 9), (0, .class_ 10), (0, .nameAndType 11 12), (0, u "com/example/bytelens/bytelens/ConstantPoolKindPinLaw"), (0, u "kindOf"), (0, u "(I)Lcom/example/bytelens/bytelens/ConstantKind;"), (0, .class_ 14), (0, u "com/example/bytelens/bytelens/ConstantPool"), (0, .methodref 13 16), (0, .nameAndType 5 17), (0, u "(I)V"), (0, .methodref 13 19), (0, .nameAndType 20 21), (0, u "add"), (0, u "(ILcom/example/bytelens/bytelens/ConstantKind;IIILjava/lang/String;)V"), (0, .methodref 13 23), (0, .nameAndType 24 12), (0, u "kind"), (0, .methodref 8 26), (0, .nameAndType 27 28), (0, u "expected"), (0, u "(IILcom/example/bytelens/bytelens/ConstantKind;ILcom/example/bytelens/bytelens/ConstantKind;I)Lcom/example/bytelens/bytelens/ConstantKind;"), (0, .fieldref 30 31), (0, .class_ 32), (0, .nameAndType 33 34), (0, u "com/example/bytelens/bytelens/ConstantKind"), (0, u "UTF8"), (0, u "Lcom/example/bytelens/bytelens/ConstantKind;"), (0, .fieldref 30 36), (0, .nameAndType 37 34), (0, u "LONG"), (0, .fieldref 30 39), (0, .nameAndType 40 34), (0, u "CLASS"), (0, .fieldref 30 42), (0, .nameAndType 43 34), (0, u "PACKAGE"), (2, u "law"), (0, u "(IIIIII)Z")] 3

def k1m0 : Method := { name := "<init>", desc := "()V", sig := { parameters := [], returnType := none }, accessFlags := 2, code := none }
def k1c1 : Code := { maxStack := 7, maxLocals := 16, code := code, exceptionTable := #[], attributes := #[] }
def k1m1 : Method := { name := "law", desc := "(IIIIII)Z", sig := { parameters := [.int, .int, .int, .int, .int, .int], returnType := some .boolean }, accessFlags := 9, code := some k1c1 }
def k1c2 : Code := { maxStack := 2, maxLocals := 2, code := method_3_code, exceptionTable := #[], attributes := #[] }
def k1m2 : Method := { name := "kindOf", desc := "(I)Lcom/example/bytelens/bytelens/ConstantKind;", sig := { parameters := [.int], returnType := some (.object "com/example/bytelens/bytelens/ConstantKind") }, accessFlags := 10, code := some k1c2 }
def k1c3 : Code := { maxStack := 2, maxLocals := 6, code := method_4_code, exceptionTable := #[], attributes := #[] }
def k1m3 : Method := { name := "expected", desc := "(IILcom/example/bytelens/bytelens/ConstantKind;ILcom/example/bytelens/bytelens/ConstantKind;I)Lcom/example/bytelens/bytelens/ConstantKind;", sig := { parameters := [.int, .int, (.object "com/example/bytelens/bytelens/ConstantKind"), .int, (.object "com/example/bytelens/bytelens/ConstantKind"), .int], returnType := some (.object "com/example/bytelens/bytelens/ConstantKind") }, accessFlags := 10, code := some k1c3 }
/-- com/example/bytelens/bytelens/ConstantPoolKindPinLaw -/
def k1 : Class := { plain "com/example/bytelens/bytelens/ConstantPoolKindPinLaw" (some 0) with
  accessFlags := 49
  interfaces := #[]
  cf := some (fileOf pool1 8 #[] #[{ accessFlags := 2, nameIndex := 5, descriptorIndex := 6, attributes := #[] }, { accessFlags := 9, nameIndex := 46, descriptorIndex := 47, attributes := #[] }, { accessFlags := 10, nameIndex := 11, descriptorIndex := 12, attributes := #[] }, { accessFlags := 10, nameIndex := 27, descriptorIndex := 28, attributes := #[] }] 49 2 #[] #[])
  fields := #[]
  methods := #[k1m0, k1m1, k1m2, k1m3]
  instanceTypes := #[]
  staticTypes := #[]
  resolved := Array.replicate 51 none
  statics := none }

def pool2 : Array CpInfo := pool [(1, .class_ 2), (0, u "java/lang/constant/Constable"), (0, .class_ 4), (0, u "java/lang/Object")] 6

/-- java/lang/constant/Constable -/
def k2 : Class := { plain "java/lang/constant/Constable" (some 0) with
  accessFlags := 1537
  interfaces := #[]
  cf := some (fileOf pool2 1 #[] #[] 1537 3 #[] #[])
  fields := #[]
  methods := #[]
  instanceTypes := #[]
  staticTypes := #[]
  resolved := Array.replicate 11 none
  statics := none }

def pool3 : Array CpInfo := pool [(1, .class_ 2), (0, u "java/lang/Comparable"), (0, .class_ 4), (0, u "java/lang/Object")] 7

/-- java/lang/Comparable -/
def k3 : Class := { plain "java/lang/Comparable" (some 0) with
  accessFlags := 1537
  interfaces := #[]
  cf := some (fileOf pool3 1 #[] #[] 1537 3 #[] #[])
  fields := #[]
  methods := #[]
  instanceTypes := #[]
  staticTypes := #[]
  resolved := Array.replicate 12 none
  statics := none }

def pool4 : Array CpInfo := pool [(1, .class_ 2), (0, u "java/io/Serializable"), (0, .class_ 4), (0, u "java/lang/Object")] 2

/-- java/io/Serializable -/
def k4 : Class := { plain "java/io/Serializable" (some 0) with
  accessFlags := 1537
  interfaces := #[]
  cf := some (fileOf pool4 1 #[] #[] 1537 3 #[] #[])
  fields := #[]
  methods := #[]
  instanceTypes := #[]
  staticTypes := #[]
  resolved := Array.replicate 7 none
  statics := none }

def pool5 : Array CpInfo := pool [(2, .class_ 4), (1, u "java/lang/Enum"), (0, u "name"), (0, u "Ljava/lang/String;"), (2, u "ordinal"), (0, u "I"), (1, .class_ 14), (1, u "java/lang/Object"), (4, u "hash"), (86, .class_ 108), (1, u "java/lang/Enum$EnumDesc"), (2, .class_ 112), (0, u "java/lang/constant/Constable"), (0, .class_ 114), (0, u "java/lang/Comparable"), (0, .class_ 116), (0, u "java/io/Serializable")] 87

/-- java/lang/Enum -/
def k5 : Class := { plain "java/lang/Enum" (some 0) with
  accessFlags := 1057
  interfaces := #[2, 3, 4]
  cf := some (fileOf pool5 2 #[.nestMembers #[106]] #[] 1057 12 #[111, 113, 115] #[{ accessFlags := 18, nameIndex := 5, descriptorIndex := 6, attributes := #[] }, { accessFlags := 18, nameIndex := 9, descriptorIndex := 10, attributes := #[] }, { accessFlags := 2, nameIndex := 19, descriptorIndex := 10, attributes := #[] }])
  fields := #[{ name := "name", type := (.object "java/lang/String"), accessFlags := 18, slot := 0, constantValue := 0 }, { name := "ordinal", type := .int, accessFlags := 18, slot := 1, constantValue := 0 }, { name := "hash", type := .int, accessFlags := 2, slot := 2, constantValue := 0 }]
  methods := #[]
  instanceTypes := #[(.object "java/lang/String"), .int, .int]
  staticTypes := #[]
  resolved := Array.replicate 204 none
  statics := none }

def pool6 : Array CpInfo := pool [(1, .class_ 2), (0, u "com/example/bytelens/bytelens/ConstantKind"), (2, u "UTF8"), (0, u "Lcom/example/bytelens/bytelens/ConstantKind;"), (2, u "INTEGER"), (2, u "FLOAT"), (2, u "LONG"), (2, u "DOUBLE"), (2, u "CLASS"), (2, u "STRING"), (2, u "FIELDREF"), (2, u "METHODREF"), (2, u "INTERFACE_METHODREF"), (2, u "NAME_AND_TYPE"), (2, u "METHOD_HANDLE"), (2, u "METHOD_TYPE"), (2, u "DYNAMIC"), (2, u "INVOKE_DYNAMIC"), (2, u "MODULE"), (2, u "PACKAGE"), (2, u "$VALUES"), (0, u "[Lcom/example/bytelens/bytelens/ConstantKind;"), (6, .class_ 67), (1, u "java/lang/Enum"), (8, u "tag"), (0, u "I"), (2, u "specName"), (0, u "Ljava/lang/String;"), (8, u "items"), (0, u "Ljava/util/List;"), (0, .class_ 93), (0, u "com/example/bytelens/bytelens/ConstantKind$KindSet"), (5, u "BY_TAG"), (128, u "LOADABLE"), (0, u "Ljava/util/Set;")] 29

/-- com/example/bytelens/bytelens/ConstantKind -/
def k6 : Class := { plain "com/example/bytelens/bytelens/ConstantKind" (some 5) with
  accessFlags := 16432
  interfaces := #[]
  cf := some (fileOf pool6 1 #[.nestMembers #[92]] #[] 16432 65 #[] #[{ accessFlags := 16409, nameIndex := 5, descriptorIndex := 6, attributes := #[] }, { accessFlags := 16409, nameIndex := 9, descriptorIndex := 6, attributes := #[] }, { accessFlags := 16409, nameIndex := 12, descriptorIndex := 6, attributes := #[] }, { accessFlags := 16409, nameIndex := 15, descriptorIndex := 6, attributes := #[] }, { accessFlags := 16409, nameIndex := 18, descriptorIndex := 6, attributes := #[] }, { accessFlags := 16409, nameIndex := 21, descriptorIndex := 6, attributes := #[] }, { accessFlags := 16409, nameIndex := 24, descriptorIndex := 6, attributes := #[] }, { accessFlags := 16409, nameIndex := 27, descriptorIndex := 6, attributes := #[] }, { accessFlags := 16409, nameIndex := 30, descriptorIndex := 6, attributes := #[] }, { accessFlags := 16409, nameIndex := 33, descriptorIndex := 6, attributes := #[] }, { accessFlags := 16409, nameIndex := 36, descriptorIndex := 6, attributes := #[] }, { accessFlags := 16409, nameIndex := 39, descriptorIndex := 6, attributes := #[] }, { accessFlags := 16409, nameIndex := 42, descriptorIndex := 6, attributes := #[] }, { accessFlags := 16409, nameIndex := 45, descriptorIndex := 6, attributes := #[] }, { accessFlags := 16409, nameIndex := 48, descriptorIndex := 6, attributes := #[] }, { accessFlags := 16409, nameIndex := 51, descriptorIndex := 6, attributes := #[] }, { accessFlags := 16409, nameIndex := 54, descriptorIndex := 6, attributes := #[] }, { accessFlags := 24, nameIndex := 228, descriptorIndex := 229, attributes := #[] }, { accessFlags := 26, nameIndex := 99, descriptorIndex := 58, attributes := #[] }, { accessFlags := 18, nameIndex := 76, descriptorIndex := 77, attributes := #[] }, { accessFlags := 18, nameIndex := 80, descriptorIndex := 81, attributes := #[] }, { accessFlags := 18, nameIndex := 90, descriptorIndex := 91, attributes := #[] }, { accessFlags := 4122, nameIndex := 57, descriptorIndex := 58, attributes := #[] }])
  fields := #[{ name := "UTF8", type := (.object "com/example/bytelens/bytelens/ConstantKind"), accessFlags := 16409, slot := 0, constantValue := 0 }, { name := "INTEGER", type := (.object "com/example/bytelens/bytelens/ConstantKind"), accessFlags := 16409, slot := 1, constantValue := 0 }, { name := "FLOAT", type := (.object "com/example/bytelens/bytelens/ConstantKind"), accessFlags := 16409, slot := 2, constantValue := 0 }, { name := "LONG", type := (.object "com/example/bytelens/bytelens/ConstantKind"), accessFlags := 16409, slot := 3, constantValue := 0 }, { name := "DOUBLE", type := (.object "com/example/bytelens/bytelens/ConstantKind"), accessFlags := 16409, slot := 4, constantValue := 0 }, { name := "CLASS", type := (.object "com/example/bytelens/bytelens/ConstantKind"), accessFlags := 16409, slot := 5, constantValue := 0 }, { name := "STRING", type := (.object "com/example/bytelens/bytelens/ConstantKind"), accessFlags := 16409, slot := 6, constantValue := 0 }, { name := "FIELDREF", type := (.object "com/example/bytelens/bytelens/ConstantKind"), accessFlags := 16409, slot := 7, constantValue := 0 }, { name := "METHODREF", type := (.object "com/example/bytelens/bytelens/ConstantKind"), accessFlags := 16409, slot := 8, constantValue := 0 }, { name := "INTERFACE_METHODREF", type := (.object "com/example/bytelens/bytelens/ConstantKind"), accessFlags := 16409, slot := 9, constantValue := 0 }, { name := "NAME_AND_TYPE", type := (.object "com/example/bytelens/bytelens/ConstantKind"), accessFlags := 16409, slot := 10, constantValue := 0 }, { name := "METHOD_HANDLE", type := (.object "com/example/bytelens/bytelens/ConstantKind"), accessFlags := 16409, slot := 11, constantValue := 0 }, { name := "METHOD_TYPE", type := (.object "com/example/bytelens/bytelens/ConstantKind"), accessFlags := 16409, slot := 12, constantValue := 0 }, { name := "DYNAMIC", type := (.object "com/example/bytelens/bytelens/ConstantKind"), accessFlags := 16409, slot := 13, constantValue := 0 }, { name := "INVOKE_DYNAMIC", type := (.object "com/example/bytelens/bytelens/ConstantKind"), accessFlags := 16409, slot := 14, constantValue := 0 }, { name := "MODULE", type := (.object "com/example/bytelens/bytelens/ConstantKind"), accessFlags := 16409, slot := 15, constantValue := 0 }, { name := "PACKAGE", type := (.object "com/example/bytelens/bytelens/ConstantKind"), accessFlags := 16409, slot := 16, constantValue := 0 }, { name := "LOADABLE", type := (.object "java/util/Set"), accessFlags := 24, slot := 17, constantValue := 0 }, { name := "BY_TAG", type := (.array (.object "com/example/bytelens/bytelens/ConstantKind")), accessFlags := 26, slot := 18, constantValue := 0 }, { name := "tag", type := .int, accessFlags := 18, slot := 3, constantValue := 0 }, { name := "specName", type := (.object "java/lang/String"), accessFlags := 18, slot := 4, constantValue := 0 }, { name := "items", type := (.object "java/util/List"), accessFlags := 18, slot := 5, constantValue := 0 }, { name := "$VALUES", type := (.array (.object "com/example/bytelens/bytelens/ConstantKind")), accessFlags := 4122, slot := 19, constantValue := 0 }]
  methods := #[]
  instanceTypes := #[(.object "java/lang/String"), .int, .int, .int, (.object "java/lang/String"), (.object "java/util/List")]
  staticTypes := #[(.object "com/example/bytelens/bytelens/ConstantKind"), (.object "com/example/bytelens/bytelens/ConstantKind"), (.object "com/example/bytelens/bytelens/ConstantKind"), (.object "com/example/bytelens/bytelens/ConstantKind"), (.object "com/example/bytelens/bytelens/ConstantKind"), (.object "com/example/bytelens/bytelens/ConstantKind"), (.object "com/example/bytelens/bytelens/ConstantKind"), (.object "com/example/bytelens/bytelens/ConstantKind"), (.object "com/example/bytelens/bytelens/ConstantKind"), (.object "com/example/bytelens/bytelens/ConstantKind"), (.object "com/example/bytelens/bytelens/ConstantKind"), (.object "com/example/bytelens/bytelens/ConstantKind"), (.object "com/example/bytelens/bytelens/ConstantKind"), (.object "com/example/bytelens/bytelens/ConstantKind"), (.object "com/example/bytelens/bytelens/ConstantKind"), (.object "com/example/bytelens/bytelens/ConstantKind"), (.object "com/example/bytelens/bytelens/ConstantKind"), (.object "java/util/Set"), (.array (.object "com/example/bytelens/bytelens/ConstantKind")), (.array (.object "com/example/bytelens/bytelens/ConstantKind"))]
  resolved := Array.replicate 259 none
  statics := some 0 }

def pool7 : Array CpInfo := pool [(1, .class_ 2), (0, u "com/example/bytelens/bytelens/ConstantKind"), (0, .class_ 4), (0, u "java/lang/String"), (0, .methodref 6 7), (0, .class_ 8), (0, .nameAndType 9 10), (0, u "com/example/bytelens/bytelens/ConstantPool"), (0, u "<init>"), (0, u "([Lcom/example/bytelens/bytelens/ConstantKind;[I[I[I[Ljava/lang/String;Z)V"), (0, .methodref 12 13), (0, .class_ 14), (0, .nameAndType 9 15), (0, u "java/lang/Object"), (0, u "()V"), (0, .fieldref 6 17), (0, .nameAndType 18 19), (0, u "kinds"), (0, u "[Lcom/example/bytelens/bytelens/ConstantKind;"), (0, .fieldref 6 21), (0, .nameAndType 22 23), (0, u "offsets"), (0, u "[I"), (0, .fieldref 6 25), (0, .nameAndType 26 23), (0, u "firsts"), (0, .fieldref 6 28), (0, .nameAndType 29 23), (0, u "seconds"), (0, .fieldref 6 31), (0, .nameAndType 32 33), (0, u "texts"), (0, u "[Ljava/lang/String;"), (0, .fieldref 6 35), (0, .nameAndType 36 37), (0, u "checked"), (0, u "Z"), (2, u "kind"), (0, u "(I)Lcom/example/bytelens/bytelens/ConstantKind;"), (4, u "(I)V"), (8, u "add"), (11, u "(ILcom/example/bytelens/bytelens/ConstantKind;IIILjava/lang/String;)V"), (50, u "NONE"), (0, u "Lcom/example/bytelens/bytelens/ConstantPool;")] 49

def k7c0 : Code := { maxStack := 7, maxLocals := 2, code := prog_64_method_1_code, exceptionTable := #[], attributes := #[] }
def k7m0 : Method := { name := "<init>", desc := "(I)V", sig := { parameters := [.int], returnType := none }, accessFlags := 0, code := some k7c0 }
def k7c1 : Code := { maxStack := 2, maxLocals := 7, code := prog_64_method_2_code, exceptionTable := #[], attributes := #[] }
def k7m1 : Method := { name := "<init>", desc := "([Lcom/example/bytelens/bytelens/ConstantKind;[I[I[I[Ljava/lang/String;Z)V", sig := { parameters := [(.array (.object "com/example/bytelens/bytelens/ConstantKind")), (.array .int), (.array .int), (.array .int), (.array (.object "java/lang/String")), .boolean], returnType := none }, accessFlags := 2, code := some k7c1 }
def k7c2 : Code := { maxStack := 3, maxLocals := 7, code := prog_64_method_3_code, exceptionTable := #[], attributes := #[] }
def k7m2 : Method := { name := "add", desc := "(ILcom/example/bytelens/bytelens/ConstantKind;IIILjava/lang/String;)V", sig := { parameters := [.int, (.object "com/example/bytelens/bytelens/ConstantKind"), .int, .int, .int, (.object "java/lang/String")], returnType := none }, accessFlags := 0, code := some k7c2 }
def k7c3 : Code := { maxStack := 2, maxLocals := 2, code := prog_64_method_10_code, exceptionTable := #[], attributes := #[] }
def k7m3 : Method := { name := "kind", desc := "(I)Lcom/example/bytelens/bytelens/ConstantKind;", sig := { parameters := [.int], returnType := some (.object "com/example/bytelens/bytelens/ConstantKind") }, accessFlags := 0, code := some k7c3 }
/-- com/example/bytelens/bytelens/ConstantPool -/
def k7 : Class := { plain "com/example/bytelens/bytelens/ConstantPool" (some 0) with
  accessFlags := 48
  interfaces := #[]
  cf := some (fileOf pool7 6 #[] #[{ accessFlags := 0, nameIndex := 9, descriptorIndex := 46, attributes := #[] }, { accessFlags := 2, nameIndex := 9, descriptorIndex := 10, attributes := #[] }, { accessFlags := 0, nameIndex := 55, descriptorIndex := 67, attributes := #[] }, { accessFlags := 0, nameIndex := 40, descriptorIndex := 41, attributes := #[] }] 48 12 #[] #[{ accessFlags := 24, nameIndex := 118, descriptorIndex := 119, attributes := #[] }, { accessFlags := 18, nameIndex := 18, descriptorIndex := 19, attributes := #[] }, { accessFlags := 18, nameIndex := 22, descriptorIndex := 23, attributes := #[] }, { accessFlags := 18, nameIndex := 26, descriptorIndex := 23, attributes := #[] }, { accessFlags := 18, nameIndex := 29, descriptorIndex := 23, attributes := #[] }, { accessFlags := 18, nameIndex := 32, descriptorIndex := 33, attributes := #[] }, { accessFlags := 18, nameIndex := 36, descriptorIndex := 37, attributes := #[] }])
  fields := #[{ name := "NONE", type := (.object "com/example/bytelens/bytelens/ConstantPool"), accessFlags := 24, slot := 0, constantValue := 0 }, { name := "kinds", type := (.array (.object "com/example/bytelens/bytelens/ConstantKind")), accessFlags := 18, slot := 0, constantValue := 0 }, { name := "offsets", type := (.array .int), accessFlags := 18, slot := 1, constantValue := 0 }, { name := "firsts", type := (.array .int), accessFlags := 18, slot := 2, constantValue := 0 }, { name := "seconds", type := (.array .int), accessFlags := 18, slot := 3, constantValue := 0 }, { name := "texts", type := (.array (.object "java/lang/String")), accessFlags := 18, slot := 4, constantValue := 0 }, { name := "checked", type := .boolean, accessFlags := 18, slot := 5, constantValue := 0 }]
  methods := #[k7m0, k7m1, k7m2, k7m3]
  instanceTypes := #[(.array (.object "com/example/bytelens/bytelens/ConstantKind")), (.array .int), (.array .int), (.array .int), (.array (.object "java/lang/String")), .boolean]
  staticTypes := #[(.object "com/example/bytelens/bytelens/ConstantPool")]
  resolved := Array.replicate 169 none
  statics := none }

def pool8 : Array CpInfo := pool [(2, .class_ 4), (1, u "java/lang/CharSequence"), (42, .class_ 48), (0, u "java/lang/CharSequence$1CodePointIterator"), (10, .class_ 60), (0, u "java/lang/CharSequence$1CharIterator"), (5, .class_ 67), (0, u "java/lang/Object")] 63

/-- java/lang/CharSequence -/
def k8 : Class := { plain "java/lang/CharSequence" (some 0) with
  accessFlags := 1537
  interfaces := #[]
  cf := some (fileOf pool8 2 #[.nestMembers #[47, 59]] #[] 1537 66 #[] #[])
  fields := #[]
  methods := #[]
  instanceTypes := #[]
  staticTypes := #[]
  resolved := Array.replicate 131 none
  statics := none }

def pool9 : Array CpInfo := pool [(1, .class_ 2), (0, u "java/lang/constant/ConstantDesc"), (0, .class_ 4), (0, u "java/lang/Object")] 32

/-- java/lang/constant/ConstantDesc -/
def k9 : Class := { plain "java/lang/constant/ConstantDesc" (some 0) with
  accessFlags := 1537
  interfaces := #[]
  cf := some (fileOf pool9 1 #[] #[] 1537 3 #[] #[])
  fields := #[]
  methods := #[]
  instanceTypes := #[]
  staticTypes := #[]
  resolved := Array.replicate 37 none
  statics := none }

def pool10 : Array CpInfo := pool [(2, .class_ 4), (1, u "java/lang/Object"), (0, u "<init>"), (0, u "()V"), (3, .class_ 12), (1, u "java/lang/String"), (0, u "value"), (0, u "[B"), (2, u "coder"), (0, u "B"), (2, u "hash"), (0, u "I"), (2, u "hashIsZero"), (0, u "Z"), (13, u "COMPACT_STRINGS"), (534, .class_ 576), (0, u "java/lang/CharSequence"), (22, u "CASE_INSENSITIVE_ORDER"), (0, u "Ljava/util/Comparator;"), (500, u "serialPersistentFields"), (0, u "[Ljava/io/ObjectStreamField;"), (0, .class_ 1104), (0, u "java/lang/String$CaseInsensitiveComparator"), (1, .class_ 1107), (0, u "java/io/Serializable"), (0, .class_ 1109), (0, u "java/lang/Comparable"), (0, .class_ 1111), (0, u "java/lang/constant/Constable"), (0, .class_ 1113), (0, u "java/lang/constant/ConstantDesc"), (2, u "serialVersionUID"), (0, u "J"), (3, u "REPL"), (0, u "C"), (2, u "LATIN1"), (1, u "UTF16")] 323

def k10m0 : Method := { name := "<init>", desc := "()V", sig := { parameters := [], returnType := none }, accessFlags := 1, code := none }
/-- java/lang/String -/
def k10 : Class := { plain "java/lang/String" (some 0) with
  accessFlags := 49
  interfaces := #[4, 3, 8, 2, 9]
  cf := some (fileOf pool10 10 #[.nestMembers #[1103]] #[{ accessFlags := 1, nameIndex := 5, descriptorIndex := 6, attributes := #[] }] 49 2 #[1106, 1108, 575, 1110, 1112] #[{ accessFlags := 18, nameIndex := 13, descriptorIndex := 14, attributes := #[] }, { accessFlags := 18, nameIndex := 17, descriptorIndex := 18, attributes := #[] }, { accessFlags := 2, nameIndex := 21, descriptorIndex := 22, attributes := #[] }, { accessFlags := 2, nameIndex := 25, descriptorIndex := 26, attributes := #[] }, { accessFlags := 26, nameIndex := 1116, descriptorIndex := 1117, attributes := #[] }, { accessFlags := 24, nameIndex := 40, descriptorIndex := 26, attributes := #[] }, { accessFlags := 26, nameIndex := 1101, descriptorIndex := 1102, attributes := #[] }, { accessFlags := 26, nameIndex := 1121, descriptorIndex := 1122, attributes := #[] }, { accessFlags := 25, nameIndex := 599, descriptorIndex := 600, attributes := #[] }, { accessFlags := 24, nameIndex := 1125, descriptorIndex := 18, attributes := #[] }, { accessFlags := 24, nameIndex := 1127, descriptorIndex := 18, attributes := #[] }])
  fields := #[{ name := "value", type := (.array .byte), accessFlags := 18, slot := 0, constantValue := 0 }, { name := "coder", type := .byte, accessFlags := 18, slot := 1, constantValue := 0 }, { name := "hash", type := .int, accessFlags := 2, slot := 2, constantValue := 0 }, { name := "hashIsZero", type := .boolean, accessFlags := 2, slot := 3, constantValue := 0 }, { name := "serialVersionUID", type := .long, accessFlags := 26, slot := 0, constantValue := 0 }, { name := "COMPACT_STRINGS", type := .boolean, accessFlags := 24, slot := 1, constantValue := 0 }, { name := "serialPersistentFields", type := (.array (.object "java/io/ObjectStreamField")), accessFlags := 26, slot := 2, constantValue := 0 }, { name := "REPL", type := .char, accessFlags := 26, slot := 3, constantValue := 0 }, { name := "CASE_INSENSITIVE_ORDER", type := (.object "java/util/Comparator"), accessFlags := 25, slot := 4, constantValue := 0 }, { name := "LATIN1", type := .byte, accessFlags := 24, slot := 5, constantValue := 0 }, { name := "UTF16", type := .byte, accessFlags := 24, slot := 6, constantValue := 0 }]
  methods := #[k10m0]
  instanceTypes := #[(.array .byte), .byte, .int, .boolean]
  staticTypes := #[.long, .boolean, (.array (.object "java/io/ObjectStreamField")), .char, (.object "java/util/Comparator"), .byte, .byte]
  resolved := Array.replicate 1451 none
  statics := none }

def pool11 : Array CpInfo := pool [(1, u "java/lang/Cloneable"), (0, .class_ 1), (0, u "java/lang/Object"), (0, .class_ 3)] 3

/-- java/lang/Cloneable -/
def k11 : Class := { plain "java/lang/Cloneable" (some 0) with
  accessFlags := 1537
  interfaces := #[]
  cf := some (fileOf pool11 2 #[] #[] 1537 4 #[] #[])
  fields := #[]
  methods := #[]
  instanceTypes := #[]
  staticTypes := #[]
  resolved := Array.replicate 8 none
  statics := none }

/-- the primitive byte -/
def k12 : Class := { plain "byte" none with kind := .primitive 'B', accessFlags := 0x411 }
/-- [B -/
def k13 : Class := { plain "[B" (some 0) with kind := .array 12 .byte, interfaces := #[11, 4], accessFlags := 1041 }

/-- the primitive int -/
def k14 : Class := { plain "int" none with kind := .primitive 'I', accessFlags := 0x411 }
/-- [I -/
def k15 : Class := { plain "[I" (some 0) with kind := .array 14 .int, interfaces := #[11, 4], accessFlags := 1041 }

/-- [Lcom/example/bytelens/bytelens/ConstantKind; -/
def k16 : Class := { plain "[Lcom/example/bytelens/bytelens/ConstantKind;" (some 0) with kind := .array 6 (.object "com/example/bytelens/bytelens/ConstantKind"), interfaces := #[11, 4], accessFlags := 1041 }

/-- [Ljava/lang/String; -/
def k17 : Class := { plain "[Ljava/lang/String;" (some 0) with kind := .array 10 (.object "java/lang/String"), interfaces := #[11, 4], accessFlags := 1041 }

def heap : Heap := #[{ cls := 6, slots := #[.ref 2, .null, .null, .ref 4, .null, .ref 1, .null, .null, .null, .null, .null, .null, .null, .null, .null, .null, .ref 3, .null, .null, .null], vm := .statics 6 },
  { cls := 6, slots := #[.null, .int 0, .int 0, .int 0, .null, .null], vm := .none },
  { cls := 6, slots := #[.null, .int 0, .int 0, .int 0, .null, .null], vm := .none },
  { cls := 6, slots := #[.null, .int 0, .int 0, .int 0, .null, .null], vm := .none },
  { cls := 6, slots := #[.null, .int 0, .int 0, .int 0, .null, .null], vm := .none }]
def classes : Array Class := #[k0, k1, k2, k3, k4, k5, k6, k7, k8, k9, k10, k11, k12, k13, k14, k15, k16, k17]
def interned : List (Array UInt16 × Addr) := []
def slotsUsed : Nat := 44
def theMethod : MethodId := ⟨1, 1⟩
def args0 : Array Value := #[.int 5, .int 5, .int 5, .int 5, .int 5, .int 5]
def aboutOver (below : List Frame) : State where
  vm := { classes := classes, interned := interned.toArray }
  heap := heap
  slotsUsed := slotsUsed
  threads := #[{ frames := .invoking theMethod args0 :: below }]
def below0 : List Frame := [.native { method := ⟨0, 0⟩, args := #[] }]
def about1 : State := aboutOver below0
def p0 : Program := .bare "" "" ""
def e0 : Env := launch0.env 0 0 0
theorem w_frames : about1.frames = Frame.invoking theMethod args0 :: below0 := rfl
set_option maxRecDepth 65536 in
theorem w_args : argsFit about1.vm theMethod args0 = true := by decide +kernel
set_option maxRecDepth 65536 in
theorem w_heap : heapFits about1 = true := by decide +kernel
set_option maxRecDepth 65536 in
theorem w_runnable : about1.curStatus? = some .runnable := by decide +kernel
set_option maxRecDepth 65536 in
theorem w_alone : about1.alone = true := by decide +kernel
set_option maxRecDepth 65536 in
theorem w_named : about1.methodNamed? x = some theMethod := by decide +kernel
set_option maxRecDepth 65536 in
theorem w_hears : about1.hears theMethod below0 = true := by decide +kernel
set_option maxRecDepth 65536 in
theorem w_ripe : about1.ripe theMethod args0 below0 = true := by decide +kernel
theorem w_running : about1.status = .running := rfl
set_option maxRecDepth 65536 in
theorem w_room : about1.hasRoom e0.platform room_1 = true :=
  launch0.hasRoom_least _ room_1 (by decide +kernel) (by decide +kernel) (by decide +kernel) (by decide +kernel) (by decide +kernel) (by decide +kernel)
theorem allAtoms_all (ts : List Jvm.Cond) (a : Array Jvm.Value) (st : Jvm.State) : (allAtoms ts).before a st = ts.all (fun c => c.before a st) := by
  induction ts with
  | nil => rfl
  | cons c t ih =>
    show (Jvm.Cond.and c (allAtoms t)).before a st = _
    rw [Jvm.Cond.before_and, ih, List.all_cons]
def words1 : List Jvm.Cond := Jvm.Cond.code x code maxLocals ret :: tables_1
/-- a 'code' word, met by the world's own term for the bytes: nothing is compared byte by byte -/
theorem code_word {y : MethodName} {bytes : ByteArray} {mx : Nat} {rt : Option FieldType} {a : Array Value} {s : State} {m : MethodId} {meth : Method} {c : Code} (h1 : s.methodNamed? y = some m) (h2 : s.vm.method? m = some meth) (h3 : meth.code = some c) (h4 : c.code = bytes)
    (h5 : (c.maxLocals == mx && c.exceptionTable.isEmpty && decide (c.maxStack ≤ mostOperands) && decide (meth.sig.returnType = rt) && !meth.locks && decide (parseMethodDescriptor y.desc = some meth.sig)) = true) : (Jvm.Cond.code y bytes mx rt).before a s = true := by
  simp only [Bool.and_eq_true, beq_iff_eq, Bool.not_eq_true', decide_eq_true_eq] at h5
  obtain ⟨⟨⟨⟨⟨g1, g2⟩, g3⟩, g4⟩, g5⟩, g6⟩ := h5
  simp [Cond.before, Cond.holds, Cond.value, h1, h2, h3, h4, g1, g2, g3, g4, g5, g6]
def isCode : Jvm.Cond → Bool
  | .code _ _ _ _ => true
  | _ => false
theorem all_split {L : List Jvm.Cond} {P : Jvm.Cond → Bool} (h1 : L.all (fun c => isCode c || P c) = true) (h2 : ∀ c ∈ L.filter isCode, P c = true) : L.all P = true := by
  refine List.all_eq_true.mpr fun c hc => ?_
  have h := List.all_eq_true.mp h1 c hc
  rcases Bool.eq_false_or_eq_true (isCode c) with hi | hi
  · exact h2 c (List.mem_filter.mpr ⟨hc, hi⟩)
  · simpa [hi] using h
set_option maxRecDepth 65536 in
theorem w_c0 : (Jvm.Cond.code x code maxLocals ret).before args0 about1 = true := code_word (m := ⟨1, 1⟩) (meth := k1m1) (c := k1c1) (by decide +kernel) rfl rfl rfl (by decide +kernel)
set_option maxRecDepth 65536 in
theorem w_c1 : (Jvm.Cond.code ({ cls := "com/example/bytelens/bytelens/ConstantPoolKindPinLaw", name := "kindOf", desc := "(I)Lcom/example/bytelens/bytelens/ConstantKind;" } : Jvm.MethodName) method_3_code (2 : Nat) (Option.some (Jvm.ClassFile.FieldType.object "com/example/bytelens/bytelens/ConstantKind"))).before args0 about1 = true := code_word (m := ⟨1, 2⟩) (meth := k1m2) (c := k1c2) (by decide +kernel) rfl rfl rfl (by decide +kernel)
set_option maxRecDepth 65536 in
theorem w_c2 : (Jvm.Cond.code ({ cls := "com/example/bytelens/bytelens/ConstantPool", name := "<init>", desc := "(I)V" } : Jvm.MethodName) prog_64_method_1_code (2 : Nat) (Option.none : Option Jvm.ClassFile.FieldType)).before args0 about1 = true := code_word (m := ⟨7, 0⟩) (meth := k7m0) (c := k7c0) (by decide +kernel) rfl rfl rfl (by decide +kernel)
set_option maxRecDepth 65536 in
theorem w_c3 : (Jvm.Cond.code ({ cls := "com/example/bytelens/bytelens/ConstantPool", name := "<init>", desc := "([Lcom/example/bytelens/bytelens/ConstantKind;[I[I[I[Ljava/lang/String;Z)V" } : Jvm.MethodName) prog_64_method_2_code (7 : Nat) (Option.none : Option Jvm.ClassFile.FieldType)).before args0 about1 = true := code_word (m := ⟨7, 1⟩) (meth := k7m1) (c := k7c1) (by decide +kernel) rfl rfl rfl (by decide +kernel)
set_option maxRecDepth 65536 in
theorem w_c4 : (Jvm.Cond.code ({ cls := "java/lang/Object", name := "<init>", desc := "()V" } : Jvm.MethodName) object_method_1_code (1 : Nat) (Option.none : Option Jvm.ClassFile.FieldType)).before args0 about1 = true := code_word (m := ⟨0, 0⟩) (meth := k0m0) (c := k0c0) (by decide +kernel) rfl rfl rfl (by decide +kernel)
set_option maxRecDepth 65536 in
theorem w_c5 : (Jvm.Cond.code ({ cls := "com/example/bytelens/bytelens/ConstantPool", name := "kind", desc := "(I)Lcom/example/bytelens/bytelens/ConstantKind;" } : Jvm.MethodName) prog_64_method_10_code (2 : Nat) (Option.some (Jvm.ClassFile.FieldType.object "com/example/bytelens/bytelens/ConstantKind"))).before args0 about1 = true := code_word (m := ⟨7, 3⟩) (meth := k7m3) (c := k7c3) (by decide +kernel) rfl rfl rfl (by decide +kernel)
set_option maxRecDepth 65536 in
theorem w_c6 : (Jvm.Cond.code ({ cls := "com/example/bytelens/bytelens/ConstantPoolKindPinLaw", name := "expected", desc := "(IILcom/example/bytelens/bytelens/ConstantKind;ILcom/example/bytelens/bytelens/ConstantKind;I)Lcom/example/bytelens/bytelens/ConstantKind;" } : Jvm.MethodName) method_4_code (6 : Nat) (Option.some (Jvm.ClassFile.FieldType.object "com/example/bytelens/bytelens/ConstantKind"))).before args0 about1 = true := code_word (m := ⟨1, 3⟩) (meth := k1m3) (c := k1c3) (by decide +kernel) rfl rfl rfl (by decide +kernel)
set_option maxRecDepth 65536 in
theorem w_c7 : (Jvm.Cond.code ({ cls := "com/example/bytelens/bytelens/ConstantPool", name := "add", desc := "(ILcom/example/bytelens/bytelens/ConstantKind;IIILjava/lang/String;)V" } : Jvm.MethodName) prog_64_method_3_code (7 : Nat) (Option.none : Option Jvm.ClassFile.FieldType)).before args0 about1 = true := code_word (m := ⟨7, 2⟩) (meth := k7m2) (c := k7c2) (by decide +kernel) rfl rfl rfl (by decide +kernel)
def codes1 : List Jvm.Cond := [Jvm.Cond.code x code maxLocals ret, Jvm.Cond.code ({ cls := "com/example/bytelens/bytelens/ConstantPoolKindPinLaw", name := "kindOf", desc := "(I)Lcom/example/bytelens/bytelens/ConstantKind;" } : Jvm.MethodName) method_3_code (2 : Nat) (Option.some (Jvm.ClassFile.FieldType.object "com/example/bytelens/bytelens/ConstantKind")), Jvm.Cond.code ({ cls := "com/example/bytelens/bytelens/ConstantPool", name := "<init>", desc := "(I)V" } : Jvm.MethodName) prog_64_method_1_code (2 : Nat) (Option.none : Option Jvm.ClassFile.FieldType), Jvm.Cond.code ({ cls := "com/example/bytelens/bytelens/ConstantPool", name := "<init>", desc := "([Lcom/example/bytelens/bytelens/ConstantKind;[I[I[I[Ljava/lang/String;Z)V" } : Jvm.MethodName) prog_64_method_2_code (7 : Nat) (Option.none : Option Jvm.ClassFile.FieldType), Jvm.Cond.code ({ cls := "java/lang/Object", name := "<init>", desc := "()V" } : Jvm.MethodName) object_method_1_code (1 : Nat) (Option.none : Option Jvm.ClassFile.FieldType), Jvm.Cond.code ({ cls := "com/example/bytelens/bytelens/ConstantPool", name := "kind", desc := "(I)Lcom/example/bytelens/bytelens/ConstantKind;" } : Jvm.MethodName) prog_64_method_10_code (2 : Nat) (Option.some (Jvm.ClassFile.FieldType.object "com/example/bytelens/bytelens/ConstantKind")), Jvm.Cond.code ({ cls := "com/example/bytelens/bytelens/ConstantPoolKindPinLaw", name := "expected", desc := "(IILcom/example/bytelens/bytelens/ConstantKind;ILcom/example/bytelens/bytelens/ConstantKind;I)Lcom/example/bytelens/bytelens/ConstantKind;" } : Jvm.MethodName) method_4_code (6 : Nat) (Option.some (Jvm.ClassFile.FieldType.object "com/example/bytelens/bytelens/ConstantKind")), Jvm.Cond.code ({ cls := "com/example/bytelens/bytelens/ConstantPool", name := "add", desc := "(ILcom/example/bytelens/bytelens/ConstantKind;IIILjava/lang/String;)V" } : Jvm.MethodName) prog_64_method_3_code (7 : Nat) (Option.none : Option Jvm.ClassFile.FieldType)]
set_option maxRecDepth 65536 in
theorem codes_eq : words1.filter isCode = codes1 := rfl
theorem w_codes : ∀ c ∈ words1.filter isCode, c.before args0 about1 = true := by
  rw [codes_eq]
  intro c hc
  simp only [codes1, List.mem_cons, List.not_mem_nil, or_false] at hc
  rcases hc with rfl | rfl | rfl | rfl | rfl | rfl | rfl | rfl
  · exact w_c0
  · exact w_c1
  · exact w_c2
  · exact w_c3
  · exact w_c4
  · exact w_c5
  · exact w_c6
  · exact w_c7
set_option maxRecDepth 65536 in
theorem w_t1 : (words1.take 24).all (fun c => isCode c || c.before args0 about1) = true := by decide +kernel
set_option maxRecDepth 65536 in
theorem w_t2 : ((words1.drop 24).take 24).all (fun c => isCode c || c.before args0 about1) = true := by decide +kernel
set_option maxRecDepth 65536 in
theorem w_t3 : ((words1.drop 24).drop 24).all (fun c => isCode c || c.before args0 about1) = true := by decide +kernel
theorem w_tables : (allAtoms (Jvm.Cond.code x code maxLocals ret :: tables_1)).before args0 about1 = true := by
  rw [allAtoms_all]
  show words1.all (fun c => c.before args0 about1) = true
  refine all_split ?_ w_codes
  rw [← List.take_append_drop 24 words1, List.all_append, w_t1, ← List.take_append_drop 24 (words1.drop 24), List.all_append, w_t2, w_t3]
  rfl
set_option maxRecDepth 65536 in
theorem w_case : (Jvm.Cond.and given_1 narrow_1).before args0 about1 = true := by decide +kernel
theorem w_applies : (headSpec (Jvm.Cond.code x code maxLocals ret :: tables_1) room_1).applies x e0.platform about1 = true :=
  (Spec.applies_iff w_frames).mpr ⟨w_running, w_runnable, w_alone, w_named, w_hears, w_ripe, w_room, w_tables⟩
theorem atStart : AtStart classFile x code maxLocals ret World_1 tables_1 room_1 Calls_1 rest_1 Pre_1 launch0 p0 e0 about1 theMethod args0 below0 :=
  ⟨lists_1, trivial, launch0.admits_env _ _ _, launch0.least_env, fairChoices_fair.cas, fairChoices_fair.clock, w_frames, w_args, w_heap, w_applies, trivial, trivial, w_case⟩
end start1
theorem witness_1 : WitnessClaimed_1 := ⟨start1.p0, start1.e0, start1.about1, start1.theMethod, start1.args0, start1.below0, start1.atStart⟩
end Jvm.Pilot.@@N@@
